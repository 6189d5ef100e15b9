import PyProof.Rows.All
import Wide.All
import OpenK.AllK
import Wide.FinOn
import Lean
import PySem.Challenge.RW_ez0313_04
set_option Elab.async false
set_option linter.all false
set_option maxRecDepth 100000
-- Rx1
set_option autoImplicit false
namespace Mine
open PySem.Sre

def It : Nat → M → M
  | 0, m => m
  | n + 1, m => It n m.step

theorem It_add (a b : Nat) : ∀ m : M, It (a + b) m = It b (It a m) := by
  induction a with
  | zero => intro m; rw [Nat.zero_add]; rfl
  | succ a ih => intro m; rw [Nat.succ_add]; exact ih m.step

theorem step_of_some {m : M} (h : m.outcome.isSome = true) : m.step = m := by
  unfold M.step
  rw [if_pos h]

theorem It_of_some {m : M} (h : m.outcome.isSome = true) : ∀ n, It n m = m
  | 0 => rfl
  | n + 1 => by show It n m.step = m; rw [step_of_some h]; exact It_of_some h n

theorem runFor_eq (n : Nat) : ∀ m : M, M.runFor n m = It n m := by
  induction n with
  | zero => intro m; rfl
  | succ n ih =>
    intro m
    unfold M.runFor
    by_cases h : m.outcome.isSome = true
    · rw [if_pos h]; exact (It_of_some h (n + 1)).symm
    · rw [if_neg h]; exact ih m.step

theorem It_same {m : M} {a b : Nat} (ha : (It a m).outcome.isSome = true) (hb : (It b m).outcome.isSome = true) : It a m = It b m := by
  rcases Nat.le_total a b with h | h
  · obtain ⟨d, rfl⟩ := Nat.exists_eq_add_of_le h
    rw [It_add, It_of_some ha]
  · obtain ⟨d, rfl⟩ := Nat.exists_eq_add_of_le h
    rw [It_add, It_of_some hb]

def Goes (c : Nat) (m : M) (P : M → Prop) : Prop := ∃ k, k ≤ c ∧ P (It k m)
theorem Goes.done {c : Nat} {m : M} {P : M → Prop} (h : P m) : Goes c m P := ⟨0, Nat.zero_le _, h⟩
theorem Goes.step {c : Nat} {m : M} {P : M → Prop} (h : Goes c m.step P) : Goes (c + 1) m P := by
  obtain ⟨k, hk, hp⟩ := h
  exact ⟨k + 1, Nat.succ_le_succ hk, hp⟩
theorem Goes.bind {c d : Nat} {m : M} {P Q : M → Prop} (h : Goes c m P) (h2 : ∀ m', P m' → Goes d m' Q) : Goes (c + d) m Q := by
  obtain ⟨k, hk, hp⟩ := h
  obtain ⟨j, hj, hq⟩ := h2 _ hp
  exact ⟨k + j, Nat.add_le_add hk hj, by rw [It_add]; exact hq⟩
theorem Goes.le {c d : Nat} {m : M} {P : M → Prop} (h : Goes c m P) (hd : c ≤ d) : Goes d m P := by
  obtain ⟨k, hk, hp⟩ := h
  exact ⟨k, Nat.le_trans hk hd, hp⟩
theorem Goes.mono {c : Nat} {m : M} {P Q : M → Prop} (h : Goes c m P) (hq : ∀ m', P m' → Q m') : Goes c m Q := by
  obtain ⟨k, hk, hp⟩ := h
  exact ⟨k, hk, hq _ hp⟩

def Wt (fs : List Frame) : Nat := match fs with
  | [] => 0
  | f :: r => (1 + f.kept.marks.size) + Wt r

structure Regs where
  marks : Array (Option Nat)
  lm : Int
  li : Int
  loops : Array Loop
  inner : Option Nat

def St (b : M) (r : Regs) (pc pos handed : Nat) (om : Bool) (fs : List Frame) (ans : Option Bool) (sn : Seen) : M :=
  { b with pc := pc, pos := pos, handed := handed, outermost := om, marks := r.marks, lastmark := r.lm, lastindex := r.li, loops := r.loops, inner := r.inner, frames := fs, weight := Wt fs, answer := ans, seen := sn, outcome := none }

/-- the list of signs from a place on -/
def Rest (b : M) (p : Nat) : List Nat := b.text.toList.drop p

structure Base (b : M) : Prop where
  lim : b.lim = b.text.size
  small : b.text.size ≤ 16777216
  whole : b.wholeText = false

section
variable {b : M} {r : Regs} {pc pos hd : Nat} {om : Bool} {fs : List Frame} {sn : Seen} {P : M → Prop} {c : Nat}

theorem getD_rest {T : Array Nat} {p : Nat} {x : Nat} {l : List Nat} (h : T.toList.drop p = x :: l) : T.getD p 0 = x := by
  have h2 : T.toList[p]? = some x := by
    have : (T.toList.drop p)[0]? = some x := by rw [h]; rfl
    rwa [List.getElem?_drop, Nat.add_zero] at this
  rw [Array.getD_eq_getD_getElem?, ← Array.getElem?_toList, h2]; rfl

theorem lt_of_rest {T : Array Nat} {p : Nat} {x : Nat} {l : List Nat} (h : T.toList.drop p = x :: l) : p < T.size := by
  have h2 : (T.toList.drop p).length = l.length + 1 := by rw [h]; rfl
  rw [List.length_drop, Array.length_toList] at h2
  omega
theorem rest_succ {T : Array Nat} {p : Nat} {x : Nat} {l : List Nat} (h : T.toList.drop p = x :: l) : T.toList.drop (p + 1) = l := by
  rw [← List.drop_drop, h]; rfl
theorem ge_of_rest {T : Array Nat} {p : Nat} (h : T.toList.drop p = []) : T.size ≤ p := by
  have h2 : (T.toList.drop p).length = 0 := by rw [h]; rfl
  rw [List.length_drop, Array.length_toList] at h2
  omega

theorem op0 : ops[0]? = some .FAILURE := rfl
theorem op1 : ops[1]? = some .SUCCESS := rfl
theorem op6 : ops[6]? = some .AT := rfl
theorem op9 : ops[9]? = some .CHARSET := rfl
theorem op13 : ops[13]? = some .IN := rfl
theorem op14 : ops[14]? = some .INFO := rfl
theorem op16 : ops[16]? = some .LITERAL := rfl
theorem op17 : ops[17]? = some .MARK := rfl
theorem op18 : ops[18]? = some .MAX_UNTIL := rfl
theorem op20 : ops[20]? = some .NOT_LITERAL := rfl
theorem op23 : ops[23]? = some .REPEAT := rfl
theorem op24 : ops[24]? = some .REPEAT_ONE := rfl

/-- one exec step, when nothing is answered -/
theorem step_exec (hpc : pc < b.code.size) : (St b r pc pos hd om fs none sn).step = (St b r pc pos hd om fs none sn).exec := by
  unfold M.step
  simp [St, hpc]

def keepOf (r : Regs) (whole : Bool) : Kept := { lastmark := r.lm, lastindex := r.li, whole := whole, marks := if whole then r.marks.extract 0 (r.lm + 1).toNat else #[] }
def putR (r : Regs) (k : Kept) : Regs := { r with lm := k.lastmark, li := k.lastindex, marks := if k.whole then k.marks ++ r.marks.extract k.marks.size r.marks.size else r.marks }
theorem keepOf_small {r : Regs} (hk : r.marks.size ≤ 8) (wh : Bool) : (keepOf r wh).marks.size ≤ 8 := by
  unfold keepOf
  dsimp only
  split
  · rw [Array.size_extract]; omega
  · simp
theorem wt_comm (n k : Nat) : n + 1 + k = 1 + k + n := by omega
theorem wt_ok {k : Kept} (hw : Wt fs ≤ 1000) (hk : k.marks.size ≤ 8) : ¬ (Wt fs + 1 + k.marks.size > 16777216) := by omega

theorem g_lit_ok (hpc : pc < b.code.size) (h0 : b.code.getD pc 0 = 16) {x : Nat} {l : List Nat} (B : Base b) (hx : Rest b pos = x :: l) (hc : b.code.getD (pc + 1) 0 = x)
    (h : ∀ sn, Goes c (St b r (pc + 2) (pos + 1) hd om fs none sn) P) : Goes (c + 1) (St b r pc pos hd om fs none sn) P := by
  refine Goes.step ?_
  rw [step_exec hpc]
  have hlt := lt_of_rest hx
  have hg := getD_rest hx
  have e1 : ¬ (pos ≥ b.text.size) := by omega
  have e : (St b r pc pos hd om fs none sn).exec = St b r (pc + 2) (pos + 1) hd om fs none (sn.add 16) := by
    simp only [M.exec, St, M.word, Nat.add_zero, h0, op16, accepts, hc, hg, B.lim, if_neg e1, itemWidth, beq_self_eq_true]
  rw [e]; exact h _

theorem g_lit_no (hpc : pc < b.code.size) (h0 : b.code.getD pc 0 = 16) (B : Base b) (hx : ∀ x l, Rest b pos = x :: l → b.code.getD (pc + 1) 0 ≠ x)
    (h : ∀ sn, Goes c (St b r pc pos hd om fs (some false) sn) P) : Goes (c + 1) (St b r pc pos hd om fs none sn) P := by
  refine Goes.step ?_
  rw [step_exec hpc]
  have e : ∃ sn', (St b r pc pos hd om fs none sn).exec = St b r pc pos hd om fs (some false) sn' := by
    by_cases e1 : pos ≥ b.text.size
    · exact ⟨sn.add 16, by simp only [M.exec, St, M.word, Nat.add_zero, h0, op16, B.lim, if_pos e1, M.say]⟩
    · have hlt : pos < b.text.toList.length := by rw [Array.length_toList]; omega
      have hx' := hx _ _ (List.drop_eq_getElem_cons hlt)
      have hg := getD_rest (List.drop_eq_getElem_cons hlt)
      have hne : (b.text.getD pos 0 == b.code.getD (pc + 1) 0) = false := by
        rw [hg]; exact beq_eq_false_iff_ne.mpr (Ne.symm hx')
      exact ⟨sn.add 16, by simp only [M.exec, St, M.word, Nat.add_zero, h0, op16, B.lim, if_neg e1, M.say, accepts, hne]⟩
  obtain ⟨sn', e⟩ := e
  rw [e]; exact h _

theorem g_mark (hpc : pc < b.code.size) (h0 : b.code.getD pc 0 = 17) {k : Nat} (hk : b.code.getD (pc + 1) 0 = k) (hlm : (k : Int) = r.lm + 1)
    (h : ∀ sn, Goes c (St b { r with marks := r.marks.setIfInBounds k (some pos), lm := k, li := if k % 2 == 1 then ((k / 2 + 1 : Nat) : Int) else r.li } (pc + 2) pos hd om fs none sn) P) : Goes (c + 1) (St b r pc pos hd om fs none sn) P := by
  refine Goes.step ?_
  rw [step_exec hpc]
  have e1 : max r.lm (k : Int) = (k : Int) := by omega
  have e2 : ((k : Int) ≤ r.lm + 1) := by omega
  have e : (St b r pc pos hd om fs none sn).exec = St b { r with marks := r.marks.setIfInBounds k (some pos), lm := k, li := if k % 2 == 1 then ((k / 2 + 1 : Nat) : Int) else r.li } (pc + 2) pos hd om fs none (sn.add 17) := by
    simp only [M.exec, St, M.word, Nat.add_zero, h0, op17, M.mark, hk, e1, if_pos e2]
  rw [e]; exact h _

theorem g_rep1 (hpc : pc < b.code.size) (h0 : b.code.getD pc 0 = 24) (B : Base b) {w1 least most n : Nat} (h1 : b.code.getD (pc + 1) 0 = w1) (h2 : b.code.getD (pc + 2) 0 = least) (h3 : b.code.getD (pc + 3) 0 = most)
    (hpos : pos + least ≤ b.text.size) (hrun : ∀ sn, ∃ sn', run b.code b.text (pc + 4) (min most (b.text.size - pos)) pos 0 sn = .ok (n, sn')) (hn : least ≤ n) (hw : Wt fs ≤ 1000) (hk : r.marks.size ≤ 8)
    (h : ∀ sn, Goes c (St b r (pc + 1 + w1) (pos + n) (pos + n) om ({ wait := .giveBack, pc := pc, pos := pos + n, outermost := om, count := n, kept := keepOf r r.inner.isSome } :: fs) none sn) P) : Goes (c + 1) (St b r pc pos hd om fs none sn) P := by
  refine Goes.step ?_
  rw [step_exec hpc]
  obtain ⟨sn', hr⟩ := hrun ((sn.add 24).add (b.code.getD (pc + 4) 0))
  have hroom : ((b.text.size : Int) - (pos : Int)).toNat = b.text.size - pos := by omega
  have hl : ¬ ((least : Int) > (b.text.size : Int) - (pos : Int)) := by omega
  have hn' : ¬ (n < least) := by omega
  have hwt := wt_ok (fs := fs) hw (keepOf_small hk r.inner.isSome)
  have e : (St b r pc pos hd om fs none sn).exec = St b r (pc + 1 + w1) (pos + n) (pos + n) om ({ wait := .giveBack, pc := pc, pos := pos + n, outermost := om, count := n, kept := keepOf r r.inner.isSome } :: fs) none sn' := by
    simp only [M.exec, St, M.word, Nat.add_zero, h0, op24, h1, h2, h3, B.lim, hroom, if_neg hl, Bool.false_eq_true, if_false, hr, if_neg hn', M.afterRun, M.attempt, M.frame]
    rw [if_neg (by exact hwt)]
    simp only [M.keep, keepOf, Wt]
    rw [wt_comm (Wt fs)]
  rw [e]; exact h _

theorem g_repeat (hpc : pc < b.code.size) (h0 : b.code.getD pc 0 = 23) {w1 : Nat} (h1 : b.code.getD (pc + 1) 0 = w1) (hw : Wt fs ≤ 1000)
    (h : ∀ sn, Goes c (St b { r with loops := r.loops.push { pc := pc, outer := r.inner }, inner := some r.loops.size } (pc + 1 + w1) pos pos om ({ wait := .closeLoop, pc := pc, pos := pos, outermost := om, loop := r.loops.size } :: fs) none sn) P) : Goes (c + 1) (St b r pc pos hd om fs none sn) P := by
  refine Goes.step ?_
  rw [step_exec hpc]
  have hwt : ¬ (Wt fs + 1 + (#[] : Array (Option Nat)).size > 16777216) := by simp; omega
  have e : (St b r pc pos hd om fs none sn).exec = St b { r with loops := r.loops.push { pc := pc, outer := r.inner }, inner := some r.loops.size } (pc + 1 + w1) pos pos om ({ wait := .closeLoop, pc := pc, pos := pos, outermost := om, loop := r.loops.size } :: fs) none (sn.add 23) := by
    simp only [M.exec, St, M.word, Nat.add_zero, h0, op23, h1, M.attempt, M.frame]
    rw [if_neg (by exact hwt)]
    simp only [Wt]
    rw [wt_comm (Wt fs)]
  rw [e]; exact h _

/-- the one-turn group: the loop's record stands alone -/
def lp (q : Nat) (n : Int) (bg : Option Nat) : Loop := { pc := q, count := n, began := bg, outer := none }
theorem lp_at (q : Nat) (n : Int) (bg : Option Nat) (d : Loop) : Array.getD #[lp q n bg] 0 d = lp q n bg := rfl
theorem lp_mod (q : Nat) (n : Int) (bg : Option Nat) (f : Loop → Loop) : Array.modify #[lp q n bg] 0 f = #[f (lp q n bg)] := by
  rfl
theorem lp_pc (q : Nat) (n : Int) (bg : Option Nat) : (lp q n bg).pc = q := rfl
theorem lp_count (q : Nat) (n : Int) (bg : Option Nat) : (lp q n bg).count = n := rfl
theorem lp_began (q : Nat) (n : Int) (bg : Option Nat) : (lp q n bg).began = bg := rfl
theorem lp_outer (q : Nat) (n : Int) (bg : Option Nat) : (lp q n bg).outer = none := rfl

theorem g_until_more (hpc : pc < b.code.size) (h0 : b.code.getD pc 0 = 18) {q : Nat} (hlo : r.loops = #[lp q (-1) none]) (hin : r.inner = some 0) (hl : b.code.getD (q + 2) 0 = 0) (hm : b.code.getD (q + 3) 0 = 1) (hw : Wt fs ≤ 1000) (hk : r.marks.size ≤ 8)
    (h : ∀ sn, Goes c (St b { r with loops := #[lp q 0 (some pos)] } (q + 4) pos pos om ({ wait := .maxMore, pc := pc + 1, pos := pos, outermost := om, loop := 0, count := 0, kept := keepOf r true, began := none } :: fs) none sn) P) : Goes (c + 1) (St b r pc pos hd om fs none sn) P := by
  refine Goes.step ?_
  rw [step_exec hpc]
  have hwt := wt_ok (fs := fs) hw (keepOf_small hk true)
  obtain ⟨mk, lm, li, los, inn⟩ := r
  dsimp only at hlo hin; subst hlo; subst hin
  have e : (St b ⟨mk, lm, li, #[lp q (-1) none], some 0⟩ pc pos hd om fs none sn).exec = St b { marks := mk, lm := lm, li := li, inner := some 0, loops := #[lp q 0 (some pos)] } (q + 4) pos pos om ({ wait := .maxMore, pc := pc + 1, pos := pos, outermost := om, loop := 0, count := 0, kept := keepOf ⟨mk, lm, li, #[lp q (-1) none], some 0⟩ true, began := none } :: fs) none (sn.add 18) := by
    simp only [M.exec, St, M.word, Nat.add_zero, h0, op18, M.until_, M.loopAt, lp_at, lp_pc, lp_count, lp_began, hl, hm]
    rw [if_neg (by decide), if_neg (by decide), if_pos (by rfl)]
    simp only [M.round, M.setLoop, M.loopAt, M.attempt, M.frame, lp_mod, lp_at, lp_pc, lp_began]
    rw [if_neg (by exact hwt)]
    simp only [Wt]
    rw [wt_comm (Wt fs)]
    rfl
  rw [e]; exact h _

theorem g_until_tail (hpc : pc < b.code.size) (h0 : b.code.getD pc 0 = 18) {q : Nat} {bg : Option Nat} (hlo : r.loops = #[lp q 0 bg]) (hin : r.inner = some 0) (hl : b.code.getD (q + 2) 0 = 0) (hm : b.code.getD (q + 3) 0 = 1) (hw : Wt fs ≤ 1000)
    (h : ∀ sn, Goes c (St b { r with inner := none } (pc + 1) pos pos om ({ wait := .maxTail, pc := pc + 1, pos := pos, outermost := om, loop := 0, count := 1, kept := keepOf r false } :: fs) none sn) P) : Goes (c + 1) (St b r pc pos hd om fs none sn) P := by
  refine Goes.step ?_
  rw [step_exec hpc]
  have hwt : ¬ (Wt fs + 1 + (#[] : Array (Option Nat)).size > 16777216) := by simp; omega
  obtain ⟨mk, lm, li, los, inn⟩ := r
  dsimp only at hlo hin; subst hlo; subst hin
  have e : (St b ⟨mk, lm, li, #[lp q 0 bg], some 0⟩ pc pos hd om fs none sn).exec = St b { marks := mk, lm := lm, li := li, inner := none, loops := #[lp q 0 bg] } (pc + 1) pos pos om ({ wait := .maxTail, pc := pc + 1, pos := pos, outermost := om, loop := 0, count := 1, kept := keepOf ⟨mk, lm, li, #[lp q 0 bg], some 0⟩ false } :: fs) none (sn.add 18) := by
    simp only [M.exec, St, M.word, Nat.add_zero, h0, op18, M.until_, M.loopAt, lp_at, lp_pc, lp_count, lp_began, hl, hm]
    rw [if_neg (by decide), if_neg (by decide), if_neg (by simp [maxRepeat])]
    simp only [M.afterLoop, M.loopAt, M.attempt, M.frame, lp_at, lp_outer]
    refine (if_neg (by exact hwt)).trans ?_
    simp only [Wt]
    rw [wt_comm (Wt fs)]
    rfl
  rw [e]; exact h _

theorem g_at_end (hpc : pc < b.code.size) (h0 : b.code.getD pc 0 = 6) (h1 : b.code.getD (pc + 1) 0 = 5) (B : Base b) (hx : Rest b pos = [] ∧ pos ≤ b.text.size ∨ Rest b pos = [10])
    (h : ∀ sn, Goes c (St b r (pc + 2) pos hd om fs none sn) P) : Goes (c + 1) (St b r pc pos hd om fs none sn) P := by
  refine Goes.step ?_
  rw [step_exec hpc]
  have hb : (pos == b.text.size || (pos + 1 == b.text.size && b.text.getD pos 0 == 10)) = true := by
    rcases hx with ⟨hx, hp⟩ | hx
    · have := ge_of_rest hx
      have e : pos = b.text.size := by omega
      simp [e]
    · have h1 := lt_of_rest hx
      have h2 := ge_of_rest (rest_succ hx)
      have e : pos + 1 = b.text.size := by omega
      rw [getD_rest hx]
      simp [e]
  have e : (St b r pc pos hd om fs none sn).exec = St b r (pc + 2) pos hd om fs none ((sn.add 6).add 48) := by
    simp only [M.exec, St, M.word, Nat.add_zero, h0, op6, h1, M.isAt, B.lim, hb, if_true]
  rw [e]; exact h _
theorem g_at_no (hpc : pc < b.code.size) (h0 : b.code.getD pc 0 = 6) (h1 : b.code.getD (pc + 1) 0 = 5) (B : Base b) (hx : Rest b pos ≠ []) (hx2 : Rest b pos ≠ [10])
    (h : ∀ sn, Goes c (St b r pc pos hd om fs (some false) sn) P) : Goes (c + 1) (St b r pc pos hd om fs none sn) P := by
  refine Goes.step ?_
  rw [step_exec hpc]
  have hb : (pos == b.text.size || (pos + 1 == b.text.size && b.text.getD pos 0 == 10)) = false := by
    rw [Bool.eq_false_iff]
    intro hh
    rw [Bool.or_eq_true, Bool.and_eq_true, beq_iff_eq, beq_iff_eq, beq_iff_eq] at hh
    unfold Rest at hx hx2
    rcases hh with hh | ⟨hh, h10⟩
    · exact hx (List.drop_of_length_le (by rw [Array.length_toList]; omega))
    · have hlt : pos < b.text.toList.length := by rw [Array.length_toList]; omega
      have q := List.drop_eq_getElem_cons hlt
      have g := getD_rest q
      rw [h10] at g
      rw [← g] at q
      have z : b.text.toList.drop (pos + 1) = [] := List.drop_of_length_le (by rw [Array.length_toList]; omega)
      rw [z] at q
      exact hx2 q
  have e : (St b r pc pos hd om fs none sn).exec = St b r pc pos hd om fs (some false) ((sn.add 6).add 48) := by
    simp only [M.exec, St, M.word, Nat.add_zero, h0, op6, h1, M.isAt, B.lim, hb, Bool.false_eq_true, if_false, M.say]
  rw [e]; exact h _

theorem g_success (hpc : pc < b.code.size) (h0 : b.code.getD pc 0 = 1) (B : Base b) (hm : b.mustAdvance = false)
    (h : ∀ sn, Goes c (St b r pc pos pos om fs (some true) sn) P) : Goes (c + 1) (St b r pc pos hd om fs none sn) P := by
  refine Goes.step ?_
  rw [step_exec hpc]
  have e : (St b r pc pos hd om fs none sn).exec = St b r pc pos pos om fs (some true) (sn.add 1) := by
    simp only [M.exec, St, M.word, Nat.add_zero, h0, op1, B.whole, hm, Bool.false_and, Bool.or_false, Bool.and_false, Bool.false_eq_true, if_false, M.say]
  rw [e]; exact h _

/-! answers -/
theorem step_answer {f : Frame} {yes : Bool} : (St b r pc pos hd om (f :: fs) (some yes) sn).step = M.resume (St b r f.pc f.pos hd f.outermost fs none sn) f yes := by
  unfold M.step
  rw [if_neg (by simp [St])]
  simp only [St, Wt, Nat.add_sub_cancel_left]

/-- the frames that hand a yes on -/
def passes (f : Frame) : Bool := match f.wait with
  | .nextStart | .giveBack | .closeLoop | .maxMore | .maxTail => true
  | _ => false
theorem t_pass {f : Frame} (hf : passes f = true) (h : ∀ r' pc pos om sn, r'.marks = r.marks → r'.lm = r.lm → r'.li = r.li → Goes c (St b r' pc pos hd om fs (some true) sn) P) : Goes (c + 1) (St b r pc pos hd om (f :: fs) (some true) sn) P := by
  refine Goes.step ?_
  rw [step_answer]
  obtain ⟨wt, fpc, fpos, fom, cn, kp, lo, bg⟩ := f
  cases wt <;> simp only [passes, Bool.false_eq_true] at hf
  · exact h r _ _ _ _ rfl rfl rfl
  · exact h r _ _ _ _ rfl rfl rfl
  · exact h { r with inner := (M.loopAt (St b r fpc fpos hd fom fs none sn) lo).outer, loops := r.loops.pop } _ _ _ _ rfl rfl rfl
  · exact h { r with loops := r.loops.modify lo fun l => { l with began := bg } } _ _ _ _ rfl rfl rfl
  · exact h { r with inner := some lo } _ _ _ _ rfl rfl rfl

theorem t_all : ∀ (fs : List Frame) (r : Regs) (pc pos hd : Nat) (om : Bool) (sn : Seen), (∀ f ∈ fs, passes f = true) →
    Goes (fs.length + 1) (St b r pc pos hd om fs (some true) sn) (fun m => m.outcome = some .matched ∧ m.start = b.start ∧ m.handed = hd ∧ m.marks = r.marks ∧ m.lastmark = r.lm ∧ m.lastindex = r.li)
  | [], r, pc, pos, hd, om, sn, _ => by
    refine Goes.step (Goes.done ?_)
    unfold M.step
    rw [if_neg (by simp [St])]
    simp [St]
  | f :: fs, r, pc, pos, hd, om, sn, h => by
    refine t_pass (h f (.head _)) (fun r' pc pos om sn e1 e2 e3 => ?_)
    rw [← e1, ← e2, ← e3]
    exact t_all fs r' pc pos hd om sn (fun g hg => h g (.tail _ hg))

theorem f_end : Goes 1 (St b r pc pos hd om [] (some false) sn) (fun m => m.outcome = some .failed) := by
  refine Goes.step (Goes.done ?_)
  unfold M.step
  rw [if_neg (by simp [St])]
  simp [St]

theorem putR_keep {r r' : Regs} (e : r'.marks = r.marks) : putR r' (keepOf r false) = { r' with lm := r.lm, li := r.li } := rfl

theorem b_give_out {f : Frame} (hf : f.wait = .giveBack) (h2 : b.code.getD (f.pc + 2) 0 = 0) (hn : f.count = 0)
    (h : ∀ pc pos om sn, Goes c (St b (putR r f.kept) pc pos hd om fs (some false) sn) P) : Goes (c + 1) (St b r pc pos hd om (f :: fs) (some false) sn) P := by
  refine Goes.step ?_
  rw [step_answer]
  obtain ⟨wt, fpc, fpos, fom, cn, kp, lo, bg⟩ := f
  dsimp only at hf h2 hn ⊢; subst hf; subst hn
  unfold M.resume
  simp only [Bool.false_eq_true, if_false, M.word, St, h2]
  rw [if_pos (by decide)]
  exact h fpc fpos fom sn

theorem b_give_more {f : Frame} {n : Nat} (hf : f.wait = .giveBack) (h2 : b.code.getD (f.pc + 2) 0 = 0) (hn : f.count = (n : Int) + 1) (hw : Wt fs ≤ 1000) (hk : f.kept.marks.size ≤ 8)
    (h : ∀ sn, Goes c (St b (putR r f.kept) (f.pc + 1 + b.code.getD (f.pc + 1) 0) (f.pos - 1) (f.pos - 1) f.outermost ({ wait := .giveBack, pc := f.pc, pos := f.pos - 1, outermost := f.outermost, count := n, kept := f.kept } :: fs) none sn) P) : Goes (c + 1) (St b r pc pos hd om (f :: fs) (some false) sn) P := by
  refine Goes.step ?_
  rw [step_answer]
  obtain ⟨wt, fpc, fpos, fom, cn, kp, lo, bg⟩ := f
  dsimp only at hf h2 hn hk h ⊢; subst hf; subst hn
  have hwt := wt_ok (fs := fs) hw hk
  unfold M.resume
  simp only [Bool.false_eq_true, if_false, M.word, St, h2]
  rw [if_neg (by omega)]
  simp only [M.afterRun, M.attempt, M.frame, M.word, M.putBack]
  rw [if_neg (by exact hwt)]
  have e : ((n : Int) + 1 - 1) = n := by omega
  have := h sn
  simp only [St, Wt, putR] at this
  rw [wt_comm (Wt fs), e]
  exact this

theorem b_more {f : Frame} {q : Nat} {n : Int} {bg : Option Nat} (hf : f.wait = .maxMore) (hlo : r.loops = #[lp q n bg]) (h0 : f.loop = 0) (hc : f.count = 0) (hb : f.began = none) (hw : Wt fs ≤ 1000)
    (h : ∀ sn, Goes c (St b { putR r f.kept with loops := #[lp q (-1) none], inner := none } f.pc f.pos f.pos f.outermost ({ wait := .maxTail, pc := f.pc, pos := f.pos, outermost := f.outermost, loop := 0, count := 0, kept := keepOf (putR r f.kept) false } :: fs) none sn) P) : Goes (c + 1) (St b r pc pos hd om (f :: fs) (some false) sn) P := by
  refine Goes.step ?_
  rw [step_answer]
  obtain ⟨wt, fpc, fpos, fom, cn, kp, lo, bg'⟩ := f
  obtain ⟨mk, lm, li, los, inn⟩ := r
  dsimp only at hf hlo h0 hc hb h ⊢; subst hf; subst hlo; subst h0; subst hc; subst hb
  have hwt : ¬ (Wt fs + 1 + (#[] : Array (Option Nat)).size > 16777216) := by simp; omega
  have e : M.resume (St b ⟨mk, lm, li, #[lp q n bg], inn⟩ fpc fpos hd fom fs none sn) { wait := .maxMore, pc := fpc, pos := fpos, outermost := fom, count := 0, kept := kp, loop := 0, began := none } false = St b { putR ⟨mk, lm, li, #[lp q n bg], inn⟩ kp with loops := #[lp q (-1) none], inner := none } fpc fpos fpos fom ({ wait := .maxTail, pc := fpc, pos := fpos, outermost := fom, loop := 0, count := 0, kept := keepOf (putR ⟨mk, lm, li, #[lp q n bg], inn⟩ kp) false } :: fs) none sn := by
    unfold M.resume
    simp only [Bool.false_eq_true, if_false, St, M.setLoop, M.putBack, lp_mod]
    rw [show ({ lp q n bg with began := none } : Loop) = lp q n none from rfl, lp_mod]
    rw [show ({ lp q n none with count := 0 - 1 } : Loop) = lp q (-1) none from rfl]
    simp only [M.afterLoop, M.loopAt, M.attempt, M.frame, lp_at, lp_outer, putR]
    generalize (if kp.whole = true then kp.marks ++ mk.extract kp.marks.size mk.size else mk) = mk'
    refine (if_neg (by exact hwt)).trans ?_
    simp only [Wt]
    rw [wt_comm (Wt fs)]
    rfl
  rw [e]; exact h _

theorem b_tail {f : Frame} (hf : f.wait = .maxTail) (h : ∀ pc pos om sn, Goes c (St b { r with inner := some f.loop } pc pos hd om fs (some false) sn) P) : Goes (c + 1) (St b r pc pos hd om (f :: fs) (some false) sn) P := by
  refine Goes.step ?_
  rw [step_answer]
  obtain ⟨wt, fpc, fpos, fom, cn, kp, lo, bg'⟩ := f
  dsimp only at hf h ⊢; subst hf
  exact h fpc fpos fom sn
theorem b_close {f : Frame} {q : Nat} {n : Int} {bg : Option Nat} (hf : f.wait = .closeLoop) (hlo : r.loops = #[lp q n bg]) (h0 : f.loop = 0)
    (h : ∀ pc pos om sn, Goes c (St b { r with inner := none, loops := #[] } pc pos hd om fs (some false) sn) P) : Goes (c + 1) (St b r pc pos hd om (f :: fs) (some false) sn) P := by
  refine Goes.step ?_
  rw [step_answer]
  obtain ⟨wt, fpc, fpos, fom, cn, kp, lo, bg'⟩ := f
  obtain ⟨mk, lm, li, los, inn⟩ := r
  dsimp only at hf hlo h0 h ⊢; subst hf; subst hlo; subst h0
  exact h fpc fpos fom sn
end
end Mine

-- Rx2
set_option autoImplicit false
namespace Mine
open PySem.Sre

def isBlank (x : Nat) : Bool := x == 32 || x == 9
def notNl (x : Nat) : Bool := x != 10

theorem run_cnt (q : Nat → Bool) {C T : Array Nat} {i : Nat} (hq : ∀ x sn, ∃ sn', accepts C i x sn = .ok (q x, sn')) :
    ∀ (n p found : Nat) (sn : Seen), p + n = T.size → ∃ sn', run C T i n p found sn = .ok (found + ((T.toList.drop p).takeWhile q).length, sn')
  | 0, p, found, sn, h => by
    have e : T.toList.drop p = [] := List.drop_of_length_le (by rw [Array.length_toList]; omega)
    exact ⟨sn, by rw [e]; rfl⟩
  | n + 1, p, found, sn, h => by
    have hlt : p < T.toList.length := by rw [Array.length_toList]; omega
    have hd := List.drop_eq_getElem_cons hlt
    have hg := getD_rest hd
    obtain ⟨sn1, h1⟩ := hq (T.getD p 0) sn
    unfold run
    rw [h1, hd, List.takeWhile_cons, ← hg]
    cases hx : q (T.getD p 0) with
    | false => exact ⟨sn1, rfl⟩
    | true =>
      obtain ⟨sn2, h2⟩ := run_cnt (T := T) q hq n (p + 1) (found + 1) sn1 (by omega)
      refine ⟨sn2, ?_⟩
      show run C T i n (p + 1) (found + 1) sn1 = _
      rw [h2]
      simp only [if_true, List.length_cons]
      rw [Nat.add_assoc, Nat.add_comm 1]

theorem acc_two {C : Array Nat} {i a d : Nat} (h0 : C.getD i 0 = 13) (h2 : C.getD (i + 2) 0 = 16) (h3 : C.getD (i + 3) 0 = a) (h4 : C.getD (i + 4) 0 = 16) (h5 : C.getD (i + 5) 0 = d) (h6 : C.getD (i + 6) 0 = 0) (hs : 3 ≤ C.size) (x : Nat) (sn : Seen) :
    ∃ sn', accepts C i x sn = .ok (x == a || x == d, sn') := by
  obtain ⟨k, hk⟩ : ∃ k, C.size = k + 3 := ⟨C.size - 3, by omega⟩
  have h3' : C.getD (i + 2 + 1) 0 = a := h3
  have h5' : C.getD (i + 4 + 1) 0 = d := h5
  unfold accepts
  simp only [h0, op13, hk]
  unfold inSet
  simp only [Nat.add_zero, h2, op16, h3']
  cases hx : x == a with
  | true => exact ⟨_, rfl⟩
  | false =>
    simp only [Bool.false_eq_true, if_false, Bool.false_or]
    show ∃ sn', inSet C x (k + 2) (i + 4) true _ = _
    unfold inSet
    simp only [Nat.add_zero, h4, op16, h5']
    cases hy : x == d with
    | true => exact ⟨_, rfl⟩
    | false =>
      simp only [Bool.false_eq_true, if_false]
      show ∃ sn', inSet C x (k + 1) (i + 6) true _ = _
      unfold inSet
      simp only [Nat.add_zero, h6, op0]
      exact ⟨_, rfl⟩
theorem acc_not {C : Array Nat} {i a : Nat} (h0 : C.getD i 0 = 20) (h1 : C.getD (i + 1) 0 = a) (x : Nat) (sn : Seen) : ∃ sn', accepts C i x sn = .ok (x != a, sn') := by
  unfold accepts
  simp only [h0, op20, h1]
  exact ⟨_, rfl⟩
theorem acc_lit {C : Array Nat} {i a : Nat} (h0 : C.getD i 0 = 16) (h1 : C.getD (i + 1) 0 = a) (x : Nat) (sn : Seen) : ∃ sn', accepts C i x sn = .ok (x == a, sn') := by
  unfold accepts
  simp only [h0, op16, h1]
  exact ⟨_, rfl⟩

theorem run_one (q : Nat → Bool) {C T : Array Nat} {i : Nat} (hq : ∀ x sn, ∃ sn', accepts C i x sn = .ok (q x, sn')) {p : Nat} (sn : Seen) (hp : p ≤ T.size) :
    ∃ sn', run C T i (min 1 (T.size - p)) p 0 sn = .ok (((T.toList.drop p).take 1 |>.takeWhile q).length, sn') := by
  rcases Nat.eq_or_lt_of_le hp with h | h
  · have e : T.toList.drop p = [] := List.drop_of_length_le (by rw [Array.length_toList]; omega)
    rw [e, h, Nat.sub_self]
    exact ⟨sn, rfl⟩
  · have hlt : p < T.toList.length := by rw [Array.length_toList]; omega
    have hd := List.drop_eq_getElem_cons hlt
    have hg := getD_rest hd
    have e1 : min 1 (T.size - p) = 0 + 1 := by omega
    obtain ⟨sn1, h1⟩ := hq (T.getD p 0) sn
    rw [e1, hd]
    unfold run
    rw [h1, List.take_succ_cons, List.take_zero, List.takeWhile_cons, ← hg]
    cases hx : q (T.getD p 0) with
    | false => exact ⟨sn1, rfl⟩
    | true => exact ⟨sn1, rfl⟩

/-- the common head of eol and eof: blanks, then a remark or none; the tail stands at 35 -/
structure Pre (C : Array Nat) : Prop where
  size : 36 ≤ C.size
  c5 : C.getD 5 0 = 24
  c6 : C.getD 6 0 = 11
  c7 : C.getD 7 0 = 0
  c8 : C.getD 8 0 = 4294967295
  c9 : C.getD 9 0 = 13
  c11 : C.getD 11 0 = 16
  c12 : C.getD 12 0 = 32
  c13 : C.getD 13 0 = 16
  c14 : C.getD 14 0 = 9
  c15 : C.getD 15 0 = 0
  c17 : C.getD 17 0 = 23
  c18 : C.getD 18 0 = 16
  c19 : C.getD 19 0 = 0
  c20 : C.getD 20 0 = 1
  c21 : C.getD 21 0 = 17
  c22 : C.getD 22 0 = 0
  c23 : C.getD 23 0 = 16
  c24 : C.getD 24 0 = 35
  c25 : C.getD 25 0 = 24
  c26 : C.getD 26 0 = 6
  c27 : C.getD 27 0 = 0
  c28 : C.getD 28 0 = 4294967295
  c29 : C.getD 29 0 = 20
  c30 : C.getD 30 0 = 10
  c32 : C.getD 32 0 = 17
  c33 : C.getD 33 0 = 1
  c34 : C.getD 34 0 = 18

def TailNo (b : M) (ct : Nat) (p : Nat) : Prop := ∀ (r : Regs) (hd : Nat) (om : Bool) (fs : List Frame) (sn : Seen) (c : Nat) (P : M → Prop), r.inner = none → r.marks.size = 2 → Wt fs ≤ 900 →
  (∀ pc' pos' hd' om' sn', Goes c (St b r pc' pos' hd' om' fs (some false) sn') P) → Goes (c + ct) (St b r 35 p hd om fs none sn) P
def TailYes (b : M) (ct : Nat) (p e : Nat) : Prop := ∀ (r : Regs) (hd : Nat) (om : Bool) (fs : List Frame) (sn : Seen) (c : Nat) (P : M → Prop), r.inner = none → r.marks.size = 2 → Wt fs ≤ 900 →
  (∀ pc' pos' om' fs' sn', (∀ f ∈ fs', passes f = true) → fs'.length ≤ 4 → Goes c (St b r pc' pos' e om' (fs' ++ fs) (some true) sn') P) → Goes (c + ct) (St b r 35 p hd om fs none sn) P

def RR (mk : Array (Option Nat)) : Regs := { marks := mk, lm := -1, li := -1, loops := #[], inner := none }

section
variable {b : M} {fs : List Frame} {sn : Seen} {P : M → Prop} {c ct p hd : Nat} {om : Bool} {mk : Array (Option Nat)}

theorem putR_whole {r r' : Regs} (hl : r.lm = -1) : putR r' (keepOf r true) = { r' with lm := -1, li := r.li } := by
  unfold putR keepOf
  simp [hl]

/-- the group does not begin here -/
theorem group_skip (X : Pre b.code) (B : Base b) (hx : ∀ l, Rest b p ≠ 35 :: l) (hw : Wt fs ≤ 800) (hm : mk.size = 2)
    (h : ∀ mk' f1 f2 sn, mk'.size = 2 → f1.wait = .maxTail → f1.kept.marks.size = 0 → f1.loop = 0 → f2.wait = .closeLoop → f2.loop = 0 → f2.kept.marks.size = 0 →
      Goes c (St b { RR mk' with loops := #[lp 17 (-1) none] } 35 p p om (f1 :: f2 :: fs) none sn) P) :
    Goes (c + 5) (St b (RR mk) 17 p hd om fs none sn) P := by
  have hsz := X.size
  refine g_repeat (w1 := 16) (by omega) X.c17 X.c18 (by omega) (fun sn => ?_)
  refine g_until_more (q := 17) (by omega) X.c34 rfl rfl X.c19 X.c20 (by simp [Wt]; omega) (by show mk.size ≤ 8; omega) (fun sn => ?_)
  refine g_mark (k := 0) (by omega) X.c21 X.c22 rfl (fun sn => ?_)
  refine g_lit_no (by omega) X.c23 B (fun x l e => ?_) (fun sn => ?_)
  · rw [X.c24]; intro e2; rw [← e2] at e; exact hx l e
  refine b_more (q := 17) rfl rfl rfl rfl rfl (by simp [Wt]; omega) (fun sn => ?_)
  dsimp only
  rw [putR_whole rfl]
  exact h (mk.setIfInBounds 0 (some p)) _ _ sn (by simp [hm]) rfl rfl rfl rfl rfl rfl

theorem group_skip_no (X : Pre b.code) (B : Base b) (hx : ∀ l, Rest b p ≠ 35 :: l) (hT : TailNo b ct p) (hw : Wt fs ≤ 800) (hm : mk.size = 2)
    (h : ∀ mk' pc pos hd om sn, mk'.size = 2 → Goes c (St b (RR mk') pc pos hd om fs (some false) sn) P) :
    Goes (c + (ct + 7)) (St b (RR mk) 17 p hd om fs none sn) P := by
  rw [show c + (ct + 7) = (c + 2 + ct) + 5 by omega]
  refine group_skip X B hx hw hm (fun mk' f1 f2 sn hm' w1 k1 l1 w2 l2 k2 => ?_)
  refine hT _ _ _ _ _ _ _ rfl hm' (by simp [Wt, k1, k2]; omega) (fun pc' pos' hd' om' sn' => ?_)
  refine b_tail w1 (fun pc pos om sn => ?_)
  rw [l1]
  refine b_close w2 rfl l2 (fun pc pos om sn => ?_)
  exact h mk' _ _ _ _ _ hm'

def GoodM (r : Regs) : Prop := r.lm = -1 ∨ (r.lm = 1 ∧ ∃ p q, r.marks.getD 0 none = some p ∧ r.marks.getD 1 none = some q ∧ p ≤ q)

theorem group_skip_yes {e : Nat} (X : Pre b.code) (B : Base b) (hx : ∀ l, Rest b p ≠ 35 :: l) (hT : TailYes b ct p e) (hw : Wt fs ≤ 800) (hm : mk.size = 2)
    (h : ∀ r' pc' pos' om' fs' sn', GoodM r' → (∀ f ∈ fs', passes f = true) → fs'.length ≤ 8 → Goes c (St b r' pc' pos' e om' (fs' ++ fs) (some true) sn') P) :
    Goes (c + (ct + 5)) (St b (RR mk) 17 p hd om fs none sn) P := by
  rw [show c + (ct + 5) = (c + ct) + 5 by omega]
  refine group_skip X B hx hw hm (fun mk' f1 f2 sn hm' w1 k1 l1 w2 l2 k2 => ?_)
  refine hT _ _ _ _ _ _ _ rfl hm' (by simp [Wt, k1, k2]; omega) (fun pc' pos' om' fs' sn' hp hl => ?_)
  have := h { RR mk' with loops := #[lp 17 (-1) none] } pc' pos' om' (fs' ++ [f1, f2]) sn' (.inl rfl) (fun f hf => by
    rcases List.mem_append.mp hf with q | q
    · exact hp f q
    · simp only [List.mem_cons, List.not_mem_nil, or_false] at q
      rcases q with rfl | rfl
      · simp [passes, w1]
      · simp [passes, w2]) (by simp; omega)
  rwa [List.append_assoc] at this

/-- the registers within the group -/
def RG (p : Nat) (m : Array (Option Nat)) : Regs := { marks := m, lm := 0, li := -1, loops := #[lp 17 0 (some p)], inner := some 0 }
structure KpG (p : Nat) (k : Kept) : Prop where
  lm : k.lastmark = 0
  li : k.lastindex = -1
  whole : k.whole = true
  size : k.marks.size = 1

theorem putR_G {p : Nat} {r : Regs} {k : Kept} (K : KpG p k) (hm : r.marks.size = 2) (hl : r.loops = #[lp 17 0 (some p)]) (hi : r.inner = some 0) : ∃ m', m'.size = 2 ∧ putR r k = RG p m' := by
  refine ⟨k.marks ++ r.marks.extract k.marks.size r.marks.size, by simp [K.size, hm], ?_⟩
  unfold putR RG
  simp [K.lm, K.li, K.whole, hl, hi]

theorem hash_no (X : Pre b.code) (B : Base b) {kp : Kept} (K : KpG p kp) (hw : Wt fs ≤ 750) : ∀ (j : Nat) (m1 : Array (Option Nat)) (hd : Nat) (om : Bool) (sn : Seen), m1.size = 2 → (∀ i, i ≤ j → TailNo b ct (p + 1 + i)) →
    (∀ m' pc' pos' hd' om' sn', m'.size = 2 → Goes c (St b (RG p m') pc' pos' hd' om' fs (some false) sn') P) →
    Goes (c + (j + 1) * (ct + 4)) (St b (RG p m1) 32 (p + 1 + j) hd om ({ wait := .giveBack, pc := 25, pos := p + 1 + j, outermost := om, count := (j : Nat), kept := kp } :: fs) none sn) P := by
  intro j
  have hsz := X.size
  have hks := K.size
  induction j with
  | zero =>
    intro m1 hd om sn hm hT h
    rw [show c + (0 + 1) * (ct + 4) = (c + 1 + 1 + ct) + 1 + 1 by omega]
    refine g_mark (k := 1) (by omega) X.c32 X.c33 rfl (fun sn => ?_)
    refine g_until_tail (q := 17) (bg := some p) (by omega) X.c34 rfl rfl X.c19 X.c20 (by simp [Wt, hks]; omega) (fun sn => ?_)
    refine hT 0 (Nat.le_refl _) _ _ _ _ _ _ _ rfl (by simp [RG, hm]) (by simp [Wt, keepOf, hks]; omega) (fun pc' pos' hd' om' sn' => ?_)
    refine b_tail rfl (fun pc pos om sn => ?_)
    refine b_give_out rfl X.c27 rfl (fun pc pos om sn => ?_)
    obtain ⟨m', h2, e⟩ := putR_G (r := { marks := (RG p m1).marks.setIfInBounds 1 (some (p + 1 + 0)), lm := 1, li := 1, loops := (RG p m1).loops, inner := some 0 }) K (by simp [RG, hm]) rfl rfl
    have e2 := h m' pc pos hd' om sn h2
    rw [← e] at e2
    exact e2
  | succ j ih =>
    intro m1 hd om sn hm hT h
    rw [show c + (j + 1 + 1) * (ct + 4) = ((c + (j + 1) * (ct + 4)) + 1 + 1 + ct) + 1 + 1 by rw [Nat.add_mul (j + 1) 1]; omega]
    refine g_mark (k := 1) (by omega) X.c32 X.c33 rfl (fun sn => ?_)
    refine g_until_tail (q := 17) (bg := some p) (by omega) X.c34 rfl rfl X.c19 X.c20 (by simp [Wt, hks]; omega) (fun sn => ?_)
    refine hT (j + 1) (Nat.le_refl _) _ _ _ _ _ _ _ rfl (by simp [RG, hm]) (by simp [Wt, keepOf, hks]; omega) (fun pc' pos' hd' om' sn' => ?_)
    refine b_tail rfl (fun _ _ _ _ => ?_)
    refine b_give_more (n := j) rfl X.c27 (by simp) (by omega) (by simp [hks]) (fun sn => ?_)
    dsimp only
    rw [X.c26]
    obtain ⟨m', h2, e⟩ := putR_G (r := { marks := (RG p m1).marks.setIfInBounds 1 (some (p + 1 + (j + 1))), lm := 1, li := 1, loops := (RG p m1).loops, inner := some 0 }) K (by simp [RG, hm]) rfl rfl
    have e2 := ih m' (p + 1 + j) om sn h2 (fun i hi => hT i (by omega)) h
    rw [← e] at e2
    exact e2

/-- into the group, up to its second mark -/
theorem group_hash {l : List Nat} (X : Pre b.code) (B : Base b) (hx : Rest b p = 35 :: l) (hw : Wt fs ≤ 700) (hm : mk.size = 2)
    (h : ∀ m1 kp f2 f3 sn, m1.size = 2 → m1.getD 0 none = some p → KpG p kp → f2.wait = .maxMore → f2.loop = 0 → f2.count = 0 → f2.began = none → f2.pc = 35 → f2.pos = p → f2.kept = keepOf { RR mk with loops := #[lp 17 (-1) none], inner := some 0 } true → f3.wait = .closeLoop → f3.loop = 0 → f3.kept.marks.size = 0 →
      Goes c (St b (RG p m1) 32 (p + 1 + (l.takeWhile notNl).length) (p + 1 + (l.takeWhile notNl).length) om ({ wait := .giveBack, pc := 25, pos := p + 1 + (l.takeWhile notNl).length, outermost := om, count := ((l.takeWhile notNl).length : Nat), kept := kp } :: f2 :: f3 :: fs) none sn) P) :
    Goes (c + 5) (St b (RR mk) 17 p hd om fs none sn) P := by
  have hsz := X.size
  have hlt := lt_of_rest hx
  have hr := rest_succ hx
  refine g_repeat (w1 := 16) (by omega) X.c17 X.c18 (by omega) (fun sn => ?_)
  refine g_until_more (q := 17) (by omega) X.c34 rfl rfl X.c19 X.c20 (by simp [Wt]; omega) (by show mk.size ≤ 8; omega) (fun sn => ?_)
  refine g_mark (k := 0) (by omega) X.c21 X.c22 rfl (fun sn => ?_)
  refine g_lit_ok (by omega) X.c23 B hx X.c24 (fun sn => ?_)
  have hk0 : (keepOf { RR mk with loops := #[lp 17 (-1) none], inner := some 0 } true).marks.size = 0 := by simp [keepOf, RR]
  refine g_rep1 (w1 := 6) (least := 0) (most := 4294967295) (n := (l.takeWhile notNl).length) (by omega) X.c25 B X.c26 X.c27 X.c28 (by omega) (fun sn => ?_) (Nat.zero_le _) ?_ (by simp [RR, hm]) (fun sn => ?_)
  · have e1 : min 4294967295 (b.text.size - (p + 1)) = b.text.size - (p + 1) := by have := B.small; omega
    rw [e1]
    have := run_cnt (T := b.text) notNl (acc_not X.c29 X.c30) (b.text.size - (p + 1)) (p + 1) 0 sn (by omega)
    rw [hr, Nat.zero_add] at this
    exact this
  · simp only [Wt]
    have hk0' : (keepOf { marks := (RR mk).marks, lm := (RR mk).lm, li := (RR mk).li, loops := (RR mk).loops.push { pc := 17, outer := (RR mk).inner }, inner := some (RR mk).loops.size } true).marks.size = 0 := hk0
    rw [hk0']
    simp
    omega
  · exact h (mk.setIfInBounds 0 (some p)) _ _ _ sn (by simp [hm]) (by simp [hm, Array.getElem?_setIfInBounds]) ⟨rfl, rfl, rfl, by simp [keepOf, RR, hm]⟩ rfl rfl rfl rfl rfl rfl rfl rfl rfl rfl

theorem group_hash_yes {l : List Nat} {e : Nat} (X : Pre b.code) (B : Base b) (hx : Rest b p = 35 :: l) (hT : TailYes b ct (p + 1 + (l.takeWhile notNl).length) e) (hw : Wt fs ≤ 700) (hm : mk.size = 2)
    (h : ∀ r' pc' pos' om' fs' sn', GoodM r' → (∀ f ∈ fs', passes f = true) → fs'.length ≤ 8 → Goes c (St b r' pc' pos' e om' (fs' ++ fs) (some true) sn') P) :
    Goes (c + (ct + 7)) (St b (RR mk) 17 p hd om fs none sn) P := by
  have hsz := X.size
  rw [show c + (ct + 7) = ((c + ct) + 1 + 1) + 5 by omega]
  refine group_hash X B hx hw hm (fun m1 kp f2 f3 sn hm1 hg K w2 l2 c2 b2 pc2 pos2 k2 w3 l3 k3 => ?_)
  have hks := K.size
  have hk2 : f2.kept.marks.size = 0 := by rw [k2]; simp [keepOf, RR]
  refine g_mark (k := 1) (by omega) X.c32 X.c33 rfl (fun sn => ?_)
  refine g_until_tail (q := 17) (bg := some p) (by omega) X.c34 rfl rfl X.c19 X.c20 (by simp [Wt, hks, hk2, k3]; omega) (fun sn => ?_)
  refine hT _ _ _ _ _ _ _ rfl (by simp [RG, hm1]) (by simp [Wt, keepOf, hks, hk2, k3]; omega) (fun pc' pos' om' fs' sn' hp hl => ?_)
  have hmm : GoodM { marks := (RG p m1).marks.setIfInBounds 1 (some (p + 1 + (l.takeWhile notNl).length)), lm := (1 : Nat), li := 1, loops := (RG p m1).loops, inner := none } := by
    refine .inr ⟨rfl, p, p + 1 + (l.takeWhile notNl).length, ?_, ?_, by omega⟩
    · have : m1[0]?.getD none = some p := by simpa using hg
      simp [RG, Array.getElem?_setIfInBounds, this]
    · simp [RG, hm1, Array.getElem?_setIfInBounds]
  have key : ∀ ft fg : Frame, passes ft = true → passes fg = true → Goes c (St b { marks := (RG p m1).marks.setIfInBounds 1 (some (p + 1 + (l.takeWhile notNl).length)), lm := (1 : Nat), li := 1, loops := (RG p m1).loops, inner := none } pc' pos' e om' (fs' ++ (ft :: fg :: f2 :: f3 :: fs)) (some true) sn') P := fun ft fg ht hg => by
    have := h _ pc' pos' om' (fs' ++ [ft, fg, f2, f3]) sn' hmm (fun f hf => by
      rcases List.mem_append.mp hf with q | q
      · exact hp f q
      · simp only [List.mem_cons, List.not_mem_nil, or_false] at q
        rcases q with rfl | rfl | rfl | rfl
        · exact ht
        · exact hg
        · simp [passes, w2]
        · simp [passes, w3]) (by simp; omega)
    rw [List.append_assoc] at this
    exact this
  exact key _ _ rfl rfl

theorem group_hash_no {l : List Nat} (X : Pre b.code) (B : Base b) (hx : Rest b p = 35 :: l) (hT : ∀ i, i ≤ (l.takeWhile notNl).length → TailNo b ct (p + 1 + i)) (hT0 : TailNo b ct p) (hw : Wt fs ≤ 700) (hm : mk.size = 2)
    (h : ∀ mk' pc pos hd om sn, mk'.size = 2 → Goes c (St b (RR mk') pc pos hd om fs (some false) sn) P) :
    Goes (c + (ct + 8 + ((l.takeWhile notNl).length + 1) * (ct + 4))) (St b (RR mk) 17 p hd om fs none sn) P := by
  rw [show c + (ct + 8 + ((l.takeWhile notNl).length + 1) * (ct + 4)) = ((c + 1 + 1 + ct) + 1 + ((l.takeWhile notNl).length + 1) * (ct + 4)) + 5 by omega]
  refine group_hash X B hx hw hm (fun m1 kp f2 f3 sn hm1 hg K w2 l2 c2 b2 pc2 pos2 k2 w3 l3 k3 => ?_)
  have hk2 : f2.kept.marks.size = 0 := by rw [k2]; simp [keepOf, RR]
  refine hash_no X B K (by simp [Wt, hk2, k3]; omega) _ m1 _ _ sn hm1 hT (fun m' pc' pos' hd' om' sn' hm' => ?_)
  refine b_more (q := 17) (bg := some p) w2 rfl l2 c2 b2 (by simp [Wt, k3]; omega) (fun sn => ?_)
  rw [k2, putR_whole rfl, pc2, pos2]
  refine hT0 _ _ _ _ _ _ _ rfl (by exact hm') (by simp [Wt, keepOf, k3]; omega) (fun pc' pos' hd' om' sn' => ?_)
  refine b_tail rfl (fun pc pos om sn => ?_)
  refine b_close w3 rfl l3 (fun pc pos om sn => ?_)
  exact h m' _ _ _ _ _ hm'
end
end Mine

-- Rx3
set_option autoImplicit false
namespace Mine
open PySem.Sre

/-- the tail of eol: an optional return, a line feed -/
structure EolTail (C : Array Nat) : Prop where
  size : 45 ≤ C.size
  c35 : C.getD 35 0 = 24
  c36 : C.getD 36 0 = 6
  c37 : C.getD 37 0 = 0
  c38 : C.getD 38 0 = 1
  c39 : C.getD 39 0 = 16
  c40 : C.getD 40 0 = 13
  c42 : C.getD 42 0 = 16
  c43 : C.getD 43 0 = 10
  c44 : C.getD 44 0 = 1
structure EofTail (C : Array Nat) : Prop where
  size : 38 ≤ C.size
  c35 : C.getD 35 0 = 6
  c36 : C.getD 36 0 = 5
  c37 : C.getD 37 0 = 1

def tlEol : List Nat → Option Nat
  | 10 :: _ => some 1
  | 13 :: 10 :: _ => some 2
  | _ => none
def tlEof : List Nat → Option Nat
  | [] => some 0
  | [10] => some 0
  | _ => none

section
variable {b : M} {p e : Nat}

theorem putR_plain {r r' : Regs} (hm : r'.marks = r.marks) (hl : r'.loops = r.loops) (hi : r'.inner = r.inner) : putR r' (keepOf r false) = r := by
  obtain ⟨a, b, c, d, e⟩ := r
  obtain ⟨a', b', c', d', e'⟩ := r'
  dsimp only at hm hl hi
  subst hm; subst hl; subst hi
  rfl

theorem eol_rep (Y : EolTail b.code) (B : Base b) (hp : p ≤ b.text.size) {r : Regs} {hd : Nat} {om : Bool} {fs : List Frame} {sn : Seen} {c : Nat} {P : M → Prop} (hi : r.inner = none) (hm : r.marks.size = 2) (hw : Wt fs ≤ 900) {n : Nat} (hn : (((Rest b p).take 1).takeWhile (· == 13)).length = n)
    (h : ∀ sn, Goes c (St b r 42 (p + n) (p + n) om ({ wait := .giveBack, pc := 35, pos := p + n, outermost := om, count := n, kept := keepOf r false } :: fs) none sn) P) : Goes (c + 1) (St b r 35 p hd om fs none sn) P := by
  have hsz := Y.size
  refine g_rep1 (w1 := 6) (least := 0) (most := 1) (n := n) (by omega) Y.c35 B Y.c36 Y.c37 Y.c38 (by omega) (fun sn => ?_) (Nat.zero_le _) (by omega) (by omega) (fun sn => ?_)
  · have := run_one (T := b.text) (p := p) (· == 13) (acc_lit Y.c39 Y.c40) sn hp
    subst hn
    exact this
  · rw [hi]; exact h sn

theorem eol_yes (Y : EolTail b.code) (B : Base b) (hma : b.mustAdvance = false) {k : Nat} (h : tlEol (Rest b p) = some k) : TailYes b 3 p (p + k) := by
  intro r hd om fs sn c P hi hm hw hc
  have hsz := Y.size
  rw [show c + 3 = c + 1 + 1 + 1 by omega]
  unfold tlEol at h
  split at h
  · rename_i l hx
    cases h
    have hlt := lt_of_rest hx
    refine eol_rep Y B (by omega) hi hm hw (n := 0) (by rw [hx]; rfl) (fun sn => ?_)
    refine g_lit_ok (by omega) Y.c42 B hx Y.c43 (fun sn => ?_)
    refine g_success (by omega) Y.c44 B hma (fun sn => ?_)
    exact hc _ _ _ [_] _ (by simp [passes]) (by simp)
  · rename_i l hx
    cases h
    have hlt := lt_of_rest hx
    refine eol_rep Y B (by omega) hi hm hw (n := 1) (by rw [hx]; rfl) (fun sn => ?_)
    refine g_lit_ok (by omega) Y.c42 B (rest_succ hx) Y.c43 (fun sn => ?_)
    refine g_success (by omega) Y.c44 B hma (fun sn => ?_)
    exact hc _ _ _ [_] _ (by simp [passes]) (by simp)
  · cases h

theorem eol_no (Y : EolTail b.code) (B : Base b) (hp : p ≤ b.text.size) (h : tlEol (Rest b p) = none) : TailNo b 5 p := by
  intro r hd om fs sn c P hi hm hw hc
  have hsz := Y.size
  have h10 : ∀ l, Rest b p ≠ 10 :: l := fun l e => by rw [e] at h; cases h
  by_cases h13 : ∃ l, Rest b p = 13 :: l
  · obtain ⟨l, hx⟩ := h13
    have hlt := lt_of_rest hx
    rw [show c + 5 = c + 1 + 1 + 1 + 1 + 1 by omega]
    refine eol_rep Y B hp hi hm hw (n := 1) (by rw [hx]; rfl) (fun sn => ?_)
    refine g_lit_no (by omega) Y.c42 B (fun x l' e => ?_) (fun sn => ?_)
    · have e2 : l = x :: l' := by rw [← rest_succ hx]; exact e
      rw [Y.c43]; intro e3; rw [hx, e2, ← e3] at h; cases h
    refine b_give_more (n := 0) rfl Y.c37 rfl (by omega) (by simp [keepOf]) (fun sn => ?_)
    dsimp only
    rw [Y.c36, putR_plain rfl rfl rfl, show p + 1 - 1 = p by omega]
    refine g_lit_no (by omega) Y.c42 B (fun x l' e => ?_) (fun sn => ?_)
    · rw [Y.c43]; intro e3; rw [← e3] at e; exact h10 _ e
    refine b_give_out rfl Y.c37 rfl (fun pc pos om sn => ?_)
    rw [putR_plain rfl rfl rfl]
    exact hc _ _ _ _ _
  · rw [show c + 5 = (c + 2) + 1 + 1 + 1 by omega]
    have hn0 : (((Rest b p).take 1).takeWhile (· == 13)).length = 0 := by
      cases hr : Rest b p with
      | nil => rfl
      | cons x l =>
        have : (x == 13) = false := beq_eq_false_iff_ne.mpr fun e => h13 ⟨l, by rw [hr, e]⟩
        rw [List.take_succ_cons, List.take_zero, List.takeWhile_cons]
        simp [this]
    refine eol_rep Y B hp hi hm hw hn0 (fun sn => ?_)
    refine g_lit_no (by omega) Y.c42 B (fun x l' e => ?_) (fun sn => ?_)
    · rw [Y.c43]; intro e3; rw [← e3] at e; exact h10 _ e
    refine b_give_out rfl Y.c37 rfl (fun pc pos om sn => ?_)
    rw [putR_plain rfl rfl rfl]
    exact (hc _ _ _ _ _).le (by omega)

theorem eof_yes (Y : EofTail b.code) (B : Base b) (hma : b.mustAdvance = false) (hp : p ≤ b.text.size) {k : Nat} (h : tlEof (Rest b p) = some k) : TailYes b 3 p (p + k) := by
  intro r hd om fs sn c P hi hm hw hc
  have hsz := Y.size
  rw [show c + 3 = (c + 1) + 1 + 1 by omega]
  have hk : k = 0 ∧ (Rest b p = [] ∧ p ≤ b.text.size ∨ Rest b p = [10]) := by
    unfold tlEof at h
    split at h
    · rename_i hx; cases h; exact ⟨rfl, .inl ⟨hx, hp⟩⟩
    · rename_i hx; cases h; exact ⟨rfl, .inr hx⟩
    · cases h
  obtain ⟨rfl, hx⟩ := hk
  refine g_at_end (by omega) Y.c35 Y.c36 B hx (fun sn => ?_)
  refine g_success (by omega) Y.c37 B hma (fun sn => ?_)
  exact (hc _ _ _ [] _ (by simp) (by simp)).le (by omega)
theorem eof_no (Y : EofTail b.code) (B : Base b) (h : tlEof (Rest b p) = none) : TailNo b 5 p := by
  intro r hd om fs sn c P hi hm hw hc
  have hsz := Y.size
  rw [show c + 5 = (c + 4) + 1 by omega]
  refine g_at_no (by omega) Y.c35 Y.c36 B (fun e => by rw [e] at h; cases h) (fun e => by rw [e] at h; cases h) (fun sn => ?_)
  exact (hc _ _ _ _ _).le (by omega)
end

/-- what the two patterns match: the length of the match -/
def remark (tl : List Nat → Option Nat) (L : List Nat) : Option Nat :=
  match L with
  | 35 :: cs => (tl (cs.dropWhile notNl)).map fun k => 1 + (cs.takeWhile notNl).length + k
  | _ => tl L
theorem remark_no {tl : List Nat → Option Nat} {L : List Nat} (h : ∀ l, L ≠ 35 :: l) : remark tl L = tl L := by
  unfold remark
  split
  · rename_i cs; exact absurd rfl (h cs)
  · rfl
theorem remark_hash {tl : List Nat → Option Nat} {cs : List Nat} : remark tl (35 :: cs) = (tl (cs.dropWhile notNl)).map fun k => 1 + (cs.takeWhile notNl).length + k := rfl
def reMatch (tl : List Nat → Option Nat) (L : List Nat) : Option Nat := (remark tl (L.dropWhile isBlank)).map fun k => (L.takeWhile isBlank).length + k

theorem drop_takeWhile {α : Type} (q : α → Bool) : ∀ l : List α, l.drop (l.takeWhile q).length = l.dropWhile q
  | [] => rfl
  | x :: l => by
    rw [List.takeWhile_cons, List.dropWhile_cons]
    cases q x with
    | true => exact drop_takeWhile q l
    | false => rfl

section
variable {b : M} {ct s : Nat}
structure Tl (b : M) (ct : Nat) (tl : List Nat → Option Nat) : Prop where
  yes : ∀ p k, p ≤ b.text.size → tl (Rest b p) = some k → TailYes b ct p (p + k)
  no : ∀ p, p ≤ b.text.size → tl (Rest b p) = none → TailNo b (ct + 2) p
  blank : ∀ x l, isBlank x = true → tl (x :: l) = none
  hash : ∀ l, tl (35 :: l) = none
  inner : ∀ cs : List Nat, tl (cs.dropWhile notNl) = none → ∀ i, i < (cs.takeWhile notNl).length → tl (cs.drop i) = none

theorem rest_add (p n : Nat) : Rest b (p + n) = (Rest b p).drop n := by
  unfold Rest; rw [List.drop_drop]

theorem back_no {tl : List Nat → Option Nat} (X : Pre b.code) (B : Base b) (T : Tl b ct tl) : ∀ (j : Nat) (mk : Array (Option Nat)) (pc pos hd : Nat) (om fom : Bool) (sn : Seen) (kp : Kept), mk.size = 2 → kp.lastmark = -1 → kp.lastindex = -1 → kp.whole = false → kp.marks.size = 0 →
    (∀ i, i < j → ∃ x l, Rest b (s + i) = x :: l ∧ isBlank x = true) →
    Goes (1 + (j + 1) * (ct + 10)) (St b (RR mk) pc pos hd om [{ wait := .giveBack, pc := 5, pos := s + j, outermost := fom, count := (j : Nat), kept := kp }] (some false) sn) (fun m => m.outcome = some .failed) := by
  intro j
  induction j with
  | zero =>
    intro mk pc pos hd om fom sn kp hm k1 k2 k3 k4 hb
    rw [show 1 + (0 + 1) * (ct + 10) = (1 + ct + 9) + 1 by omega]
    refine b_give_out rfl X.c7 rfl (fun pc pos om sn => ?_)
    exact f_end.le (by omega)
  | succ j ih =>
    intro mk pc pos hd om fom sn kp hm k1 k2 k3 k4 hb
    rw [show 1 + (j + 1 + 1) * (ct + 10) = (1 + (j + 1) * (ct + 10) + (ct + 2 + 7)) + 1 by rw [Nat.add_mul (j + 1) 1]; omega]
    refine b_give_more (n := j) rfl X.c7 (by simp) (by simp [Wt]) (by simp [k4]) (fun sn => ?_)
    dsimp only
    have e : putR (RR mk) kp = RR mk := by unfold putR RR; simp [k1, k2, k3]
    rw [X.c6, e]
    obtain ⟨x, l, hx, hbl⟩ := hb j (by omega)
    have hlt := lt_of_rest hx
    refine group_skip_no X B (p := s + j) (fun l' e2 => ?_) (T.no _ (by omega) ?_) (by simp [Wt, k4]) hm (fun mk' pc' pos' hd' om' sn' hm' => ?_)
    · rw [hx] at e2; cases e2; cases hbl
    · rw [hx]; exact T.blank x l hbl
    exact ih mk' pc' pos' hd' om' fom sn' kp hm' k1 k2 k3 k4 (fun i hi => hb i (by omega))

def Yes (b : M) (e : Nat) (m : M) : Prop := m.outcome = some .matched ∧ m.start = b.start ∧ m.handed = e ∧ (m.lastmark = -1 ∨ (m.lastmark = 1 ∧ ∃ p q, m.marks.getD 0 none = some p ∧ m.marks.getD 1 none = some q ∧ p ≤ q))

theorem t_yes {fs' fs : List Frame} {r : Regs} {pc pos e : Nat} {om : Bool} {sn : Seen} (hg : GoodM r) (hf : ∀ f ∈ fs', passes f = true) (hl : fs'.length ≤ 8) (h1 : ∀ f ∈ fs, passes f = true) (hl1 : fs.length ≤ 1) :
    Goes 10 (St b r pc pos e om (fs' ++ fs) (some true) sn) (Yes b e) := by
  have := t_all (b := b) (fs' ++ fs) r pc pos e om sn (fun f hm => (List.mem_append.mp hm).elim (hf f) (h1 f))
  refine (this.le (by rw [List.length_append]; omega)).mono (fun m hm => ?_)
  obtain ⟨o, st, hd, mk, lm, li⟩ := hm
  refine ⟨o, st, hd, ?_⟩
  rw [lm, mk]
  exact hg

theorem re_ends {tl : List Nat → Option Nat} (X : Pre b.code) (B : Base b) (T : Tl b ct tl) (hs : s ≤ b.text.size) {mk : Array (Option Nat)} (hm : mk.size = 2) {hd : Nat} {om : Bool} {sn : Seen} :
    Goes ((b.text.size + 2) * (4 * ct + 60)) (St b (RR mk) 5 s hd om [] none sn) (fun m => match reMatch tl (Rest b s) with | some k => Yes b (s + k) m | none => m.outcome = some .failed) := by
  have hsz := X.size
  generalize hn : ((Rest b s).takeWhile isBlank).length = n
  have hle : s + n ≤ b.text.size := by
    have h1 := (List.takeWhile_prefix isBlank (l := Rest b s)).length_le
    have h2 : (Rest b s).length = b.text.size - s := by unfold Rest; rw [List.length_drop, Array.length_toList (xs := b.text)]
    omega
  have hdrop : Rest b (s + n) = (Rest b s).dropWhile isBlank := by rw [rest_add, ← hn, drop_takeWhile]
  have hblank : ∀ i, i < n → ∃ x l, Rest b (s + i) = x :: l ∧ isBlank x = true := fun i hi => by
    have hlen : i < ((Rest b s).takeWhile isBlank).length := by omega
    have hpre := List.takeWhile_prefix isBlank (l := Rest b s)
    have hlen2 : i < (Rest b s).length := Nat.lt_of_lt_of_le hlen hpre.length_le
    refine ⟨(Rest b s)[i], (Rest b s).drop (i + 1), ?_, ?_⟩
    · rw [rest_add]; exact List.drop_eq_getElem_cons hlen2
    · have e1 : ((Rest b s).takeWhile isBlank)[i] = (Rest b s)[i] := List.IsPrefix.getElem hpre hlen
      rw [← e1]
      exact List.all_eq_true.mp (List.all_takeWhile) _ (List.getElem_mem _)
  have main : ∀ c P, (∀ sn, Goes c (St b (RR mk) 17 (s + n) (s + n) om [{ wait := .giveBack, pc := 5, pos := s + n, outermost := om, count := (n : Nat), kept := keepOf (RR mk) false }] none sn) P) → Goes (c + 1) (St b (RR mk) 5 s hd om [] none sn) P := by
    intro c P h
    refine g_rep1 (w1 := 11) (least := 0) (most := 4294967295) (n := n) (by omega) X.c5 B X.c6 X.c7 X.c8 (by omega) (fun sn => ?_) (Nat.zero_le _) (by simp [Wt]) (by show mk.size ≤ 8; omega) h
    have e1 : min 4294967295 (b.text.size - s) = b.text.size - s := by have := B.small; omega
    rw [e1]
    have := run_cnt (T := b.text) isBlank (acc_two X.c9 X.c11 X.c12 X.c13 X.c14 X.c15 (by omega)) (b.text.size - s) s 0 sn (by omega)
    rw [Nat.zero_add] at this
    rw [← hn]
    exact this
  have bound : ∀ a : Nat, a ≤ b.text.size → (a + 1) * (ct + 10) ≤ (b.text.size + 1) * (ct + 10) := fun a ha => Nat.mul_le_mul_right _ (by omega)
  have total : (b.text.size + 2) * (4 * ct + 60) = (b.text.size + 1) * (ct + 10) + (b.text.size + 1) * (ct + 10) + (b.text.size + 1) * (ct + 10) + (b.text.size + 1) * (ct + 10) + (b.text.size + 1) * 20 + (4 * ct + 60) := by
    rw [show 4 * ct + 60 = (ct + 10) + (ct + 10) + (ct + 10) + (ct + 10) + 20 by omega]
    simp only [Nat.add_mul, Nat.mul_add]
    omega
  have hfr : ∀ f ∈ [({ wait := .giveBack, pc := 5, pos := s + n, outermost := om, count := (n : Nat), kept := keepOf (RR mk) false } : Frame)], passes f = true := fun f hf => by
    rw [List.mem_singleton.mp hf]; rfl
  unfold reMatch
  rw [← hdrop, hn]
  by_cases h35 : ∃ l, Rest b (s + n) = 35 :: l
  · obtain ⟨cs, hx⟩ := h35
    rw [hx, remark_hash]
    have hcs := rest_succ hx
    have hk : s + n + 1 + (cs.takeWhile notNl).length ≤ b.text.size := by
      have h1 := (List.takeWhile_prefix notNl (l := cs)).length_le
      have h2 := lt_of_rest hx
      have h3 : cs.length = b.text.size - (s + n + 1) := by rw [← hcs, List.length_drop, Array.length_toList (xs := b.text)]
      omega
    have hq : Rest b (s + n + 1 + (cs.takeWhile notNl).length) = cs.dropWhile notNl := by
      rw [rest_add]
      have : Rest b (s + n + 1) = cs := hcs
      rw [this, drop_takeWhile]
    cases hT : tl (cs.dropWhile notNl) with
    | some k =>
      have hy := T.yes _ k hk (by rw [hq]; exact hT)
      simp only [Option.map_some]
      refine (main (10 + (ct + 7)) _ (fun sn => ?_)).le (by have := bound 0 (by omega); rw [total]; omega)
      refine group_hash_yes X B hx hy (by simp [Wt, keepOf]) hm (fun r' pc' pos' om' fs' sn' hg hf hl => ?_)
      rw [show s + (n + (1 + (cs.takeWhile notNl).length + k)) = s + n + 1 + (cs.takeWhile notNl).length + k by omega]
      exact t_yes hg hf hl hfr (by simp)
    | none =>
      simp only [Option.map_none]
      have h0 : TailNo b (ct + 2) (s + n) := T.no _ hle (by rw [hx]; exact T.hash cs)
      have hi : ∀ i, i ≤ (cs.takeWhile notNl).length → TailNo b (ct + 2) (s + n + 1 + i) := fun i hi => by
        refine T.no _ (by omega) ?_
        rcases Nat.lt_or_eq_of_le hi with h | h
        · rw [rest_add]
          have : Rest b (s + n + 1) = cs := hcs
          rw [this]
          exact T.inner cs hT i h
        · rw [h, hq]; exact hT
      refine (main ((1 + (n + 1) * (ct + 10)) + ((ct + 2) + 8 + ((cs.takeWhile notNl).length + 1) * ((ct + 2) + 4))) _ (fun sn => ?_)).le (by
        have h1 := bound n (by omega)
        have h2 := bound (cs.takeWhile notNl).length (by omega)
        have h3 : ((cs.takeWhile notNl).length + 1) * ((ct + 2) + 4) ≤ ((cs.takeWhile notNl).length + 1) * (ct + 10) := Nat.mul_le_mul_left _ (by omega)
        rw [total]; omega)
      refine group_hash_no X B hx hi h0 (by simp [Wt, keepOf]) hm (fun mk' pc' pos' hd' om' sn' hm' => ?_)
      exact back_no X B T n mk' _ _ _ _ _ _ _ hm' rfl rfl rfl (by simp [keepOf]) hblank
  · have hx' : ∀ l, Rest b (s + n) ≠ 35 :: l := fun l e => h35 ⟨l, e⟩
    rw [remark_no hx']
    cases hT : tl (Rest b (s + n)) with
    | some k =>
      have hy := T.yes _ k hle hT
      simp only [Option.map_some]
      refine (main (10 + (ct + 5)) _ (fun sn => ?_)).le (by have := bound 0 (by omega); rw [total]; omega)
      refine group_skip_yes X B hx' hy (by simp [Wt, keepOf]) hm (fun r' pc' pos' om' fs' sn' hg hf hl => ?_)
      rw [show s + (n + k) = s + n + k by omega]
      exact t_yes hg hf hl hfr (by simp)
    | none =>
      simp only [Option.map_none]
      refine (main ((1 + (n + 1) * (ct + 10)) + ((ct + 2) + 7)) _ (fun sn => ?_)).le (by
        have h1 := bound n (by omega)
        rw [total]; omega)
      refine group_skip_no X B hx' (T.no _ hle hT) (by simp [Wt, keepOf]) hm (fun mk' pc' pos' hd' om' sn' hm' => ?_)
      exact back_no X B T n mk' _ _ _ _ _ _ _ hm' rfl rfl rfl (by simp [keepOf]) hblank
end
end Mine

-- Rx4
set_option autoImplicit false
namespace Mine
open PySem.Sre

def eolCode : Array Nat := #[14, 4, 0, 1, 4294967295, 24, 11, 0, 4294967295, 13, 6, 16, 32, 16, 9, 0, 1, 23, 16, 0, 1, 17, 0, 16, 35, 24, 6, 0, 4294967295, 20, 10, 1, 17, 1, 18, 24, 6, 0, 1, 16, 13, 1, 16, 10, 1]
def eofCode : Array Nat := #[14, 4, 0, 0, 4294967295, 24, 11, 0, 4294967295, 13, 6, 16, 32, 16, 9, 0, 1, 23, 16, 0, 1, 17, 0, 16, 35, 24, 6, 0, 4294967295, 20, 10, 1, 17, 1, 18, 6, 5, 1]
def wsCode : Array Nat := #[14, 4, 0, 0, 4294967295, 24, 11, 0, 4294967295, 13, 6, 16, 32, 16, 9, 0, 1, 1]
theorem pre_eol : Pre eolCode := by constructor <;> decide
theorem pre_eof : Pre eofCode := by constructor <;> decide
theorem tail_eol : EolTail eolCode := by constructor <;> decide
theorem tail_eof : EofTail eofCode := by constructor <;> decide

theorem tlEol_blank (x : Nat) (l : List Nat) (h : isBlank x = true) : tlEol (x :: l) = none := by
  unfold tlEol
  split
  · rename_i h2; cases h2; cases h
  · rename_i h2; cases h2; cases h
  · rfl
theorem tlEof_blank (x : Nat) (l : List Nat) (h : isBlank x = true) : tlEof (x :: l) = none := by
  unfold tlEof
  split
  · rename_i h2; cases h2
  · rename_i h2; cases h2; cases h
  · rfl
theorem drop_of_takeWhile {q : Nat → Bool} : ∀ (cs : List Nat) (i : Nat), i < (cs.takeWhile q).length → ∃ x l, cs.drop i = x :: l ∧ q x = true ∧ l.dropWhile q = cs.dropWhile q
  | [], i, h => by cases h
  | x :: l, i, h => by
    rw [List.takeWhile_cons] at h
    cases hx : q x with
    | false => rw [hx] at h; cases h
    | true =>
      rw [hx] at h
      cases i with
      | zero => exact ⟨x, l, rfl, hx, by rw [List.dropWhile_cons, hx]; rfl⟩
      | succ i =>
        obtain ⟨y, l', e1, e2, e3⟩ := drop_of_takeWhile l i (by simpa using h)
        exact ⟨y, l', e1, e2, by rw [e3, List.dropWhile_cons, hx]; rfl⟩
theorem tlEol_inner (cs : List Nat) (h : tlEol (cs.dropWhile notNl) = none) (i : Nat) (hi : i < (cs.takeWhile notNl).length) : tlEol (cs.drop i) = none := by
  obtain ⟨x, l, e1, e2, e3⟩ := drop_of_takeWhile cs i hi
  rw [e1]
  unfold tlEol
  split
  · rename_i h2; cases h2; cases e2
  · rename_i l' h2
    cases h2
    have : (10 :: l').dropWhile notNl = 10 :: l' := rfl
    rw [this] at e3
    rw [← e3] at h
    cases h
  · rfl
theorem tlEof_inner (cs : List Nat) (_ : tlEof (cs.dropWhile notNl) = none) (i : Nat) (hi : i < (cs.takeWhile notNl).length) : tlEof (cs.drop i) = none := by
  obtain ⟨x, l, e1, e2, e3⟩ := drop_of_takeWhile cs i hi
  rw [e1]
  unfold tlEof
  split
  · rename_i h2; cases h2
  · rename_i h2; cases h2; cases e2
  · rfl
theorem tl_eol {b : M} (hc : b.code = eolCode) (B : Base b) (hm : b.mustAdvance = false) : Tl b 3 tlEol where
  yes p k _ h := eol_yes (hc ▸ tail_eol) B hm h
  no p hp h := eol_no (hc ▸ tail_eol) B hp h
  blank := tlEol_blank
  hash _ := rfl
  inner := tlEol_inner
theorem tl_eof {b : M} (hc : b.code = eofCode) (B : Base b) (hm : b.mustAdvance = false) : Tl b 3 tlEof where
  yes p k hp h := eof_yes (hc ▸ tail_eof) B hm hp h
  no p _ h := eof_no (hc ▸ tail_eof) B h
  blank := tlEof_blank
  hash _ := rfl
  inner := tlEof_inner

/-- a run of the machine from its start: it ends, and how -/
def Ends (m : M) (P : M → Prop) : Prop := ∃ n, n ≤ 2 ^ 60 ∧ (It n m).outcome.isSome = true ∧ P (It n m)

structure Hit (m : M) (s e : Nat) : Prop where
  out : m.outcome = some .matched
  start : m.start = s
  handed : m.handed = e
  marks : m.lastmark = -1 ∨ (m.lastmark = 1 ∧ ∃ p q, m.marks.getD 0 none = some p ∧ m.marks.getD 1 none = some q ∧ p ≤ q)

def baseOf (code text : Array Nat) (s : Nat) : M := { code, text, lim := text.size, start := s, pc := 0, pos := 0, handed := 0, marks := #[] }

theorem re_match_ends {code T : Array Nat} {tl : List Nat → Option Nat} {s : Nat} (X : Pre code) (TL : Tl (baseOf code T s) 3 tl) (hs : s ≤ T.size) (hT : T.size ≤ 16777216) {mk : Array (Option Nat)} (hm : mk.size = 2) {sn : Seen} :
    Ends (St (baseOf code T s) (RR mk) 5 s s true [] none sn) (fun m => match reMatch tl (T.toList.drop s) with | some k => Hit m s (s + k) | none => m.outcome = some .failed) := by
  have B : Base (baseOf code T s) := ⟨rfl, hT, rfl⟩
  obtain ⟨n, hn, hp⟩ := re_ends (b := baseOf code T s) X B TL hs hm (hd := s) (om := true) (sn := sn)
  have hb : (T.size + 2) * (4 * 3 + 60) ≤ 2 ^ 60 := by omega
  refine ⟨n, Nat.le_trans hn hb, ?_, ?_⟩
  · revert hp
    show (match reMatch tl (T.toList.drop s) with | some k => Yes (baseOf code T s) (s + k) _ | none => _) → _
    cases reMatch tl (T.toList.drop s) with
    | some k => intro h; simp [h.1]
    | none => intro h; dsimp only at h; simp [h]
  · revert hp
    show (match reMatch tl (T.toList.drop s) with | some k => Yes (baseOf code T s) (s + k) _ | none => _) → _
    cases reMatch tl (T.toList.drop s) with
    | some k => intro h; exact ⟨h.1, h.2.1, h.2.2.1, h.2.2.2⟩
    | none => intro h; exact h

theorem say_ends {m : M} (hf : m.frames = []) (ho : m.outcome = none) : Ends (m.say false) (fun m => m.outcome = some .failed) := by
  have e : It 1 (m.say false) = { m.say false with outcome := some .failed } := by
    show (m.say false).step = _
    unfold M.step
    rw [if_neg (by simp [M.say, ho])]
    simp [M.say, hf]
  exact ⟨1, by decide, by rw [e]; rfl, by rw [e]⟩

theorem eol_match {T : Array Nat} {s : Nat} (hs : s ≤ T.size) (hT : T.size ≤ 16777216) :
    Ends (PySem.Sre.forMatch eolCode T 1 s T.size false false) (fun m => match reMatch tlEol (T.toList.drop s) with | some k => Hit m s (s + k) | none => m.outcome = some .failed) := by
  by_cases h : s = T.size
  · have e : PySem.Sre.forMatch eolCode T 1 s T.size false false = (St (baseOf eolCode T s) (RR #[none, none]) 5 s s true [] none (({} : Seen).add 14)).say false := by
      unfold PySem.Sre.forMatch
      have hh : PySem.Sre.header eolCode = (1, 5) := by decide
      simp only [hh]
      rw [if_pos (by simp; omega)]
      rfl
    have hd : T.toList.drop s = [] := List.drop_of_length_le (by rw [Array.length_toList]; omega)
    rw [e, hd]
    exact say_ends rfl rfl
  · have e : PySem.Sre.forMatch eolCode T 1 s T.size false false = St (baseOf eolCode T s) (RR #[none, none]) 5 s s true [] none (({} : Seen).add 14) := by
      unfold PySem.Sre.forMatch
      have hh : PySem.Sre.header eolCode = (1, 5) := by decide
      simp only [hh]
      rw [if_neg (by simp; omega)]
      rfl
    rw [e]
    exact re_match_ends pre_eol (tl_eol rfl ⟨rfl, hT, rfl⟩ rfl) hs hT rfl
theorem eof_match {T : Array Nat} {s : Nat} (hs : s ≤ T.size) (hT : T.size ≤ 16777216) :
    Ends (PySem.Sre.forMatch eofCode T 1 s T.size false false) (fun m => match reMatch tlEof (T.toList.drop s) with | some k => Hit m s (s + k) | none => m.outcome = some .failed) := by
  have e : PySem.Sre.forMatch eofCode T 1 s T.size false false = St (baseOf eofCode T s) (RR #[none, none]) 5 s s true [] none (({} : Seen).add 14) := by
    unfold PySem.Sre.forMatch
    have hh : PySem.Sre.header eofCode = (0, 5) := by decide
    simp only [hh]
    rw [if_neg (by simp)]
    rfl
  rw [e]
  exact re_match_ends pre_eof (tl_eof rfl ⟨rfl, hT, rfl⟩ rfl) hs hT rfl
theorem ws_match {T : Array Nat} {s : Nat} (hs : s ≤ T.size) (hT : T.size ≤ 16777216) :
    Ends (PySem.Sre.forMatch wsCode T 0 s T.size false false) (fun m => Hit m s (s + ((T.toList.drop s).takeWhile isBlank).length)) := by
  have e : PySem.Sre.forMatch wsCode T 0 s T.size false false = St (baseOf wsCode T s) (RR #[]) 5 s s true [] none (({} : Seen).add 14) := by
    unfold PySem.Sre.forMatch
    have hh : PySem.Sre.header wsCode = (0, 5) := by decide
    simp only [hh]
    rw [if_neg (by simp)]
    rfl
  rw [e]
  have B : Base (baseOf wsCode T s) := ⟨rfl, hT, rfl⟩
  have hle : s + ((T.toList.drop s).takeWhile isBlank).length ≤ T.size := by
    have h1 := (List.takeWhile_prefix isBlank (l := T.toList.drop s)).length_le
    rw [List.length_drop, Array.length_toList (xs := T)] at h1
    omega
  have G : Goes 4 (St (baseOf wsCode T s) (RR #[]) 5 s s true [] none (({} : Seen).add 14)) (fun m => Yes (baseOf wsCode T s) (s + ((T.toList.drop s).takeWhile isBlank).length) m) := by
    refine g_rep1 (b := baseOf wsCode T s) (c := 3) (w1 := 11) (least := 0) (most := 4294967295) (n := ((T.toList.drop s).takeWhile isBlank).length) (show 5 < wsCode.size by decide) rfl B rfl rfl rfl (by exact hs) (fun sn => ?_) (Nat.zero_le _) (by simp [Wt]) (by simp [RR]) (fun sn => ?_)
    · have e1 : min 4294967295 (T.size - s) = T.size - s := by omega
      show ∃ sn', run wsCode T 9 (min 4294967295 (T.size - s)) s 0 sn = _
      rw [e1]
      have := run_cnt (T := T) (C := wsCode) (i := 9) isBlank (acc_two rfl rfl rfl rfl rfl rfl (by decide)) (T.size - s) s 0 sn (by omega)
      rwa [Nat.zero_add] at this
    · refine g_success (b := baseOf wsCode T s) (c := 2) (show 17 < wsCode.size by decide) rfl B rfl (fun sn => ?_)
      refine (t_all _ _ _ _ _ _ _ (List.forall_mem_singleton.mpr rfl)).mono (fun m hm => ?_)
      obtain ⟨o, st, hd, mk, lm, li⟩ := hm
      exact ⟨o, st, hd, .inl lm⟩
  obtain ⟨n, hn, hp⟩ := G
  exact ⟨n, by omega, by simp [hp.1], hp.1, hp.2.1, hp.2.2.1, hp.2.2.2⟩
end Mine

-- Rx5
set_option autoImplicit false
namespace Mine
open PySem.Sre

def intCode : Array Nat := #[14, 14, 4, 1, 1, 9, 9216, 132, 268435456, 0, 0, 0, 0, 0, 0, 13, 11, 9, 9216, 132, 268435456, 0, 0, 0, 0, 0, 0, 1]
def isInt (c : Nat) : Bool := c == 92 || c == 13 || c == 10 || c == 34 || c == 39
def notInt (c : Nat) : Bool := !isInt c

theorem int_bits (c : Nat) : (decide (c < 256) && ((#[9, 9216, 132, 268435456, 0, 0, 0, 0, 0] : Array Nat).getD (1 + c / 32) 0).testBit (c % 32)) = isInt c := by
  by_cases h : c < 256
  · revert c; decide +kernel
  · rw [decide_eq_false h]
    unfold isInt
    have e1 : (c == 92) = false := beq_eq_false_iff_ne.mpr (by omega)
    have e2 : (c == 13) = false := beq_eq_false_iff_ne.mpr (by omega)
    have e3 : (c == 10) = false := beq_eq_false_iff_ne.mpr (by omega)
    have e4 : (c == 34) = false := beq_eq_false_iff_ne.mpr (by omega)
    have e5 : (c == 39) = false := beq_eq_false_iff_ne.mpr (by omega)
    rw [e1, e2, e3, e4, e5]; rfl
theorem int_at5 (c : Nat) : intCode.getD (5 + (1 + c / 32)) 0 = (#[9, 9216, 132, 268435456, 0, 0, 0, 0, 0] : Array Nat).getD (1 + c / 32) 0 ∨ 256 ≤ c := by
  by_cases h : c < 256
  · left; revert c; decide +kernel
  · right; omega
theorem int_at17 (c : Nat) : intCode.getD (17 + (1 + c / 32)) 0 = (#[9, 9216, 132, 268435456, 0, 0, 0, 0, 0] : Array Nat).getD (1 + c / 32) 0 ∨ 256 ≤ c := by
  by_cases h : c < 256
  · left; revert c; decide +kernel
  · right; omega
theorem int_set5 (c fuel : Nat) (sn : Seen) : ∃ sn', inSet intCode c (fuel + 2) 5 true sn = .ok (isInt c, sn') := by
  unfold inSet
  have h0 : intCode.getD (5 + 0) 0 = 9 := rfl
  simp only [h0, op9]
  have hb := int_bits c
  have e : (decide (c < 256) && (intCode.getD (5 + (1 + c / 32)) 0).testBit (c % 32)) = isInt c := by
    rcases int_at5 c with h | h
    · rw [h]; exact hb
    · rw [decide_eq_false (by omega)] at hb ⊢; exact hb
  rw [e]
  cases isInt c with
  | true => exact ⟨_, rfl⟩
  | false =>
    simp only [Bool.false_eq_true, if_false]
    unfold inSet
    have h1 : intCode.getD (5 + 9 + 0) 0 = 0 := rfl
    simp only [h1, op0]
    exact ⟨_, rfl⟩
theorem int_set17 (c fuel : Nat) (sn : Seen) : ∃ sn', inSet intCode c (fuel + 2) 17 true sn = .ok (isInt c, sn') := by
  unfold inSet
  have h0 : intCode.getD (17 + 0) 0 = 9 := rfl
  simp only [h0, op9]
  have hb := int_bits c
  have e : (decide (c < 256) && (intCode.getD (17 + (1 + c / 32)) 0).testBit (c % 32)) = isInt c := by
    rcases int_at17 c with h | h
    · rw [h]; exact hb
    · rw [decide_eq_false (by omega)] at hb ⊢; exact hb
  rw [e]
  cases isInt c with
  | true => exact ⟨_, rfl⟩
  | false =>
    simp only [Bool.false_eq_true, if_false]
    unfold inSet
    have h1 : intCode.getD (17 + 9 + 0) 0 = 0 := rfl
    simp only [h1, op0]
    exact ⟨_, rfl⟩

theorem admit {m : M} (hc : m.code = intCode) (hl : m.lim = m.text.size) : ∀ (fuel s : Nat) (sn : Seen), s + fuel = m.lim + 1 → ∃ sn', M.admitted m fuel s sn = .ok ((if (m.text.toList.drop s).dropWhile notInt = [] then none else some (s + ((m.text.toList.drop s).takeWhile notInt).length)), sn')
  | 0, s, sn, h => by
    have e : m.text.toList.drop s = [] := List.drop_of_length_le (by rw [Array.length_toList]; omega)
    rw [e]
    exact ⟨sn, rfl⟩
  | fuel + 1, s, sn, h => by
    unfold M.admitted
    by_cases hs : s ≥ m.lim
    · have e : m.text.toList.drop s = [] := List.drop_of_length_le (by rw [Array.length_toList]; omega)
      rw [if_pos hs, e]
      exact ⟨sn, rfl⟩
    · rw [if_neg hs]
      have hlt : s < m.text.toList.length := by rw [Array.length_toList]; omega
      have hd := List.drop_eq_getElem_cons hlt
      have hg := getD_rest hd
      have hsz : m.code.size = 26 + 2 := by rw [hc]; rfl
      obtain ⟨sn1, h1⟩ := int_set5 (m.text.getD s 0) 26 sn
      rw [hsz, hc, h1, hd, ← hg]
      have en : notInt (m.text.getD s 0) = !isInt (m.text.getD s 0) := rfl
      cases hx : isInt (m.text.getD s 0) with
      | true =>
        rw [hx] at en
        refine ⟨sn1, ?_⟩
        rw [List.dropWhile_cons, List.takeWhile_cons, en]
        simp
      | false =>
        rw [hx] at en
        obtain ⟨sn2, h2⟩ := admit hc hl fuel (s + 1) sn1 (by omega)
        refine ⟨sn2, ?_⟩
        rw [List.dropWhile_cons, List.takeWhile_cons, en]
        simp only [Bool.not_false, if_true, List.length_cons]
        show M.admitted m fuel (s + 1) sn1 = _
        rw [h2]
        rw [show s + 1 + (List.takeWhile notInt (List.drop (s + 1) m.text.toList)).length = s + ((List.takeWhile notInt (List.drop (s + 1) m.text.toList)).length + 1) by omega]

/-- the first sign that is looked for -/
def findInt (L : List Nat) : Option Nat := if L.dropWhile notInt = [] then none else some (L.takeWhile notInt).length

theorem g_in17 {b : M} {r : Regs} {pos hd : Nat} {om : Bool} {fs : List Frame} {sn : Seen} {P : M → Prop} {c : Nat} (hc : b.code = intCode) (B : Base b) {x : Nat} {l : List Nat} (hx : Rest b pos = x :: l) (hi : isInt x = true)
    (h : ∀ sn, Goes c (St b r 27 (pos + 1) hd om fs none sn) P) : Goes (c + 1) (St b r 15 pos hd om fs none sn) P := by
  refine Goes.step ?_
  rw [step_exec (by rw [hc]; decide)]
  have hlt := lt_of_rest hx
  have hg := getD_rest hx
  have e1 : ¬ (pos ≥ b.text.size) := by omega
  have hsz : b.code.size = 26 + 2 := by rw [hc]; rfl
  obtain ⟨sn1, h1⟩ := int_set17 x 26 (sn.add 13)
  rw [hi] at h1
  have h0 : intCode.getD 15 0 = 13 := rfl
  have h16 : intCode.getD (15 + 1) 0 = 11 := rfl
  have e : (St b r 15 pos hd om fs none sn).exec = St b r 27 (pos + 1) hd om fs none sn1 := by
    have ha : accepts intCode 15 x (sn.add 13) = .ok (true, sn1) := by
      unfold accepts
      simp only [h0, op13]
      exact h1
    simp only [M.exec, St, M.word, Nat.add_zero, hc, h0, op13, B.lim, if_neg e1, hg, ha, itemWidth, h16]
  rw [e]; exact h _

theorem attempt_from {m : M} (hc : m.code = intCode) (hl : m.lim = m.text.size) {s : Nat} (hs : s ≤ m.lim) (first : Bool) :
    ∃ sn', M.attemptFrom m s first = match findInt (m.text.toList.drop s) with | none => M.say { m with seen := sn' } false | some k => M.attemptAt { m with mustAdvance := false, seen := sn' } (s + k) first := by
  obtain ⟨sn', ha⟩ := admit hc hl (m.lim + 1 - s) s m.seen (by omega)
  have hf : m.hasFirstSet = true := by
    unfold M.hasFirstSet
    rw [hc]; rfl
  refine ⟨sn', ?_⟩
  unfold M.attemptFrom findInt
  rw [hf, ha]
  by_cases h : (m.text.toList.drop s).dropWhile notInt = []
  · rw [if_pos h, if_pos h]; rfl
  · rw [if_neg h, if_neg h]; rfl

theorem int_search {T : Array Nat} {s : Nat} (hs : s ≤ T.size) (hT : T.size ≤ 16777216) :
    Ends (PySem.Sre.forSearch intCode T 0 s T.size false) (fun m => match findInt (T.toList.drop s) with | some k => Hit m (s + k) (s + k + 1) | none => m.outcome = some .failed) := by
  by_cases h : s = T.size
  · have e : PySem.Sre.forSearch intCode T 0 s T.size false = (St (baseOf intCode T s) (RR #[]) 15 s s true [] none (({} : Seen).add 14)).say false := by
      unfold PySem.Sre.forSearch
      have hh : PySem.Sre.header intCode = (1, 15) := by decide
      simp only [hh]
      rw [if_pos (by simp; omega)]
      rfl
    have hd : T.toList.drop s = [] := List.drop_of_length_le (by rw [Array.length_toList]; omega)
    rw [e, hd]
    exact say_ends rfl rfl
  · have e : PySem.Sre.forSearch intCode T 0 s T.size false = M.attemptFrom { St (baseOf intCode T s) (RR #[]) 15 s s true [] none (({} : Seen).add 14) with lastStart := T.size } s true := by
      unfold PySem.Sre.forSearch
      have hh : PySem.Sre.header intCode = (1, 15) := by decide
      simp only [hh]
      rw [if_neg (by simp; omega)]
      rfl
    rw [e]
    obtain ⟨sn', ha⟩ := attempt_from (m := { St (baseOf intCode T s) (RR #[]) 15 s s true [] none (({} : Seen).add 14) with lastStart := T.size }) rfl rfl (s := s) hs true
    rw [ha]
    show Ends (match findInt (T.toList.drop s) with | none => _ | some k => _) _
    cases hf : findInt (T.toList.drop s) with
    | none => exact say_ends rfl rfl
    | some k =>
      have B : Base { baseOf intCode T (s + k) with lastStart := T.size } := ⟨rfl, hT, rfl⟩
      have e2 : M.attemptAt { { St (baseOf intCode T s) (RR #[]) 15 s s true [] none (({} : Seen).add 14) with lastStart := T.size } with mustAdvance := false, seen := sn' } (s + k) true = St { baseOf intCode T (s + k) with lastStart := T.size } (RR #[]) 15 (s + k) (s + k) true [{ wait := .nextStart, pc := 15, pos := s + k, outermost := true }] none sn' := rfl
      show Ends (M.attemptAt { { St (baseOf intCode T s) (RR #[]) 15 s s true [] none (({} : Seen).add 14) with lastStart := T.size } with mustAdvance := false, seen := sn' } (s + k) true) _
      rw [e2]
      have hx : ∃ x l, Rest { baseOf intCode T (s + k) with lastStart := T.size } (s + k) = x :: l ∧ isInt x = true := by
        unfold findInt at hf
        by_cases h0 : (T.toList.drop s).dropWhile notInt = []
        · rw [if_pos h0] at hf; cases hf
        · rw [if_neg h0] at hf
          cases hf
          have : T.toList.drop (s + ((T.toList.drop s).takeWhile notInt).length) = (T.toList.drop s).dropWhile notInt := by rw [← List.drop_drop, drop_takeWhile]
          show ∃ x l, T.toList.drop (s + ((T.toList.drop s).takeWhile notInt).length) = x :: l ∧ _
          rw [this]
          generalize T.toList.drop s = R at h0
          clear this
          induction R with
          | nil => exact absurd rfl h0
          | cons y R ih =>
            rw [List.dropWhile_cons] at h0 ⊢
            cases hy : notInt y with
            | true => rw [hy] at h0; exact ih h0
            | false =>
              refine ⟨y, R, rfl, ?_⟩
              unfold notInt at hy
              simpa using hy
      obtain ⟨x, l, hx1, hx2⟩ := hx
      have G : Goes 5 (St { baseOf intCode T (s + k) with lastStart := T.size } (RR #[]) 15 (s + k) (s + k) true [{ wait := .nextStart, pc := 15, pos := s + k, outermost := true }] none sn') (fun m => Yes { baseOf intCode T (s + k) with lastStart := T.size } (s + k + 1) m) := by
        refine g_in17 (c := 4) rfl B hx1 hx2 (fun sn => ?_)
        refine g_success (b := { baseOf intCode T (s + k) with lastStart := T.size }) (c := 3) (show 27 < intCode.size by decide) rfl B rfl (fun sn => ?_)
        refine ((t_all _ _ _ _ _ _ _ (List.forall_mem_singleton.mpr rfl)).le (by simp)).mono (fun m hm => ?_)
        obtain ⟨o, st, hd, mk, lm, li⟩ := hm
        exact ⟨o, st, hd, .inl lm⟩
      obtain ⟨n, hn, hp⟩ := G
      exact ⟨n, by omega, by simp [hp.1], hp.1, hp.2.1, hp.2.2.1, hp.2.2.2⟩
end Mine

-- Rx6
set_option autoImplicit false
namespace Mine
open PySem.Sre

def esc4 : Array Nat := #[14, 10, 1, 6, 6, 2, 2, 92, 117, 0, 0, 16, 92, 16, 117, 17, 0, 24, 16, 4, 4, 13, 11, 9, 0, 67043328, 126, 126, 0, 0, 0, 0, 0, 1, 17, 1, 1]
def esc8 : Array Nat := #[14, 10, 1, 10, 10, 2, 2, 92, 85, 0, 0, 16, 92, 16, 85, 17, 0, 24, 16, 8, 8, 13, 11, 9, 0, 67043328, 126, 126, 0, 0, 0, 0, 0, 1, 17, 1, 1]
def isHex (c : Nat) : Bool := (48 ≤ c && c ≤ 57) || (65 ≤ c && c ≤ 70) || (97 ≤ c && c ≤ 102)

structure Esc (C : Array Nat) (n u : Nat) : Prop where
  size : C.size = 37
  c11 : C.getD 11 0 = 16
  c12 : C.getD 12 0 = 92
  c13 : C.getD 13 0 = 16
  c14 : C.getD 14 0 = u
  c15 : C.getD 15 0 = 17
  c16 : C.getD 16 0 = 0
  c17 : C.getD 17 0 = 24
  c18 : C.getD 18 0 = 16
  c19 : C.getD 19 0 = n
  c20 : C.getD 20 0 = n
  c21 : C.getD 21 0 = 13
  c23 : C.getD 23 0 = 9
  c32 : C.getD 32 0 = 0
  c34 : C.getD 34 0 = 17
  c35 : C.getD 35 0 = 1
  c36 : C.getD 36 0 = 1
  hex : ∀ c, c < 256 → (C.getD (23 + (1 + c / 32)) 0).testBit (c % 32) = isHex c
theorem esc_4 : Esc esc4 4 117 := by constructor <;> decide +kernel
theorem esc_8 : Esc esc8 8 85 := by constructor <;> decide +kernel

theorem acc_hex {C : Array Nat} {n u : Nat} (X : Esc C n u) (c : Nat) (sn : Seen) : ∃ sn', accepts C 21 c sn = .ok (isHex c, sn') := by
  have hsz : C.size = 35 + 2 := X.size
  unfold accepts
  simp only [X.c21, op13, hsz]
  show ∃ sn', inSet C c (35 + 2) 23 true sn = _
  unfold inSet
  have h0 : C.getD (23 + 0) 0 = 9 := X.c23
  simp only [h0, op9]
  have e : (decide (c < 256) && (C.getD (23 + (1 + c / 32)) 0).testBit (c % 32)) = isHex c := by
    by_cases h : c < 256
    · rw [decide_eq_true h, X.hex c h]; rfl
    · rw [decide_eq_false h]
      unfold isHex
      rw [decide_eq_false (show ¬ c ≤ 57 by omega), decide_eq_false (show ¬ c ≤ 70 by omega), decide_eq_false (show ¬ c ≤ 102 by omega)]
      simp
  rw [e]
  cases isHex c with
  | true => exact ⟨_, rfl⟩
  | false =>
    simp only [Bool.false_eq_true, if_false]
    unfold inSet
    have h1 : C.getD (23 + 9 + 0) 0 = 0 := X.c32
    simp only [h1, op0]
    exact ⟨_, rfl⟩

/-- a run of exactly so many -/
theorem run_all (q : Nat → Bool) {C T : Array Nat} {i : Nat} (hq : ∀ x sn, ∃ sn', accepts C i x sn = .ok (q x, sn')) :
    ∀ (n p found : Nat) (sn : Seen), p + n ≤ T.size → (∀ x ∈ (T.toList.drop p).take n, q x = true) → ∃ sn', run C T i n p found sn = .ok (found + n, sn')
  | 0, p, found, sn, _, _ => ⟨sn, rfl⟩
  | n + 1, p, found, sn, h, ha => by
    have hlt : p < T.toList.length := by rw [Array.length_toList]; omega
    have hd := List.drop_eq_getElem_cons hlt
    have hg := getD_rest hd
    rw [hd, List.take_succ_cons] at ha
    obtain ⟨sn1, h1⟩ := hq (T.getD p 0) sn
    have hy : q (T.getD p 0) = true := by rw [hg]; exact ha _ (.head _)
    rw [hy] at h1
    obtain ⟨sn2, h2⟩ := run_all (T := T) q hq n (p + 1) (found + 1) sn1 (by omega) (fun x hx => ha x (.tail _ hx))
    refine ⟨sn2, ?_⟩
    unfold run
    rw [h1]
    show run C T i n (p + 1) (found + 1) sn1 = _
    rw [h2, show found + 1 + n = found + (n + 1) by omega]

structure HitG (m : M) (s e p q : Nat) : Prop where
  out : m.outcome = some .matched
  start : m.start = s
  handed : m.handed = e
  lm : m.lastmark = 1
  m0 : m.marks.getD 0 none = some p
  m1 : m.marks.getD 1 none = some q

def escStart (C T : Array Nat) : M := St { baseOf C T 0 with lastStart := T.size } (RR #[none, none]) 11 0 0 true [{ wait := .nextStart, pc := 11, pos := 0, outermost := true }] none (({} : Seen).add 14)
theorem esc_start4 {T : Array Nat} (h : T.size = 6) : PySem.Sre.forSearch esc4 T 1 0 T.size false = escStart esc4 T := by
  unfold PySem.Sre.forSearch
  have hh : PySem.Sre.header esc4 = (6, 11) := by decide +kernel
  simp only [hh]
  rw [if_neg (by simp; omega)]
  rfl
theorem esc_start8 {T : Array Nat} (h : T.size = 10) : PySem.Sre.forSearch esc8 T 1 0 T.size false = escStart esc8 T := by
  unfold PySem.Sre.forSearch
  have hh : PySem.Sre.header esc8 = (10, 11) := by decide +kernel
  simp only [hh]
  rw [if_neg (by simp; omega)]
  rfl

theorem esc_search {C T : Array Nat} {n u : Nat} {hs : List Nat} (X : Esc C n u) (hT : T.toList = 92 :: u :: hs) (hl : hs.length = n) (hh : ∀ x ∈ hs, isHex x = true) (hn : n ≤ 8) :
    Ends (escStart C T) (fun m => HitG m 0 (n + 2) 2 (n + 2)) := by
  have hsz : T.size = n + 2 := by rw [← Array.length_toList, hT]; simp [hl]
  have hC := X.size
  unfold escStart
  have B : Base { baseOf C T 0 with lastStart := T.size } := ⟨rfl, by rw [show ({ baseOf C T 0 with lastStart := T.size } : M).text = T from rfl]; omega, rfl⟩
  have R0 : Rest { baseOf C T 0 with lastStart := T.size } 0 = 92 :: u :: hs := hT
  have R1 : Rest { baseOf C T 0 with lastStart := T.size } 1 = u :: hs := by show T.toList.drop 1 = _; rw [hT]; rfl
  have hd2 : T.toList.drop 2 = hs := by rw [hT]; rfl
  have G : Goes 16 (St { baseOf C T 0 with lastStart := T.size } (RR #[none, none]) 11 0 0 true [{ wait := .nextStart, pc := 11, pos := 0, outermost := true }] none (({} : Seen).add 14)) (fun m => HitG m 0 (n + 2) 2 (n + 2)) := by
    refine g_lit_ok (c := 15) (show 11 < C.size by omega) X.c11 B R0 X.c12 (fun sn => ?_)
    refine g_lit_ok (c := 14) (show 13 < C.size by omega) X.c13 B R1 X.c14 (fun sn => ?_)
    refine g_mark (c := 13) (show 15 < C.size by omega) X.c15 X.c16 rfl (fun sn => ?_)
    refine g_rep1 (c := 12) (n := n) (show 17 < C.size by omega) X.c17 B X.c18 X.c19 X.c20 (show 2 + n ≤ T.size by omega) (fun sn => ?_) (Nat.le_refl _) (by decide) (by decide) (fun sn => ?_)
    · show ∃ sn', run C T 21 (min n (T.size - 2)) 2 0 sn = .ok (n, sn')
      have := run_all isHex (T := T) (fun x sn => acc_hex X x sn) n 2 0 sn (by omega) (fun x hx => hh x (by rw [hd2] at hx; exact List.mem_of_mem_take hx))
      rw [show min n (T.size - 2) = n by omega, Nat.zero_add] at *
      exact this
    refine g_mark (c := 11) (show 34 < C.size by omega) X.c34 X.c35 rfl (fun sn => ?_)
    refine g_success (c := 10) (show 36 < C.size by omega) X.c36 B rfl (fun sn => ?_)
    refine ((t_all _ _ _ _ _ _ _ ?_).le (by simp)).mono (fun m hm => ?_)
    · intro f hf
      simp only [List.mem_cons, List.not_mem_nil, or_false] at hf
      rcases hf with rfl | rfl <;> rfl
    obtain ⟨o, st, hd, mk, lm, li⟩ := hm
    refine ⟨o, st, ?_, lm, ?_, ?_⟩
    · rw [hd]; omega
    · rw [mk]; rfl
    · rw [mk, show n + 2 = 2 + n by omega]; rfl
  obtain ⟨k, hk, hp⟩ := G
  exact ⟨k, by omega, by simp [hp.out], hp⟩
end Mine

-- Rw0
set_option autoImplicit false
set_option maxRecDepth 100000
namespace Mine
open PySem PySem.W PySem.Calls PyProof.Rows PySem.Builtin.Re

theorem plain_pat : PlainAttrs "re.Pattern" :=
  ⟨⟨"object.__getattribute__", by rw [typeLookup_type, builtinLookup_eq_fast]; kernel_rfl, by decide +kernel⟩, by rw [typeLookup_type, builtinLookup_eq_fast]; kernel_rfl⟩
theorem plain_mat : PlainAttrs "re.Match" :=
  ⟨⟨"object.__getattribute__", by rw [typeLookup_type, builtinLookup_eq_fast]; kernel_rfl, by decide +kernel⟩, by rw [typeLookup_type, builtinLookup_eq_fast]; kernel_rfl⟩
theorem own_pat : Manifest.owners.lookup (String.ofList ['n','r','e','t','t','a','P','.','e','r'].reverse) = some Manifest.sig_re_Pattern := by kernel_rfl
theorem own_mat : Manifest.owners.lookup (String.ofList ['h','c','t','a','M','.','e','r'].reverse) = some Manifest.sig_re_Match := by kernel_rfl

theorem slot_match : Slot "re.Pattern" "match" "re.Pattern.match" :=
  .of (owner := "re.Pattern") (n := "match") (by rw [typeLookup_type, builtinLookup_eq_fast]; kernel_rfl) (by decide +kernel) (by decide +kernel) (by decide +kernel)
    (by first | exact .inl (by decide +kernel) | exact .inr (by decide +kernel)) (by rw [isSubtype_type]; kernel_rfl)
theorem type_match : typeOf (.builtin "re.Pattern.match") = pure (.type "method_descriptor") := by show builtinType _ = _; rw [builtinType_eq_fast]; kernel_rfl
theorem entry_match : entryFor table "re.Pattern.match" = some Builtin.«re.Pattern.match» := entryFor_of_tree (by kernel_rfl)
theorem args_match (a b c : Value) : argsOk "re.Pattern.match" ⟨[a, b, c], []⟩ := by
  unfold argsOk; rw [signature?_of (id := "re.Pattern.match") (n := ['h','c','t','a','m']) (o := ['n','r','e','t','t','a','P','.','e','r']) (by kernel_rfl) own_pat]; kernel_rfl

theorem slot_search : Slot "re.Pattern" "search" "re.Pattern.search" :=
  .of (owner := "re.Pattern") (n := "search") (by rw [typeLookup_type, builtinLookup_eq_fast]; kernel_rfl) (by decide +kernel) (by decide +kernel) (by decide +kernel)
    (by first | exact .inl (by decide +kernel) | exact .inr (by decide +kernel)) (by rw [isSubtype_type]; kernel_rfl)
theorem type_search : typeOf (.builtin "re.Pattern.search") = pure (.type "method_descriptor") := by show builtinType _ = _; rw [builtinType_eq_fast]; kernel_rfl
theorem entry_search : entryFor table "re.Pattern.search" = some Builtin.«re.Pattern.search» := entryFor_of_tree (by kernel_rfl)
theorem args_search (a b c : Value) : argsOk "re.Pattern.search" ⟨[a, b, c], []⟩ := by
  unfold argsOk; rw [signature?_of (id := "re.Pattern.search") (n := ['h','c','r','a','e','s']) (o := ['n','r','e','t','t','a','P','.','e','r']) (by kernel_rfl) own_pat]; kernel_rfl

theorem slot_end : Slot "re.Match" "end" "re.Match.end" :=
  .of (owner := "re.Match") (n := "end") (by rw [typeLookup_type, builtinLookup_eq_fast]; kernel_rfl) (by decide +kernel) (by decide +kernel) (by decide +kernel)
    (by first | exact .inl (by decide +kernel) | exact .inr (by decide +kernel)) (by rw [isSubtype_type]; kernel_rfl)
theorem type_end : typeOf (.builtin "re.Match.end") = pure (.type "method_descriptor") := by show builtinType _ = _; rw [builtinType_eq_fast]; kernel_rfl
theorem entry_end : entryFor table "re.Match.end" = some Builtin.«re.Match.end» := entryFor_of_tree (by kernel_rfl)
theorem args_end (a : Value) : argsOk "re.Match.end" ⟨[a], []⟩ := by
  unfold argsOk; rw [signature?_of (id := "re.Match.end") (n := ['d','n','e']) (o := ['h','c','t','a','M','.','e','r']) (by kernel_rfl) own_mat]; kernel_rfl
theorem slot_start : Slot "re.Match" "start" "re.Match.start" :=
  .of (owner := "re.Match") (n := "start") (by rw [typeLookup_type, builtinLookup_eq_fast]; kernel_rfl) (by decide +kernel) (by decide +kernel) (by decide +kernel)
    (by first | exact .inl (by decide +kernel) | exact .inr (by decide +kernel)) (by rw [isSubtype_type]; kernel_rfl)
theorem type_start : typeOf (.builtin "re.Match.start") = pure (.type "method_descriptor") := by show builtinType _ = _; rw [builtinType_eq_fast]; kernel_rfl
theorem entry_start : entryFor table "re.Match.start" = some Builtin.«re.Match.start» := entryFor_of_tree (by kernel_rfl)
theorem args_start (a : Value) : argsOk "re.Match.start" ⟨[a], []⟩ := by
  unfold argsOk; rw [signature?_of (id := "re.Match.start") (n := ['t','r','a','t','s']) (o := ['h','c','t','a','M','.','e','r']) (by kernel_rfl) own_mat]; kernel_rfl

end Mine

-- Rw1
set_option autoImplicit false
set_option maxRecDepth 100000
namespace Mine
open PySem PySem.W PySem.Calls PyProof.Rows PySem.Builtin.Re

section
variable {M : PySem.Model} {A : Around} {E : Value → Shared → Prop} {s : Shared}

theorem drive_ends {m : Sre.M} {P : Sre.M → Prop} {Q : Sre.M → Shared → Prop} (h : Ends m P) (hq : ∀ m', m'.outcome.isSome = true → P m' → Q m' s) : wpAny M A (reDrive (2 ^ 64) m) Q E s := by
  obtain ⟨n, hn, ho, hp⟩ := h
  have key : ∀ (t : Nat) (m : Sre.M) (n : Nat), n ≤ 4 * (t + 1) → (It n m).outcome.isSome = true → P (It n m) → wpAny M A (reDrive (t + 1) m) Q E s := by
    intro t
    induction t with
    | zero =>
      intro m n hn ho hp
      unfold reDrive
      have e4 : (Sre.M.runFor reTurnSteps m) = It 4 m := runFor_eq 4 m
      have h4 : (It 4 m).outcome.isSome = true := by
        obtain ⟨d, hd⟩ := Nat.exists_eq_add_of_le (show n ≤ 4 by omega)
        rw [hd, It_add, It_of_some ho]; exact ho
      have e5 : It 4 m = It n m := It_same h4 ho
      dsimp only
      rw [e4, if_pos h4, e5]
      exact wpAny_pure (hq _ ho hp)
    | succ t ih =>
      intro m n hn ho hp
      unfold reDrive
      have e4 : (Sre.M.runFor reTurnSteps m) = It 4 m := runFor_eq 4 m
      dsimp only
      rw [e4]
      by_cases h4 : (It 4 m).outcome.isSome = true
      · have e5 : It 4 m = It n m := It_same h4 ho
        rw [if_pos h4, e5]
        exact wpAny_pure (hq _ ho hp)
      · rw [if_neg h4]
        have hn4 : 4 < n := by
          rcases Nat.lt_or_ge 4 n with q | q
          · exact q
          · exfalso
            obtain ⟨d, hd⟩ := Nat.exists_eq_add_of_le q
            rw [hd, It_add, It_of_some ho] at h4
            exact h4 ho
        obtain ⟨d, hd⟩ := Nat.exists_eq_add_of_le (Nat.le_of_lt hn4)
        have e6 : It n m = It d (It 4 m) := by rw [hd, It_add]
        rw [e6] at ho hp
        exact wpAny_bind (wpAny_rule (ih (It 4 m) d (by omega) ho hp))
  have e : (2 : Nat) ^ 64 = (2 ^ 64 - 1) + 1 := by decide
  rw [e]
  exact key _ m n (by omega) ho hp
end
end Mine

-- Rw2
set_option autoImplicit false
set_option maxRecDepth 100000
namespace Mine
open PySem PySem.W PySem.Calls PyProof.Rows PySem.Builtin.Re

section
variable {M : PySem.Model} {A : Around} {E : Value → Shared → Prop} {s : Shared}

theorem for_rules {α : Type} {f : α → PUnit → Sem (ForInStep PUnit)} (hf : ∀ a (Q : ForInStep PUnit → Shared → Prop), Q (.yield ⟨⟩) s → wpAny M A (f a ⟨⟩) Q E s) {Q : PUnit → Shared → Prop} (hq : Q ⟨⟩ s) : ∀ l : List α, wpAny M A (forIn l PUnit.unit f) Q E s
  | [] => wpAny_pure hq
  | a :: l => by
    rw [List.forIn_cons]
    exact wpAny_bind (hf a _ (for_rules hf hq l))

theorem to_end {m : Sre.M} {P : Sre.M → Prop} {Q : Option Sre.M → Shared → Prop} (h : Ends m P) (hP : ∀ m', P m' → m'.outcome = some .matched ∨ m'.outcome = some .failed)
    (hq : ∀ m', P m' → m'.outcome = some .matched → Q (some m') s) (hn : ∀ m', P m' → m'.outcome = some .failed → Q none s) : wpAny M A (reRunToEnd m) Q E s := by
  unfold reRunToEnd
  refine wpAny_bind (drive_ends h (fun m' _ hp => ?_))
  refine wpAny_bind (for_rules (fun a Q hq => ?_) ?_ _)
  · split
    · exact wpAny_bind (wpAny_rule (wpAny_pure hq))
    · exact wpAny_pure hq
  · rcases hP m' hp with e | e
    · rw [e]; exact wpAny_pure (hq m' hp e)
    · rw [e]; exact wpAny_pure (hn m' hp e)

/-- a match as the ledger bears it -/
def matObj (pat str : Value) (pos lim : Nat) (li : Int) (tup : Addr) : Obj := { cls := .type "re.Match", data := .fields #[str, pat, rawInt pos, rawInt lim, rawInt li, .ref tup] }
def matTup (st en : Nat) (more : List Value) : Obj := { cls := .type "tuple", data := .seq (rawInt st :: rawInt en :: more).toArray }

theorem new_match {pat str : Value} {groups pos lim st en : Nat} {m : Sre.M} {Q : Value → Shared → Prop} (hm : Hit m st en) (hg : groups ≤ 1)
    (h : ∀ more li, Q (.ref (s.heap.push (matTup st en more)).objs.size) { s with heap := (s.heap.push (matTup st en more)).push (matObj pat str pos lim li s.heap.objs.size) }) : wpAny M A (reNewMatch pat str groups pos lim m) Q E s := by
  unfold reNewMatch
  dsimp only
  split
  · rename_i hany
    exfalso
    rw [List.any_eq_true] at hany
    obtain ⟨g, hgm, hh⟩ := hany
    have hg0 : g = 0 := by have := List.mem_range.mp hgm; omega
    subst hg0
    rcases hm.marks with h1 | ⟨h1, p, q, e1, e2, hpq⟩
    · split at hh
      · simp [h1] at hh
      · cases hh
    · split at hh
      · rename_i b e hb he
        simp only [Nat.mul_zero, Nat.zero_add] at hb he
        rw [e1] at hb; rw [e2] at he
        cases hb; cases he
        simp at hh
        omega
      · cases hh
  · refine wpAny_bind ?_
    rw [hm.start, hm.handed]
    refine wpAny_newObj_type ?_ ?_
    · refine wpAny_newObj_type ?_ ?_
      · exact h _ m.lastindex
      · size_fits
    · show _ ≤ sizeLine
      rcases Nat.eq_zero_or_pos groups with h0 | h0
      · subst h0
        exact Nat.le_of_ble_eq_true rfl
      · have h1 : groups = 1 := by omega
        subst h1
        simp only [List.range_one, List.flatMap_singleton]
        split
        · exact Nat.le_of_ble_eq_true rfl
        · exact Nat.le_of_ble_eq_true rfl
end
end Mine

-- Rw3
set_option autoImplicit false
set_option maxRecDepth 100000
namespace Mine
open PySem PySem.W PySem.Calls PyProof.Rows PySem.Builtin.Re

section
variable {M : PySem.Model} {A : Around} {E : Value → Shared → Prop} {s : Shared}

theorem fields_of {a : Addr} {o : Obj} {vs : Array Value} {Q : Array Value → Shared → Prop} (ho : s.heap.get? a = some o) (hd : o.data = .fields vs) (h : Q vs s) : wpAny M A (fieldsOf (.ref a)) Q E s := by
  unfold fieldsOf
  refine wpAny_bind (wpAny_load ho ?_)
  rw [hd]; exact wpAny_pure h
theorem raw_items {a : Addr} {o : Obj} {vs : Array Value} {n : Nat} {Q : Array Int → Shared → Prop} (ho : s.heap.get? a = some o) (hd : o.data = .seq vs n) (h : Q (vs.map reRawOf) s) : wpAny M A (reRawItems (.ref a)) Q E s := by
  unfold reRawItems seqItems?
  refine wpAny_bind (wpAny_bind (wpAny_load ho ?_))
  rw [hd]; exact wpAny_pure (wpAny_pure h)

theorem ssize {i : Int} {u : Tok} {Q : Int → Shared → Prop} (h0 : 0 ≤ i) (h1 : i < 2 ^ 63) (h : Q i s) : wpAny M A (reSsize (.int i u)) Q E s := by
  unfold reSsize asIndex asInt?
  refine wpAny_bind (wpAny_bind (wpAny_pure ?_))
  refine wpAny_pure ?_
  have e : (decide (i < -(2 ^ 63)) || decide (i ≥ 2 ^ 63)) = false := by
    rw [Bool.or_eq_false_iff]
    exact ⟨decide_eq_false (by omega), decide_eq_false (by omega)⟩
  dsimp only
  rw [if_neg (by rw [e]; exact Bool.false_ne_true)]
  exact wpAny_pure h

/-- a pattern as the top made it -/
structure PatAt (h : Heap) (p : Addr) (code : Array Nat) (groups : Nat) : Prop where
  ex : ∃ o v0 v1 v3 v4 tup tg tw ot vs n, h.get? p = some o ∧ o.cls = .type "re.Pattern" ∧ o.dict = none ∧ o.data = .fields #[v0, v1, .int (groups : Nat) tg, v3, v4, .ref tup, .int 0 tw] ∧ h.get? tup = some ot ∧ ot.data = .seq vs n ∧ (vs.map reRawOf).map (·.toNat) = code
theorem PatAt.keeps {h h' : Heap} {p : Addr} {code : Array Nat} {groups : Nat} (P : PatAt h p code groups) (k : ∀ b o, h.get? b = some o → h'.get? b = some o) : PatAt h' p code groups := by
  obtain ⟨o, v0, v1, v3, v4, tup, tg, tw, ot, vs, n, h1, h2, h3, h4, h5, h6, h7⟩ := P.ex
  exact ⟨o, v0, v1, v3, v4, tup, tg, tw, ot, vs, n, k _ _ h1, h2, h3, h4, k _ _ h5, h6, h7⟩

theorem target_ok {p : Addr} {code : Array Nat} {groups : Nat} {x : PySem.Str} {t u : Tok} {i : Int} {id f : String} {Q : ReTarget → Shared → Prop} (P : PatAt s.heap p code groups) (h0 : 0 ≤ i) (h1 : i ≤ x.length) (hx : x.length ≤ 16777216)
    (hn : reNamed id f ["string", "pos", "endpos"] 1 [.str x t, .int i u] [] = pure [some (.str x t), some (.int i u), none])
    (h : Q { pattern := .ref p, string := .str x t, code := code, text := x.cps, kind := 0, groups := groups, pos := i.toNat, lim := x.cps.size } s) : wpAny M A (reTarget id f ⟨[.ref p, .str x t, .int i u], []⟩) Q E s := by
  obtain ⟨o, v0, v1, v3, v4, tup, tg, tw, ot, vs, n, g1, g2, g3, g4, g5, g6, g7⟩ := P.ex
  have hs : x.length = x.cps.size := rfl
  unfold reTarget
  dsimp only
  rw [hn]
  refine wpAny_bind (wpAny_pure ?_)
  dsimp only
  refine wpAny_bind (ssize h0 (by omega) ?_)
  refine wpAny_bind (wpAny_pure ?_)
  refine wpAny_bind (fields_of g1 g4 ?_)
  unfold reTextOf asStr?
  refine wpAny_bind (wpAny_bind (wpAny_pure ?_))
  refine wpAny_pure ?_
  refine wpAny_bind (wpAny_pure ?_)
  refine wpAny_bind (raw_items g5 g6 ?_)
  refine wpAny_pure ?_
  have e1 : min i.toNat x.cps.size = i.toNat := by omega
  have e2 : min ((2 : Int) ^ 63 - 1).toNat x.cps.size = x.cps.size := by omega
  have e3 : reRawNat (.int (groups : Nat) tg) = groups := rfl
  show Q { pattern := .ref p, string := .str x t, code := (vs.map reRawOf).map (·.toNat), text := x.cps, kind := 0, groups := reRawNat (.int (groups : Nat) tg), pos := min i.toNat x.cps.size, lim := min ((2 : Int) ^ 63 - 1).toNat x.cps.size } s
  rw [e1, e2, e3, g7]
  exact h

theorem named3 (id f : String) (a b : Value) : reNamed id f ["string", "pos", "endpos"] 1 [a, b] [] = pure [some a, some b, none] := by
  rfl
end
section
variable {prog : Program} {w : World} {A : Around} {E : Value → Shared → Prop} {s : Shared} {h₀ : Heap} {L : Addr} {m : PySem.Str → Option Value} {news : List (Addr × Obj)}

theorem match_get {p : Addr} {code : Array Nat} {groups : Nat} {pl : Sem Bool} {Q : Value × List Value → Shared → Prop} (P : PatAt s.heap p code groups) (h : Q (.builtin "re.Pattern.match", [.ref p]) s) : wpAny (model prog w) A (getMethod (.ref p) "match" pl) Q E s := by
  obtain ⟨o, v0, v1, v3, v4, tup, tg, tw, ot, vs, n, g1, g2, g3, g4, g5, g6, g7⟩ := P.ex
  exact getMethod_builtin ⟨o, g1, g2⟩ plain_pat slot_match type_match (fun a e => by cases e; exact ⟨o, g1, g3⟩) h
theorem search_get {p : Addr} {code : Array Nat} {groups : Nat} {pl : Sem Bool} {Q : Value × List Value → Shared → Prop} (P : PatAt s.heap p code groups) (h : Q (.builtin "re.Pattern.search", [.ref p]) s) : wpAny (model prog w) A (getMethod (.ref p) "search" pl) Q E s := by
  obtain ⟨o, v0, v1, v3, v4, tup, tg, tw, ot, vs, n, g1, g2, g3, g4, g5, g6, g7⟩ := P.ex
  exact getMethod_builtin ⟨o, g1, g2⟩ plain_pat slot_search type_search (fun a e => by cases e; exact ⟨o, g1, g3⟩) h

/-- pattern.match(text, place): none, or a match made -/
theorem match_call {p : Addr} {code : Array Nat} {groups : Nat} {x : PySem.Str} {t u : Tok} {i : Int} {r : Option Nat} {Q : Value → Shared → Prop} (F : Fr h₀ L s.heap m) (N : News h₀ L s.heap news) (P : PatAt s.heap p code groups) (hg : groups ≤ 1)
    (h0 : 0 ≤ i) (h1 : i ≤ x.length) (hx : x.length ≤ 16777216)
    (hE : Ends (Sre.forMatch code x.cps groups i.toNat x.cps.size false false) (fun m => match r with | some k => Hit m i.toNat (i.toNat + k) | none => m.outcome = some .failed))
    (hn : r = none → Q .none s)
    (hy : ∀ k a b more li h', r = some k → Fr h₀ L h' m → News h₀ L h' ((b, matObj (.ref p) (.str x t) i.toNat x.cps.size li a) :: (a, matTup i.toNat (i.toNat + k) more) :: news) → (∀ q ∈ news, q.1 < a) → a < b → Q (.ref b) { s with heap := h' }) :
    wpAny (model prog w) A (call (.builtin "re.Pattern.match") [.ref p, .str x t, .int i u]) Q E s := by
  obtain ⟨o, v0, v1, v3, v4, tup, tg, tw, ot, vs, n, g1, g2, g3, g4, g5, g6, g7⟩ := P.ex
  refine wpAny_call (codeAny_call_builtin slot_match.plain entry_match (slot_match.check _ _ _ _ _ _ _ _ ⟨o, g1, g2⟩ (args_match _ _ _) ?_))
  unfold Builtin.«re.Pattern.match»
  refine wpAny_bind (target_ok P h0 h1 hx (named3 _ _ _ _) ?_)
  unfold reAnswer
  refine wpAny_bind (to_end hE (fun m' hm => ?_) (fun m' hm ho => ?_) (fun m' hm ho => ?_))
  · cases r with
    | none => exact .inr hm
    | some k => exact .inl hm.out
  · cases r with
    | none => rw [show m'.outcome = _ from hm] at ho; cases ho
    | some k =>
      dsimp only
      refine wpAny_bind (new_match hm hg (fun more li => ?_))
      refine wpAny_pure ?_
      have F1 := F.push (matTup i.toNat (i.toNat + k) more)
      have N1 := News.push F N (matTup i.toNat (i.toNat + k) more) rfl
      have F2 := F1.push (matObj (.ref p) (.str x t) i.toNat x.cps.size li s.heap.objs.size)
      have N2 := News.push F1 N1 (matObj (.ref p) (.str x t) i.toNat x.cps.size li s.heap.objs.size) rfl
      refine hy k s.heap.objs.size _ more li _ rfl F2 N2 (fun q hq => Heap.lt_size (N q hq).1) ?_
      have := Heap.lt_size (N1 _ (.head _)).1
      exact this
  · cases r with
    | none => exact wpAny_pure (hn rfl)
    | some k => rw [(show Hit m' _ _ from hm).out] at ho; cases ho

theorem mat_get {b a : Addr} {pat str : Value} {pos lim : Nat} {li : Int} {pl : Sem Bool} {Q : Value × List Value → Shared → Prop} (N : News h₀ L s.heap news) (hb : (b, matObj pat str pos lim li a) ∈ news) (h : Q (.builtin "re.Match.end", [.ref b]) s) :
    wpAny (model prog w) A (getMethod (.ref b) "end" pl) Q E s :=
  getMethod_builtin ⟨_, (N _ hb).1, rfl⟩ plain_mat slot_end type_end (fun a' e => by cases e; exact ⟨_, (N _ hb).1, rfl⟩) h
theorem mat_get_start {b a : Addr} {pat str : Value} {pos lim : Nat} {li : Int} {pl : Sem Bool} {Q : Value × List Value → Shared → Prop} (N : News h₀ L s.heap news) (hb : (b, matObj pat str pos lim li a) ∈ news) (h : Q (.builtin "re.Match.start", [.ref b]) s) :
    wpAny (model prog w) A (getMethod (.ref b) "start" pl) Q E s :=
  getMethod_builtin ⟨_, (N _ hb).1, rfl⟩ plain_mat slot_start type_start (fun a' e => by cases e; exact ⟨_, (N _ hb).1, rfl⟩) h

theorem found_ok {b a : Addr} {pat str : Value} {pos lim st en : Nat} {li : Int} {more : List Value} {Q : ReFound → Shared → Prop} {M : PySem.Model} (N : News h₀ L s.heap news) (hb : (b, matObj pat str pos lim li a) ∈ news) (ha : (a, matTup st en more) ∈ news)
    (h : Q { fields := #[str, pat, rawInt pos, rawInt lim, rawInt li, .ref a], spans := (rawInt st :: rawInt en :: more).toArray.map reRawOf } s) : wpAny M A (reFound (.ref b)) Q E s := by
  unfold reFound
  refine wpAny_bind (fields_of (N _ hb).1 rfl ?_)
  refine wpAny_bind ?_
  show wpAny M A (reRawItems (.ref a)) _ _ _
  exact raw_items (N _ ha).1 rfl (wpAny_pure h)

theorem mat_end {b a : Addr} {pat str : Value} {pos lim st en : Nat} {li : Int} {more : List Value} {Q : Value → Shared → Prop} (N : News h₀ L s.heap news) (hb : (b, matObj pat str pos lim li a) ∈ news) (ha : (a, matTup st en more) ∈ news)
    (h : ∀ t, Q (.int (en : Int) t) { s with toks := s.toks + 1 }) : wpAny (model prog w) A (call (.builtin "re.Match.end") [.ref b]) Q E s := by
  refine wpAny_call (codeAny_call_builtin slot_end.plain entry_end (slot_end.check _ _ _ _ _ _ _ _ ⟨_, (N _ hb).1, rfl⟩ (args_end _) ?_))
  unfold Builtin.«re.Match.end» reOneGroup
  refine wpAny_bind (wpAny_bind (wpAny_pure ?_))
  refine wpAny_bind (found_ok N hb ha ?_)
  refine wpAny_bind (wpAny_pure (wpAny_pure ?_))
  have e : ((rawInt st :: rawInt en :: more).toArray.map reRawOf).getD (2 * 0 + 1) (-1) = (en : Int) := by
    simp [rawInt, reRawOf]
  dsimp only
  rw [e]
  exact wpAny_bind (wpAny_bind (wpAny_fresh (wpAny_pure (wpAny_pure (h _)))))
theorem mat_start {b a : Addr} {pat str : Value} {pos lim st en : Nat} {li : Int} {more : List Value} {Q : Value → Shared → Prop} (N : News h₀ L s.heap news) (hb : (b, matObj pat str pos lim li a) ∈ news) (ha : (a, matTup st en more) ∈ news)
    (h : ∀ t, Q (.int (st : Int) t) { s with toks := s.toks + 1 }) : wpAny (model prog w) A (call (.builtin "re.Match.start") [.ref b]) Q E s := by
  refine wpAny_call (codeAny_call_builtin slot_start.plain entry_start (slot_start.check _ _ _ _ _ _ _ _ ⟨_, (N _ hb).1, rfl⟩ (args_start _) ?_))
  unfold Builtin.«re.Match.start» reOneGroup
  refine wpAny_bind (wpAny_bind (wpAny_pure ?_))
  refine wpAny_bind (found_ok N hb ha ?_)
  refine wpAny_bind (wpAny_pure (wpAny_pure ?_))
  have e : ((rawInt st :: rawInt en :: more).toArray.map reRawOf).getD (2 * 0) (-1) = (st : Int) := by
    simp [rawInt, reRawOf]
  dsimp only
  rw [e]
  exact wpAny_bind (wpAny_bind (wpAny_fresh (wpAny_pure (wpAny_pure (h _)))))
end
end Mine

-- K1
set_option autoImplicit false
set_option maxRecDepth 100000
namespace Mine
open PySem PySem.W PySem.Calls PyProof.Rows

/-- the signs of a text -/
def cs (x : PySem.Str) : List Nat := x.cps.toList
theorem cs_app (a b : PySem.Str) : cs (a ++ b) = cs a ++ cs b := by
  unfold cs; rw [PySem.Str.cps_append, Array.toList_append]
theorem cs_len (a : PySem.Str) : (cs a).length = a.length := Array.length_toList
theorem cs_inj {a b : PySem.Str} (h : cs a = cs b) : a = b := by
  obtain ⟨x⟩ := a; obtain ⟨y⟩ := b
  unfold cs at h
  exact congrArg PySem.Str.mk (Array.toList_inj.mp h)

theorem cs_join (ps : List PySem.Str) : cs (PySem.Txt.join (PySem.Str.ofString "") ps) = (ps.map cs).flatten := by
  have e0 : cs (PySem.Str.ofString "") = [] := by decide +kernel
  show cs (Builtin.Str.glued (PySem.Str.ofString "") ps) = _
  rw [StrLaws.glued_eq_join]
  induction ps with
  | nil => rfl
  | cons a r ih =>
    cases r with
    | nil => simp [PySem.Str.join]
    | cons b r =>
      have : PySem.Str.join (PySem.Str.ofString "") (a :: b :: r) = a ++ PySem.Str.ofString "" ++ PySem.Str.join (PySem.Str.ofString "") (b :: r) := rfl
      rw [this, cs_app, cs_app, ih, e0]
      simp
theorem flat_len {B : Nat} : ∀ (ps : List PySem.Str), (∀ p ∈ ps, p.length ≤ B) → (ps.map cs).flatten.length ≤ ps.length * B
  | [], _ => by simp
  | a :: r, h => by
    have h1 := h a (.head _)
    have h2 := flat_len r (fun p hp => h p (.tail _ hp))
    rw [← cs_len] at h1
    simp only [List.map_cons, List.flatten_cons, List.length_append, List.length_cons]
    rw [Nat.add_mul, Nat.one_mul]
    omega
theorem join_len {B : Nat} {ps : List PySem.Str} (h : ∀ p ∈ ps, p.length ≤ B) : (PySem.Txt.join (PySem.Str.ofString "") ps).length ≤ ps.length * B := by
  rw [← cs_len, cs_join]; exact flat_len ps h

theorem strs_values : ∀ {vs : List Value} {ss : List PySem.Str}, StrsAre vs ss → ∃ l : List (PySem.Str × Tok), strValues l = vs ∧ l.map (·.1) = ss
  | _, _, .nil => ⟨[], rfl, rfl⟩
  | _, _, .cons y t r => by
    obtain ⟨l, e1, e2⟩ := strs_values r
    exact ⟨(y, t) :: l, by rw [← e1]; rfl, by rw [← e2]; rfl⟩

section
variable {prog : Program} {w : World} {A : Around} {E : Value → Shared → Prop} {s : Shared} {h₀ : Heap} {L l : Addr} {m : PySem.Str → Option Value} {news : List (Addr × Obj)} {value slice : PySem.Expr} {vs : List Value} {ss ms : List PySem.Str} {vl vu : Value} {lo hi : Option Int} {Q : Value → Shared → Prop}

theorem join_strs {t : Tok} (B : Nat) (hl : s.heap.IsList l vs.toArray) (hs : StrsAre vs ss) (hB : ∀ p ∈ ss, p.length ≤ B) (hn : ss.length * B ≤ 16777216)
    (h : ∀ t' k, Q (.str (PySem.Txt.join (PySem.Str.ofString "") ss) t') { s with toks := k }) : wpAny (model prog w) A (PySem.call (.builtin "str.join") [.str (PySem.Str.ofString "") t, .ref l]) Q E s := by
  obtain ⟨lv, e1, e2⟩ := strs_values hs
  subst e1
  refine SC.join hl e2 ?_ h
  unfold JoinOk
  rw [StrLaws.joinFits hB (by rw [show (PySem.Str.ofString "").length = 0 from rfl]; omega)]
  rfl

theorem strs_upto {y : Int} (hs : StrsAre vs ss) (h : 0 ≤ y) : StrsAre (slicePick vs.toArray none (some y) none).toList (ss.take y.toNat) := by
  have e : sliceBounds none (some y) none vs.toArray.size = (((0 : Nat) : Int), ((min y.toNat vs.toArray.size : Nat) : Int), 1) := by
    simp only [sliceBounds, Option.getD_none, show (1 : Int) > 0 by decide, if_true, if_neg (show ¬ (y < 0) by omega)]
    congr 1
    congr 1
    omega
  rw [kmk_pick_nat _ e]
  have : ((vs.drop 0).take (min y.toNat vs.toArray.size - 0)) = vs.take y.toNat := by
    rw [List.drop_zero, Nat.sub_zero, List.size_toArray, kmk_take_min]
  show StrsAre ((vs.drop 0).take (min y.toNat vs.toArray.size - 0)) _
  rw [this]
  exact hs.take' _
theorem strs_from {x : Int} (hs : StrsAre vs ss) (h : 0 ≤ x) : StrsAre (slicePick vs.toArray (some x) none none).toList (ss.drop x.toNat) := by
  have e : sliceBounds (some x) none none vs.toArray.size = (((min x.toNat vs.toArray.size : Nat) : Int), ((vs.toArray.size : Nat) : Int), 1) := by
    simp only [sliceBounds, Option.getD_none, show (1 : Int) > 0 by decide, if_true, if_neg (show ¬ (x < 0) by omega)]
    congr 1
    omega
  rw [kmk_pick_nat _ e]
  have : ((vs.drop (min x.toNat vs.toArray.size)).take (vs.toArray.size - min x.toNat vs.toArray.size)) = vs.drop x.toNat := by
    rw [List.size_toArray, kmk_drop_min, List.take_of_length_le (by rw [List.length_drop]; omega)]
  show StrsAre ((vs.drop (min x.toNat vs.toArray.size)).take (vs.toArray.size - min x.toNat vs.toArray.size)) _
  rw [this]
  exact hs.drop' _

theorem slice_strs (F : Fr h₀ L s.heap m) (N : News h₀ L s.heap news) (hl : s.heap.IsList l vs.toArray) (pl : IsPart vl lo) (pu : IsPart vu hi) (_ : StrsAre vs ss) (hm : StrsAre (slicePick vs.toArray lo hi none).toList ms)
    (h : ∀ D ws h', Fr h₀ L h' m → News h₀ L h' ((D, listOf (List.toArray ws) 0) :: news) → (∀ p ∈ news, p.1 < D) → StrsAre ws ms → Q (.ref D) { s with heap := h' })
    (hs : subscripted slice false (.ref l) (.ref s.heap.objs.size) = operate [.ref s.heap.objs.size, .ref l] (getItem (.ref l) (.ref s.heap.objs.size))) (ht : ∀ r, letTemporaryGo value (.ref l) r = pure ()) (hz : vs.toArray.size ≤ sizeLine) :
    wpAny (model prog w) A (subscriptTail value slice (.ref l) (.ref s.heap.objs.size)) Q E { s with heap := s.heap.push { cls := .type "slice", data := .fields #[vl, vu, .none] } } := by
  refine kmk_slice F N hl pl pu (fun D h' F' N' l1 => h D (slicePick vs.toArray lo hi none).toList h' F' ?_ l1 hm) hs ht hz
  rw [Array.toArray_toList]
  exact N'

theorem item_menu {i : Int} {u : Tok} (hl : s.heap.IsList l vs.toArray) (hw : StrsAre vs ss) (h0 : 0 ≤ i) (h1 : i < (ss.length : Int)) (hfit : i < 2 ^ 63) (B : Nat) (hB : ∀ e ∈ ss, e.length ≤ B) (h : ∀ t' e, e ∈ ss → e.length ≤ B → Q (.str e t') s)
    (hs : subscripted slice false (.ref l) (.int i u) = operate [.ref l, .int i u] (getItem (.ref l) (.int i u)) := by with_unfolding_all rfl) :
    wpAny (model prog w) A (subscriptTail value slice (.ref l) (.int i u)) Q E s := by
  refine KTb.item_list hl hw h0 h1 hfit (fun t' hlt => (fun hm => h t' _ hm (hB _ hm)) ?_) hs
  rw [List.getD_eq_getElem?_getD, List.getElem?_eq_getElem hlt]
  exact List.getElem_mem _

theorem add_gen {x y : PySem.Str} {t u : Tok} (hsz : x.length + y.length ≤ 16777216) (h : ∀ z t' tk, z = x ++ y → Q (.str z t') { s with toks := tk }) : wpAny (model prog w) A (binaryOp .Add (.str x t) (.str y u)) Q E s :=
  PyProof.Rows.add_str (fun t' tk => h _ t' tk rfl) (by rw [PySem.sizeLine_eq]; exact hsz)
theorem join_gen {t : Tok} (B C : Nat) (hC : C ≤ 16777216) (hl : s.heap.IsList l vs.toArray) (hs : StrsAre vs ss) (hB : ∀ p ∈ ss, p.length ≤ B) (hn : ss.length * B ≤ C)
    (h : ∀ z t' k, z = PySem.Txt.join (PySem.Str.ofString "") ss → z.length ≤ C → Q (.str z t') { s with toks := k }) : wpAny (model prog w) A (PySem.call (.builtin "str.join") [.str (PySem.Str.ofString "") t, .ref l]) Q E s :=
  join_strs B hl hs hB (by omega) (fun t' k => h _ t' k rfl (Nat.le_trans (join_len hB) hn))
theorem len_text {x : PySem.Str} {t : Tok} (hx : x.length ≤ 16777216) (h : ∀ t k, Q (.int (x.length : Int) t) { s with toks := k }) : wpAny (model prog w) A (PySem.call (.builtin "len") [.str x t]) Q E s :=
  P.len_str (by omega) (h _ _)
theorem len_strs (hl : s.heap.IsList l vs.toArray) (hs : StrsAre vs ss) (hn : ss.length ≤ 1000000) (h : ∀ t k, Q (.int (ss.length : Int) t) { s with toks := k }) : wpAny (model prog w) A (PySem.call (.builtin "len") [.ref l]) Q E s := by
  have e2 : vs.toArray.size = ss.length := by rw [List.size_toArray, hs.length]
  exact len_list hl (by rw [e2]; omega) (by rw [e2]; exact h _ _)
end
end Mine

-- K2
set_option autoImplicit false
set_option maxRecDepth 100000
namespace Mine
open PySem PySem.W PySem.Calls PyProof.Rows

/-- a text of one sign -/
def one (c : Nat) : PySem.Str := ⟨#[c]⟩
section
variable {prog : Program} {w : World} {A : Around} {E : Value → Shared → Prop} {s : Shared} {value slice : PySem.Expr} {x : PySem.Str} {t u : Tok} {i : Int} {Q : Value → Shared → Prop}

theorem drop_of_lt {x : PySem.Str} {i : Int} (h0 : 0 ≤ i) (h : i < (x.length : Int)) : ∃ c l, (cs x).drop i.toNat = c :: l ∧ PySem.Txt.item x i = one c := by
  have hlt : i.toNat < (cs x).length := by rw [cs_len]; omega
  refine ⟨(cs x)[i.toNat], (cs x).drop (i.toNat + 1), List.drop_eq_getElem_cons hlt, ?_⟩
  have hg := getD_rest (T := x.cps) (List.drop_eq_getElem_cons hlt)
  have hs : i.toNat < x.cps.size := by have := cs_len x; show _ < x.length; omega
  unfold PySem.Txt.item one
  have : PySem.Txt.charAt x i = x.cps[i.toNat]? := by
    unfold PySem.Txt.charAt
    rw [seqIndex_of h0 h]
    rfl
  rw [this]
  rw [Array.getD_eq_getD_getElem?] at hg
  rw [hg]

theorem fits_of (h0 : 0 ≤ i) (hi : i < 2 ^ 62) : fitsSsize i = true := by
  unfold fitsSsize
  rw [decide_eq_false (by omega), decide_eq_false (by omega)]
  rfl
theorem text_at (hA : A.handled = none) (h0 : 0 ≤ i) (hi : i < 2 ^ 62)
    (hout : (x.length : Int) ≤ i → ∀ h' tk e, Heap.NewExc s.heap h' e "IndexError" → E (.ref e) { s with heap := h', toks := tk })
    (hin : ∀ c l t' k, i < (x.length : Int) → (cs x).drop i.toNat = c :: l → Q (.str (one c) t') { s with toks := k })
    (hs : subscripted slice false (.str x t) (.int i u) = operate [.str x t, .int i u] (getItem (.str x t) (.int i u)) := by with_unfolding_all rfl)
    (ht : ∀ r, letTemporaryGo value (.str x t) r = pure () := by intro _; with_unfolding_all rfl) :
    wpAny (model prog w) A (subscriptTail value slice (.str x t) (.int i u)) Q E s := by
  refine item_str_or hA (fits_of h0 hi) (fun h h' tk e x' => hout (by omega) h' tk e x') (fun h1 h2 => ?_) hs ht
  obtain ⟨c, l, e1, e2⟩ := drop_of_lt h0 h2
  rw [e2]
  exact hin c l _ _ h2 e1
theorem text_in (h0 : 0 ≤ i) (hi : i < 2 ^ 62) (hlt : i < (x.length : Int))
    (hin : ∀ c l t' k, (cs x).drop i.toNat = c :: l → Q (.str (one c) t') { s with toks := k })
    (hs : subscripted slice false (.str x t) (.int i u) = operate [.str x t, .int i u] (getItem (.str x t) (.int i u)) := by with_unfolding_all rfl)
    (ht : ∀ r, letTemporaryGo value (.str x t) r = pure () := by intro _; with_unfolding_all rfl) :
    wpAny (model prog w) A (subscriptTail value slice (.str x t) (.int i u)) Q E s := by
  refine item_str (fits_of h0 hi) (by omega) hlt (fun _ => ?_) hs ht
  obtain ⟨c, l, e1, e2⟩ := drop_of_lt h0 hlt
  rw [e2]
  exact hin c l _ _ e1
end
end Mine

-- K3
set_option autoImplicit false
set_option maxRecDepth 100000
namespace Mine
open PySem PySem.W PySem.Calls PyProof.Rows

theorem ofS (s : String) (c : Nat) (h : PySem.Str.ofString s = one c) (d : Nat) : decide (one d = PySem.Str.ofString s) = (d == c) := by
  rw [h]
  by_cases e : d = c
  · subst e; simp
  · rw [decide_eq_false (fun q => e (by unfold one at q; injection q with q; injection q with q; injection q))]
    exact (beq_eq_false_iff_ne.mpr e).symm
theorem o_blank : PySem.Str.ofString " " = one 32 := by decide +kernel
theorem o_tab : PySem.Str.ofString "\t" = one 9 := by decide +kernel
theorem o_hash : PySem.Str.ofString "#" = one 35 := by decide +kernel
theorem o_cr : PySem.Str.ofString "\r" = one 13 := by decide +kernel
theorem o_lf : PySem.Str.ofString "\n" = one 10 := by decide +kernel
theorem in_blank (c : Nat) : (false || decide (one c = PySem.Str.ofString " ") || decide (one c = PySem.Str.ofString "\t")) = isBlank c := by
  rw [ofS _ _ o_blank, ofS _ _ o_tab]; rfl
def isMark (c : Nat) : Bool := c == 35 || c == 13 || c == 10
theorem in_mark (c : Nat) : (false || decide (one c = PySem.Str.ofString "#") || decide (one c = PySem.Str.ofString "\r") || decide (one c = PySem.Str.ofString "\n")) = isMark c := by
  rw [ofS _ _ o_hash, ofS _ _ o_cr, ofS _ _ o_lf]; rfl

theorem takeWhile_le (q : Nat → Bool) (L : List Nat) : (L.takeWhile q).length ≤ L.length := (List.takeWhile_prefix q).length_le
theorem split_len (q : Nat → Bool) (L : List Nat) : (L.takeWhile q).length + (L.dropWhile q).length = L.length := by
  rw [← List.length_append, List.takeWhile_append_dropWhile]
theorem tlEol_le : ∀ (L : List Nat) (k : Nat), tlEol L = some k → 1 ≤ k ∧ k ≤ L.length := by
  intro L k h
  unfold tlEol at h
  split at h
  · cases h; simp
  · cases h; simp
  · cases h
theorem eol_le {L : List Nat} {k : Nat} (h : reMatch tlEol L = some k) : 1 ≤ k ∧ k ≤ L.length := by
  unfold reMatch at h
  obtain ⟨j, hj, rfl⟩ := Option.map_eq_some_iff.mp h
  have hs := split_len isBlank L
  have : 1 ≤ j ∧ j ≤ (L.dropWhile isBlank).length := by
    generalize L.dropWhile isBlank = R at hj
    by_cases h35 : ∃ l, R = 35 :: l
    · obtain ⟨l, rfl⟩ := h35
      rw [remark_hash] at hj
      obtain ⟨j', hj', rfl⟩ := Option.map_eq_some_iff.mp hj
      have h1 := tlEol_le _ _ hj'
      have h2 := split_len notNl l
      simp only [List.length_cons]
      omega
    · rw [remark_no (fun l e => h35 ⟨l, e⟩)] at hj
      exact tlEol_le _ _ hj
  omega

section
variable {x : PySem.Str} {i : Int}
theorem cs_drop_len (h0 : 0 ≤ i) (h1 : i ≤ (x.length : Int)) : (((cs x).drop i.toNat).length : Int) = (x.length : Int) - i := by
  rw [List.length_drop, cs_len]; omega
end

section
variable {prog : Program} {w : World} {A : Around} {E : Value → Shared → Prop} {s : Shared} {h₀ : Heap} {L p : Addr} {m : PySem.Str → Option Value} {news : List (Addr × Obj)} {x : PySem.Str} {t u : Tok} {i : Int} {Q : Value → Shared → Prop}
theorem call_eol (F : Fr h₀ L s.heap m) (N : News h₀ L s.heap news) (P : PatAt s.heap p eolCode 1) (h0 : 0 ≤ i) (h1 : i ≤ (x.length : Int)) (hx : x.length ≤ 16777216)
    (hn : reMatch tlEol ((cs x).drop i.toNat) = none → Q .none s)
    (hy : ∀ k a b more li h', reMatch tlEol ((cs x).drop i.toNat) = some k → 1 ≤ k → i + (k : Int) ≤ (x.length : Int) → Fr h₀ L h' m → News h₀ L h' ((b, matObj (.ref p) (.str x t) i.toNat x.cps.size li a) :: (a, matTup i.toNat (i.toNat + k) more) :: news) → (∀ q ∈ news, q.1 < a) → a < b → Q (.ref b) { s with heap := h' }) :
    wpAny (model prog w) A (PySem.call (.builtin "re.Pattern.match") [.ref p, .str x t, .int i u]) Q E s := by
  have hs : i.toNat ≤ x.cps.size := by show i.toNat ≤ x.length; omega
  refine match_call (r := reMatch tlEol ((cs x).drop i.toNat)) F N P (Nat.le_refl _) h0 h1 hx (eol_match hs hx) hn (fun k a b more li h' hk F' N' l1 l2 => ?_)
  have h3 := eol_le hk
  have h4 := cs_drop_len (x := x) h0 h1
  exact hy k a b more li h' hk h3.1 (by omega) F' N' l1 l2
theorem call_eof (F : Fr h₀ L s.heap m) (N : News h₀ L s.heap news) (P : PatAt s.heap p eofCode 1) (h0 : 0 ≤ i) (h1 : i ≤ (x.length : Int)) (hx : x.length ≤ 16777216)
    (hn : reMatch tlEof ((cs x).drop i.toNat) = none → Q .none s)
    (hy : ∀ k a b more li h', reMatch tlEof ((cs x).drop i.toNat) = some k → Fr h₀ L h' m → News h₀ L h' ((b, matObj (.ref p) (.str x t) i.toNat x.cps.size li a) :: (a, matTup i.toNat (i.toNat + k) more) :: news) → (∀ q ∈ news, q.1 < a) → a < b → Q (.ref b) { s with heap := h' }) :
    wpAny (model prog w) A (PySem.call (.builtin "re.Pattern.match") [.ref p, .str x t, .int i u]) Q E s := by
  have hs : i.toNat ≤ x.cps.size := by show i.toNat ≤ x.length; omega
  exact match_call (r := reMatch tlEof ((cs x).drop i.toNat)) F N P (Nat.le_refl _) h0 h1 hx (eof_match hs hx) hn hy
theorem call_ws (F : Fr h₀ L s.heap m) (N : News h₀ L s.heap news) (P : PatAt s.heap p wsCode 0) (h0 : 0 ≤ i) (h1 : i ≤ (x.length : Int)) (hx : x.length ≤ 16777216)
    (hy : ∀ k a b more li h', k = (((cs x).drop i.toNat).takeWhile isBlank).length → i + (k : Int) ≤ (x.length : Int) → Fr h₀ L h' m → News h₀ L h' ((b, matObj (.ref p) (.str x t) i.toNat x.cps.size li a) :: (a, matTup i.toNat (i.toNat + k) more) :: news) → (∀ q ∈ news, q.1 < a) → a < b → Q (.ref b) { s with heap := h' }) :
    wpAny (model prog w) A (PySem.call (.builtin "re.Pattern.match") [.ref p, .str x t, .int i u]) Q E s := by
  have hs : i.toNat ≤ x.cps.size := by show i.toNat ≤ x.length; omega
  refine match_call (r := some (((cs x).drop i.toNat).takeWhile isBlank).length) F N P (Nat.zero_le _) h0 h1 hx (ws_match hs hx) (fun e => by cases e) (fun k a b more li h' hk F' N' l1 l2 => ?_)
  cases hk
  have h3 := takeWhile_le isBlank ((cs x).drop i.toNat)
  have h4 := cs_drop_len (x := x) h0 h1
  exact hy _ a b more li h' rfl (by omega) F' N' l1 l2

theorem patK {K : Frag} {h : Heap} {tup : Addr} {v0 v1 v3 v4 oc : Value} {od : Option Addr} {osl osl2 : Array (Option Value)} {tg tw : Tok} {vs : Array Value} {n groups : Nat} {code : Array Nat} (X : K.In h)
    (h1 : K.lookup p = some { cls := .type "re.Pattern", dict := none, data := .fields #[v0, v1, .int (groups : Nat) tg, v3, v4, .ref tup, .int 0 tw], slots := osl2 }) (h2 : K.lookup tup = some { cls := oc, dict := od, data := .seq vs n, slots := osl }) (h3 : (vs.map Builtin.Re.reRawOf).map (·.toNat) = code) : PatAt h p code groups :=
  ⟨⟨_, v0, v1, v3, v4, tup, tg, tw, _, vs, n, X _ _ h1, rfl, rfl, rfl, X _ _ h2, rfl, h3⟩⟩

/-- steps of line ends -/
inductive Ln (T : List Nat) : Nat → Nat → Nat → Prop
  | refl (p : Nat) : Ln T p p 0
  | step {p q n k : Nat} : Ln T p q n → reMatch tlEol (T.drop q) = some k → Ln T p (q + k) (n + 1)
def LnAt (x : PySem.Str) (i1 i n : Int) : Prop := 0 ≤ i1 ∧ 0 ≤ i ∧ i ≤ (x.length : Int) ∧ x.length ≤ 1000 ∧ 0 ≤ n ∧ Ln (cs x) i1.toNat i.toNat n.toNat
theorem ln_start (h0 : 0 ≤ i) (h1 : i ≤ (x.length : Int)) (h2 : x.length ≤ 1000) : LnAt x i i 0 := ⟨h0, h0, h1, h2, Int.le_refl _, Ln.refl _⟩
theorem ln_step {i1 n : Int} {k : Nat} (H : LnAt x i1 i n) (hk : reMatch tlEol ((cs x).drop i.toNat) = some k) (hl : i + (k : Int) ≤ (x.length : Int)) : LnAt x i1 ((i.toNat + k : Nat) : Int) (n + 1) := by
  obtain ⟨a, b, c, d, e, f⟩ := H
  refine ⟨a, by omega, by omega, d, by omega, ?_⟩
  have := f.step hk
  rw [show (n + 1).toNat = n.toNat + 1 by omega, Int.toNat_natCast]
  exact this
end
end Mine

-- K4
set_option autoImplicit false
set_option maxRecDepth 100000
namespace Mine
open PySem PySem.W PySem.Calls PyProof.Rows PySem.Spec

section
variable {prog : Program} {w : World} {A₀ : Around} {E : Value → Shared → Prop} {s' : Shared} {base g g₀ G : Heap} {outer : List Env} {L a e : Addr} {m : PySem.Str → Option Value} {name : PySem.Str} {scope : Scope} {cd : Value}
  {b₀ : Stmt} {suite : List Stmt} {pos np : Pos} {rest : List ExceptHandler} {Q : Flow → Shared → Prop} {news : List (Addr × Obj)} {KF : Frag}
  {p : Program} {loose : List PySem.Str} {mean : ExcName → Option Value} {mg mb : PySem.Str → Option Value} {x : PySem.Str} {X T' : String}

/-- the frame looks at an exception just raised in itself -/
theorem looks_new {Q : Unit → Shared → Prop} {M : PySem.Model} (K : Below A₀ base outer g) (hx : Heap.NewExc G s'.heap e X) (F : Fr g L G m) (hk : scope.kind = .function)
    (hQ : ∀ h' a0, Heap.HeldW (hideAll G ((envOf name scope L a cd :: outer).filterMap (·.frame))) (envOf name scope L a cd :: outer) e (.type X) a0 L h' → s'.heap.UpToSlots h' → Q () { s' with heap := h' }) :
    wpAny M (A₀.deeper (envOf name scope L a cd)) (noteFrame (.ref e) (envOf name scope L a cd)) Q E s' := by
  have K' := K.push (name := name) (a := a) (cd := cd) F hk
  have hin : ∀ env ∈ (envOf name scope L a cd :: outer), ∀ b, env.frame = some b → b ∈ (envOf name scope L a cd :: outer).filterMap (·.frame) := fun env he b hb => List.mem_filterMap.mpr ⟨env, he, hb⟩
  obtain ⟨ob, tp, he, hcls, hd⟩ := hx.there
  have hen : (hideAll G ((envOf name scope L a cd :: outer).filterMap (·.frame))).get? e = none := by
    cases q : (hideAll G ((envOf name scope L a cd :: outer).filterMap (·.frame))).get? e with
    | none => rfl
    | some o => have := of_hideAll _ q; rw [hx.new] at this; cases this
  unfold noteFrame
  simp only [show (envOf name scope L a cd).frame = some L from rfl]
  refine wpAny_bind (wpAny_field he hd (x := .none) rfl ?_)
  rw [if_neg (by decide)]
  refine wpAny_entryW (base := hideAll G ((envOf name scope L a cd :: outer).filterMap (·.frame))) (a0 := tp) (Around.frames_deeper K.stack) ((funFrames_hide K'.frames hin).of_keeps fun b o hb _ => ⟨o, hx.keeps b o hb, rfl⟩) rfl he (fun b o hb => hx.keeps b o (of_hideAll _ hb)) hen hd (by show 1 < 6; decide) rfl fun h' hN => ?_
  obtain ⟨k1, k2, k3, k4⟩ := hN
  exact hQ h' tp ⟨k1, hen, k2, by rw [← hcls]; exact k3⟩ k4

theorem caught_new (hx9 : Heap.NewExc G s'.heap e X) (F : Fr g L G m) (N : News g L G news) (K : Below A₀ base outer g) (XB : KF.In base) (TB : Top p loose mean mg mb base)
    (D : KtsDicts (outer.filterMap (·.frame)) g) (T0 : KtsTurn (outer.filterMap (·.frame)) g₀ g)
    (ex : nsIn KF mainGlobals x = some none) (hv : bootBuiltins x = some (.type T')) (hn' : x ≠ "__name__")
    (hexc : isSubtype (.type T') (.type "BaseException") = pure true) (hnt : isSubtype (.type ((Manifest.find? T').elim "type" fun y => y.metatype)) (.type "tuple") = pure false) (hsub : isSubtype (.type X) (.type T') = pure true)
    (k : ∀ h' g', KtsTurn (outer.filterMap (·.frame)) g₀ g' → Fr g' L h' m → News g' L h' news → Below A₀ base outer g' → KF.In g' → Top p loose mean mg mb g' → KtsDicts (outer.filterMap (·.frame)) g' →
      wpAny (model prog w) ((A₀.deeper (envOf name scope L a cd)).mark (some (.ref e))) (execs (b₀ :: suite) (envOf name scope L a cd)) Q E { s' with heap := h' })
    (hk : scope.kind = .function := by rfl) (hx : (envOf name scope L a cd).kindOf x = some .globalImplicit := by rfl) (hd : (x == ("__debug__" : PySem.Str)) = false := by decide)
    (hE : PassesOwnAt (model prog w) ((A₀.deeper (envOf name scope L a cd)).mark (some (.ref e))) (A₀.deeper (envOf name scope L a cd)) (envOf name scope L a cd) E := by passes_own) :
    wpAny (model prog w) (A₀.deeper (envOf name scope L a cd)) (noteFrame (.ref e) (envOf name scope L a cd))
      (fun _ s₂ => wpAny (model prog w) (A₀.deeper (envOf name scope L a cd)) (setFlight (.ref e) none) (fun _ s₃ =>
        wpAny (model prog w) (A₀.deeper (envOf name scope L a cd)) (handleBy (.ref e) (envOf name scope L a cd) (.ExceptHandler (some (.Name x np)) none (b₀ :: suite) pos :: rest)) Q E s₃) E s₂) E s' := by
  have K' := K.push (name := name) (a := a) (cd := cd) F hk
  have hBG : ∀ b o, G.get? b = some o → b ∉ (envOf name scope L a cd :: outer).filterMap (·.frame) → (hideAll G ((envOf name scope L a cd :: outer).filterMap (·.frame))).get? b = some o := fun b o q nm => hideAll_get _ q nm
  have hnm : ∀ q ∈ news, q.1 ∉ (envOf name scope L a cd :: outer).filterMap (·.frame) := fun q hq hm => by
    obtain ⟨env, he, hf⟩ := List.mem_filterMap.mp hm
    rcases List.mem_cons.mp he with rfl | he
    · exact (N q hq).2.1 (Option.some.inj hf).symm
    · obtain ⟨o, ho, _⟩ := (K.frames.mem (List.mem_filterMap.mpr ⟨env, he, hf⟩)).2
      rw [(N q hq).2.2] at ho; cases ho
  have hsm : G.UpToSlots s'.heap := Heap.UpToSlots.of_keeps hx9.keeps
  refine looks_new K hx9 F hk fun h₄ a0 hheld₄ hsm₄ => ?_
  refine wpAny_landsW hheld₄ fun h₅ hheld hsm₅' => ?_
  have hsm₅ := hsm₄.trans hsm₅'
  obtain ⟨g₅, T₅, F₅, K₅⟩ := kts_ground K F hBG hheld.1 (hsm.trans hsm₅)
  have X₅ : KF.In g₅ := XB.keeps K₅.stays
  have P₅ : TopRead p loose mg mb g₅ := topRead_of (TB.keeps K₅.stays)
  obtain ⟨ob, hob, hobc⟩ := hheld.there
  refine wpAny_handleBy_builtin (X := X) (T := T') (b := true) hexc hnt hsub (name_B F₅ X₅ P₅ ex hv hn' ⟨rfl, ⟨ob, hob, hobc⟩, ?_⟩ hk hx hd)
  refine lands_againW hheld fun h₆ hfl₆ hsm₆ => ?_
  obtain ⟨g₆, T₆, F₆, K₆⟩ := kts_ground K F hBG hfl₆.1 ((hsm.trans hsm₅).trans hsm₆)
  have Nl : News g₆ L h₆ news := fun q hq => ⟨hfl₆.1 _ _ (hideAll_get _ (N q hq).1 (hnm q hq)), (N q hq).2.1, T₆.none_ _ (N q hq).2.2⟩
  exact wpAny_passesOwnAt hE (k h₆ g₆ (T0.trans T₆) F₆ Nl K₆ (XB.keeps K₆.stays) (TB.keeps K₆.stays) (D.turn T₆))
end
end Mine

-- K5
set_option autoImplicit false
set_option maxRecDepth 100000
namespace Mine
open PySem PySem.W PySem.Calls PyProof.Rows PySem.Spec

def AccEnd (h₀ : Heap) (L : Addr) (x y : PySem.Str) (m₀ : PySem.Str → Option Value) (r : Int) (nx : List (Addr × Obj)) (s₁ : Shared) (fl : Flow) (s₂ : Shared) : Prop :=
  fl = .next ∧ ∃ h' tk m' t', s₂ = { s₁ with heap := h', toks := tk } ∧ Fr h₀ L h' m' ∧ News h₀ L h' nx ∧ m' y = some (.int r t') ∧ ∀ z, z ≠ x → z ≠ y → m' z = m₀ z
theorem accEnd {h₀ : Heap} {L : Addr} {x y : PySem.Str} {m₀ m' : PySem.Str → Option Value} {r : Int} {nx : List (Addr × Obj)} {s₁ : Shared} {h' : Heap} {tk : Nat} {t' : Tok} (F : Fr h₀ L h' m') (N : News h₀ L h' nx) (hy : m' y = some (.int r t')) (hz : ∀ z, z ≠ x → z ≠ y → m' z = m₀ z) :
    AccEnd h₀ L x y m₀ r nx s₁ .next { s₁ with heap := h', toks := tk } := ⟨rfl, h', tk, m', t', rfl, F, N, hy, hz⟩

section
variable {prog : Program} {w : World} {A : Around} {E : Value → Shared → Prop} {s : Shared} {env : Env} {h₀ : Heap} {x : PySem.Str} {body : List Stmt} {Q : Flow → Shared → Prop}
theorem strs_acc {l : Addr} {vs : List Value} {ss : List PySem.Str} {nn : Nat} {m₀ : PySem.Str → Option Value} {news : List (Addr × Obj)} {a₀ : Int} {t₀ : Tok} (y : PySem.Str) (f : PySem.Str → Int)
    (hh : A.handled = none) (hl : (l, listOf vs.toArray nn) ∈ news) (hs : StrsAre vs ss) (F : Fr h₀ env.locals s.heap m₀) (N : News h₀ env.locals s.heap news) (hxy : x ≠ y) (hy : m₀ y = some (.int a₀ t₀))
    (turn : ∀ p a t tp h tk own, p ∈ ss → Fr h₀ env.locals h (fun z => if z = x then some (.str p tp) else if z = y then some (.int a t) else m₀ z) → News h₀ env.locals h (news ++ own) →
      wpAny (model prog w) A (execs body env) (AccEnd h₀ env.locals x y m₀ (a + f p) (news ++ own) { s with heap := h, toks := tk }) E { s with heap := h, toks := tk })
    (done : ∀ a t (u : PySem.Str → Option Value) h tk, a = a₀ + (ss.map f).sum → Fr h₀ env.locals h (fun z => if z = x then u z else if z = y then some (.int a t) else m₀ z) → News h₀ env.locals h news → Q .next { s with heap := h, toks := tk }) :
    wpAny (model prog w) A (pyIter (.ref l)) (fun it s₂ => LoopAtV prog w A h₀ env x body Q E it s₂) E s := by
  refine kdl_iter (fun i m nx => nx = news ∧ ∃ t, m y = some (.int (a₀ + ((ss.take i).map f).sum) t) ∧ ∀ z, z ≠ x → z ≠ y → m z = m₀ z) hh hl F N ⟨rfl, t₀, by simpa using hy, fun _ _ _ => rfl⟩ ?_ ?_
  · rintro i v m₁ nx h tk own hv hoff _ ⟨rfl, t, h1, h2⟩ F₁ N₁
    obtain ⟨p, tp, rfl, hp⟩ := StrsAre.item hs i v hv
    have hpm : p ∈ ss := List.mem_of_getElem? hp
    have em : (fun z => if z = x then some (Value.str p tp) else m₁ z) = fun z => if z = x then some (Value.str p tp) else if z = y then some (.int (a₀ + ((ss.take i).map f).sum) t) else m₀ z := by
      funext z
      by_cases e1 : z = x
      · rw [if_pos e1, if_pos e1]
      · rw [if_neg e1, if_neg e1]
        by_cases e2 : z = y
        · rw [if_pos e2, e2, h1]
        · rw [if_neg e2, h2 z e1 e2]
    rw [em] at F₁
    refine wpAny_mono (turn p _ t tp h tk own hpm F₁ N₁) (fun fl s₂ q => ?_) fun _ _ z => z
    obtain ⟨rfl, h', tk', m', t', rfl, F', N', e1, e2⟩ := q
    refine InvEndG.intro F' N' ⟨hl, rfl, t', ?_, e2⟩ (fun p hp b hb => hoff p hp b hb) (fun p hp => List.mem_append_left _ hp) (fun p hp => List.mem_append_right _ hp)
    rw [e1, List.take_add_one, hp, List.map_append, List.sum_append]
    simp only [Option.toList_some, List.map_cons, List.map_nil, List.sum_cons, List.sum_nil, Int.add_zero]
    rw [Int.add_assoc]
  · rintro m₁ nx h tk ⟨rfl, t, h1, h2⟩ F₁ N₁
    have em : m₁ = fun z => if z = x then m₁ z else if z = y then some (.int (a₀ + ((ss.take vs.length).map f).sum) t) else m₀ z := by
      funext z
      by_cases e1 : z = x
      · rw [if_pos e1]
      · rw [if_neg e1]
        by_cases e2 : z = y
        · rw [if_pos e2, e2, h1]
        · rw [if_neg e2, h2 z e1 e2]
    rw [em] at F₁
    refine done _ t m₁ h tk ?_ F₁ N₁
    rw [hs.length, List.take_length]
end

/-- ends that meet: an int, whatever was made on the way -/
structure InDue : Prop where
def IntEnd (v : Int) (h₀ : Heap) (L : Addr) (m : PySem.Str → Option Value) (news : List (Addr × Obj)) (s : Shared) (r : Value) (s' : Shared) : Prop :=
  ∃ t h' tk, r = .int v t ∧ s' = { s with heap := h', toks := tk } ∧ Fr h₀ L h' m ∧ News h₀ L h' news
theorem intEnd {v x : Int} {h₀ : Heap} {L : Addr} {m : PySem.Str → Option Value} {news news' : List (Addr × Obj)} {s : Shared} {h' : Heap} {tk : Nat} {t : Tok} (F : Fr h₀ L h' m) (N : News h₀ L h' news') (hs : ∀ p ∈ news, p ∈ news') (e : x = v) :
    IntEnd v h₀ L m news s (.int x t) { s with heap := h', toks := tk } := ⟨t, h', tk, by rw [e], rfl, F, fun p hp => N p (hs p hp)⟩
theorem int_meet {prog : Program} {w : World} {A : Around} {E : Value → Shared → Prop} {s : Shared} {tr : Sem Value} {Q : Value → Shared → Prop} {h₀ : Heap} {L : Addr} {m : PySem.Str → Option Value} {news : List (Addr × Obj)} (v : Int)
    (F : Fr h₀ L s.heap m) (N : News h₀ L s.heap news) (h : InDue → wpAny (model prog w) A tr (IntEnd v h₀ L m news s) E s)
    (k : ∀ t h' tk, Fr h₀ L h' m → News h₀ L h' news → Q (.int v t) { s with heap := h', toks := tk }) : wpAny (model prog w) A tr Q E s :=
  wpAny_mono (h ⟨⟩) (fun r s' hr => by obtain ⟨t, h', tk, rfl, rfl, F', N'⟩ := hr; exact k t h' tk F' N') (fun _ _ x => x)
end Mine

-- K6
open PySem PySem.W PyProof.Rows
set_option Elab.async false
set_option maxRecDepth 100000
set_option maxHeartbeats 16000000
namespace Mine
def lawAt (ns : List Int) (k many : Int) : Int := if k < (ns.length : Int) then (if ns.getD k.toNat 0 < 0 then -(ns.getD k.toNat 0) else ns.getD k.toNat 0).fmod many else 0
theorem lawAt_bounds (ns : List Int) (k many : Int) : 0 < many → 0 ≤ lawAt ns k many ∧ lawAt ns k many < many := fun h => by
  unfold lawAt
  split
  · exact ⟨Int.fmod_nonneg_of_pos _ h, Int.fmod_lt_of_pos _ h⟩
  · omega
structure InJoin : Prop where
def LawEnd (v : Int) (s : Shared) (r : Value) (s' : Shared) : Prop := ∃ t tk, r = .int v t ∧ s' = { s with toks := tk }
theorem lawEnd_pos {s : Shared} {ns : List Int} {k many : Int} {t : Tok} {tk : Nat} (h : k < (ns.length : Int)) : LawEnd (lawAt ns k many) s (.int ((if ns.getD k.toNat 0 < 0 then -(ns.getD k.toNat 0) else ns.getD k.toNat 0).fmod many) t) { s with toks := tk } :=
  ⟨t, tk, by unfold lawAt; rw [if_pos h], rfl⟩
theorem lawEnd_neg {s : Shared} {ns : List Int} {k many : Int} {t : Tok} {tk : Nat} (h : ¬ k < (ns.length : Int)) : LawEnd (lawAt ns k many) s (.int 0 t) { s with toks := tk } :=
  ⟨t, tk, by unfold lawAt; rw [if_neg h], rfl⟩
theorem ifexp_join {prog : Program} {w : World} {A : Around} {E : Value → Shared → Prop} {s : Shared} {e : PySem.Expr} {env : Env} {Q : Value → Shared → Prop} {h₀ hb : Heap} {L l : Addr} {m : PySem.Str → Option Value} {vs : List Value} {ns : List Int} {k many : Int} {t u : Tok}
    (_ : Fr h₀ L s.heap m) (_ : m (PySem.Str.ofString "k") = some (.int k t)) (_ : m (PySem.Str.ofString "many") = some (.int many u)) (_ : m (PySem.Str.ofString "script") = some (.ref l)) (_ : hb.IsList l vs.toArray) (_ : IntsAre vs ns)
    (h : InJoin → wpAny (model prog w) A (eval e env) (LawEnd (lawAt ns k many) s) E s) (hq : ∀ t tk, (0 < many → 0 ≤ lawAt ns k many ∧ lawAt ns k many < many) → Q (.int (lawAt ns k many) t) { s with toks := tk }) : wpAny (model prog w) A (eval e env) Q E s :=
  wpAny_mono (h ⟨⟩) (fun r s' hr => by obtain ⟨t, tk, rfl, rfl⟩ := hr; exact hq t tk (lawAt_bounds ns k many)) (fun _ _ x => x)
end Mine

-- K7
set_option autoImplicit false
set_option maxRecDepth 100000
namespace Mine
open PySem PySem.W PySem.Calls PyProof.Rows

/-- the sign of the delimiter, and how often it stands there -/
def qOf (k : Int) : Nat := if k = 0 ∨ k = 2 then 34 else 39
def dN (k : Int) : Nat := if k ≤ 1 then 1 else 3
def rep (q n : Nat) : PySem.Str := ⟨Array.replicate n q⟩
theorem dN_pos (k : Int) : 1 ≤ dN k ∧ dN k ≤ 3 := by unfold dN; split <;> omega
theorem cs_rep (q n : Nat) : cs (rep q n) = List.replicate n q := by unfold cs rep; exact Array.toList_replicate
theorem rep_len (q n : Nat) : (rep q n).length = n := Array.size_replicate
theorem cs_one (q : Nat) : cs (one q) = [q] := rfl
theorem rep_one (q : Nat) : rep q 1 = one q := cs_inj (by rw [cs_rep]; rfl)

theorem ifexp_join2 {prog : Program} {w : World} {A : Around} {E : Value → Shared → Prop} {s : Shared} {e : PySem.Expr} {env : Env} {Q : Value → Shared → Prop} {h₀ hb : Heap} {L l : Addr} {m : PySem.Str → Option Value} {vs : List Value} {ns : List Int} {k many : Int} {t u : Tok}
    (h1 : Fr h₀ L s.heap m) (h2 : m (PySem.Str.ofString "k") = some (.int k t)) (h3 : m (PySem.Str.ofString "many") = some (.int many u)) (h4 : m (PySem.Str.ofString "script") = some (.ref l)) (h5 : hb.IsList l vs.toArray) (h6 : IntsAre vs ns) (hp : 0 < many)
    (h : InJoin → wpAny (model prog w) A (eval e env) (LawEnd (lawAt ns k many) s) E s) (hq : ∀ t tk, 0 ≤ lawAt ns k many → lawAt ns k many < many → Q (.int (lawAt ns k many) t) { s with toks := tk }) : wpAny (model prog w) A (eval e env) Q E s :=
  ifexp_join h1 h2 h3 h4 h5 h6 h (fun t tk hb => hq t tk (hb hp).1 (hb hp).2)
section
variable {prog : Program} {w : World} {A : Around} {E : Value → Shared → Prop} {s : Shared} {value slice : PySem.Expr} {l : Addr} {i : Int} {t u : Tok} {Q : Value → Shared → Prop}
theorem item_quote {t1 t2 t3 t4 : Tok} (hl : s.heap.IsList l [Value.str (PySem.Str.ofString "\"") t1, Value.str (PySem.Str.ofString "'") t2, Value.str (PySem.Str.ofString "\"") t3, Value.str (PySem.Str.ofString "'") t4].toArray)
    (h0 : 0 ≤ i) (h1 : i < 4) (h : ∀ t', Q (.str (one (qOf i)) t') s)
    (hs : subscripted slice false (.ref l) (.int i u) = operate [.ref l, .int i u] (getItem (.ref l) (.int i u)) := by with_unfolding_all rfl) :
    wpAny (model prog w) A (subscriptTail value slice (.ref l) (.int i u)) Q E s := by
  refine KTb.item_list (ws := [PySem.Str.ofString "\"", PySem.Str.ofString "'", PySem.Str.ofString "\"", PySem.Str.ofString "'"]) hl (by repeat constructor) h0 h1 (by omega) (fun t' _ => ?_) hs
  have e : ([PySem.Str.ofString "\"", PySem.Str.ofString "'", PySem.Str.ofString "\"", PySem.Str.ofString "'"] : List PySem.Str).getD i.toNat PySem.Str.empty = one (qOf i) := by
    obtain ⟨n, rfl⟩ := Int.eq_ofNat_of_zero_le h0
    have : n < 4 := by omega
    clear h h1 h0 hs
    rcases n with _ | _ | _ | _ | n
    · decide +kernel
    · decide +kernel
    · decide +kernel
    · decide +kernel
    · omega
  rw [e]; exact h t'
theorem item_dn {t1 t2 t3 t4 : Tok} (hl : s.heap.IsList l [Value.int 1 t1, Value.int 1 t2, Value.int 3 t3, Value.int 3 t4].toArray)
    (h0 : 0 ≤ i) (h1 : i < 4) (h : ∀ t', 1 ≤ dN i → dN i ≤ 3 → (dN i = 1 ∨ dN i = 3) → Q (.int (dN i : Nat) t') s)
    (hs : subscripted slice false (.ref l) (.int i u) = operate [.ref l, .int i u] (getItem (.ref l) (.int i u)) := by with_unfolding_all rfl) :
    wpAny (model prog w) A (subscriptTail value slice (.ref l) (.int i u)) Q E s := by
  obtain ⟨n, rfl⟩ := Int.eq_ofNat_of_zero_le h0
  have hn : n < 4 := by omega
  have e : ∃ t', [Value.int 1 t1, Value.int 1 t2, Value.int 3 t3, Value.int 3 t4][n]? = some (.int (dN (n : Int) : Nat) t') := by
    clear h h1 h0 hs hl
    rcases n with _ | _ | _ | _ | n
    · exact ⟨t1, rfl⟩
    · exact ⟨t2, rfl⟩
    · exact ⟨t3, rfl⟩
    · exact ⟨t4, rfl⟩
    · omega
  obtain ⟨t', e⟩ := e
  exact tail_any hl.typeIs slot_list_getitem.lookup (wpAny_getItem_list hl h0 (by omega) (x := .int _ t') (by simpa using e) (h t' (dN_pos _).1 (dN_pos _).2 (by unfold dN; split <;> simp))) hs
theorem mul_one {q n : Nat} (hn : 1 ≤ n) (hn5 : n ≤ 5) (h : ∀ t' k, (rep q n).length = n → Q (.str (rep q n) t') { s with toks := k }) : wpAny (model prog w) A (binaryOp .Mult (.str (one q) t) (.int (n : Nat) u)) Q E s := by
  have ok : MulOk (one q) (n : Int) ∧ Txt.mul (one q) (n : Int) = rep q n := by
    rcases n with _ | _ | _ | _ | _ | _ | n
    · omega
    · exact ⟨⟨by decide, fun _ h => absurd h (by show ¬ ((true || _) = false); simp), fun _ h => absurd h (by show ¬ ((true || _) = false); simp)⟩, by rw [rep_one]; rfl⟩
    · exact ⟨⟨by decide, fun _ _ => by show ¬ ((1 : Int) > _); decide, fun _ _ => by show Builtin.Str.tooLong (1 * 2) = false; decide⟩, rfl⟩
    · exact ⟨⟨by decide, fun _ _ => by show ¬ ((1 : Int) > _); decide, fun _ _ => by show Builtin.Str.tooLong (1 * 3) = false; decide⟩, rfl⟩
    · exact ⟨⟨by decide, fun _ _ => by show ¬ ((1 : Int) > _); decide, fun _ _ => by show Builtin.Str.tooLong (1 * 4) = false; decide⟩, rfl⟩
    · exact ⟨⟨by decide, fun _ _ => by show ¬ ((1 : Int) > _); decide, fun _ _ => by show Builtin.Str.tooLong (1 * 5) = false; decide⟩, rfl⟩
    · omega
  refine SB.mul ok.1 (fun t' k => ?_)
  rw [ok.2]; exact h t' k (rep_len q n)

theorem one_len (c : Nat) : (one c).length = 1 := rfl
theorem add_len {x y : PySem.Str} {t u : Tok} (hsz : x.length + y.length ≤ 16777216) (h : ∀ z t' tk, z = x ++ y → z.length = x.length + y.length → Q (.str z t') { s with toks := tk }) : wpAny (model prog w) A (binaryOp .Add (.str x t) (.str y u)) Q E s :=
  add_gen hsz (fun z t' tk hz => h z t' tk hz (by rw [hz, PySem.Str.length_append]))
/-- the sign of a written text at a rest -/
theorem text_pick {x : PySem.Str} {a m : Int} (hm : 0 < m) (hx : m ≤ (x.length : Int)) (hmb : m ≤ 1000)
    (h : ∀ t' k, Q (.str (one ((cs x).getD (a.fmod m).toNat 0)) t') { s with toks := k })
    (hs : subscripted slice false (.str x t) (.int (a.fmod m) u) = operate [.str x t, .int (a.fmod m) u] (getItem (.str x t) (.int (a.fmod m) u)) := by with_unfolding_all rfl)
    (ht : ∀ r, letTemporaryGo value (.str x t) r = pure () := by intro _; with_unfolding_all rfl) :
    wpAny (model prog w) A (subscriptTail value slice (.str x t) (.int (a.fmod m) u)) Q E s := by
  have h0 := Int.fmod_nonneg_of_pos a hm
  have h1 := Int.fmod_lt_of_pos a hm
  refine text_in h0 (by omega) (by omega) (fun c l t' k hd => ?_) hs ht
  have e : (cs x).getD (a.fmod m).toNat 0 = c := by
    have hlt : (a.fmod m).toNat < (cs x).length := by rw [cs_len]; omega
    rw [List.getD_eq_getElem?_getD, List.getElem?_eq_getElem hlt]
    rw [List.drop_eq_getElem_cons hlt] at hd
    injection hd with hd _
  have := h t' k
  rw [e] at this
  exact this
end
end Mine

-- L1
set_option autoImplicit false
set_option maxRecDepth 100000
namespace Mine
open PySem PySem.W PySem.Calls PyProof.Rows

def escPL : List Nat := [97, 98, 102, 114, 116, 118, 110, 92, 34, 39]
def escML : List Nat := [7, 8, 12, 13, 9, 11, 10, 92, 34, 39]
def escP (i : Nat) : Nat := escPL.getD i 0
def escM (i : Nat) : Nat := escML.getD i 0
/-- the number that a figure stands for -/
def hexDig (c : Nat) : Nat := if c ≤ 57 then c - 48 else if c ≤ 70 then c - 55 else c - 87
def hexVal (hs : List Nat) : Nat := hs.foldl (fun a c => 16 * a + hexDig c) 0

/-- the parts of a string -/
inductive Pt where
  | quote
  | nl (c : Nat)
  | sign (c : Nat)
  | esc (i : Nat)
  | hex (u : Nat) (hs : List Nat)
def Pt.w (q : Nat) : Pt → List Nat
  | .quote => [q]
  | .nl c => [c]
  | .sign c => [c]
  | .esc i => [92, escP i]
  | .hex u hs => 92 :: u :: hs
def Pt.d (q : Nat) : Pt → List Nat
  | .quote => [q]
  | .nl c => [c]
  | .sign c => [c]
  | .esc i => [escM i]
  | .hex _ hs => [hexVal hs]
def Pt.e : Pt → Nat
  | .nl _ => 1
  | _ => 0
def Pt.ok (q : Nat) (long : Prop) : Pt → Prop
  | .quote => long
  | .nl c => long ∧ (c = 10 ∨ c = 13)
  | .sign c => c ≠ q ∧ c ≠ 92 ∧ c ≠ 10 ∧ c ≠ 13
  | .esc i => i < 10
  | .hex u hs => ((u = 117 ∧ hs.length = 4) ∨ (u = 85 ∧ hs.length = 8)) ∧ (∀ x ∈ hs, isHex x = true) ∧ hexVal hs ≤ 1114111
def wAll (q : Nat) (ps : List Pt) : List Nat := (ps.map (Pt.w q)).flatten
def dAll (q : Nat) (ps : List Pt) : List Nat := (ps.map (Pt.d q)).flatten
def eAll (ps : List Pt) : Nat := (ps.map Pt.e).sum
/-- quotes together: at most two -/
def runOk : Nat → List Pt → Prop
  | _, [] => True
  | k, .quote :: r => k < 2 ∧ runOk (k + 1) r
  | _, .nl _ :: r => runOk 0 r
  | _, .sign _ :: r => runOk 0 r
  | _, .esc _ :: r => runOk 0 r
  | _, .hex _ _ :: r => runOk 0 r
def endRun : Nat → List Pt → Nat
  | k, [] => k
  | k, .quote :: r => endRun (k + 1) r
  | _, .nl _ :: r => endRun 0 r
  | _, .sign _ :: r => endRun 0 r
  | _, .esc _ :: r => endRun 0 r
  | _, .hex _ _ :: r => endRun 0 r

/-- what the law has written so far -/
def BldP (pick : Int) (k : Nat) (w d : PySem.Str) (e t : Int) : Prop :=
  ∃ ps, (∀ p ∈ ps, Pt.ok (qOf pick) (1 < pick) p) ∧ runOk 0 ps ∧ cs w = wAll (qOf pick) ps ∧ cs d = dAll (qOf pick) ps ∧ e = (eAll ps : Nat) ∧ t = (endRun 0 ps : Nat) ∧ w.length ≤ 10 * k ∧ d.length ≤ k
theorem bld_nil {pick : Int} : BldP pick 0 (PySem.Str.ofString "") (PySem.Str.ofString "") 0 0 := ⟨[], by simp, trivial, rfl, rfl, rfl, rfl, by decide, by decide⟩

/-- figures so far -/
def HexP (n0 : Int) (k : Nat) (text : PySem.Str) (number : Int) : Prop :=
  text.length = k ∧ (0 ≤ n0 → 0 ≤ number ∧ (∀ c ∈ cs text, isHex c = true) ∧ (hexVal (cs text) : Int) + 16 ^ k * number = n0)
theorem hex_nil {n0 : Int} : HexP n0 0 (PySem.Str.ofString "") n0 := ⟨rfl, fun h => ⟨h, fun c hc => (by cases hc), by rw [show hexVal (cs (PySem.Str.ofString "")) = 0 from rfl]; omega⟩⟩
theorem hex_nil' {n0 n : Int} {k : Nat} {x : PySem.Str} (h : k = 0) (h1 : x = PySem.Str.ofString "") (h2 : n = n0) : HexP n0 k x n := by subst h h1 h2; exact hex_nil
theorem bld_nil' {pick e t : Int} {k : Nat} {w d : PySem.Str} (h : k = 0) (h1 : w = PySem.Str.ofString "") (h2 : d = PySem.Str.ofString "") (h3 : e = 0) (h4 : t = 0) : BldP pick k w d e t := by subst h h1 h2 h3 h4; exact bld_nil
theorem bld_lens {pick e t : Int} {k : Nat} {w d : PySem.Str} (h : BldP pick k w d e t) : w.length ≤ 10 * k ∧ d.length ≤ k := by
  obtain ⟨ps, _, _, _, _, _, _, a, b⟩ := h; exact ⟨a, b⟩
theorem len_bs : (PySem.Str.ofString "\\").length = 1 := by decide +kernel
theorem len_bU : (PySem.Str.ofString "\\U").length = 2 := by decide +kernel
theorem len_bu : (PySem.Str.ofString "\\u").length = 2 := by decide +kernel
theorem len_us : (PySem.Str.ofString "u").length = 1 := by decide +kernel
theorem len_uS : (PySem.Str.ofString "U").length = 1 := by decide +kernel
theorem len_q : (PySem.Str.ofString "q").length = 1 := by decide +kernel
theorem len_e : (PySem.Str.ofString "").length = 0 := by decide +kernel
theorem rangeKs_len (a : Int) (n : Nat) : (PySem.W.rangeKs a n).length = n := by unfold PySem.W.rangeKs; simp
theorem cps1_len (c : Nat) : (⟨#[c]⟩ : PySem.Str).length = 1 := rfl
theorem fm8_nn (a : Int) : 0 ≤ a.fmod 1114112 := Int.fmod_nonneg_of_pos a (by decide)
theorem fm8_le (a : Int) : a.fmod 1114112 ≤ 1114111 := by have := Int.fmod_lt_of_pos a (show (0 : Int) < 1114112 by decide); omega
theorem fm4_nn (a : Int) : 0 ≤ a.fmod 55296 := Int.fmod_nonneg_of_pos a (by decide)
theorem fm4_lt (a : Int) : a.fmod 55296 < 55296 := Int.fmod_lt_of_pos a (by decide)
theorem hex_lens {n0 n : Int} {k : Nat} {x : PySem.Str} (h : HexP n0 k x n) : x.length = k := h.1

theorem foldl16 (l : List Nat) : ∀ a, l.foldl (fun a c => 16 * a + hexDig c) a = 16 ^ l.length * a + hexVal l := by
  induction l with
  | nil => intro a; simp [hexVal]
  | cons c l ih =>
    intro a
    rw [List.foldl_cons, ih]
    unfold hexVal
    rw [List.foldl_cons, ih (16 * 0 + hexDig c), List.length_cons, Nat.pow_succ, Nat.mul_add, Nat.mul_zero, Nat.zero_add, Nat.mul_assoc, Nat.add_assoc]
    rfl
theorem hexVal_cons (c : Nat) (l : List Nat) : hexVal (c :: l) = 16 ^ l.length * hexDig c + hexVal l := by
  show (c :: l).foldl _ 0 = _
  rw [List.foldl_cons, foldl16]; simp
theorem hex_digit : ∀ m : Nat, m < 16 → isHex ((cs (PySem.Str.ofString "0123456789abcdefABCDEF")).getD m 0) = true ∧ hexDig ((cs (PySem.Str.ofString "0123456789abcdefABCDEF")).getD m 0) = m := by decide +kernel
theorem hex_step {n0 n : Int} {k k' : Nat} {x z : PySem.Str} (H : HexP n0 k x n) (hz : z = one ((cs (PySem.Str.ofString "0123456789abcdefABCDEF")).getD (n.fmod 16).toNat 0) ++ x) (hk : k' = k + 1) : HexP n0 k' z (n.fdiv 16) := by
  subst hz hk
  obtain ⟨h1, h2⟩ := H
  refine ⟨by rw [PySem.Str.length_append, one_len]; omega, fun h0 => ?_⟩
  obtain ⟨h3, h4, h5⟩ := h2 h0
  have e0 := Int.fmod_nonneg_of_pos n (show (0 : Int) < 16 by decide)
  have e1 := Int.fmod_lt_of_pos n (show (0 : Int) < 16 by decide)
  have e2 : n.fdiv 16 = n / 16 := Int.fdiv_eq_ediv_of_nonneg n (by decide)
  have e3 : n.fmod 16 = n % 16 := Int.fmod_eq_emod_of_nonneg n (by decide)
  have hm : (n.fmod 16).toNat < 16 := by omega
  obtain ⟨d1, d2⟩ := hex_digit _ hm
  have ec : cs (one ((cs (PySem.Str.ofString "0123456789abcdefABCDEF")).getD (n.fmod 16).toNat 0) ++ x) = (cs (PySem.Str.ofString "0123456789abcdefABCDEF")).getD (n.fmod 16).toNat 0 :: cs x := by rw [cs_app, cs_one]; rfl
  rw [ec]
  refine ⟨by omega, fun c hc => ?_, ?_⟩
  · rcases List.mem_cons.mp hc with rfl | hc
    · exact d1
    · exact h4 c hc
  · rw [hexVal_cons, d2, cs_len, h1, Int.pow_succ, e2]
    have e4 : n = 16 * (n / 16) + n % 16 := by omega
    have e5 : (((n.fmod 16).toNat : Nat) : Int) = n % 16 := by omega
    have e6 : (16 : Int) ^ k * n = 16 ^ k * (16 * (n / 16)) + 16 ^ k * (n % 16) := by rw [← Int.mul_add, ← e4]
    rw [Int.natCast_add, Int.natCast_mul, e5]
    have e7 : (((16 ^ k : Nat)) : Int) = 16 ^ k := by simp
    rw [e7, Int.mul_assoc]
    omega
/-- a number in so many figures -/
theorem hex_end {n0 n : Int} {k : Nat} {x : PySem.Str} (H : HexP n0 k x n) (h0 : 0 ≤ n0) (h1 : n0 < 16 ^ k) : (cs x).length = k ∧ (∀ c ∈ cs x, isHex c = true) ∧ hexVal (cs x) = n0.toNat := by
  obtain ⟨a, b⟩ := H
  obtain ⟨c, d, e⟩ := b h0
  refine ⟨by rw [cs_len]; exact a, d, ?_⟩
  have : n = 0 := by
    rcases Int.lt_or_eq_of_le c with hn | hn
    · have : (16 : Int) ^ k * 1 ≤ 16 ^ k * n := Int.mul_le_mul_of_nonneg_left (by omega) (Int.pow_nonneg (by decide))
      omega
    · exact hn.symm
  subst this
  omega

theorem runOk_snoc (p : Pt) : ∀ (ps : List Pt) (k : Nat), runOk k ps → (p = .quote → endRun k ps < 2) → runOk k (ps ++ [p])
  | [], k, _, h => by cases p <;> first | exact ⟨h rfl, trivial⟩ | exact trivial
  | .quote :: r, _, h, h2 => ⟨h.1, runOk_snoc p r _ h.2 h2⟩
  | .nl _ :: r, _, h, h2 => runOk_snoc p r _ h h2
  | .sign _ :: r, _, h, h2 => runOk_snoc p r _ h h2
  | .esc _ :: r, _, h, h2 => runOk_snoc p r _ h h2
  | .hex _ _ :: r, _, h, h2 => runOk_snoc p r _ h h2
theorem endRun_snoc (p : Pt) : ∀ (ps : List Pt) (k : Nat), endRun k (ps ++ [p]) = endRun (endRun k ps) [p]
  | [], _ => rfl
  | .quote :: r, k => endRun_snoc p r _
  | .nl _ :: r, _ => endRun_snoc p r _
  | .sign _ :: r, _ => endRun_snoc p r _
  | .esc _ :: r, _ => endRun_snoc p r _
  | .hex _ _ :: r, _ => endRun_snoc p r _
theorem bld_add {pick e t e' t' : Int} {k k' : Nat} {w d z d' : PySem.Str} (H : BldP pick k w d e t) (p : Pt) (hok : p.ok (qOf pick) (1 < pick)) (hq : p = .quote → t < 2) (hw : cs z = cs w ++ p.w (qOf pick)) (hd : cs d' = cs d ++ p.d (qOf pick)) (he : e' = e + (p.e : Nat)) (ht : t' = (endRun t.toNat [p] : Nat)) (hk : k' = k + 1) (hl : (p.w (qOf pick)).length ≤ 10) : BldP pick k' z d' e' t' := by
  obtain ⟨ps, h1, h2, h3, h4, h5, h6, h7, h8⟩ := H
  have hl2 : (p.d (qOf pick)).length = 1 := by cases p <;> rfl
  refine ⟨ps ++ [p], ?_, runOk_snoc p ps 0 h2 (fun e => by have := hq e; omega), ?_, ?_, ?_, ?_, ?_, ?_⟩
  · intro x hx
    rcases List.mem_append.mp hx with hx | hx
    · exact h1 x hx
    · rw [List.mem_singleton.mp hx]; exact hok
  · rw [hw, h3]; simp [wAll]
  · rw [hd, h4]; simp [dAll]
  · rw [he, h5]; simp [eAll]
  · rw [ht, endRun_snoc, h6]; simp
  · rw [← cs_len, hw, List.length_append, cs_len]; omega
  · rw [← cs_len, hd, List.length_append, cs_len]; omega

section
variable {pick e t : Int} {k k' : Nat} {w d z z1 z2 d' : PySem.Str}
theorem bld_quote (H : BldP pick k w d e t) (h1 : 1 < pick) (h2 : t < 2) (hz : z = w ++ one (qOf pick)) (hd : d' = d ++ one (qOf pick)) (hk : k' = k + 1) : BldP pick k' z d' e (t + 1) := by
  have h0 : 0 ≤ t := by obtain ⟨ps, _, _, _, _, _, h6, _, _⟩ := H; omega
  refine bld_add H .quote h1 (fun _ => h2) (by rw [hz, cs_app]; rfl) (by rw [hd, cs_app]; rfl) (by show e = e + ((0 : Nat) : Int); omega) ?_ hk (by show 1 ≤ 10; decide)
  show t + 1 = ((t.toNat + 1 : Nat) : Int)
  omega
theorem bld_nl {a : Int} (H : BldP pick k w d e t) (h1 : 1 < pick) (hz : z = w ++ one ((cs (PySem.Str.ofString "\n\r")).getD (a.fmod 2).toNat 0)) (hd : d' = d ++ one ((cs (PySem.Str.ofString "\n\r")).getD (a.fmod 2).toNat 0)) (hk : k' = k + 1) : BldP pick k' z d' (e + 1) 0 := by
  have hc : ∀ m : Nat, m < 2 → (cs (PySem.Str.ofString "\n\r")).getD m 0 = 10 ∨ (cs (PySem.Str.ofString "\n\r")).getD m 0 = 13 := by decide +kernel
  have e0 := Int.fmod_nonneg_of_pos a (show (0 : Int) < 2 by decide)
  have e1 := Int.fmod_lt_of_pos a (show (0 : Int) < 2 by decide)
  refine bld_add H (.nl ((cs (PySem.Str.ofString "\n\r")).getD (a.fmod 2).toNat 0)) ⟨h1, hc _ (by omega)⟩ (fun e => by cases e) (by rw [hz, cs_app]; rfl) (by rw [hd, cs_app]; rfl) rfl rfl hk (by show 1 ≤ 10; decide)
theorem escP_text : cs (PySem.Str.ofString "abfrtvn\\\"'") = escPL := by decide +kernel
theorem escM_text : cs (PySem.Str.ofString "\x07\x08\x0c\r\t\x0b\n\\\"'") = escML := by decide +kernel
theorem bld_esc {a : Int} (H : BldP pick k w d e t) (hz : z1 = w ++ PySem.Str.ofString "\\") (hz2 : z = z1 ++ one ((cs (PySem.Str.ofString "abfrtvn\\\"'")).getD (a.fmod 10).toNat 0)) (hd : d' = d ++ one ((cs (PySem.Str.ofString "\x07\x08\x0c\r\t\x0b\n\\\"'")).getD (a.fmod 10).toNat 0)) (hk : k' = k + 1) : BldP pick k' z d' e 0 := by
  have e0 := Int.fmod_nonneg_of_pos a (show (0 : Int) < 10 by decide)
  have e1 := Int.fmod_lt_of_pos a (show (0 : Int) < 10 by decide)
  have eb : cs (PySem.Str.ofString "\\") = [92] := by decide +kernel
  refine bld_add H (.esc (a.fmod 10).toNat) (show (a.fmod 10).toNat < 10 by omega) (fun e => by cases e) ?_ ?_ (by show e = e + ((0 : Nat) : Int); omega) rfl hk (by show 2 ≤ 10; decide)
  · rw [hz2, hz, cs_app, cs_app, cs_one, escP_text, eb, List.append_assoc]; rfl
  · rw [hd, cs_app, cs_one, escM_text]; rfl
theorem bld_hex8 {K : Nat} {code n : Int} {x : PySem.Str} (H : BldP pick k w d e t) (X : HexP code K x n) (hK : K = 8) (h0 : 0 ≤ code) (h1 : code ≤ 1114111) (hz : z1 = w ++ PySem.Str.ofString "\\U") (hz2 : z = z1 ++ x) (hd : d' = d ++ one code.toNat) (hk : k' = k + 1) : BldP pick k' z d' e 0 := by
  subst hK
  obtain ⟨a, b, c⟩ := hex_end X h0 (by omega)
  have eb : cs (PySem.Str.ofString "\\U") = [92, 85] := by decide +kernel
  refine bld_add H (.hex 85 (cs x)) ⟨.inr ⟨rfl, a⟩, b, by omega⟩ (fun e => by cases e) ?_ ?_ (by show e = e + ((0 : Nat) : Int); omega) rfl hk (by show (92 :: 85 :: cs x).length ≤ 10; simp [a])
  · rw [hz2, hz, cs_app, cs_app, eb, List.append_assoc]; rfl
  · rw [hd, cs_app, cs_one, ← c]; rfl
theorem bld_hex4 {K : Nat} {code n : Int} {x : PySem.Str} (H : BldP pick k w d e t) (X : HexP code K x n) (hK : K = 4) (h0 : 0 ≤ code) (h1 : code < 55296) (hz : z1 = w ++ PySem.Str.ofString "\\u") (hz2 : z = z1 ++ x) (hd : d' = d ++ one code.toNat) (hk : k' = k + 1) : BldP pick k' z d' e 0 := by
  subst hK
  obtain ⟨a, b, c⟩ := hex_end X h0 (by omega)
  have eb : cs (PySem.Str.ofString "\\u") = [92, 117] := by decide +kernel
  refine bld_add H (.hex 117 (cs x)) ⟨.inl ⟨rfl, a⟩, b, by omega⟩ (fun e => by cases e) ?_ ?_ (by show e = e + ((0 : Nat) : Int); omega) rfl hk (by show (92 :: 117 :: cs x).length ≤ 10; simp [a])
  · rw [hz2, hz, cs_app, cs_app, eb, List.append_assoc]; rfl
  · rw [hd, cs_app, cs_one, ← c]; rfl
end
end Mine

-- L2
set_option autoImplicit false
set_option maxRecDepth 100000
namespace Mine
open PySem PySem.W PySem.Calls PyProof.Rows

/-- what lies ahead from a part on -/
def ahead (q n : Nat) (b : List Nat) (ps : List Pt) : List Nat := wAll q ps ++ (List.replicate n q ++ b)
def startsQ (q n : Nat) (l : List Nat) : Bool := l.take n == List.replicate n q
def escFind (c : Nat) : Int := match escPL.idxOf? c with | some i => (i : Int) | none => -1

theorem ahead_nil (q n : Nat) (b : List Nat) : ahead q n b [] = List.replicate n q ++ b := rfl
theorem ahead_cons (q n : Nat) (b : List Nat) (p : Pt) (ps : List Pt) : ahead q n b (p :: ps) = p.w q ++ ahead q n b ps := by
  unfold ahead wAll; rw [List.map_cons, List.flatten_cons, List.append_assoc]
theorem ahead_app (q n : Nat) (b : List Nat) (ps rs : List Pt) : ahead q n b (ps ++ rs) = wAll q ps ++ ahead q n b rs := by
  unfold ahead wAll; rw [List.map_append, List.flatten_append, List.append_assoc]
theorem wAll_app (q : Nat) (ps rs : List Pt) : wAll q (ps ++ rs) = wAll q ps ++ wAll q rs := by unfold wAll; rw [List.map_append, List.flatten_append]
theorem dAll_app (q : Nat) (ps rs : List Pt) : dAll q (ps ++ rs) = dAll q ps ++ dAll q rs := by unfold dAll; rw [List.map_append, List.flatten_append]
theorem eAll_app (ps rs : List Pt) : eAll (ps ++ rs) = eAll ps + eAll rs := by unfold eAll; rw [List.map_append, List.sum_append]
theorem wAll_one (q : Nat) (p : Pt) : wAll q [p] = p.w q := by simp [wAll]
theorem dAll_one (q : Nat) (p : Pt) : dAll q [p] = p.d q := by simp [dAll]
theorem eAll_one (p : Pt) : eAll [p] = p.e := by simp [eAll]
theorem runOk_tail : ∀ (ps rs : List Pt) (k : Nat), runOk k (ps ++ rs) → runOk (endRun k ps) rs
  | [], _, _, h => h
  | .quote :: r, rs, _, h => runOk_tail r rs _ h.2
  | .nl _ :: r, rs, _, h => runOk_tail r rs _ h
  | .sign _ :: r, rs, _, h => runOk_tail r rs _ h
  | .esc _ :: r, rs, _, h => runOk_tail r rs _ h
  | .hex _ _ :: r, rs, _, h => runOk_tail r rs _ h

/-- the text as the law built it -/
structure Built (q n : Nat) (T : List Nat) (place : Nat) (ps : List Pt) : Prop where
  q2 : q = 34 ∨ q = 39
  n2 : n = 1 ∨ n = 3
  ok : ∀ p ∈ ps, Pt.ok q (n = 3) p
  run : runOk 0 ps
  text : ∃ pre b, T = pre ++ ahead q n b ps ∧ pre.length = place ∧ ∀ l, b ≠ q :: l

/-- what strconst has done -/
inductive Fwd (T : List Nat) (q n p : Nat) : Nat → List Nat → Nat → Prop
  | refl : Fwd T q n p p [] 0
  | quote {j : Nat} {u : List Nat} {e : Nat} {l : List Nat} : Fwd T q n p j u e → n = 3 → T.drop j = q :: l → startsQ q 3 (T.drop j) = false → Fwd T q n p (j + 1) (u ++ [q]) e
  | upto {j : Nat} {u : List Nat} {e k : Nat} {l : List Nat} : Fwd T q n p j u e → findInt (T.drop j) = some k → T.drop (j + k) = q :: l → Fwd T q n p (j + k) (u ++ (T.drop j).take k) e
  | other {j : Nat} {u : List Nat} {e k c : Nat} {l : List Nat} : Fwd T q n p j u e → findInt (T.drop j) = some k → T.drop (j + k) = c :: l → c ≠ q → (c = 34 ∨ c = 39) → Fwd T q n p (j + k + 1) (u ++ (T.drop j).take k ++ [c]) e
  | nl {j : Nat} {u : List Nat} {e k c : Nat} {l : List Nat} : Fwd T q n p j u e → findInt (T.drop j) = some k → T.drop (j + k) = c :: l → (c = 13 ∨ c = 10) → Fwd T q n p (j + k + 1) (u ++ (T.drop j).take k ++ [c]) (e + 1)
  | esc {j : Nat} {u : List Nat} {e k c : Nat} {l l' : List Nat} : Fwd T q n p j u e → findInt (T.drop j) = some k → T.drop (j + k) = 92 :: l → T.drop (j + k + 1) = c :: l' → 0 ≤ escFind c → Fwd T q n p (j + k + 2) (u ++ (T.drop j).take k ++ [escM (escFind c).toNat]) e
  | hex {j : Nat} {u : List Nat} {e k c m : Nat} {l l' : List Nat} : Fwd T q n p j u e → findInt (T.drop j) = some k → T.drop (j + k) = 92 :: l → T.drop (j + k + 1) = c :: l' → ((c = 117 ∧ m = 4) ∨ (c = 85 ∧ m = 8)) → Fwd T q n p (j + k + 2 + m) (u ++ (T.drop j).take k ++ [hexVal ((T.drop (j + k + 2)).take m)]) e

theorem escFind_P : ∀ i, i < 10 → escFind (escP i) = (i : Int) := by decide +kernel
theorem escFind_u : escFind 117 = -1 ∧ escFind 85 = -1 := by decide +kernel
theorem isInt_q {q : Nat} (h : q = 34 ∨ q = 39) : isInt q = true := by rcases h with rfl | rfl <;> decide
theorem findInt_cons (c : Nat) (l : List Nat) : findInt (c :: l) = if isInt c = true then some 0 else (findInt l).map (· + 1) := by
  unfold findInt
  rw [List.dropWhile_cons, List.takeWhile_cons]
  cases h : isInt c with
  | true => simp [notInt, h]
  | false =>
    simp only [notInt, h, Bool.not_false, if_true, List.length_cons, Bool.false_eq_true, if_false]
    by_cases e : List.dropWhile notInt l = []
    · rw [if_pos e, if_pos e]; rfl
    · rw [if_neg e, if_neg e]; rfl

section
variable {q n : Nat} {b : List Nat}
theorem head_ne {p : Pt} (hq : q = 34 ∨ q = 39) (h : Pt.ok q (n = 3) p) (hp : p ≠ .quote) : ∃ c l, p.w q = c :: l ∧ c ≠ q := by
  cases p with
  | quote => exact absurd rfl hp
  | nl c => exact ⟨c, [], rfl, by have := h.2; omega⟩
  | sign c => exact ⟨c, [], rfl, h.1⟩
  | esc i => exact ⟨92, _, rfl, by omega⟩
  | hex u hs => exact ⟨92, _, rfl, by omega⟩

/-- a search leaps over plain signs -/
theorem leap (hq : q = 34 ∨ q = 39) (hn : n = 1 ∨ n = 3) : ∀ (ps : List Pt) (k : Nat), (∀ p ∈ ps, Pt.ok q (n = 3) p) → findInt (ahead q n b ps) = some k →
    ∃ pa pb c l, ps = pa ++ pb ∧ wAll q pa = (ahead q n b ps).take k ∧ dAll q pa = wAll q pa ∧ eAll pa = 0 ∧ (wAll q pa).length = k ∧ ahead q n b pb = c :: l ∧ isInt c = true
  | [], k, _, h => by
    have e : ∃ l, ahead q n b [] = q :: l := by rcases hn with rfl | rfl <;> exact ⟨_, rfl⟩
    obtain ⟨l, e⟩ := e
    rw [e, findInt_cons, if_pos (isInt_q hq)] at h
    cases h
    exact ⟨[], [], q, l, rfl, rfl, rfl, rfl, rfl, e, isInt_q hq⟩
  | p :: r, k, hok, h => by
    obtain ⟨c, l, hc⟩ : ∃ c l, p.w q = c :: l := by cases p <;> exact ⟨_, _, rfl⟩
    have e : ahead q n b (p :: r) = c :: (l ++ ahead q n b r) := by rw [ahead_cons, hc]; rfl
    cases hi : isInt c with
    | true =>
      rw [e, findInt_cons, if_pos hi] at h
      cases h
      exact ⟨[], p :: r, c, _, rfl, rfl, rfl, rfl, rfl, e, hi⟩
    | false =>
      have hp : ∃ c, p = .sign c := by
        have ho := hok p (.head _)
        cases p with
        | quote => injection hc with hc _; subst hc; rw [isInt_q hq] at hi; cases hi
        | nl c' => injection hc with hc _; subst hc; rcases ho.2 with rfl | rfl <;> cases hi
        | sign c' => exact ⟨_, rfl⟩
        | esc i => injection hc with hc _; subst hc; cases hi
        | hex u hs => injection hc with hc _; subst hc; cases hi
      obtain ⟨c', rfl⟩ := hp
      injection hc with hc hl
      subst hc hl
      rw [e, findInt_cons, hi, if_neg (by decide), List.nil_append] at h
      obtain ⟨k', hk', rfl⟩ := Option.map_eq_some_iff.mp h
      obtain ⟨pa, pb, c2, l2, h1, h2, h3, h4, h5, h6, h7⟩ := leap hq hn r k' (fun p hp => hok p (.tail _ hp)) hk'
      refine ⟨.sign c' :: pa, pb, c2, l2, by rw [h1]; rfl, ?_, ?_, ?_, ?_, h6, h7⟩
      · rw [e, List.nil_append, List.take_succ_cons, ← h2]; rfl
      · show c' :: dAll q pa = c' :: wAll q pa
        rw [h3]
      · show 0 + eAll pa = 0
        omega
      · show (c' :: wAll q pa).length = k' + 1
        rw [List.length_cons, h5]
end

section
variable {q n place : Nat} {T : List Nat} {ps : List Pt}
/-- where strconst stands -/
structure At (q n place : Nat) (T : List Nat) (ps : List Pt) (j : Nat) (u : List Nat) (e : Nat) (p1 p2 : List Pt) (b : List Nat) : Prop where
  split : ps = p1 ++ p2
  here : T.drop j = ahead q n b p2
  behind : ∀ l, b ≠ q :: l
  place : j = place + (wAll q p1).length
  told : u = dAll q p1
  ends : e = eAll p1

theorem at_of {pre b : List Nat} {p1 p2 : List Pt} (hT : T = pre ++ ahead q n b (p1 ++ p2)) : T.drop (pre.length + (wAll q p1).length) = ahead q n b p2 := by
  rw [hT, ahead_app, ← List.append_assoc, ← List.length_append, List.drop_left]

theorem at_step (B : Built q n T place ps) {j : Nat} {u : List Nat} {e : Nat} {p1 p2 pa pb : List Pt} {b : List Nat} (A : At q n place T ps j u e p1 p2 b) (h : p2 = pa ++ pb) : ∃ b', At q n place T ps (j + (wAll q pa).length) (u ++ dAll q pa) (e + eAll pa) (p1 ++ pa) pb b' := by
  obtain ⟨pre, b', hT, hp, hb⟩ := B.text
  have hs : ps = (p1 ++ pa) ++ pb := by rw [A.split, h, List.append_assoc]
  refine ⟨b', hs, ?_, hb, ?_, ?_, ?_⟩
  · rw [A.place, ← hp, Nat.add_assoc, ← List.length_append, ← wAll_app]
    exact at_of (by rw [hT, hs])
  · rw [A.place, wAll_app, List.length_append]; omega
  · rw [A.told, dAll_app]
  · rw [A.ends, eAll_app]
theorem at_start (B : Built q n T place ps) : ∃ b, At q n place T ps place [] 0 [] ps b := by
  obtain ⟨pre, b', hT, hp, hb⟩ := B.text
  refine ⟨b', rfl, ?_, hb, by simp [wAll], rfl, rfl⟩
  have := at_of (p1 := []) (p2 := ps) hT
  rw [← hp]; simpa [wAll] using this

theorem At.ok (B : Built q n T place ps) {j : Nat} {u : List Nat} {e : Nat} {p1 p2 : List Pt} {b : List Nat} (A : At q n place T ps j u e p1 p2 b) : ∀ p ∈ p2, Pt.ok q (n = 3) p := fun p hp => B.ok p (by rw [A.split]; exact List.mem_append_right _ hp)
theorem At.run (B : Built q n T place ps) {j : Nat} {u : List Nat} {e : Nat} {p1 p2 : List Pt} {b : List Nat} (A : At q n place T ps j u e p1 p2 b) : runOk (endRun 0 p1) p2 := runOk_tail _ _ _ (by rw [← A.split]; exact B.run)

/-- where the search stands -/
theorem at_leap (B : Built q n T place ps) {j : Nat} {u : List Nat} {e k : Nat} {p1 p2 : List Pt} {b : List Nat} (A : At q n place T ps j u e p1 p2 b) (hk : findInt (T.drop j) = some k) :
    ∃ p1' p2' b' c l, At q n place T ps (j + k) (u ++ (T.drop j).take k) e p1' p2' b' ∧ T.drop (j + k) = c :: l ∧ isInt c = true := by
  rw [A.here] at hk ⊢
  obtain ⟨pa, pb, c, l, h1, h2, h3, h4, h5, h6, h7⟩ := leap B.q2 B.n2 p2 k (A.ok B) hk
  obtain ⟨b', A'⟩ := at_step B A h1
  rw [h3, h2, h4, Nat.add_zero, ← h2, h5, h2] at A'
  obtain ⟨pre, b2, hT, hp, hb⟩ := B.text
  have hd := A'.here
  have e6 : ∃ c l, ahead q n b' pb = c :: l ∧ isInt c = true := by
    have : ahead q n b' pb = ahead q n b pb := by
      have := A.here
      have e1 : T.drop (j + k) = (T.drop j).drop k := by rw [List.drop_drop]
      rw [hd, A.here, h1, ahead_app, ← h5, List.drop_left] at e1
      exact e1
    exact ⟨c, l, by rw [this]; exact h6, h7⟩
  obtain ⟨c, l, e6, e7⟩ := e6
  exact ⟨_, _, b', c, l, A', by rw [hd]; exact e6, e7⟩

/-- one part on -/
theorem at_one (B : Built q n T place ps) {j : Nat} {u : List Nat} {e : Nat} {p1 r : List Pt} {p : Pt} {b : List Nat} (A : At q n place T ps j u e p1 (p :: r) b) : ∃ b', At q n place T ps (j + (p.w q).length) (u ++ p.d q) (e + p.e) (p1 ++ [p]) r b' := by
  have := at_step B A (pa := [p]) (pb := r) rfl
  rw [wAll_one, dAll_one, eAll_one] at this
  exact this
theorem ahead_nil_q (hn : n = 1 ∨ n = 3) (b : List Nat) : ∃ l, ahead q n b [] = q :: l := by rcases hn with rfl | rfl <;> exact ⟨_, rfl⟩

theorem fwd_at (B : Built q n T place ps) {j : Nat} {u : List Nat} {e : Nat} (H : Fwd T q n place j u e) : ∃ p1 p2 b, At q n place T ps j u e p1 p2 b := by
  have hq := B.q2
  induction H with
  | refl => obtain ⟨b, A⟩ := at_start B; exact ⟨_, _, b, A⟩
  | quote _ h3 hd hs ih =>
    obtain ⟨p1, p2, b, A⟩ := ih
    have hh := A.here
    rw [hd] at hh
    rw [A.here] at hs
    cases p2 with
    | nil => subst h3; exfalso; simp [ahead, wAll, startsQ, List.replicate] at hs
    | cons p r =>
      by_cases hp : p = .quote
      · subst hp
        obtain ⟨b', A'⟩ := at_one B A
        exact ⟨_, _, b', A'⟩
      · obtain ⟨c, l, h1, h2⟩ := head_ne hq (A.ok B p (.head _)) hp
        rw [ahead_cons, h1] at hh
        injection hh with hh _
        exact absurd hh.symm h2
  | upto _ hk _ ih =>
    obtain ⟨p1, p2, b, A⟩ := ih
    obtain ⟨p1', p2', b', c, l, A', _, _⟩ := at_leap B A hk
    exact ⟨_, _, b', A'⟩
  | other _ hk hd hc h2 ih =>
    obtain ⟨p1, p2, b, A⟩ := ih
    obtain ⟨p1', p2', b', c', l, A', hd', _⟩ := at_leap B A hk
    have hh := A'.here
    rw [hd] at hh
    cases p2' with
    | nil =>
      obtain ⟨l2, e2⟩ := ahead_nil_q (q := q) B.n2 b'
      rw [e2] at hh; injection hh with hh _; exact absurd hh hc
    | cons p r =>
      have ho := A'.ok B p (.head _)
      rw [ahead_cons] at hh
      obtain ⟨b2, A2⟩ := at_one B A'
      cases p with
      | quote => injection hh with hh _; exact absurd hh hc
      | nl c' => injection hh with hh _; have := ho.2; omega
      | sign c' => injection hh with hh _; subst hh; exact ⟨_, _, b2, A2⟩
      | esc i => injection hh with hh _; omega
      | hex u hs => injection hh with hh _; omega
  | nl _ hk hd hc ih =>
    obtain ⟨p1, p2, b, A⟩ := ih
    obtain ⟨p1', p2', b', c', l, A', hd', _⟩ := at_leap B A hk
    have hh := A'.here
    rw [hd] at hh
    cases p2' with
    | nil =>
      obtain ⟨l2, e2⟩ := ahead_nil_q (q := q) B.n2 b'
      rw [e2] at hh; injection hh with hh _; omega
    | cons p r =>
      have ho := A'.ok B p (.head _)
      rw [ahead_cons] at hh
      obtain ⟨b2, A2⟩ := at_one B A'
      cases p with
      | quote => injection hh with hh _; omega
      | nl c' => injection hh with hh _; subst hh; exact ⟨_, _, b2, A2⟩
      | sign c' => injection hh with hh _; have := ho.2; omega
      | esc i => injection hh with hh _; omega
      | hex u hs => injection hh with hh _; omega
  | esc _ hk hd hd2 hi ih =>
    rename_i j u e k c l l' _
    obtain ⟨p1, p2, b, A⟩ := ih
    obtain ⟨p1', p2', b', c', l, A', hd', _⟩ := at_leap B A hk
    have hh := A'.here
    rw [hd] at hh
    have h2 : c :: l' = (ahead q n b' p2').drop 1 := by rw [← A'.here, List.drop_drop, hd2]
    cases p2' with
    | nil =>
      obtain ⟨l2, e2⟩ := ahead_nil_q (q := q) B.n2 b'
      rw [e2] at hh; injection hh with hh _; omega
    | cons p r =>
      have ho := A'.ok B p (.head _)
      rw [ahead_cons] at hh h2
      obtain ⟨b2, A2⟩ := at_one B A'
      cases p with
      | quote => injection hh with hh _; omega
      | nl c' => injection hh with hh _; have := ho.2; omega
      | sign c' => injection hh with hh _; exact absurd hh.symm ho.2.1
      | esc i =>
        have e1 : c = escP i := by injection h2
        have e2 : escFind c = (i : Int) := by rw [e1]; exact escFind_P i ho
        rw [e2]
        exact ⟨_, _, b2, A2⟩
      | hex u hs =>
        have e1 : c = u := by injection h2
        have := escFind_u
        rcases ho.1 with ⟨h, _⟩ | ⟨h, _⟩ <;> rw [e1, h] at hi <;> omega
  | hex _ hk hd hd2 hc ih =>
    rename_i j u e k c m l l' _
    obtain ⟨p1, p2, b, A⟩ := ih
    obtain ⟨p1', p2', b', c', l, A', hd', _⟩ := at_leap B A hk
    have hh := A'.here
    rw [hd] at hh
    have h2 : c :: l' = (ahead q n b' p2').drop 1 := by rw [← A'.here, List.drop_drop, hd2]
    cases p2' with
    | nil =>
      obtain ⟨l2, e2⟩ := ahead_nil_q (q := q) B.n2 b'
      rw [e2] at hh; injection hh with hh _; omega
    | cons p r =>
      have ho := A'.ok B p (.head _)
      have h3 : T.drop (j + k + 2) = (ahead q n b' (p :: r)).drop 2 := by rw [← A'.here, List.drop_drop]
      rw [ahead_cons] at hh h2 h3
      obtain ⟨b2, A2⟩ := at_one B A'
      cases p with
      | quote => injection hh with hh _; omega
      | nl c' => injection hh with hh _; have := ho.2; omega
      | sign c' => injection hh with hh _; exact absurd hh.symm ho.2.1
      | esc i =>
        have e1 : c = escP i := by injection h2
        have e2 : escFind c = (i : Int) := by rw [e1]; exact escFind_P i ho
        have := escFind_u
        rcases hc with ⟨h, _⟩ | ⟨h, _⟩ <;> rw [h] at e2 <;> omega
      | hex u hs =>
        have e1 : c = u := by injection h2
        have em : hs.length = m := by have := ho.1; omega
        have e3 : (T.drop (j + k + 2)).take m = hs := by
          rw [h3]
          show ((hs ++ ahead q n b' r).take m) = hs
          rw [← em, List.take_left]
        rw [e3]
        have ew : j + k + (Pt.w q (.hex u hs)).length = j + k + 2 + m := by show j + k + (hs.length + 1 + 1) = _; omega
        rw [ew] at A2
        exact ⟨_, _, b2, A2⟩
end
end Mine
namespace Mine
open PySem PySem.W PySem.Calls PyProof.Rows
section
variable {q n place : Nat} {T : List Nat} {ps : List Pt} {j e : Nat} {u : List Nat}
theorem At.starts {b : List Nat} {p1 p2 : List Pt} (B : Built q n T place ps) (A : At q n place T ps j u e p1 p2 b) : ∃ c l, T.drop j = c :: l := by
  rw [A.here]
  cases p2 with
  | nil => obtain ⟨l, h⟩ := ahead_nil_q (q := q) B.n2 b; exact ⟨_, _, h⟩
  | cons p r => rw [ahead_cons]; cases p <;> exact ⟨_, _, rfl⟩
/-- strconst never stands at the end of the text -/
theorem fwd_lt (B : Built q n T place ps) (H : Fwd T q n place j u e) : j < T.length := by
  obtain ⟨p1, p2, b, A⟩ := fwd_at B H
  obtain ⟨c, l, h⟩ := A.starts B
  have := congrArg List.length h
  rw [List.length_drop, List.length_cons] at this
  omega
theorem findInt_some {l1 l2 : List Nat} {c : Nat} (h : isInt c = true) : ∃ k, findInt (l1 ++ c :: l2) = some k := by
  induction l1 with
  | nil => exact ⟨0, by rw [List.nil_append, findInt_cons, if_pos h]⟩
  | cons d l1 ih =>
    obtain ⟨k, hk⟩ := ih
    rw [List.cons_append, findInt_cons]
    split
    · exact ⟨0, rfl⟩
    · exact ⟨k + 1, by rw [hk]; rfl⟩
/-- and a search finds something -/
theorem fwd_find (B : Built q n T place ps) (H : Fwd T q n place j u e) : ∃ k c l, findInt (T.drop j) = some k ∧ T.drop (j + k) = c :: l ∧ isInt c = true := by
  obtain ⟨p1, p2, b, A⟩ := fwd_at B H
  have : ∃ k, findInt (T.drop j) = some k := by
    rw [A.here]
    unfold ahead
    obtain ⟨l, hl⟩ := ahead_nil_q (q := q) B.n2 b
    rw [ahead_nil] at hl
    rw [hl]
    exact findInt_some (isInt_q B.q2)
  obtain ⟨k, hk⟩ := this
  obtain ⟨_, _, _, c, l, _, h1, h2⟩ := at_leap B A hk
  exact ⟨k, c, l, hk, h1, h2⟩
/-- what a search finds in a short string: no line end -/
theorem fwd_nonl (B : Built q n T place ps) (H : Fwd T q n place j u e) {k c : Nat} {l : List Nat} (hk : findInt (T.drop j) = some k) (hd : T.drop (j + k) = c :: l) (hc : c = 13 ∨ c = 10) : n = 3 := by
  obtain ⟨p1, p2, b, A⟩ := fwd_at B H
  obtain ⟨p1', p2', b', c', l', A', hd', _⟩ := at_leap B A hk
  have hh := A'.here
  have hq := B.q2
  rw [hd] at hh
  cases p2' with
  | nil =>
    obtain ⟨l2, e2⟩ := ahead_nil_q (q := q) B.n2 b'
    rw [e2] at hh; injection hh with hh _; omega
  | cons p r =>
    have ho := A'.ok B p (.head _)
    rw [ahead_cons] at hh
    cases p with
    | quote => exact ho
    | nl c' => exact ho.1
    | sign c' => injection hh with hh _; have := ho.2; omega
    | esc i => injection hh with hh _; omega
    | hex u hs => injection hh with hh _; omega
/-- behind a backslash -/
theorem fwd_back (B : Built q n T place ps) (H : Fwd T q n place j u e) {k : Nat} {l : List Nat} (hk : findInt (T.drop j) = some k) (hd : T.drop (j + k) = 92 :: l) :
    ∃ c l', T.drop (j + k + 1) = c :: l' ∧ (0 ≤ escFind c ∨ ∃ m, ((c = 117 ∧ m = 4) ∨ (c = 85 ∧ m = 8)) ∧ j + k + 2 + m ≤ T.length ∧ ((T.drop (j + k + 2)).take m).length = m ∧ (∀ x ∈ (T.drop (j + k + 2)).take m, isHex x = true) ∧ hexVal ((T.drop (j + k + 2)).take m) ≤ 1114111) := by
  obtain ⟨p1, p2, b, A⟩ := fwd_at B H
  obtain ⟨p1', p2', b', c', l', A', hd', _⟩ := at_leap B A hk
  have hh := A'.here
  have hq := B.q2
  have h2 : T.drop (j + k + 1) = (ahead q n b' p2').drop 1 := by rw [← A'.here, List.drop_drop]
  have h3 : T.drop (j + k + 2) = (ahead q n b' p2').drop 2 := by rw [← A'.here, List.drop_drop]
  rw [hd] at hh
  cases p2' with
  | nil =>
    obtain ⟨l2, e2⟩ := ahead_nil_q (q := q) B.n2 b'
    rw [e2] at hh; injection hh with hh _; omega
  | cons p r =>
    have ho := A'.ok B p (.head _)
    rw [ahead_cons] at hh h2 h3
    cases p with
    | quote => injection hh with hh _; omega
    | nl c' => injection hh with hh _; have := ho.2; omega
    | sign c' => injection hh with hh _; exact absurd hh.symm ho.2.1
    | esc i => exact ⟨_, _, h2, .inl (by rw [escFind_P i ho]; omega)⟩
    | hex u hs =>
      have e3 : (T.drop (j + k + 2)).take hs.length = hs := by
        rw [h3]
        show ((hs ++ ahead q n b' r).take hs.length) = hs
        rw [List.take_left]
      refine ⟨u, _, h2, .inr ⟨hs.length, by have := ho.1; omega, ?_, by rw [e3], by rw [e3]; exact ho.2.1, by rw [e3]; exact ho.2.2⟩⟩
      have h4 := congrArg List.length h3
      rw [List.length_drop] at h4
      have h5 : ((Pt.w q (.hex u hs) ++ ahead q n b' r).drop 2).length = hs.length + (ahead q n b' r).length := by
        show (hs ++ ahead q n b' r).length = _
        rw [List.length_append]
      have := ho.1
      omega

theorem starts_take {q m : Nat} {l : List Nat} (h : startsQ q m l = true) : l.take m = List.replicate m q := by
  unfold startsQ at h; exact eq_of_beq h
theorem starts_rep {q m : Nat} {l : List Nat} (h : l.take m = List.replicate m q) : startsQ q m l = true := by
  unfold startsQ; rw [h]; exact beq_self_eq_true _
/-- how many of its own quotes a string ends with -/
theorem quotes (B : Built q n T place ps) (H : Fwd T q n place j u e) (hd : ∃ l, T.drop j = q :: l) (hn : n = 3) :
    ∃ p1 p2 b, At q n place T ps j u e p1 p2 b ∧ ((p2 = [] ∧ startsQ q 3 (T.drop j) = true ∧ startsQ q 4 (T.drop j) = false) ∨ (p2 = [.quote] ∧ startsQ q 4 (T.drop j) = true ∧ startsQ q 5 (T.drop j) = false) ∨ (p2 = [.quote, .quote] ∧ startsQ q 5 (T.drop j) = true) ∨ startsQ q 3 (T.drop j) = false) := by
  obtain ⟨p1, p2, b, A⟩ := fwd_at B H
  refine ⟨p1, p2, b, A, ?_⟩
  have hb := A.behind
  have hr := A.run B
  have hok := A.ok B
  obtain ⟨l, hd⟩ := hd
  rw [A.here] at hd ⊢
  subst hn
  have beh : ∀ k, startsQ q (k + 1) b = false := by
    intro k
    cases h : startsQ q (k + 1) b with
    | false => rfl
    | true =>
      have := starts_take h
      cases b with
      | nil => simp [List.replicate_succ] at this
      | cons x b' => rw [List.take_succ_cons, List.replicate_succ] at this; injection this with e1 _; exact absurd (by rw [e1]) (hb b')
  have sc : ∀ k l, startsQ q (k + 1) (q :: l) = startsQ q k l := by
    intro k l; unfold startsQ; rw [List.take_succ_cons, List.replicate_succ]; simp
  have sn : ∀ k c l, c ≠ q → startsQ q (k + 1) (c :: l) = false := by
    intro k c l h; unfold startsQ; rw [List.take_succ_cons, List.replicate_succ]; simp [h]
  have e0 : ahead q 3 b [] = q :: q :: q :: b := rfl
  have s0 : ∀ l, startsQ q 0 l = true := fun l => by unfold startsQ; simp
  cases p2 with
  | nil => exact .inl ⟨rfl, by rw [e0, sc, sc, sc, s0], by rw [e0, sc, sc, sc, beh]⟩
  | cons p r =>
    by_cases hp : p = .quote
    · subst hp
      have e1 : ahead q 3 b (.quote :: r) = q :: ahead q 3 b r := ahead_cons ..
      rw [e1]
      cases r with
      | nil => exact .inr (.inl ⟨rfl, by rw [e0, sc, sc, sc, sc, s0], by rw [e0, sc, sc, sc, sc, beh]⟩)
      | cons p' r' =>
        by_cases hp' : p' = .quote
        · subst hp'
          have e2 : ahead q 3 b (.quote :: r') = q :: ahead q 3 b r' := ahead_cons ..
          rw [e2]
          cases r' with
          | nil => exact .inr (.inr (.inl ⟨rfl, by rw [e0, sc, sc, sc, sc, sc, s0]⟩))
          | cons p3 r3 =>
            by_cases hp3 : p3 = .quote
            · subst hp3
              have := hr.1
              have := hr.2.1
              have := hr.2.2.1
              omega
            · obtain ⟨c, l, h1, h2⟩ := head_ne (n := 3) B.q2 (hok p3 (by simp)) hp3
              have e3 : ahead q 3 b (p3 :: r3) = c :: (l ++ ahead q 3 b r3) := by rw [ahead_cons, h1]; rfl
              exact .inr (.inr (.inr (by rw [e3, sc, sc, sn _ _ _ h2])))
        · obtain ⟨c, l, h1, h2⟩ := head_ne (n := 3) B.q2 (hok p' (by simp)) hp'
          have e3 : ahead q 3 b (p' :: r') = c :: (l ++ ahead q 3 b r') := by rw [ahead_cons, h1]; rfl
          exact .inr (.inr (.inr (by rw [e3, sc, sn _ _ _ h2])))
    · obtain ⟨c, l', h1, h2⟩ := head_ne (n := 3) B.q2 (hok p (by simp)) hp
      rw [ahead_cons, h1] at hd
      injection hd with hd _
      exact absurd hd h2
theorem starts_less {q m : Nat} {l : List Nat} (h : startsQ q (m + 1) l = true) : startsQ q m l = true := by
  have := starts_take h
  refine starts_rep ?_
  have h2 := congrArg (List.take m) this
  rw [List.take_take, List.take_replicate] at h2
  simpa using h2
theorem end5 (B : Built q n T place ps) (H : Fwd T q n place j u e) (hd : ∃ l, T.drop j = q :: l) (hn : n = 3) (h5 : startsQ q 5 (T.drop j) = true) : j + 5 = place + (wAll q ps).length + 3 ∧ u ++ [q, q] = dAll q ps ∧ e = eAll ps := by
  obtain ⟨p1, p2, b, A, h⟩ := quotes B H hd hn
  have h4 := starts_less h5
  have h3 := starts_less h4
  rcases h with ⟨_, _, h⟩ | ⟨_, _, h⟩ | ⟨h, _⟩ | h
  · rw [h4] at h; cases h
  · rw [h5] at h; cases h
  · subst h
    rw [A.split, wAll_app, dAll_app, eAll_app, List.length_append, A.place, A.told, A.ends]
    exact ⟨by show _ + 5 = place + (_ + 2) + 3; omega, rfl, rfl⟩
  · rw [h3] at h; cases h
theorem end4 (B : Built q n T place ps) (H : Fwd T q n place j u e) (hd : ∃ l, T.drop j = q :: l) (hn : n = 3) (h5 : startsQ q 5 (T.drop j) = false) (h4 : startsQ q 4 (T.drop j) = true) : j + 4 = place + (wAll q ps).length + 3 ∧ u ++ [q] = dAll q ps ∧ e = eAll ps := by
  obtain ⟨p1, p2, b, A, h⟩ := quotes B H hd hn
  have h3 := starts_less h4
  rcases h with ⟨_, _, h⟩ | ⟨h, _, _⟩ | ⟨_, h⟩ | h
  · rw [h4] at h; cases h
  · subst h
    rw [A.split, wAll_app, dAll_app, eAll_app, List.length_append, A.place, A.told, A.ends]
    exact ⟨by show _ + 4 = place + (_ + 1) + 3; omega, rfl, rfl⟩
  · rw [h5] at h; cases h
  · rw [h3] at h; cases h
theorem end3 (B : Built q n T place ps) (H : Fwd T q n place j u e) (hd : ∃ l, T.drop j = q :: l) (hn : n = 3) (h4 : startsQ q 4 (T.drop j) = false) (h3 : startsQ q 3 (T.drop j) = true) : j + 3 = place + (wAll q ps).length + 3 ∧ u = dAll q ps ∧ e = eAll ps := by
  obtain ⟨p1, p2, b, A, h⟩ := quotes B H hd hn
  rcases h with ⟨h, _, _⟩ | ⟨_, h, _⟩ | ⟨_, h⟩ | h
  · subst h
    rw [A.split, List.append_nil, A.place, A.told, A.ends]
    exact ⟨rfl, rfl, rfl⟩
  · rw [h4] at h; cases h
  · have := starts_less h; rw [h4] at this; cases this
  · rw [h3] at h; cases h
theorem end1 (B : Built q n T place ps) (H : Fwd T q n place j u e) (hd : ∃ l, T.drop j = q :: l) (hn : n = 1) : j + 1 = place + (wAll q ps).length + 1 ∧ u = dAll q ps ∧ e = eAll ps := by
  obtain ⟨p1, p2, b, A⟩ := fwd_at B H
  obtain ⟨l, hd⟩ := hd
  rw [A.here] at hd
  cases p2 with
  | nil =>
    rw [A.split, List.append_nil, A.place, A.told, A.ends]
    exact ⟨rfl, rfl, rfl⟩
  | cons p r =>
    exfalso
    have ho := A.ok B p (.head _)
    by_cases hp : p = .quote
    · subst hp; have : n = 3 := ho; omega
    · obtain ⟨c, l', h1, h2⟩ := head_ne B.q2 ho hp
      rw [ahead_cons, h1] at hd
      injection hd with hd _
      exact absurd hd h2
end
end Mine

-- K8
set_option autoImplicit false
set_option maxRecDepth 100000
namespace Mine
open PySem PySem.W PySem.Calls PyProof.Rows
open PySem.Builtin.Str (strSliceIndices)

theorem sliceIdx_beyond {len : Nat} {i j : Int} (h : (len : Int) ≤ j) : strSliceIndices (some i) (some j) 1 len = strSliceIndices (some i) (some (len : Int)) 1 len := by
  unfold strSliceIndices
  simp only [show (1 : Int) > 0 by decide, if_true]
  have e : (if j < 0 then max 0 (j + (len : Int)) else min j (len : Int)) = (if (len : Int) < 0 then max 0 ((len : Int) + len) else min (len : Int) len) := by
    rw [if_neg (by omega), if_neg (by omega)]; omega
  first | (simp only [e]) | skip
  all_goals (congr 1; try omega)
theorem cs_slice {x : PySem.Str} {i j : Int} (h0 : 0 ≤ i) (h1 : i ≤ (x.length : Int)) (h2 : i ≤ j) : cs (Txt.slice x (some i) (some j)) = ((cs x).drop i.toNat).take (j - i).toNat := by
  by_cases h3 : j ≤ (x.length : Int)
  · have := eq_of_beq (slice_closesL h0 h2 h3)
    rw [this]; rfl
  · have h4 := eq_of_beq (slice_closesL (x := x) h0 h1 (Int.le_refl _))
    have e : Txt.slice x (some i) (some j) = Txt.slice x (some i) (some (x.length : Int)) := by
      unfold Txt.slice
      rw [sliceIdx_beyond (by omega)]
    rw [e, h4]
    show ((cs x).drop i.toNat).take ((x.length : Int) - i).toNat = _
    rw [List.take_of_length_le (by rw [List.length_drop, cs_len]; omega), List.take_of_length_le (by rw [List.length_drop, cs_len]; omega)]
theorem find_esc (c : Nat) : Txt.find (PySem.Str.ofString "abfrtvn\\\"'") (one c) = escFind c := by
  by_cases h : c ∈ escPL
  · have : ∀ c ∈ escPL, Txt.find (PySem.Str.ofString "abfrtvn\\\"'") (one c) = escFind c := by decide +kernel
    exact this c h
  · have e : escFind c = -1 := by
      unfold escFind
      rw [List.idxOf?_eq_none_iff.mpr h]
    rw [e]
    have h0 : ∀ i, i < 11 → Builtin.Str.subAt (PySem.Str.ofString "abfrtvn\\\"'") (one c) i = false := by
      have ex : (PySem.Str.ofString "abfrtvn\\\"'").cps = #[97, 98, 102, 114, 116, 118, 110, 92, 34, 39] := by decide +kernel
      simp only [escPL, List.mem_cons, not_or, List.not_mem_nil, not_false_eq_true, and_true] at h
      intro i hi
      unfold Builtin.Str.subAt
      rw [ex]
      show ((#[97, 98, 102, 114, 116, 118, 110, 92, 34, 39] : Array Nat).extract i (i + 1) == #[c]) = false
      rcases (by omega : i = 0 ∨ i = 1 ∨ i = 2 ∨ i = 3 ∨ i = 4 ∨ i = 5 ∨ i = 6 ∨ i = 7 ∨ i = 8 ∨ i = 9 ∨ i = 10) with rfl | rfl | rfl | rfl | rfl | rfl | rfl | rfl | rfl | rfl | rfl <;> simp <;> omega
    unfold Txt.find Builtin.Str.occurrences
    have el : (PySem.Str.ofString "abfrtvn\\\"'").length = 10 := by decide +kernel
    rw [el]
    have hr : List.range' 0 11 = [0, 1, 2, 3, 4, 5, 6, 7, 8, 9, 10] := rfl
    simp [Std.Legacy.Range.forIn_eq_forIn_range', hr, h0 0 (by decide), h0 1 (by decide), h0 2 (by decide), h0 3 (by decide), h0 4 (by decide), h0 5 (by decide), h0 6 (by decide), h0 7 (by decide), h0 8 (by decide), h0 9 (by decide), h0 10 (by decide)]
end Mine
namespace Mine
open PySem PySem.W PySem.Calls PyProof.Rows
def headQ (d : PySem.Str) : Nat := (cs d).headD 0
theorem headQ_one (q : Nat) : headQ (one q) = q := rfl
/-- where strconst stands, in the walk's own words -/
structure FwdAt (x : PySem.Str) (q n : Nat) (p j : Int) (u : PySem.Str) (ln : Int) : Prop where
  p0 : 0 ≤ p
  j0 : 0 ≤ j
  jl : j ≤ (x.length : Int)
  ul : (u.length : Int) ≤ j
  l0 : 0 ≤ ln
  xl : x.length ≤ 1000
  fwd : Fwd (cs x) q n p.toNat j.toNat (cs u) ln.toNat
/-- the text, as the law made it -/
def Made (x : PySem.Str) (q n : Nat) (p : Int) (w d : PySem.Str) (e : Int) : Prop :=
  0 ≤ p ∧ ∃ ps, Built q n (cs x) p.toNat ps ∧ cs w = wAll q ps ∧ cs d = dAll q ps ∧ e = (eAll ps : Nat)

section
variable {pick e t : Int} {k : Nat} {w d x z1 z2 z3 b0 b1 : PySem.Str}
theorem made_of (H : BldP pick k w d e t) (h2 : z2 = z1 ++ w) (h1 : z1 = b0 ++ rep (qOf pick) (dN pick)) (h3 : z3 = z2 ++ rep (qOf pick) (dN pick)) (h4 : x = z3 ++ b1)
    (hb : b1 ∈ [PySem.Str.ofString "", PySem.Str.ofString " .", PySem.Str.ofString "@en", PySem.Str.ofString "^^<a:b>", PySem.Str.ofString "\n\\"]) :
    Made x (qOf pick) (rep (qOf pick) (dN pick)).length ((b0.length : Int) + ((rep (qOf pick) (dN pick)).length : Int)) w d e := by
  obtain ⟨ps, a1, a2, a3, a4, a5, a6, a7, a8⟩ := H
  have en : (rep (qOf pick) (dN pick)).length = dN pick := rep_len _ _
  have hq : qOf pick = 34 ∨ qOf pick = 39 := by unfold qOf; split <;> simp
  rw [en]
  refine ⟨by omega, ps, ⟨hq, ?_, ?_, a2, ?_⟩, a3, a4, a5⟩
  · unfold dN; split <;> simp
  · intro p hp
    have := a1 p hp
    have e3 : (1 < pick) = (dN pick = 3) := by
      unfold dN
      split
      · exact propext ⟨fun h => by omega, fun h => by omega⟩
      · exact propext ⟨fun h => rfl, fun h => by omega⟩
    rw [e3] at this
    exact this
  · refine ⟨cs z1, cs b1, ?_, ?_, ?_⟩
    · rw [h4, h3, h2, cs_app, cs_app, cs_app, cs_rep, a3]
      unfold ahead
      rw [List.append_assoc, List.append_assoc]
    · rw [h1, cs_len, PySem.Str.length_append, rep_len]; omega
    · have hall : ∀ b ∈ [PySem.Str.ofString "", PySem.Str.ofString " .", PySem.Str.ofString "@en", PySem.Str.ofString "^^<a:b>", PySem.Str.ofString "\n\\"], (cs b).headD 0 ≠ 34 ∧ (cs b).headD 0 ≠ 39 := by decide +kernel
      have := hall b1 hb
      intro l hl
      rw [hl] at this
      have h5 : (qOf pick :: l).headD 0 = qOf pick := rfl
      rw [h5] at this
      omega
end

section
variable {x w d u z z2 dd : PySem.Str} {q n : Nat} {p j ln e : Int}
theorem fwdat_start (h0 : 0 ≤ p) (h1 : p ≤ (x.length : Int)) (hx : x.length ≤ 1000) : FwdAt x q n p p (PySem.Str.ofString "") 0 :=
  ⟨h0, h0, h1, by rw [len_e]; omega, Int.le_refl _, hx, Fwd.refl⟩
theorem fwdat_lt (M : Made x q n p w d e) (H : FwdAt x q n p j u ln) : j < (x.length : Int) := by
  obtain ⟨_, ps, B, _⟩ := M
  have := fwd_lt B H.fwd
  rw [cs_len] at this
  have := H.j0
  omega
theorem fwdat_find (M : Made x q n p w d e) (H : FwdAt x q n p j u ln) : ∃ k c l, findInt ((cs x).drop j.toNat) = some k ∧ (cs x).drop (j.toNat + k) = c :: l ∧ isInt c = true := by
  obtain ⟨_, ps, B, _⟩ := M
  exact fwd_find B H.fwd
theorem drop_lt {T : List Nat} {i c : Nat} {l : List Nat} (h : T.drop i = c :: l) : i < T.length := by
  have := congrArg List.length h
  rw [List.length_drop, List.length_cons] at this
  omega
theorem fwdat_quote {c : Nat} {l : List Nat} (H : FwdAt x q n p j u ln) (hn : n = 3) (hD : (cs x).drop j.toNat = c :: l) (hc : c = q) (hs : startsQ q 3 ((cs x).drop j.toNat) = false) (hz : z = u ++ one q) : FwdAt x q n p (j + 1) z ln := by
  subst hc
  have h1 := drop_lt hD
  rw [cs_len] at h1
  have h0 := H.j0
  refine ⟨H.p0, by omega, by omega, ?_, H.l0, H.xl, ?_⟩
  · rw [hz, PySem.Str.length_append, one_len]; have := H.ul; omega
  · have := H.fwd.quote hn hD hs
    rw [hz, cs_app, cs_one, show (j + 1).toNat = j.toNat + 1 by omega]
    exact this
theorem slice_here {k : Nat} (h0 : 0 ≤ j) (h1 : j ≤ (x.length : Int)) : cs (Txt.slice x (some j) (some ((j.toNat + k : Nat) : Int))) = ((cs x).drop j.toNat).take k := by
  rw [cs_slice h0 h1 (by omega), show (((j.toNat + k : Nat) : Int) - j).toNat = k by omega]
theorem fwdat_upto {k c : Nat} {l : List Nat} (H : FwdAt x q n p j u ln) (hk : findInt ((cs x).drop j.toNat) = some k) (hd : (cs x).drop (j.toNat + k) = c :: l) (hc : c = q) (hz : z = u ++ Txt.slice x (some j) (some ((j.toNat + k : Nat) : Int))) : FwdAt x q n p ((j.toNat + k : Nat) : Int) z ln := by
  subst hc
  have h1 := drop_lt hd
  rw [cs_len] at h1
  have h0 := H.j0
  have hl : (Txt.slice x (some j) (some ((j.toNat + k : Nat) : Int))).length ≤ k := by rw [← cs_len, slice_here H.j0 H.jl]; exact List.length_take_le _ _
  refine ⟨H.p0, by omega, by omega, ?_, H.l0, H.xl, ?_⟩
  · rw [hz, PySem.Str.length_append]; have := H.ul; omega
  · have := H.fwd.upto hk hd
    rw [hz, cs_app, slice_here H.j0 H.jl, Int.toNat_natCast]
    exact this
theorem fwdat_other {k c : Nat} {l : List Nat} (H : FwdAt x q n p j u ln) (hk : findInt ((cs x).drop j.toNat) = some k) (hd : (cs x).drop (j.toNat + k) = c :: l) (hc : ¬ c = q) (h34 : c = 34 ∨ c = 39) (hz : z = u ++ Txt.slice x (some j) (some ((j.toNat + k : Nat) : Int))) (hz2 : z2 = z ++ one c) : FwdAt x q n p (((j.toNat + k : Nat) : Int) + 1) z2 ln := by
  have h1 := drop_lt hd
  rw [cs_len] at h1
  have h0 := H.j0
  have hl : (Txt.slice x (some j) (some ((j.toNat + k : Nat) : Int))).length ≤ k := by rw [← cs_len, slice_here H.j0 H.jl]; exact List.length_take_le _ _
  refine ⟨H.p0, by omega, by omega, ?_, H.l0, H.xl, ?_⟩
  · rw [hz2, hz, PySem.Str.length_append, PySem.Str.length_append, one_len]; have := H.ul; omega
  · have := H.fwd.other hk hd hc h34
    rw [hz2, hz, cs_app, cs_app, cs_one, slice_here H.j0 H.jl, show (((j.toNat + k : Nat) : Int) + 1).toNat = j.toNat + k + 1 by omega]
    exact this
theorem fwdat_nl {k c : Nat} {l : List Nat} (H : FwdAt x q n p j u ln) (hk : findInt ((cs x).drop j.toNat) = some k) (hd : (cs x).drop (j.toNat + k) = c :: l) (h34 : c = 13 ∨ c = 10) (hz : z = u ++ Txt.slice x (some j) (some ((j.toNat + k : Nat) : Int))) (hz2 : z2 = z ++ one c) : FwdAt x q n p (((j.toNat + k : Nat) : Int) + 1) z2 (ln + 1) := by
  have h1 := drop_lt hd
  rw [cs_len] at h1
  have h0 := H.j0
  have h3 := H.l0
  have hl : (Txt.slice x (some j) (some ((j.toNat + k : Nat) : Int))).length ≤ k := by rw [← cs_len, slice_here H.j0 H.jl]; exact List.length_take_le _ _
  refine ⟨H.p0, by omega, by omega, ?_, by omega, H.xl, ?_⟩
  · rw [hz2, hz, PySem.Str.length_append, PySem.Str.length_append, one_len]; have := H.ul; omega
  · have := H.fwd.nl hk hd h34
    rw [hz2, hz, cs_app, cs_app, cs_one, slice_here H.j0 H.jl, show (((j.toNat + k : Nat) : Int) + 1).toNat = j.toNat + k + 1 by omega, show (ln + 1).toNat = ln.toNat + 1 by omega]
    exact this
theorem fwdat_esc {k c : Nat} {l l' : List Nat} (H : FwdAt x q n p j u ln) (hk : findInt ((cs x).drop j.toNat) = some k) {cb : Nat} (hd0 : (cs x).drop (j.toNat + k) = cb :: l) (hcb : cb = 92) (hd2 : (cs x).drop (((j.toNat + k : Nat) : Int) + 1).toNat = c :: l') (hi : 0 ≤ escFind c) (hz : z = u ++ Txt.slice x (some j) (some ((j.toNat + k : Nat) : Int))) (hz2 : z2 = z ++ one (escM (escFind c).toNat)) : FwdAt x q n p (((j.toNat + k : Nat) : Int) + 1 + 1) z2 ln := by
  have hd : (cs x).drop (j.toNat + k) = 92 :: l := by rw [hd0, hcb]
  have e1 : (((j.toNat + k : Nat) : Int) + 1).toNat = j.toNat + k + 1 := by omega
  rw [e1] at hd2
  have h1 := drop_lt hd2
  rw [cs_len] at h1
  have h0 := H.j0
  have hl : (Txt.slice x (some j) (some ((j.toNat + k : Nat) : Int))).length ≤ k := by rw [← cs_len, slice_here H.j0 H.jl]; exact List.length_take_le _ _
  refine ⟨H.p0, by omega, by omega, ?_, H.l0, H.xl, ?_⟩
  · rw [hz2, hz, PySem.Str.length_append, PySem.Str.length_append, one_len]; have := H.ul; omega
  · have := H.fwd.esc hk hd hd2 hi
    rw [hz2, hz, cs_app, cs_app, cs_one, slice_here H.j0 H.jl, show (((j.toNat + k : Nat) : Int) + 1 + 1).toNat = j.toNat + k + 2 by omega]
    exact this
theorem fwdat_hex {k c m : Nat} {l l' : List Nat} {j' : Int} (H : FwdAt x q n p j u ln) (hk : findInt ((cs x).drop j.toNat) = some k) {cb : Nat} (hd0 : (cs x).drop (j.toNat + k) = cb :: l) (hcb : cb = 92) (hd2 : (cs x).drop (((j.toNat + k : Nat) : Int) + 1).toNat = c :: l') (hm : (c = 117 ∧ m = 4) ∨ (c = 85 ∧ m = 8)) (hlen : j.toNat + k + 2 + m ≤ x.length) (hj : j' = (j.toNat + k + 2 + m : Nat)) (hz : z = u ++ Txt.slice x (some j) (some ((j.toNat + k : Nat) : Int))) (hz2 : z2 = z ++ one (hexVal (((cs x).drop (j.toNat + k + 2)).take m))) : FwdAt x q n p j' z2 ln := by
  have hd : (cs x).drop (j.toNat + k) = 92 :: l := by rw [hd0, hcb]
  have e1 : (((j.toNat + k : Nat) : Int) + 1).toNat = j.toNat + k + 1 := by omega
  rw [e1] at hd2
  have h0 := H.j0
  have hl : (Txt.slice x (some j) (some ((j.toNat + k : Nat) : Int))).length ≤ k := by rw [← cs_len, slice_here H.j0 H.jl]; exact List.length_take_le _ _
  refine ⟨H.p0, by omega, by omega, ?_, H.l0, H.xl, ?_⟩
  · rw [hz2, hz, PySem.Str.length_append, PySem.Str.length_append, one_len]; have := H.ul; omega
  · have := H.fwd.hex hk hd hd2 hm
    rw [hz2, hz, cs_app, cs_app, cs_one, slice_here H.j0 H.jl, show j'.toNat = j.toNat + k + 2 + m by omega]
    exact this
theorem upto_less {k c c0 : Nat} {l l0 : List Nat} (hD : (cs x).drop j.toNat = c0 :: l0) (hc0 : ¬ c0 = q) (hd : (cs x).drop (j.toNat + k) = c :: l) (hc : c = q) : 0 < k := by
  rcases Nat.eq_zero_or_pos k with h | h
  · subst h; rw [Nat.add_zero, hD] at hd; injection hd with hd _; exact absurd (hd.trans hc) hc0
  · exact h
theorem oth_of {c : Nat} (h : (false || decide (one c = PySem.Str.ofString "\"") || decide (one c = PySem.Str.ofString "'")) = true) : c = 34 ∨ c = 39 := by
  rw [ofS _ 34 (by decide +kernel), ofS _ 39 (by decide +kernel)] at h
  simpa using h
theorem nl_of {c : Nat} (h : (false || decide (one c = PySem.Str.ofString "\r") || decide (one c = PySem.Str.ofString "\n")) = true) : c = 13 ∨ c = 10 := by
  rw [ofS _ 13 (by decide +kernel), ofS _ 10 (by decide +kernel)] at h
  simpa using h
theorem noth_of {c : Nat} (h : (false || decide (one c = PySem.Str.ofString "\"") || decide (one c = PySem.Str.ofString "'")) = false) : c ≠ 34 ∧ c ≠ 39 := by
  rw [ofS _ 34 (by decide +kernel), ofS _ 39 (by decide +kernel)] at h
  simpa using h
theorem nnl_of {c : Nat} (h : (false || decide (one c = PySem.Str.ofString "\r") || decide (one c = PySem.Str.ofString "\n")) = false) : c ≠ 13 ∧ c ≠ 10 := by
  rw [ofS _ 13 (by decide +kernel), ofS _ 10 (by decide +kernel)] at h
  simpa using h
theorem int_no {c : Nat} (hi : isInt c = true) (h1 : c ≠ 34 ∧ c ≠ 39) (h2 : c ≠ 13 ∧ c ≠ 10) (h3 : ¬ c = 92) : False := by
  unfold isInt at hi
  simp only [Bool.or_eq_true, beq_iff_eq] at hi
  omega
/-- the ends -/
theorem fin5 {c : Nat} {l : List Nat} (M : Made x q n p w d e) (H : FwdAt x q n p j u ln) (hD : (cs x).drop j.toNat = c :: l) (hc : c = q) (hn : n = 3) (h5 : startsQ q 5 ((cs x).drop j.toNat) = true) (hz : z = u ++ rep q 2) : j + 5 = p + (w.length : Int) + 3 ∧ z = d ∧ ln = e := by
  obtain ⟨_, ps, B, hw, hd, he⟩ := M
  obtain ⟨a, b, c'⟩ := end5 B H.fwd ⟨l, by rw [hD, hc]⟩ hn h5
  have := H.p0; have := H.j0; have := H.l0
  rw [← hw, cs_len] at a
  exact ⟨by omega, cs_inj (by rw [hz, cs_app, cs_rep, hd, ← b]; rfl), by omega⟩
theorem fin4 {c : Nat} {l : List Nat} (M : Made x q n p w d e) (H : FwdAt x q n p j u ln) (hD : (cs x).drop j.toNat = c :: l) (hc : c = q) (hn : n = 3) (h5 : startsQ q 5 ((cs x).drop j.toNat) = false) (h4 : startsQ q 4 ((cs x).drop j.toNat) = true) (hz : z = u ++ one q) : j + 4 = p + (w.length : Int) + 3 ∧ z = d ∧ ln = e := by
  obtain ⟨_, ps, B, hw, hd, he⟩ := M
  obtain ⟨a, b, c'⟩ := end4 B H.fwd ⟨l, by rw [hD, hc]⟩ hn h5 h4
  have := H.p0; have := H.j0; have := H.l0
  rw [← hw, cs_len] at a
  exact ⟨by omega, cs_inj (by rw [hz, cs_app, cs_one, hd, ← b]), by omega⟩
theorem fin3 {c : Nat} {l : List Nat} (M : Made x q n p w d e) (H : FwdAt x q n p j u ln) (hD : (cs x).drop j.toNat = c :: l) (hc : c = q) (hn : n = 3) (h4 : startsQ q 4 ((cs x).drop j.toNat) = false) (h3 : startsQ q 3 ((cs x).drop j.toNat) = true) : j + 3 = p + (w.length : Int) + 3 ∧ u = d ∧ ln = e := by
  obtain ⟨_, ps, B, hw, hd, he⟩ := M
  obtain ⟨a, b, c'⟩ := end3 B H.fwd ⟨l, by rw [hD, hc]⟩ hn h4 h3
  have := H.p0; have := H.j0; have := H.l0
  rw [← hw, cs_len] at a
  exact ⟨by omega, cs_inj (by rw [hd, ← b]), by omega⟩
theorem fin1 {c : Nat} {l : List Nat} (M : Made x q n p w d e) (H : FwdAt x q n p j u ln) (hD : (cs x).drop j.toNat = c :: l) (hc : c = q) (hn : n = 1) : j + 1 = p + (w.length : Int) + 1 ∧ u = d ∧ ln = e := by
  obtain ⟨_, ps, B, hw, hd, he⟩ := M
  obtain ⟨a, b, c'⟩ := end1 B H.fwd ⟨l, by rw [hD, hc]⟩ hn
  have := H.p0; have := H.j0; have := H.l0
  rw [← hw, cs_len] at a
  exact ⟨by omega, cs_inj (by rw [hd, ← b]), by omega⟩
theorem no_nl {k c : Nat} {l : List Nat} (M : Made x q n p w d e) (H : FwdAt x q n p j u ln) (hk : findInt ((cs x).drop j.toNat) = some k) (hd : (cs x).drop (j.toNat + k) = c :: l) (h : c = 13 ∨ c = 10) (hn : n = 1) : False := by
  obtain ⟨_, ps, B, _⟩ := M
  have := fwd_nonl B H.fwd hk hd h
  omega
theorem back_at {k cb : Nat} {l : List Nat} (M : Made x q n p w d e) (H : FwdAt x q n p j u ln) (hk : findInt ((cs x).drop j.toNat) = some k) (hd0 : (cs x).drop (j.toNat + k) = cb :: l) (hcb : cb = 92) : ∃ c l', (cs x).drop (((j.toNat + k : Nat) : Int) + 1).toNat = c :: l' ∧ (0 ≤ escFind c ∨ ∃ m, ((c = 117 ∧ m = 4) ∨ (c = 85 ∧ m = 8)) ∧ j.toNat + k + 2 + m ≤ x.length ∧ (((cs x).drop (j.toNat + k + 2)).take m).length = m ∧ (∀ y ∈ ((cs x).drop (j.toNat + k + 2)).take m, isHex y = true) ∧ hexVal (((cs x).drop (j.toNat + k + 2)).take m) ≤ 1114111) := by
  have hd : (cs x).drop (j.toNat + k) = 92 :: l := by rw [hd0, hcb]
  obtain ⟨_, ps, B, _⟩ := M
  have := fwd_back B H.fwd hk hd
  rw [cs_len] at this
  rw [show (((j.toNat + k : Nat) : Int) + 1).toNat = j.toNat + k + 1 by omega]
  exact this
end
end Mine

-- K9
set_option autoImplicit false
set_option maxRecDepth 100000
namespace Mine
open PySem PySem.W PySem.Calls PyProof.Rows
theorem loop_none {f : Nat → Array Nat × Nat → Id (ForInStep (Array Nat × Nat))} {p : Nat → Bool} {g : Nat → Nat}
    (hf : ∀ i r, f i r = if (decide (r.1.size < 1) && decide (r.2 ≤ i) && p i) = true then pure (ForInStep.yield (r.1.push i, g i)) else pure (ForInStep.yield (r.1, r.2))) :
    ∀ (l : List Nat) (r : Array Nat × Nat), r.2 = 0 ∨ r.1.size = 1 → ((forIn (m := Id) l r f).1.size = 0 ↔ r.1.size = 0 ∧ ∀ i ∈ l, p i = false) ∧ True
  | [], r, _ => by
    rw [List.forIn_nil]
    exact ⟨⟨fun h => ⟨h, fun i hi => by cases hi⟩, fun h => h.1⟩, trivial⟩
  | i :: l, r, hr => by
    rw [List.forIn_cons, hf]
    by_cases h : (decide (r.1.size < 1) && decide (r.2 ≤ i) && p i) = true
    · rw [if_pos h]
      have ih := loop_none hf l (r.1.push i, g i) (.inr (by
        simp only [Bool.and_eq_true, decide_eq_true_eq] at h
        show (r.1.push i).size = 1
        rw [Array.size_push]; omega))
      refine ⟨⟨fun h2 => ?_, fun h2 => ?_⟩, trivial⟩
      · have := (ih.1.mp h2).1
        simp at this
      · simp only [Bool.and_eq_true, decide_eq_true_eq] at h
        have := h2.2 i (.head _)
        rw [h.2] at this; cases this
    · rw [if_neg h]
      have ih := loop_none hf l r hr
      refine ⟨⟨fun h2 => ?_, fun h2 => ih.1.mpr ⟨h2.1, fun j hj => h2.2 j (.tail _ hj)⟩⟩, trivial⟩
      have h3 := ih.1.mp h2
      refine ⟨h3.1, fun j hj => ?_⟩
      rcases List.mem_cons.mp hj with rfl | hj
      · cases hp : p j with
        | false => rfl
        | true =>
          exfalso
          apply h
          simp only [Bool.and_eq_true, decide_eq_true_eq]
          have := h3.1
          refine ⟨⟨by omega, ?_⟩, hp⟩
          rcases hr with hr | hr
          · omega
          · omega
      · exact h3.2 j hj
theorem subAt_one (x : PySem.Str) (c i : Nat) (hi : i + 1 ≤ x.length) : Builtin.Str.subAt x (one c) i = ((cs x)[i]? == some c) := by
  unfold Builtin.Str.subAt
  show (x.cps.extract i (i + 1) == #[c]) = _
  have hlt : i < x.cps.size := hi
  have e : x.cps.extract i (i + 1) = #[x.cps[i]] := by
    apply Array.ext
    · simp; omega
    · intro j h1 h2
      simp at h1 h2
      have : j = 0 := by omega
      subst this
      simp
  rw [e]
  have e2 : (cs x)[i]? = some x.cps[i] := by
    show x.cps.toList[i]? = _
    rw [Array.getElem?_toList]; simp [hlt]
  rw [e2]
  by_cases h : x.cps[i] = c
  · rw [h]; simp
  · simp [h]
theorem in_one (x : PySem.Str) (c : Nat) : (!(Builtin.Str.occurrences x (one c) 0 x.length 1).isEmpty) = decide (c ∈ cs x) := by
  have key : ∀ (R : Array Nat × Nat), R = forIn (m := Id) (List.range' 0 (x.length + 1)) ((#[], 0) : Array Nat × Nat) (fun i r => if (decide (r.1.size < 1) && decide (r.2 ≤ i) && (decide (i + (one c).length ≤ x.length) && Builtin.Str.subAt x (one c) i)) = true then pure (ForInStep.yield (r.1.push i, i + (one c).length)) else pure (ForInStep.yield (r.1, r.2))) → (R.1.size = 0 ↔ c ∉ cs x) := by
    intro R hR
    have := (loop_none (p := fun i => decide (i + (one c).length ≤ x.length) && Builtin.Str.subAt x (one c) i) (g := fun i => i + (one c).length) (fun i r => rfl) (List.range' 0 (x.length + 1)) (#[], 0) (.inl rfl)).1
    rw [hR, this]
    constructor
    · intro h hc
      obtain ⟨i, hi, e⟩ := List.mem_iff_getElem.mp hc
      rw [cs_len] at hi
      have := h.2 i (by rw [List.mem_range'_1]; omega)
      rw [subAt_one x c i (by omega), List.getElem?_eq_getElem (by rw [cs_len]; exact hi), e] at this
      have h1 : i + (one c).length ≤ x.length := by rw [one_len]; omega
      simp [h1] at this
    · intro h
      refine ⟨rfl, fun i _ => ?_⟩
      by_cases hi : i + 1 ≤ x.length
      · rw [subAt_one x c i hi]
        cases hq : (cs x)[i]? == some c with
        | false => rw [Bool.and_false]
        | true =>
          exfalso
          apply h
          exact List.mem_of_getElem? (eq_of_beq hq)
      · have : ¬ i + (one c).length ≤ x.length := by rw [one_len]; exact hi
        rw [decide_eq_false this, Bool.false_and]
  unfold Builtin.Str.occurrences
  simp only [Std.Legacy.Range.forIn_eq_forIn_range', Std.Legacy.Range.size, Id.run]
  have k2 := key _ rfl
  simp only [Nat.sub_zero, Nat.add_sub_cancel, Nat.div_one, ← Bool.and_assoc] at k2 ⊢
  refine Eq.trans (b := !(List.isEmpty (Array.toList (forIn (m := Id) (List.range' 0 (x.length + 1)) ((#[], 0) : Array Nat × Nat) (fun i r => if (decide (r.1.size < 1) && decide (r.2 ≤ i) && decide (i + (one c).length ≤ x.length) && Builtin.Str.subAt x (one c) i) = true then pure (ForInStep.yield (r.1.push i, i + (one c).length)) else pure (ForInStep.yield (r.1, r.2)))).1))) rfl ?_
  generalize (forIn (m := Id) (List.range' 0 (x.length + 1)) ((#[], 0) : Array Nat × Nat) (fun i r => if (decide (r.1.size < 1) && decide (r.2 ≤ i) && decide (i + (one c).length ≤ x.length) && Builtin.Str.subAt x (one c) i) = true then pure (ForInStep.yield (r.1.push i, i + (one c).length)) else pure (ForInStep.yield (r.1, r.2)))) = R at k2 ⊢
  by_cases h : c ∈ cs x
  · rw [decide_eq_true h]
    have : ¬ R.1.size = 0 := fun h2 => k2.mp h2 h
    have h3 : ¬ R.1.toList = [] := fun h4 => this (by have := congrArg List.length h4; simpa using this)
    cases h5 : R.1.toList with
    | nil => exact absurd h5 h3
    | cons a l => rfl
  · rw [decide_eq_false h]
    have h2 := k2.mpr h
    have h4 : R.1.toList = [] := List.eq_nil_of_length_eq_zero (by rw [Array.length_toList]; exact h2)
    rw [h4]; rfl
end Mine

-- L3
set_option autoImplicit false
set_option maxRecDepth 100000
namespace Mine
open PySem

inductive Steps : List Nat → Nat → Nat → Prop
  | stop {L : List Nat} : reMatch tlEol L = none → Steps L 0 0
  | more {L : List Nat} {k m n : Nat} : reMatch tlEol L = some k → Steps (L.drop k) m n → Steps L (k + m) (n + 1)
theorem Steps.det {L : List Nat} {m n : Nat} (h : Steps L m n) : ∀ {m' n' : Nat}, Steps L m' n' → m = m' ∧ n = n' := by
  induction h with
  | stop e =>
    intro m' n' h'
    cases h' with
    | stop _ => exact ⟨rfl, rfl⟩
    | more e' _ => rw [e] at e'; cases e'
  | more e _ ih =>
    intro m' n' h'
    cases h' with
    | stop e' => rw [e] at e'; cases e'
    | more e' h2 =>
      rw [e] at e'; cases e'
      obtain ⟨a, b⟩ := ih h2
      exact ⟨by omega, by omega⟩
theorem Steps.zero {L : List Nat} {m : Nat} (h : Steps L m 0) : m = 0 := by cases h; rfl

theorem blank_dropWhile {B : List Nat} (hb : ∀ c ∈ B, isBlank c = true) (L : List Nat) : (B ++ L).dropWhile isBlank = L.dropWhile isBlank := by
  induction B with
  | nil => rfl
  | cons c B ih =>
    rw [List.cons_append, List.dropWhile_cons, hb c (.head _)]
    exact ih (fun d hd => hb d (.tail _ hd))
theorem blank_takeWhile {B : List Nat} (hb : ∀ c ∈ B, isBlank c = true) (L : List Nat) : ((B ++ L).takeWhile isBlank).length = B.length + (L.takeWhile isBlank).length := by
  induction B with
  | nil => simp
  | cons c B ih =>
    rw [List.cons_append, List.takeWhile_cons, hb c (.head _)]
    simp only [if_true, List.length_cons]
    rw [ih (fun d hd => hb d (.tail _ hd))]
    omega
theorem blank_match {tl : List Nat → Option Nat} {B : List Nat} (hb : ∀ c ∈ B, isBlank c = true) (L : List Nat) : reMatch tl (B ++ L) = (reMatch tl L).map (B.length + ·) := by
  unfold reMatch
  rw [blank_dropWhile hb, blank_takeWhile hb, Option.map_map]
  congr 1
  funext k
  simp only [Function.comp]
  omega
theorem blank_steps {B L : List Nat} {m n : Nat} (hb : ∀ c ∈ B, isBlank c = true) (h : Steps L m n) : Steps (B ++ L) (if n = 0 then 0 else B.length + m) n := by
  cases h with
  | stop e => exact Steps.stop (by rw [blank_match hb, e]; rfl)
  | more e h2 =>
    rename_i k m n
    rw [if_neg (by omega), ← Nat.add_assoc]
    refine Steps.more (by rw [blank_match hb, e]; rfl) ?_
    have : (B ++ L).drop (B.length + k) = L.drop k := by rw [← List.drop_drop, List.drop_left]
    rw [this]; exact h2

theorem ln_steps {T : List Nat} {p q n : Nat} (h : Ln T p q n) : ∀ {m n' : Nat}, Steps (T.drop q) m n' → p ≤ q ∧ Steps (T.drop p) (q - p + m) (n + n') := by
  induction h with
  | refl => intro m n' h; exact ⟨Nat.le_refl _, by rw [Nat.sub_self, Nat.zero_add, Nat.zero_add]; exact h⟩
  | step _ hk ih =>
    rename_i q n k _
    intro m n' h
    have := ih (Steps.more hk (by rw [List.drop_drop]; exact h))
    refine ⟨by omega, ?_⟩
    rw [show q + k - p + m = q - p + (k + m) by omega, show n + 1 + n' = n + (n' + 1) by omega]
    exact this.2

inductive Part : List Nat → Int → Prop
  | blank {l : List Nat} (h : ∀ c ∈ l, isBlank c = true) : Part l 0
  | line {c : Nat} {r : List Nat} (hm : isMark c = true) (hb : isBlank c = false) (h : ∀ L, reMatch tlEol ((c :: r) ++ L) = some (c :: r).length) : Part (c :: r) 1

/-- the parts and then an end: the steps come behind the last line, before the blanks -/
theorem parts_steps {α : Type} (g : α → List Nat) (f : α → Int) (ce : List Nat) (he : reMatch tlEol ce = none) : ∀ qs : List α, (∀ p ∈ qs, Part (g p) (f p)) →
    ∃ m n bs, Steps ((qs.map g).flatten ++ ce) m n ∧ (n : Int) = (qs.map f).sum ∧ ((qs.map g).flatten ++ ce).drop m = bs ++ ce ∧ (∀ c ∈ bs, isBlank c = true) ∧ m + bs.length = (qs.map g).flatten.length
  | [], _ => ⟨0, 0, [], Steps.stop he, rfl, rfl, by simp, rfl⟩
  | p :: qs, h => by
    obtain ⟨m, n, bs, h1, h2, h3, h4, h5⟩ := parts_steps g f ce he qs (fun q hq => h q (.tail _ hq))
    have hp := h p (.head _)
    simp only [List.map_cons, List.flatten_cons, List.sum_cons, List.append_assoc, List.length_append]
    generalize g p = l at hp ⊢
    generalize f p = z at hp ⊢
    cases hp with
    | blank hb =>
      have hs := blank_steps hb h1
      by_cases hn : n = 0
      · subst hn
        have hm := h1.zero
        subst hm
        rw [if_pos rfl] at hs
        refine ⟨0, 0, l ++ bs, hs, by omega, ?_, fun c hc => (List.mem_append.mp hc).elim (hb c) (h4 c), by rw [List.length_append]; omega⟩
        rw [List.drop_zero] at h3 ⊢
        rw [h3, List.append_assoc]
      · rw [if_neg hn] at hs
        refine ⟨_, n, bs, hs, by omega, ?_, h4, by omega⟩
        rw [← List.drop_drop, List.drop_left]; exact h3
    | line hm hb hk =>
      rename_i c r
      refine ⟨(c :: r).length + m, n + 1, bs, Steps.more (hk _) (by rw [List.drop_left]; exact h1), by omega, ?_, h4, by omega⟩
      rw [← List.drop_drop, List.drop_left]; exact h3

theorem dropWhile_take (L : List Nat) : L = L.takeWhile isBlank ++ L.dropWhile isBlank := (List.takeWhile_append_dropWhile).symm
theorem head_dropWhile : ∀ {L : List Nat} {c : Nat} {l : List Nat}, L.dropWhile isBlank = c :: l → isBlank c = false
  | [], _, _, h => by cases h
  | d :: L, c, l, h => by
    rw [List.dropWhile_cons] at h
    cases hd : isBlank d with
    | true => rw [hd] at h; exact head_dropWhile h
    | false => rw [hd] at h; cases h; exact hd
theorem all_takeWhile_blank (L : List Nat) : ∀ c ∈ L.takeWhile isBlank, isBlank c = true := fun c hc => List.all_eq_true.mp List.all_takeWhile c hc

/-- from any place on: where the steps and the blanks behind them end -/
theorem end_of {α : Type} (g : α → List Nat) (f : α → Int) (ce : List Nat) (he : reMatch tlEol ce = none) (qs : List α) (hq : ∀ p ∈ qs, Part (g p) (f p)) {m n : Nat}
    (h : Steps (((qs.map g).flatten ++ ce).dropWhile isBlank) m n) :
    (n : Int) = (qs.map f).sum ∧ (((qs.map g).flatten ++ ce).takeWhile isBlank).length + m + (((((qs.map g).flatten ++ ce).dropWhile isBlank).drop m).takeWhile isBlank).length = (qs.map g).flatten.length + (ce.takeWhile isBlank).length := by
  obtain ⟨m', n', bs, h1, h2, h3, h4, h5⟩ := parts_steps g f ce he qs hq
  generalize hR : (qs.map g).flatten ++ ce = R at *
  have hs := blank_steps (all_takeWhile_blank R) h
  rw [← dropWhile_take] at hs
  obtain ⟨e1, e2⟩ := hs.det h1
  subst e2
  refine ⟨h2, ?_⟩
  by_cases hn : n = 0
  · subst hn
    have hm := h.zero
    subst hm
    rw [if_pos rfl] at e1
    subst e1
    rw [List.drop_zero] at h3
    have e4 : ((R.dropWhile isBlank).takeWhile isBlank).length = 0 := by
      cases hd : R.dropWhile isBlank with
      | nil => rfl
      | cons c l =>
        have : isBlank c = false := head_dropWhile hd
        rw [List.takeWhile_cons, this]; rfl
    rw [List.drop_zero, e4, h3, blank_takeWhile h4]
    omega
  · rw [if_neg hn] at e1
    have e5 : (R.dropWhile isBlank).drop m = bs ++ ce := by
      rw [← h3, ← e1, ← List.drop_drop, drop_takeWhile]
    rw [e5, blank_takeWhile h4]
    omega
end Mine

-- L3b
set_option autoImplicit false
set_option maxRecDepth 100000
namespace Mine
open PySem PySem.W PySem.Calls PyProof.Rows

def Blk (x : PySem.Str) (i0 i : Int) : Prop := 0 ≤ i0 ∧ i0 ≤ i ∧ i ≤ (x.length : Int) ∧ x.length ≤ 1000 ∧ ∀ k : Nat, i0.toNat ≤ k → k < i.toNat → isBlank ((cs x).getD k 0) = true
theorem blk_start {x : PySem.Str} {i : Int} (h0 : 0 ≤ i) (h1 : i ≤ (x.length : Int)) (h2 : x.length ≤ 1000) : Blk x i i := ⟨h0, Int.le_refl _, h1, h2, fun k a b => absurd b (by omega)⟩
theorem blk_step {x : PySem.Str} {i0 i : Int} {c : Nat} {l : List Nat} (B : Blk x i0 i) (hl : (cs x).drop i.toNat = c :: l) (hc : isBlank c = true) : Blk x i0 (i + 1) := by
  obtain ⟨a, b, d, e, f⟩ := B
  have h1 := lt_of_rest (T := x.cps) hl
  have h2 : x.cps.size = x.length := rfl
  refine ⟨a, by omega, by omega, e, fun k k1 k2 => ?_⟩
  rcases Nat.lt_or_ge k i.toNat with q | q
  · exact f k k1 q
  · have ek : k = i.toNat := by omega
    subst ek
    have : (cs x)[i.toNat]? = some c := by
      have : ((cs x).drop i.toNat)[0]? = some c := by rw [hl]; rfl
      rwa [List.getElem?_drop, Nat.add_zero] at this
    rw [List.getD_eq_getElem?_getD, this]
    exact hc

def menu3 : List PySem.Str := [PySem.Str.ofString " ", PySem.Str.ofString "\t", PySem.Str.ofString "\n", PySem.Str.ofString "\r\n", PySem.Str.ofString "# a b\n", PySem.Str.ofString "#\r\n", PySem.Str.ofString "   ", PySem.Str.ofString "#<x> .\n"]
def ends3 : List PySem.Str := [PySem.Str.ofString "a", PySem.Str.ofString "<x>", PySem.Str.ofString "\"", PySem.Str.ofString "", PySem.Str.ofString "  ", PySem.Str.ofString "# no end", PySem.Str.ofString "\t# x"]
def cntNl (p : PySem.Str) : Int := (PySem.Txt.count p (PySem.Str.ofString "\n") : Int)
def dueFlag (e : PySem.Str) : Bool := ([PySem.Str.ofString "a", PySem.Str.ofString "<", PySem.Str.ofString "\""].any fun x => x == PySem.Txt.slice e none (some 1)) && (e != PySem.Str.ofString "")
def dueOf (e z : PySem.Str) : Int := if dueFlag e = true then (z.length : Int) else -1

theorem part_of {p : PySem.Str} {l : List Nat} {z : Int} (h1 : cs p = l) (h2 : cntNl p = z) (h : Part l z) : Part (cs p) (cntNl p) := by rw [h1, h2]; exact h
theorem menu3_part (p : PySem.Str) (h : p ∈ menu3) : Part (cs p) (cntNl p) := by
  simp only [menu3, List.mem_cons, List.not_mem_nil, or_false] at h
  rcases h with rfl | rfl | rfl | rfl | rfl | rfl | rfl | rfl
  · exact part_of (l := [32]) (z := 0) (by decide +kernel) (by decide +kernel) (.blank (by decide))
  · exact part_of (l := [9]) (z := 0) (by decide +kernel) (by decide +kernel) (.blank (by decide))
  · exact part_of (l := [10]) (z := 1) (by decide +kernel) (by decide +kernel) (.line rfl rfl (fun L => rfl))
  · exact part_of (l := [13, 10]) (z := 1) (by decide +kernel) (by decide +kernel) (.line rfl rfl (fun L => rfl))
  · exact part_of (l := [35, 32, 97, 32, 98, 10]) (z := 1) (by decide +kernel) (by decide +kernel) (.line rfl rfl (fun L => rfl))
  · exact part_of (l := [35, 13, 10]) (z := 1) (by decide +kernel) (by decide +kernel) (.line rfl rfl (fun L => rfl))
  · exact part_of (l := [32, 32, 32]) (z := 0) (by decide +kernel) (by decide +kernel) (.blank (by decide))
  · exact part_of (l := [35, 60, 120, 62, 32, 46, 10]) (z := 1) (by decide +kernel) (by decide +kernel) (.line rfl rfl (fun L => rfl))

theorem ends3_no : ∀ e ∈ ends3, reMatch tlEol (cs e) = none := by decide +kernel
theorem ends3_eof : ∀ e ∈ ends3, (reMatch tlEof ((cs e).dropWhile isBlank)).isNone = dueFlag e := by decide +kernel
theorem ends3_bl : ∀ e ∈ ends3, dueFlag e = true → (cs e).takeWhile isBlank = [] := by decide +kernel
theorem ends3_all : ∀ e ∈ ends3, (cs e).all isBlank = true → dueFlag e = false := by decide +kernel
theorem ends3_first : ∀ e ∈ ends3, (match (cs e).dropWhile isBlank with | c :: _ => !isMark c | [] => false) = true → dueFlag e = true := by decide +kernel

section
variable {ps : List PySem.Str} {n : Nat} {x z1 z2 e : PySem.Str}
/-- the text of the law -/
structure Txt3 (ps : List PySem.Str) (n : Nat) (x z1 z2 e : PySem.Str) : Prop where
  hx : x = z1 ++ e
  hz1 : z1 = PySem.Txt.join (PySem.Str.ofString "") ps
  hz2 : z2 = PySem.Txt.join (PySem.Str.ofString "") (ps.take n)
  hM : ∀ p ∈ ps, p ∈ menu3
  hE : e ∈ ends3
def rest3 (ps : List PySem.Str) (n : Nat) (e : PySem.Str) : List Nat := ((ps.drop n).map cs).flatten ++ cs e
theorem Txt3.split (H : Txt3 ps n x z1 z2 e) : cs x = cs z2 ++ rest3 ps n e := by
  unfold rest3
  rw [H.hx, cs_app, H.hz1, H.hz2, cs_join, cs_join, ← List.append_assoc]
  congr 1
  rw [← List.flatten_append, ← List.map_append, List.take_append_drop]
theorem Txt3.drop (H : Txt3 ps n x z1 z2 e) : (cs x).drop z2.length = rest3 ps n e := by
  rw [H.split, ← cs_len z2, List.drop_left]
theorem Txt3.len1 (H : Txt3 ps n x z1 z2 e) : z1.length = z2.length + ((ps.drop n).map cs).flatten.length := by
  rw [← cs_len z1, ← cs_len z2, H.hz1, H.hz2, cs_join, cs_join, ← List.length_append, ← List.flatten_append, ← List.map_append, List.take_append_drop]
theorem Txt3.len (H : Txt3 ps n x z1 z2 e) : x.length = z2.length + (rest3 ps n e).length := by
  rw [← cs_len x, H.split, List.length_append, cs_len]
theorem Txt3.parts (H : Txt3 ps n x z1 z2 e) : ∀ p ∈ ps.drop n, Part (cs p) (cntNl p) := fun p hp => menu3_part p (H.hM p (List.mem_of_mem_drop hp))

/-- blanks up to a place -/
theorem blk_rest {i : Int} (H : Txt3 ps n x z1 z2 e) (B : Blk x (z2.length : Int) i) : ∃ d, i.toNat = z2.length + d ∧ (∀ c ∈ (rest3 ps n e).take d, isBlank c = true) ∧ (cs x).drop i.toNat = (rest3 ps n e).drop d ∧ d ≤ (rest3 ps n e).length := by
  obtain ⟨_, b, c, _, f⟩ := B
  have hl := H.len
  refine ⟨i.toNat - z2.length, by omega, fun q hq => ?_, ?_, by omega⟩
  · obtain ⟨k, hk, ek⟩ := List.mem_iff_getElem.mp hq
    rw [List.length_take] at hk
    have := f (z2.length + k) (by omega) (by omega)
    have e2 : (cs x).getD (z2.length + k) 0 = q := by
      rw [H.split, List.getD_eq_getElem?_getD, ← cs_len z2, List.getElem?_append_right (by omega), Nat.add_sub_cancel_left, ← ek, List.getElem_take, List.getElem?_eq_getElem (by omega)]
      rfl
    rw [e2] at this; exact this
  · rw [← H.drop, List.drop_drop]; congr 1; omega

theorem path_end {i : Int} (H : Txt3 ps n x z1 z2 e) (B : Blk x (z2.length : Int) i) (ho : (x.length : Int) ≤ i) : dueOf e z1 = -1 := by
  obtain ⟨d, h1, h2, h3, h4⟩ := blk_rest H B
  have hl := H.len
  have hd : d = (rest3 ps n e).length := by omega
  rw [hd, List.take_length] at h2
  have : (cs e).all isBlank = true := List.all_eq_true.mpr fun c hc => h2 c (by unfold rest3; exact List.mem_append_right _ hc)
  unfold dueOf
  rw [ends3_all e H.hE this]; rfl
theorem blk_split {i : Int} {c : Nat} {l : List Nat} (H : Txt3 ps n x z1 z2 e) (B : Blk x (z2.length : Int) i) (hd : (cs x).drop i.toNat = c :: l) (hc : isBlank c = false) :
    i.toNat = z2.length + ((rest3 ps n e).takeWhile isBlank).length ∧ (rest3 ps n e).dropWhile isBlank = c :: l := by
  obtain ⟨d, h1, h2, h3, h4⟩ := blk_rest H B
  have e1 : rest3 ps n e = (rest3 ps n e).take d ++ c :: l := by rw [← hd, h3, List.take_append_drop]
  have e2 := blank_takeWhile h2 (c :: l)
  have e3 := blank_dropWhile h2 (c :: l)
  rw [← e1] at e2 e3
  have e4 : ((c :: l).takeWhile isBlank).length = 0 := by rw [List.takeWhile_cons, hc]; rfl
  have e5 : (c :: l).dropWhile isBlank = c :: l := by rw [List.dropWhile_cons, hc]; rfl
  rw [e4, List.length_take] at e2
  rw [e5] at e3
  exact ⟨by omega, e3⟩
theorem Txt3.fin (H : Txt3 ps n x z1 z2 e) {m k : Nat} (h : Steps ((rest3 ps n e).dropWhile isBlank) m k) :
    (k : Int) = ((ps.drop n).map cntNl).sum ∧ z2.length + ((rest3 ps n e).takeWhile isBlank).length + m + ((((rest3 ps n e).dropWhile isBlank).drop m).takeWhile isBlank).length = z1.length + ((cs e).takeWhile isBlank).length := by
  have h1 := H.len1
  obtain ⟨a, b⟩ := end_of cs cntNl (cs e) (ends3_no e H.hE) (ps.drop n) H.parts h
  refine ⟨a, ?_⟩
  unfold rest3
  omega
theorem plain_none {c : Nat} {l : List Nat} (hb : isBlank c = false) (hm : isMark c = false) : reMatch tlEol (c :: l) = none := by
  have h35 : c ≠ 35 := fun q => by subst q; cases hm
  have h10 : c ≠ 10 := fun q => by subst q; cases hm
  have h13 : c ≠ 13 := fun q => by subst q; cases hm
  unfold reMatch
  rw [List.dropWhile_cons, hb]
  simp only [Bool.false_eq_true, if_false]
  rw [remark_no (fun l' q => by injection q with q; exact h35 q)]
  have : tlEol (c :: l) = none := by
    unfold tlEol
    split
    · rename_i q; injection q with q; exact absurd q h10
    · rename_i q; injection q with q; exact absurd q h13
    · rfl
  rw [this]; rfl
theorem tail_at (H : Txt3 ps n x z1 z2 e) {q : Nat} (hq : q = z1.length + ((cs e).takeWhile isBlank).length) : (cs x).drop q = (cs e).dropWhile isBlank := by
  rw [hq, H.hx, cs_app, ← List.drop_drop, ← cs_len z1, List.drop_left, drop_takeWhile]
theorem path_word {i : Int} {c : Nat} {l : List Nat} (H : Txt3 ps n x z1 z2 e) (B : Blk x (z2.length : Int) i) (hd : (cs x).drop i.toNat = c :: l) (hc : isBlank c = false) (hm : isMark c = false) :
    0 ≤ i ∧ dueOf e z1 = i ∧ ((ps.drop n).map cntNl).sum = 0 := by
  obtain ⟨h1, h2⟩ := blk_split H B hd hc
  have h3 : Steps ((rest3 ps n e).dropWhile isBlank) 0 0 := Steps.stop (by rw [h2]; exact plain_none hc hm)
  obtain ⟨a, b⟩ := H.fin h3
  have e4 : ((((rest3 ps n e).dropWhile isBlank).drop 0).takeWhile isBlank).length = 0 := by rw [List.drop_zero, h2, List.takeWhile_cons, hc]; rfl
  rw [e4] at b
  have h5 := tail_at H (q := i.toNat) (by omega)
  have h6 : dueFlag e = true := ends3_first e H.hE (by rw [← h5, hd]; simp [hm])
  have h7 := ends3_bl e H.hE h6
  rw [h7] at b
  have hi := B.2.1
  refine ⟨by omega, ?_, by omega⟩
  unfold dueOf
  rw [if_pos h6]
  simp at b
  omega
theorem path_lines {i1 i m : Int} {c k : Nat} {l : List Nat} (H : Txt3 ps n x z1 z2 e) (B : Blk x (z2.length : Int) i1) (hd : (cs x).drop i1.toNat = c :: l) (hc : isBlank c = false) (N : LnAt x i1 i m) (hn : reMatch tlEol ((cs x).drop i.toNat) = none)
    (hk : k = (((cs x).drop i.toNat).takeWhile isBlank).length) : m = ((ps.drop n).map cntNl).sum ∧ i.toNat + k = z1.length + ((cs e).takeWhile isBlank).length := by
  obtain ⟨h1, h2⟩ := blk_split H B hd hc
  obtain ⟨n1, n2, n3, n4, n5, n6⟩ := N
  obtain ⟨h3, h4⟩ := ln_steps n6 (Steps.stop hn)
  rw [Nat.add_zero, Nat.add_zero, hd, ← h2] at h4
  obtain ⟨a, b⟩ := H.fin h4
  have e5 : ((rest3 ps n e).dropWhile isBlank).drop (i.toNat - i1.toNat) = (cs x).drop i.toNat := by
    rw [h2, ← hd, List.drop_drop]; congr 1; omega
  rw [e5, ← hk] at b
  exact ⟨by omega, by omega⟩
theorem path_some {i1 i m : Int} {c k : Nat} {l : List Nat} (H : Txt3 ps n x z1 z2 e) (B : Blk x (z2.length : Int) i1) (hd : (cs x).drop i1.toNat = c :: l) (hc : isBlank c = false) (N : LnAt x i1 i m) (hn : reMatch tlEol ((cs x).drop i.toNat) = none)
    (hk : k = (((cs x).drop i.toNat).takeWhile isBlank).length) (he : reMatch tlEof ((cs x).drop ((i.toNat + k : Nat) : Int).toNat) = none) : dueOf e z1 = ((i.toNat + k : Nat) : Int) ∧ m = ((ps.drop n).map cntNl).sum := by
  obtain ⟨a, b⟩ := path_lines H B hd hc N hn hk
  have h5 := tail_at H b
  rw [Int.toNat_natCast, h5] at he
  have h6 : dueFlag e = true := by rw [← ends3_eof e H.hE, he]; rfl
  have h7 := ends3_bl e H.hE h6
  rw [h7] at b
  refine ⟨?_, a⟩
  unfold dueOf
  rw [if_pos h6]
  simp at b
  omega
theorem path_none {i1 i m : Int} {c k k2 : Nat} {l : List Nat} (H : Txt3 ps n x z1 z2 e) (B : Blk x (z2.length : Int) i1) (hd : (cs x).drop i1.toNat = c :: l) (hc : isBlank c = false) (N : LnAt x i1 i m) (hn : reMatch tlEol ((cs x).drop i.toNat) = none)
    (hk : k = (((cs x).drop i.toNat).takeWhile isBlank).length) (he : reMatch tlEof ((cs x).drop ((i.toNat + k : Nat) : Int).toNat) = some k2) : dueOf e z1 = -1 := by
  obtain ⟨a, b⟩ := path_lines H B hd hc N hn hk
  have h5 := tail_at H b
  rw [Int.toNat_natCast, h5] at he
  have h6 : dueFlag e = false := by rw [← ends3_eof e H.hE, he]; rfl
  unfold dueOf
  rw [h6]; rfl
end
end Mine

-- L7
set_option autoImplicit false
set_option maxRecDepth 100000
namespace Mine
open PySem PySem.W PySem.Calls PyProof.Rows
/-- law 4: signs that end a name, signs that end a prefix, figures, signs behind a backslash, signs that a number opens with -/
abbrev NQs : PySem.Str := PySem.Str.ofString "\t\r\n !\"#$&'()*+,/;<=>?\x40[\\]^`{|}~"
abbrev NNs : PySem.Str := PySem.Str.ofString "\t\r\n !\"#$&'()*+,/;<=>?\x40[\\]^`{|}~:"
abbrev HXs : PySem.Str := PySem.Str.ofString "ABCDEFabcdef0123456789"
abbrev ESs : PySem.Str := PySem.Str.ofString "(_~.-!$&'()*+,;=/?#@%)"
abbrev NMs : PySem.Str := PySem.Str.ofString "0123456789-+."
theorem nq_list : cs NQs = [9, 13, 10, 32, 33, 34, 35, 36, 38, 39, 40, 41, 42, 43, 44, 47, 59, 60, 61, 62, 63, 64, 91, 92, 93, 94, 96, 123, 124, 125, 126] := by decide +kernel
theorem nn_list : cs NNs = [9, 13, 10, 32, 33, 34, 35, 36, 38, 39, 40, 41, 42, 43, 44, 47, 59, 60, 61, 62, 63, 64, 91, 92, 93, 94, 96, 123, 124, 125, 126, 58] := by decide +kernel

inductive Nit where
  | plain (c : Nat)
  | esc (c : Nat)
def Nit.w : Nit → List Nat
  | .plain c => [c]
  | .esc c => [92, c]
def Nit.n : Nit → List Nat
  | .plain c => [c]
  | .esc c => [c]
def Nit.ok : Nit → Prop
  | .plain c => c ∉ cs NQs
  | .esc c => c ∈ cs ESs ∧ c ≠ 46
def wI (is : List Nit) : List Nat := (is.map Nit.w).flatten
def nI (is : List Nit) : List Nat := (is.map Nit.n).flatten
def pctOk : List Nit → Prop
  | [] => True
  | .plain c :: r => (c = 37 → ∃ a b r', r = .plain a :: .plain b :: r' ∧ a ∈ cs HXs ∧ b ∈ cs HXs) ∧ pctOk r
  | .esc _ :: r => pctOk r
/-- the last sign of a name is no point -/
def lastC : Nat → List Nit → Nat
  | k, [] => k
  | _, .plain c :: r => lastC c r
  | _, .esc c :: r => lastC c r
theorem wI_app (A B : List Nit) : wI (A ++ B) = wI A ++ wI B := by unfold wI; rw [List.map_append, List.flatten_append]
theorem nI_app (A B : List Nit) : nI (A ++ B) = nI A ++ nI B := by unfold nI; rw [List.map_append, List.flatten_append]
theorem wI_cons (i : Nit) (B : List Nit) : wI (i :: B) = i.w ++ wI B := rfl
theorem nI_cons (i : Nit) (B : List Nit) : nI (i :: B) = i.n ++ nI B := rfl
theorem pct_tail : ∀ (A B : List Nit), pctOk (A ++ B) → pctOk B
  | [], _, h => h
  | .plain _ :: A, B, h => pct_tail A B h.2
  | .esc _ :: A, B, h => pct_tail A B h
theorem lastC_app : ∀ (A B : List Nit) (k : Nat), lastC k (A ++ B) = lastC (lastC k A) B
  | [], _, _ => rfl
  | .plain c :: A, B, _ => lastC_app A B c
  | .esc c :: A, B, _ => lastC_app A B c
/-- the sign ahead of a place -/
theorem lastC_at : ∀ (is : List Nit) (pre : List Nat) (k : Nat) (tail : List Nat), ∃ pre', (pre ++ [k]) ++ (wI is ++ tail) = (pre' ++ [lastC k is]) ++ tail ∧ pre'.length + 1 = pre.length + 1 + (wI is).length
  | [], pre, k, tail => ⟨pre, rfl, rfl⟩
  | .plain c :: r, pre, k, tail => by
    obtain ⟨pre', h1, h2⟩ := lastC_at r (pre ++ [k]) c tail
    refine ⟨pre', ?_, ?_⟩
    · rw [wI_cons]
      show (pre ++ [k]) ++ (([c] ++ wI r) ++ tail) = _
      refine Eq.trans ?_ h1; (simp only [List.append_assoc]); try rfl
    · rw [wI_cons, h2]; simp [Nit.w]; omega
  | .esc c :: r, pre, k, tail => by
    obtain ⟨pre', h1, h2⟩ := lastC_at r (pre ++ [k] ++ [92]) c tail
    refine ⟨pre', ?_, ?_⟩
    · rw [wI_cons]
      show (pre ++ [k]) ++ (([92, c] ++ wI r) ++ tail) = _
      refine Eq.trans ?_ h1; (simp only [List.append_assoc]); try rfl
    · rw [wI_cons, h2]; simp [Nit.w]; omega

/-- what stands behind the name: a sign that can not stand in it, or the end; or a fault -/
def Fine4 (tail : List Nat) : Prop := tail = [] ∨ ∃ c l, tail = c :: l ∧ c ∈ cs NQs ∧ c ≠ 92
def Bad4 (tail : List Nat) : Prop := (∃ c l, tail = 92 :: c :: l ∧ c ∉ cs ESs) ∨ tail = [92] ∨ ∃ a b l, tail = 37 :: a :: b :: l ∧ ¬ (a ∈ cs HXs ∧ b ∈ cs HXs)
structure Txt4 (x : PySem.Str) (p : Int) (is : List Nit) (tail : List Nat) : Prop where
  ok : ∀ i ∈ is, i.ok
  pct : pctOk is
  last : lastC 58 is ≠ 46
  p0 : 1 ≤ p
  text : ∃ pre, cs x = (pre ++ [58]) ++ (wI is ++ tail) ∧ (pre.length : Int) + 1 = p
  tl : Fine4 tail ∨ Bad4 tail
/-- where the name's loop stands -/
structure Qn (x : PySem.Str) (p j : Int) (ls : Bool) (st : Int) (ln : PySem.Str) : Prop where
  p0 : 1 ≤ p
  ps : p ≤ st
  sj : st ≤ j
  jl : j ≤ (x.length : Int)
  ll : (ln.length : Int) ≤ st
  xl : x.length ≤ 1000
  at_ : ∀ is tail, Txt4 x p is tail → ∃ I1 I2, is = I1 ++ I2 ∧
    (ls = false → j.toNat = p.toNat + (wI I1).length ∧ (cs x).drop j.toNat = wI I2 ++ tail ∧ cs ln ++ ((cs x).drop st.toNat).take (j.toNat - st.toNat) = nI I1) ∧
    (ls = true → st = j ∧ j.toNat = p.toNat + (wI I1).length + 1 ∧ 92 :: (cs x).drop j.toNat = wI I2 ++ tail ∧ cs ln = nI I1)
section
variable {x ln z : PySem.Str} {p j st : Int} {ls : Bool} {is : List Nit} {tail l : List Nat} {c : Nat}
theorem qn_start (h0 : 1 ≤ p) (h1 : p ≤ (x.length : Int)) (hx : x.length ≤ 1000) : Qn x p p false p (PySem.Str.ofString "") :=
  ⟨h0, Int.le_refl _, Int.le_refl _, h1, by rw [len_e]; omega, hx, fun is tail M => by
    obtain ⟨pre, hT, hp⟩ := M.text
    refine ⟨[], is, rfl, fun _ => ⟨by simp [wI], ?_, ?_⟩, fun h => by cases h⟩
    · have : p.toNat = (pre ++ [58]).length := by simp; omega
      rw [hT, this, List.drop_left]
    · rw [Nat.sub_self, List.take_zero]; rfl⟩
theorem take_snoc {L : List Nat} {s j c : Nat} {l : List Nat} (h : L.drop j = c :: l) (hs : s ≤ j) : (L.drop s).take (j + 1 - s) = (L.drop s).take (j - s) ++ [c] := by
  have e : (L.drop s).drop (j - s) = c :: l := by rw [List.drop_drop, show s + (j - s) = j by omega, h]
  rw [show j + 1 - s = (j - s) + 1 by omega, List.take_add, e]; rfl
theorem wI_head (hok : ∀ i ∈ is, i.ok) (h : c :: l = wI is ++ tail) : (is = [] ∧ c :: l = tail) ∨ (∃ r, is = .plain c :: r ∧ c ∉ cs NQs ∧ l = wI r ++ tail) ∨ (c = 92 ∧ ∃ d r, is = .esc d :: r ∧ d ∈ cs ESs ∧ l = d :: (wI r ++ tail)) := by
  cases is with
  | nil => exact .inl ⟨rfl, h⟩
  | cons i r =>
    have hi := hok i (.head _)
    cases i with
    | plain d =>
      have e : c :: l = d :: (wI r ++ tail) := h
      injection e with e1 e2
      subst e1
      exact .inr (.inl ⟨r, rfl, hi, e2⟩)
    | esc d =>
      have e : c :: l = 92 :: (d :: (wI r ++ tail)) := h
      injection e with e1 e2
      exact .inr (.inr ⟨e1, d, r, rfl, hi.1, e2⟩)
theorem nq92 : (92 : Nat) ∈ cs NQs := by rw [nq_list]; decide
theorem nq37 : (37 : Nat) ∉ cs NQs := by rw [nq_list]; decide
theorem Txt4.ok2 (M : Txt4 x p is tail) {I1 I2 : List Nit} (h : is = I1 ++ I2) : ∀ i ∈ I2, i.ok := fun i hi => M.ok i (by rw [h]; exact List.mem_append_right _ hi)
/-- a backslash, the first -/
theorem qn_back (H : Qn x p j false st ln) (hD : (cs x).drop j.toNat = c :: l) (hc : c = 92) (hz : cs z = cs ln ++ ((cs x).drop st.toNat).take (j.toNat - st.toNat)) (hzl : z.length ≤ ln.length + (j.toNat - st.toNat)) : Qn x p (j + 1) true (j + 1) z := by
  subst hc
  have h1 := drop_lt hD
  rw [cs_len] at h1
  have h0 := H.p0; have h2 := H.ps; have h3 := H.sj
  refine ⟨h0, by omega, Int.le_refl _, by omega, ?_, H.xl, fun is tail M => ?_⟩
  · obtain ⟨_, _, _, _, hll, _, _⟩ := H; omega
  · obtain ⟨I1, I2, a, b, _⟩ := H.at_ is tail M
    obtain ⟨b1, b2, b3⟩ := b rfl
    refine ⟨I1, I2, a, (fun h => by cases h), fun _ => ⟨rfl, by omega, ?_, ?_⟩⟩
    · rw [← b2, hD, show (j + 1).toNat = j.toNat + 1 by omega, ← List.drop_drop, hD]; rfl
    · rw [hz]; exact b3
/-- the sign behind a backslash -/
theorem qn_esc (H : Qn x p j true st ln) (hD : (cs x).drop j.toNat = c :: l) (hc : c ∈ cs ESs) : Qn x p (j + 1) false st ln := by
  have h1 := drop_lt hD
  rw [cs_len] at h1
  have h0 := H.p0; have h2 := H.ps; have h3 := H.sj; have h4 := H.ll
  refine ⟨h0, h2, by omega, by omega, by omega, H.xl, fun is tail M => ?_⟩
  obtain ⟨I1, I2, a, _, b⟩ := H.at_ is tail M
  obtain ⟨b0, b1, b2, b3⟩ := b rfl
  rw [hD] at b2
  rcases wI_head (M.ok2 a) b2 with ⟨_, e⟩ | ⟨r, _, h, _⟩ | ⟨_, d, r, e1, e2, e3⟩
  · exfalso
    rcases M.tl with h | h | h | ⟨a, b, l', h, _⟩
    · rcases h with h | ⟨c', l', h, h5, h6⟩
      · rw [h] at e; cases e
      · rw [h] at e; injection e with e _; omega
    · obtain ⟨c', l', h, h5⟩ := h
      rw [h] at e; injection e with _ e; injection e with e _; rw [e] at hc; exact h5 hc
    · rw [h] at e; injection e with _ e; cases e
    · rw [h] at e; injection e with e _; omega
  · exact absurd nq92 h
  · injection e3 with e3 e4
    refine ⟨I1 ++ [.esc d], r, by rw [a, e1, List.append_assoc]; rfl, fun _ => ⟨?_, ?_, ?_⟩, fun h => by cases h⟩
    · rw [wI_app, List.length_append, show (wI [Nit.esc d]).length = 2 from rfl]; omega
    · rw [show (j + 1).toNat = j.toNat + 1 by omega, ← List.drop_drop, hD]; exact e4
    · rw [nI_app, ← b3, show (j + 1).toNat = j.toNat + 1 by omega, take_snoc hD (by omega), b0, Nat.sub_self, List.take_zero, e3]; rfl
theorem nq_of_head (H : Qn x p j false st ln) (M : Txt4 x p is tail) (hD : (cs x).drop j.toNat = c :: l) (hq : c ∉ cs NQs) : (∃ I1 r, is = I1 ++ (.plain c :: r) ∧ j.toNat = p.toNat + (wI I1).length ∧ l = wI r ++ tail ∧ cs ln ++ ((cs x).drop st.toNat).take (j.toNat - st.toNat) = nI I1) ∨ (c = 37 ∧ ∃ a b l', l = a :: b :: l' ∧ ¬ (a ∈ cs HXs ∧ b ∈ cs HXs) ∧ Bad4 tail) := by
  obtain ⟨I1, I2, a, b, _⟩ := H.at_ is tail M
  obtain ⟨b1, b2, b3⟩ := b rfl
  rw [hD] at b2
  rcases wI_head (M.ok2 a) b2 with ⟨_, e⟩ | ⟨r, e1, h, e2⟩ | ⟨e, _⟩
  · rcases M.tl with h | h
    · exfalso
      rcases h with h | ⟨c', l', h, h5, h6⟩
      · rw [h] at e; cases e
      · rw [h] at e; injection e with e _; rw [e] at hq; exact hq h5
    · rcases id h with h2 | h2 | ⟨a', b', l', h2, h3⟩
      · obtain ⟨c', l', h2, _⟩ := h2; rw [h2] at e; injection e with e _; rw [e] at hq; exact absurd nq92 hq
      · rw [h2] at e; injection e with e _; rw [e] at hq; exact absurd nq92 hq
      · rw [h2] at e; injection e with e1 e2; exact .inr ⟨e1, a', b', l', e2, h3, h⟩
  · exact .inl ⟨I1, r, by rw [a, e1], b1, e2, b3⟩
  · rw [e] at hq; exact absurd nq92 hq
/-- a plain sign, no per cent sign; or a per cent sign with its two figures -/
theorem qn_plain (H : Qn x p j false st ln) (hD : (cs x).drop j.toNat = c :: l) (hq : c ∉ cs NQs) (h37 : ¬ c = 37 ∨ ∃ a b l1 l2, (cs x).drop (j + 1).toNat = a :: l1 ∧ (cs x).drop (j + 2).toNat = b :: l2 ∧ a ∈ cs HXs ∧ b ∈ cs HXs) : Qn x p (j + 1) false st ln := by
  have h1 := drop_lt hD
  rw [cs_len] at h1
  have h0 := H.p0; have h2 := H.ps; have h3 := H.sj; have h4 := H.ll
  refine ⟨h0, h2, by omega, by omega, by omega, H.xl, fun is tail M => ?_⟩
  rcases nq_of_head H M hD hq with ⟨I1, r, e1, e2, e3, e4⟩ | ⟨e1, a, b, l', e2, e3, _⟩
  · refine ⟨I1 ++ [.plain c], r, by rw [e1, List.append_assoc]; rfl, fun _ => ⟨?_, ?_, ?_⟩, fun h => by cases h⟩
    · rw [wI_app, List.length_append, show (wI [Nit.plain c]).length = 1 from rfl]; omega
    · rw [show (j + 1).toNat = j.toNat + 1 by omega, ← List.drop_drop, hD]; exact e3
    · rw [nI_app, ← e4, show (j + 1).toNat = j.toNat + 1 by omega, take_snoc hD (by omega), List.append_assoc]; rfl
  · exfalso
    rcases h37 with h37 | ⟨a', b', l1, l2, k1, k2, k3, k4⟩
    · exact h37 e1
    · rw [show (j + 1).toNat = j.toNat + 1 by omega, ← List.drop_drop, hD, e2] at k1
      rw [show (j + 2).toNat = j.toNat + 2 by omega, ← List.drop_drop, hD, e2] at k2
      injection k1 with k1 _
      injection k2 with k2 _
      rw [← k1] at k3; rw [← k2] at k4
      exact e3 ⟨k3, k4⟩
/-- two signs stand behind a per cent sign -/
theorem qn_two (H : Qn x p j false st ln) (M : Txt4 x p is tail) (hD : (cs x).drop j.toNat = c :: l) (hc : c = 37) : ∃ a b l1 l2, (cs x).drop (j + 1).toNat = a :: l1 ∧ (cs x).drop (j + 2).toNat = b :: l2 ∧ (Fine4 tail → a ∈ cs HXs ∧ b ∈ cs HXs) := by
  have h0 := H.p0; have h2 := H.ps; have h3 := H.sj
  have hl : ∃ a b l', l = a :: b :: l' ∧ (Fine4 tail → a ∈ cs HXs ∧ b ∈ cs HXs) := by
    rcases nq_of_head H M hD (by rw [hc]; exact nq37) with ⟨I1, r, e1, e2, e3, e4⟩ | ⟨e1, a, b, l', e2, e3, e4⟩
    · have hp := pct_tail I1 _ (by rw [← e1]; exact M.pct)
      obtain ⟨a, b, r', hr, ha, hb⟩ := hp.1 hc
      exact ⟨a, b, wI r' ++ tail, by rw [e3, hr]; rfl, fun _ => ⟨ha, hb⟩⟩
    · refine ⟨a, b, l', e2, fun hF => ?_⟩
      exfalso
      obtain ⟨I1, I2, a', b', _⟩ := H.at_ is tail M
      rcases hF with h | ⟨c', l2, h, h5, h6⟩
      · rcases e4 with ⟨_, _, k, _⟩ | k | ⟨_, _, _, k, _⟩ <;> (rw [h] at k; cases k)
      · rcases e4 with ⟨_, _, k, _⟩ | k | ⟨_, _, _, k, _⟩ <;> (rw [h] at k; injection k with k _)
        · omega
        · omega
        · rw [k] at h5; exact nq37 h5
  obtain ⟨a, b, l', e, hF⟩ := hl
  refine ⟨a, b, b :: l', l', ?_, ?_, hF⟩
  · rw [show (j + 1).toNat = j.toNat + 1 by omega, ← List.drop_drop, hD, e]; rfl
  · rw [show (j + 2).toNat = j.toNat + 2 by omega, ← List.drop_drop, hD, e]; rfl
/-- the name's end -/
structure End4 (x : PySem.Str) (p j st : Int) (ln : PySem.Str) (is : List Nit) : Prop where
  place : j.toNat = p.toNat + (wI is).length
  name : cs ln ++ ((cs x).drop st.toNat).take (j.toNat - st.toNat) = nI is
  last : ∃ l, (cs x).drop (j - 1).toNat = lastC 58 is :: l
theorem end4_of (H : Qn x p j false st ln) (M : Txt4 x p is tail) (he : (cs x).drop j.toNat = tail) : End4 x p j st ln is := by
  obtain ⟨I1, I2, a, b, _⟩ := H.at_ is tail M
  obtain ⟨b1, b2, b3⟩ := b rfl
  have hI : I2 = [] := by
    rw [he] at b2
    have := congrArg List.length b2
    rw [List.length_append] at this
    cases I2 with
    | nil => rfl
    | cons i r => exfalso; cases i <;> (rw [wI_cons] at this; simp [Nit.w] at this)
  subst hI
  rw [List.append_nil] at a
  subst a
  refine ⟨b1, b3, ?_⟩
  obtain ⟨pre, hT, hp⟩ := M.text
  obtain ⟨pre', e1, e2⟩ := lastC_at is pre 58 tail
  rw [hT, e1, List.append_assoc, show (j - 1).toNat = pre'.length by omega, List.drop_left]
  exact ⟨_, rfl⟩
theorem qn_fine_end (H : Qn x p j false st ln) (M : Txt4 x p is tail) (hF : Fine4 tail) (hj : ¬ j < (x.length : Int)) : End4 x p j st ln is := by
  refine end4_of H M ?_
  obtain ⟨I1, I2, a, b, _⟩ := H.at_ is tail M
  obtain ⟨b1, b2, b3⟩ := b rfl
  have h0 : (cs x).drop j.toNat = [] := List.drop_eq_nil_of_le (by rw [cs_len]; omega)
  rw [h0] at b2 ⊢
  have := congrArg List.length b2
  rw [List.length_append, List.length_nil] at this
  exact (List.eq_nil_of_length_eq_zero (by omega)).symm
theorem qn_fine_stop (H : Qn x p j false st ln) (M : Txt4 x p is tail) (hD : (cs x).drop j.toNat = c :: l) (hq : c ∈ cs NQs) (hc : ¬ c = 92) : End4 x p j st ln is ∧ Fine4 tail := by
  obtain ⟨I1, I2, a, b, _⟩ := H.at_ is tail M
  obtain ⟨b1, b2, b3⟩ := b rfl
  have b2' := b2
  rw [hD] at b2
  rcases wI_head (M.ok2 a) b2 with ⟨e0, e⟩ | ⟨r, e1, h, e2⟩ | ⟨e, _⟩
  · refine ⟨end4_of H M (by rw [hD]; exact e), ?_⟩
    rcases M.tl with h | h
    · exact h
    · exfalso
      rcases h with ⟨c', l', h, _⟩ | h | ⟨a', b', l', h, _⟩ <;> (rw [h] at e; injection e with e _)
      · exact hc e
      · exact hc e
      · rw [e] at hq; exact nq37 hq
  · exact absurd hq h
  · exact absurd e hc
/-- what can not be -/
theorem qn_fine_esc (H : Qn x p j true st ln) (M : Txt4 x p is tail) (hF : Fine4 tail) : ∃ c l, (cs x).drop j.toNat = c :: l ∧ c ∈ cs ESs := by
  obtain ⟨I1, I2, a, _, b⟩ := H.at_ is tail M
  obtain ⟨b0, b1, b2, b3⟩ := b rfl
  rcases wI_head (M.ok2 a) b2 with ⟨_, e⟩ | ⟨r, _, h, _⟩ | ⟨_, d, r, e1, e2, e3⟩
  · exfalso
    rcases hF with h | ⟨c', l', h, h5, h6⟩
    · rw [h] at e; cases e
    · rw [h] at e; injection e with e _; exact h6 e.symm
  · exact absurd nq92 h
  · exact ⟨d, _, e3, e2⟩
theorem qn_bad_end (H : Qn x p j false st ln) (M : Txt4 x p is tail) (hB : Bad4 tail) (hj : ¬ j < (x.length : Int)) : False := by
  obtain ⟨I1, I2, a, b, _⟩ := H.at_ is tail M
  obtain ⟨b1, b2, b3⟩ := b rfl
  have h0 : (cs x).drop j.toNat = [] := List.drop_eq_nil_of_le (by rw [cs_len]; omega)
  rw [h0] at b2
  have := congrArg List.length b2
  rw [List.length_append, List.length_nil] at this
  rcases hB with ⟨c', l', h, _⟩ | h | ⟨a', b', l', h, _⟩ <;> (rw [h] at this; simp at this)
theorem fine_bad4 (hF : Fine4 tail) (hB : Bad4 tail) : False := by
  rcases hF with h | ⟨c', l', h, h5, h6⟩
  · rcases hB with ⟨_, _, k, _⟩ | k | ⟨_, _, _, k, _⟩ <;> (rw [h] at k; cases k)
  · rcases hB with ⟨_, _, k, _⟩ | k | ⟨_, _, _, k, _⟩ <;> (rw [h] at k; injection k with k _)
    · omega
    · omega
    · rw [k] at h5; exact nq37 h5
end
end Mine

-- L8
set_option autoImplicit false
set_option maxRecDepth 100000
namespace Mine
open PySem PySem.W PySem.Calls PyProof.Rows
/-- law 4: what skipSpace passes, and what lies behind -/
def befores : List (List (List Nat × Int)) := [[], [([32], 0)], [([10], 1), ([9], 0)], [([35, 32, 120, 10], 1)]]
theorem befores_part : ∀ qs ∈ befores, ∀ p ∈ qs, Part p.1 p.2 := by
  intro qs h p hp
  simp only [befores, List.mem_cons, List.not_mem_nil, or_false] at h
  rcases h with rfl | rfl | rfl | rfl
  · cases hp
  · rw [List.mem_singleton.mp hp]; exact .blank (by decide)
  · rcases List.mem_cons.mp hp with rfl | hp
    · exact .line rfl rfl (fun L => rfl)
    · rw [List.mem_singleton.mp hp]; exact .blank (by decide)
  · rw [List.mem_singleton.mp hp]; exact .line rfl rfl (fun L => rfl)
structure Skip (x : PySem.Str) (B R : List Nat) : Prop where
  text : cs x = B ++ R
  before : ∃ qs ∈ befores, (qs.map Prod.fst).flatten = B
  rest : R = [] ∨ ∃ c l, R = c :: l ∧ isBlank c = false ∧ isMark c = false
theorem rest_no {R : List Nat} (h : R = [] ∨ ∃ c l, R = c :: l ∧ isBlank c = false ∧ isMark c = false) : reMatch tlEol R = none ∧ R.takeWhile isBlank = [] := by
  rcases h with rfl | ⟨c, l, rfl, hb, hm⟩
  · exact ⟨rfl, rfl⟩
  · exact ⟨plain_none hb hm, by rw [List.takeWhile_cons, hb]; rfl⟩
theorem rest_eof {c : Nat} {l : List Nat} (hb : isBlank c = false) (hm : isMark c = false) : reMatch tlEof (c :: l) = none := by
  have h35 : c ≠ 35 := fun q => by subst q; cases hm
  have h10 : c ≠ 10 := fun q => by subst q; cases hm
  unfold reMatch
  rw [List.dropWhile_cons, hb]
  simp only [Bool.false_eq_true, if_false]
  rw [remark_no (fun l' q => by injection q with q; exact h35 q)]
  have : tlEof (c :: l) = none := by
    unfold tlEof
    split
    · rename_i q; cases q
    · rename_i q; injection q with q; exact absurd q h10
    · rfl
  rw [this]; rfl
section
variable {x : PySem.Str} {B R : List Nat} {i i1 m : Int} {c k : Nat} {l : List Nat}
theorem blk_split0 (H : Blk x 0 i) (hd : (cs x).drop i.toNat = c :: l) (hc : isBlank c = false) : i.toNat = ((cs x).takeWhile isBlank).length ∧ (cs x).dropWhile isBlank = c :: l := by
  obtain ⟨_, b, d, _, f⟩ := H
  have e1 : cs x = (cs x).take i.toNat ++ c :: l := by rw [← hd, List.take_append_drop]
  have h2 : ∀ q ∈ (cs x).take i.toNat, isBlank q = true := by
    intro q hq
    obtain ⟨j, hj, ej⟩ := List.mem_iff_getElem.mp hq
    rw [List.length_take] at hj
    have := f j (by omega) (by omega)
    rw [List.getElem_take] at ej
    rw [List.getD_eq_getElem?_getD, List.getElem?_eq_getElem (by omega), Option.getD_some, ej] at this
    exact this
  have e2 := blank_takeWhile h2 (c :: l)
  have e3 := blank_dropWhile h2 (c :: l)
  rw [← e1] at e2 e3
  have e4 : ((c :: l).takeWhile isBlank).length = 0 := by rw [List.takeWhile_cons, hc]; rfl
  have e5 : (c :: l).dropWhile isBlank = c :: l := by rw [List.dropWhile_cons, hc]; rfl
  rw [e4, List.length_take, cs_len] at e2
  rw [e5] at e3
  exact ⟨by omega, e3⟩
theorem Skip.fin (S : Skip x B R) {m n : Nat} (h : Steps ((cs x).dropWhile isBlank) m n) : ((cs x).takeWhile isBlank).length + m + ((((cs x).dropWhile isBlank).drop m).takeWhile isBlank).length = B.length := by
  obtain ⟨qs, hq, hB⟩ := S.before
  obtain ⟨r1, r2⟩ := rest_no S.rest
  have := end_of Prod.fst Prod.snd R r1 qs (befores_part qs hq) (m := m) (n := n) (by rw [hB, ← S.text]; exact h)
  rw [hB, ← S.text, r2] at this
  simpa using this.2
theorem skip_at (S : Skip x B R) (h : i.toNat = B.length) : (cs x).drop i.toNat = R := by rw [S.text, h, List.drop_left]
theorem skip_word (S : Skip x B R) (H : Blk x 0 i) (hd : (cs x).drop i.toNat = c :: l) (hc : isBlank c = false) (hm : isMark c = false) : i = (B.length : Int) := by
  obtain ⟨h1, h2⟩ := blk_split0 H hd hc
  have := S.fin (m := 0) (n := 0) (Steps.stop (by rw [h2]; exact plain_none hc hm))
  rw [List.drop_zero, h2, List.takeWhile_cons, hc] at this
  simp at this
  have := H.2.1
  omega
theorem skip_end (S : Skip x B R) (H : Blk x 0 i) (ho : (x.length : Int) ≤ i) : R = [] := by
  rcases S.rest with h | ⟨c, l, h, hb, _⟩
  · exact h
  · exfalso
    obtain ⟨_, _, _, _, f⟩ := H
    have hl : x.length = B.length + (c :: l).length := by rw [← cs_len, S.text, List.length_append, h]
    rw [List.length_cons] at hl
    have := f B.length (by omega) (by omega)
    have e : (cs x).getD B.length 0 = c := by
      rw [S.text, h, List.getD_eq_getElem?_getD, List.getElem?_append_right (Nat.le_refl _), Nat.sub_self]; rfl
    rw [e, hb] at this; cases this
theorem skip_lines (S : Skip x B R) (H : Blk x 0 i1) (hd : (cs x).drop i1.toNat = c :: l) (hc : isBlank c = false) (N : LnAt x i1 i m) (hn : reMatch tlEol ((cs x).drop i.toNat) = none) (hk : k = (((cs x).drop i.toNat).takeWhile isBlank).length) : i.toNat + k = B.length := by
  obtain ⟨h1, h2⟩ := blk_split0 H hd hc
  obtain ⟨n1, n2, n3, n4, n5, n6⟩ := N
  obtain ⟨h3, h4⟩ := ln_steps n6 (Steps.stop hn)
  rw [Nat.add_zero, Nat.add_zero, hd, ← h2] at h4
  have b := S.fin h4
  have e5 : ((cs x).dropWhile isBlank).drop (i.toNat - i1.toNat) = (cs x).drop i.toNat := by
    rw [h2, ← hd, List.drop_drop]; congr 1; omega
  rw [e5, ← hk] at b
  omega
theorem skip_some (S : Skip x B R) (H : Blk x 0 i1) (hd : (cs x).drop i1.toNat = c :: l) (hc : isBlank c = false) (N : LnAt x i1 i m) (hn : reMatch tlEol ((cs x).drop i.toNat) = none) (hk : k = (((cs x).drop i.toNat).takeWhile isBlank).length) : ((i.toNat + k : Nat) : Int) = (B.length : Int) := by
  have := skip_lines S H hd hc N hn hk
  omega
theorem skip_none {k2 : Nat} (S : Skip x B R) (H : Blk x 0 i1) (hd : (cs x).drop i1.toNat = c :: l) (hc : isBlank c = false) (N : LnAt x i1 i m) (hn : reMatch tlEol ((cs x).drop i.toNat) = none) (hk : k = (((cs x).drop i.toNat).takeWhile isBlank).length) (he : reMatch tlEof ((cs x).drop ((i.toNat + k : Nat) : Int).toNat) = some k2) : R = [] := by
  have h := skip_lines S H hd hc N hn hk
  rw [Int.toNat_natCast, h, S.text, List.drop_left] at he
  rcases S.rest with h | ⟨c, l, h, hb, hm⟩
  · exact h
  · rw [h, rest_eof hb hm] at he; cases he
end

/-- the word ahead: signs that may stand in a prefix, and one that may not -/
structure Head (x : PySem.Str) (b : Int) (P : List Nat) (c1 : Nat) : Prop where
  b0 : 0 ≤ b
  at_ : ∃ l, (cs x).drop b.toNat = P ++ c1 :: l
  word : ∀ c ∈ P, c ∉ cs NNs
  stop : c1 ∈ cs NNs
  last : ∀ A c, P = A ++ [c] → c ≠ 46
/-- where the word's loop stands -/
structure Wd (x : PySem.Str) (b i : Int) : Prop where
  b0 : 0 ≤ b
  bi : b < i
  il : i ≤ (x.length : Int)
  xl : x.length ≤ 1000
  word : ∀ k : Nat, b.toNat ≤ k → k < i.toNat → (cs x).getD k 0 ∉ cs NNs
section
variable {x : PySem.Str} {b i : Int} {P l : List Nat} {c c1 : Nat}
theorem getD_drop {L : List Nat} {k : Nat} (h : L.drop k = c :: l) : L.getD k 0 = c := by
  have : (L.drop k)[0]? = some c := by rw [h]; rfl
  rw [List.getElem?_drop, Nat.add_zero] at this
  rw [List.getD_eq_getElem?_getD, this]; rfl
theorem wd_start (h0 : 0 ≤ b) (hx : x.length ≤ 1000) (hD : (cs x).drop b.toNat = c :: l) (hc : c ∉ cs NNs) : Wd x b (b + 1) := by
  have h1 := drop_lt hD
  rw [cs_len] at h1
  refine ⟨h0, by omega, by omega, hx, fun k k1 k2 => ?_⟩
  have : k = b.toNat := by omega
  rw [this, getD_drop hD]; exact hc
theorem wd_step (H : Wd x b i) (hD : (cs x).drop i.toNat = c :: l) (hc : c ∉ cs NNs) : Wd x b (i + 1) := by
  obtain ⟨h0, h1, h2, h3, h4⟩ := H
  have h5 := drop_lt hD
  rw [cs_len] at h5
  refine ⟨h0, by omega, by omega, h3, fun k k1 k2 => ?_⟩
  by_cases h : k < i.toNat
  · exact h4 k k1 h
  · have : k = i.toNat := by omega
    rw [this, getD_drop hD]; exact hc
theorem head_le (A : Head x b P c1) (H : Wd x b i) : i.toNat ≤ b.toNat + P.length := by
  obtain ⟨h0, h1, h2, h3, h4⟩ := H
  obtain ⟨l, hl⟩ := A.at_
  by_cases h : i.toNat ≤ b.toNat + P.length
  · exact h
  · exfalso
    have := h4 (b.toNat + P.length) (by omega) (by omega)
    have e : (cs x).drop (b.toNat + P.length) = c1 :: l := by rw [← List.drop_drop, hl, List.drop_left]
    rw [getD_drop e] at this
    exact this A.stop
theorem head_in (A : Head x b P c1) (H : Wd x b i) : i < (x.length : Int) := by
  have := head_le A H
  obtain ⟨l, hl⟩ := A.at_
  have := congrArg List.length hl
  rw [List.length_drop, List.length_append, List.length_cons, cs_len] at this
  have := H.b0; have := H.bi
  omega
theorem head_end (A : Head x b P c1) (H : Wd x b i) (hD : (cs x).drop i.toNat = c :: l) (hc : c ∈ cs NNs) : i = b + (P.length : Int) ∧ c = c1 := by
  have h1 := head_le A H
  obtain ⟨l', hl⟩ := A.at_
  have hb := H.b0; have hi := H.bi
  by_cases h : i.toNat = b.toNat + P.length
  · refine ⟨by omega, ?_⟩
    rw [h, ← List.drop_drop, hl, List.drop_left] at hD
    injection hD with hD _
    exact hD.symm
  · exfalso
    have e : (cs x).drop i.toNat = (P.drop (i.toNat - b.toNat)) ++ c1 :: l' := by
      rw [show i.toNat = b.toNat + (i.toNat - b.toNat) by omega, ← List.drop_drop, hl, List.drop_append_of_le_length (by omega)]
      congr 2; omega
    cases hp : P.drop (i.toNat - b.toNat) with
    | nil => have := congrArg List.length hp; rw [List.length_drop, List.length_nil] at this; omega
    | cons y r =>
      rw [hD, hp] at e
      injection e with e _
      exact A.word c (List.mem_of_mem_drop (i := i.toNat - b.toNat) (by rw [hp, e]; exact .head _)) hc
/-- the sign ahead of the word's end -/
theorem head_last (A : Head x b P c1) (hP : P ≠ []) : ∃ c l, (cs x).drop (b + (P.length : Int) - 1).toNat = c :: l ∧ c ≠ 46 := by
  obtain ⟨l, hl⟩ := A.at_
  have hb := A.b0
  obtain ⟨A', a, e⟩ : ∃ A' a, P = A' ++ [a] := ⟨P.dropLast, P.getLast hP, (List.dropLast_concat_getLast hP).symm⟩
  refine ⟨a, c1 :: l, ?_, A.last _ _ e⟩
  have hn : P.length = A'.length + 1 := by rw [e]; simp
  rw [show (b + (P.length : Int) - 1).toNat = b.toNat + A'.length by omega, ← List.drop_drop, hl, e, List.append_assoc, List.drop_left]
  rfl
theorem head_word (A : Head x b P c1) (hi : i = b + (P.length : Int)) (hx : b ≤ (x.length : Int)) : cs (Txt.slice x (some b) (some i)) = P := by
  obtain ⟨l, hl⟩ := A.at_
  rw [cs_slice A.b0 hx (by omega), hl, hi, show (b + (P.length : Int) - b).toNat = P.length by omega, List.take_left]
end
end Mine

-- Rw4
set_option autoImplicit false
set_option maxRecDepth 100000
namespace Mine
open PySem PySem.W PySem.Calls PyProof.Rows PySem.Builtin.Re

section
variable {prog : Program} {w : World} {A : Around} {E : Value → Shared → Prop} {s : Shared} {h₀ : Heap} {L : Addr} {m : PySem.Str → Option Value} {news : List (Addr × Obj)}
/-- interesting.search(text, place), where something is found -/
theorem search_int {p : Addr} {x : PySem.Str} {t u : Tok} {i : Int} {k : Nat} {Q : Value → Shared → Prop} (F : Fr h₀ L s.heap m) (N : News h₀ L s.heap news) (P : PatAt s.heap p intCode 0)
    (h0 : 0 ≤ i) (h1 : i ≤ (x.length : Int)) (hx : x.length ≤ 16777216) (hk : findInt ((cs x).drop i.toNat) = some k)
    (hy : ∀ a b more li h', Fr h₀ L h' m → News h₀ L h' ((b, matObj (.ref p) (.str x t) i.toNat x.cps.size li a) :: (a, matTup (i.toNat + k) (i.toNat + k + 1) more) :: news) → (∀ q ∈ news, q.1 < a) → a < b → Q (.ref b) { s with heap := h' }) :
    wpAny (model prog w) A (call (.builtin "re.Pattern.search") [.ref p, .str x t, .int i u]) Q E s := by
  obtain ⟨o, v0, v1, v3, v4, tup, tg, tw, ot, vs, n, g1, g2, g3, g4, g5, g6, g7⟩ := id P.ex
  have hs : i.toNat ≤ x.cps.size := by show i.toNat ≤ x.length; omega
  refine wpAny_call (codeAny_call_builtin slot_search.plain entry_search (slot_search.check _ _ _ _ _ _ _ _ ⟨o, g1, g2⟩ (args_search _ _ _) ?_))
  unfold Builtin.«re.Pattern.search»
  refine wpAny_bind (target_ok P h0 h1 hx (named3 _ _ _ _) ?_)
  have hE := int_search (T := x.cps) hs hx
  have hk' : findInt (x.cps.toList.drop i.toNat) = some k := hk
  rw [hk'] at hE
  unfold reAnswer
  refine wpAny_bind (to_end hE (fun m' hm => .inl (show Hit m' _ _ from hm).out) (fun m' hm ho => ?_) (fun m' hm ho => ?_))
  · dsimp only
    refine wpAny_bind (new_match (show Hit m' _ _ from hm) (Nat.zero_le _) (fun more li => ?_))
    refine wpAny_pure ?_
    have F1 := F.push (matTup (i.toNat + k) (i.toNat + k + 1) more)
    have N1 := News.push F N (matTup (i.toNat + k) (i.toNat + k + 1) more) rfl
    have F2 := F1.push (matObj (.ref p) (.str x t) i.toNat x.cps.size li s.heap.objs.size)
    have N2 := News.push F1 N1 (matObj (.ref p) (.str x t) i.toNat x.cps.size li s.heap.objs.size) rfl
    exact hy s.heap.objs.size _ more li _ F2 N2 (fun q hq => Heap.lt_size (N q hq).1) (Heap.lt_size (N1 _ (.head _)).1)
  · rw [(show Hit m' _ _ from hm).out] at ho; cases ho
end

/-- the law's signs -/
def signL : List Nat := [97, 122, 48, 32, 35, 233, 20013, 128512, 9, 39, 34, 117]
def sgn (i : Int) : Nat := signL.getD i.toNat 97
section
variable {prog : Program} {w : World} {A : Around} {E : Value → Shared → Prop} {s : Shared} {value slice : PySem.Expr} {l : Addr} {i : Int} {t u : Tok} {Q : Value → Shared → Prop} {vs : List Value}
theorem item_sign (hl : s.heap.IsList l vs.toArray) (hw : StrsAre vs [PySem.Str.ofString "a", PySem.Str.ofString "z", PySem.Str.ofString "0", PySem.Str.ofString " ", PySem.Str.ofString "#", PySem.Str.ofString "é", PySem.Str.ofString "中", PySem.Str.ofString "😀", PySem.Str.ofString "\t", PySem.Str.ofString "'", PySem.Str.ofString "\"", PySem.Str.ofString "u"])
    (h : ∀ t', Q (.str (one (sgn (i.fmod 12))) t') s)
    (hs : subscripted slice false (.ref l) (.int (i.fmod 12) u) = operate [.ref l, .int (i.fmod 12) u] (getItem (.ref l) (.int (i.fmod 12) u)) := by with_unfolding_all rfl) :
    wpAny (model prog w) A (subscriptTail value slice (.ref l) (.int (i.fmod 12) u)) Q E s := by
  have h0 := Int.fmod_nonneg_of_pos i (show (0 : Int) < 12 by decide)
  have h1 := Int.fmod_lt_of_pos i (show (0 : Int) < 12 by decide)
  refine KTb.item_list hl hw h0 (by show _ < (12 : Int); omega) (by omega) (fun t' _ => ?_) hs
  have hall : ∀ m : Nat, m < 12 → [PySem.Str.ofString "a", PySem.Str.ofString "z", PySem.Str.ofString "0", PySem.Str.ofString " ", PySem.Str.ofString "#", PySem.Str.ofString "é", PySem.Str.ofString "中", PySem.Str.ofString "😀", PySem.Str.ofString "\t", PySem.Str.ofString "'", PySem.Str.ofString "\"", PySem.Str.ofString "u"].getD m PySem.Str.empty = one (signL.getD m 97) := by decide +kernel
  rw [hall _ (by omega)]
  exact h t'
theorem sgn_ok (i : Int) : sgn i ≠ 92 ∧ sgn i ≠ 10 ∧ sgn i ≠ 13 := by
  have : ∀ c ∈ signL, c ≠ 92 ∧ c ≠ 10 ∧ c ≠ 13 := by decide
  by_cases h : i.toNat < 12
  · unfold sgn
    rw [List.getD_eq_getElem?_getD, List.getElem?_eq_getElem (show i.toNat < signL.length from h)]
    exact this _ (List.getElem_mem _)
  · unfold sgn
    rw [List.getD_eq_getElem?_getD, List.getElem?_eq_none (show signL.length ≤ i.toNat by show 12 ≤ _; omega)]
    decide
theorem bld_sign {pick e t a : Int} {k k' : Nat} {w d z d' : PySem.Str} (H : BldP pick k w d e t) (hne : ¬ sgn a = qOf pick) (hz : z = w ++ one (sgn a)) (hd : d' = d ++ one (sgn a)) (hk : k' = k + 1) : BldP pick k' z d' e 0 := by
  obtain ⟨h1, h2, h3⟩ := sgn_ok a
  exact bld_add H (.sign (sgn a)) ⟨hne, h1, h2, h3⟩ (fun e => by cases e) (by rw [hz, cs_app]; rfl) (by rw [hd, cs_app]; rfl) (by show e = e + ((0 : Nat) : Int); omega) rfl hk (by show 1 ≤ 10; decide)
theorem bld_q {pick e t : Int} {k k' : Nat} {w d z d' : PySem.Str} (H : BldP pick k w d e t) (hz : z = w ++ PySem.Str.ofString "q") (hd : d' = d ++ PySem.Str.ofString "q") (hk : k' = k + 1) : BldP pick k' z d' e 0 := by
  have eb : cs (PySem.Str.ofString "q") = [113] := by decide +kernel
  have hq : qOf pick = 34 ∨ qOf pick = 39 := by unfold qOf; split <;> simp
  exact bld_add H (.sign 113) ⟨by omega, by decide, by decide, by decide⟩ (fun e => by cases e) (by rw [hz, cs_app, eb]; rfl) (by rw [hd, cs_app, eb]; rfl) (by show e = e + ((0 : Nat) : Int); omega) rfl hk (by show 1 ≤ 10; decide)

theorem rep_dN_le (q : Nat) (P : Int) (B : Nat) (h : 3 ≤ B) : (rep q (dN P)).length ≤ B := by rw [rep_len]; have := (dN_pos P).2; omega
theorem rep_dN_lens (q : Nat) (P : Int) : 1 ≤ (rep q (dN P)).length ∧ (rep q (dN P)).length ≤ 3 := by rw [rep_len]; exact dN_pos P
theorem item_rep0 {q n : Nat} (hn : 1 ≤ n) (hn3 : n ≤ 3) (h : ∀ t' k, Q (.str (one q) t') { s with toks := k })
    (hs : subscripted slice false (.str (rep q n) t) (.int 0 u) = operate [.str (rep q n) t, .int 0 u] (getItem (.str (rep q n) t) (.int 0 u)) := by with_unfolding_all rfl)
    (ht : ∀ r, letTemporaryGo value (.str (rep q n) t) r = pure () := by intro _; with_unfolding_all rfl) :
    wpAny (model prog w) A (subscriptTail value slice (.str (rep q n) t) (.int 0 u)) Q E s := by
  refine text_in (Int.le_refl _) (by decide) (by rw [rep_len]; omega) (fun c l t' k hd => ?_) hs ht
  rw [cs_rep] at hd
  obtain ⟨m, rfl⟩ := Nat.exists_eq_add_of_le hn
  rw [Nat.add_comm, List.replicate_succ] at hd
  injection hd with hd _
  rw [← hd]; exact h t' k
theorem text_known {x : PySem.Str} {c : Nat} {r : List Nat} (h0 : 0 ≤ i) (hx : x.length ≤ 1000) (hd : (cs x).drop i.toNat = c :: r) (h : ∀ t' k, Q (.str (one c) t') { s with toks := k })
    (hs : subscripted slice false (.str x t) (.int i u) = operate [.str x t, .int i u] (getItem (.str x t) (.int i u)) := by with_unfolding_all rfl)
    (ht : ∀ r, letTemporaryGo value (.str x t) r = pure () := by intro _; with_unfolding_all rfl) :
    wpAny (model prog w) A (subscriptTail value slice (.str x t) (.int i u)) Q E s := by
  have h1 := drop_lt hd
  rw [cs_len] at h1
  refine text_in h0 (by omega) (by omega) (fun c' l t' k hd' => ?_) hs ht
  rw [hd] at hd'
  injection hd' with hd' _
  rw [← hd']; exact h t' k
theorem escFind_lt (c : Nat) : escFind c < 10 := by
  unfold escFind
  by_cases h : c ∈ escPL
  · have : ∀ c ∈ escPL, (match escPL.idxOf? c with | some i => (i : Int) | none => -1) < 10 := by decide +kernel
    exact this c h
  · rw [List.idxOf?_eq_none_iff.mpr h]; decide
theorem item_meant {c : Nat} (hi : 0 ≤ escFind c) (h : ∀ t' k, Q (.str (one (escM (escFind c).toNat)) t') { s with toks := k })
    (hs : subscripted slice false (.str (PySem.Str.ofString "\x07\x08\x0c\r\t\x0b\n\\\"'") t) (.int (escFind c) u) = operate [.str (PySem.Str.ofString "\x07\x08\x0c\r\t\x0b\n\\\"'") t, .int (escFind c) u] (getItem (.str (PySem.Str.ofString "\x07\x08\x0c\r\t\x0b\n\\\"'") t) (.int (escFind c) u)) := by with_unfolding_all rfl)
    (ht : ∀ r, letTemporaryGo value (.str (PySem.Str.ofString "\x07\x08\x0c\r\t\x0b\n\\\"'") t) r = pure () := by intro _; with_unfolding_all rfl) :
    wpAny (model prog w) A (subscriptTail value slice (.str (PySem.Str.ofString "\x07\x08\x0c\r\t\x0b\n\\\"'") t) (.int (escFind c) u)) Q E s := by
  have hlt := escFind_lt c
  have h2 : (escFind c).toNat < escML.length := by show _ < 10; omega
  refine text_known hi (by decide +kernel) (c := escM (escFind c).toNat) (r := escML.drop ((escFind c).toNat + 1)) ?_ h hs ht
  rw [escM_text, List.drop_eq_getElem_cons h2]
  unfold escM
  rw [List.getD_eq_getElem?_getD, List.getElem?_eq_getElem h2]; rfl
theorem mul_lit {q : Nat} {k : Int} (n : Nat) (hk : k = (n : Int)) (hn : 1 ≤ n) (hn5 : n ≤ 5) (h : ∀ t' tk, (rep q n).length = n → Q (.str (rep q n) t') { s with toks := tk }) : wpAny (model prog w) A (binaryOp .Mult (.str (one q) t) (.int k u)) Q E s := by
  subst hk; exact mul_one hn hn5 h
theorem gen_range {k : Int} (h : ∀ n : Int, k ≤ n → n ≤ k → wpAny (model prog w) A (PySem.call (.type "range") [.int n t]) Q E s) : wpAny (model prog w) A (PySem.call (.type "range") [.int k t]) Q E s := h k (Int.le_refl _) (Int.le_refl _)
/-- compares -/
theorem beq_one (c q : Nat) : (one c == one q) = decide (c = q) := by
  by_cases h : c = q
  · subst h; simp
  · rw [decide_eq_false h]
    exact beq_eq_false_iff_ne.mpr (fun e => h (by unfold one at e; injection e with e; injection e with e; injection e))
theorem eq_one {c q : Nat} (h : Q (.bool (decide (c = q))) s) : wpAny (model prog w) A (compareOp .Eq (.str (one c) t) (.str (one q) u)) Q E s :=
  PyProof.Rows.eq_str (by rw [beq_one]; exact h)
theorem eq_oneS {c k : Nat} {y : PySem.Str} (hy : y = one k) (h : Q (.bool (decide (c = k))) s) : wpAny (model prog w) A (compareOp .Eq (.str (one c) t) (.str y u)) Q E s := by
  subst hy; exact eq_one h
theorem ne_one {c q : Nat} (h : Q (.bool (decide (¬ c = q))) s) : wpAny (model prog w) A (compareOp .NotEq (.str (one c) t) (.str (one q) u)) Q E s :=
  PyProof.Rows.ne_str (by
    have : (one c != one q) = decide (¬ c = q) := by unfold bne; rw [beq_one]; simp
    rw [this]; exact h)
theorem eq_rep {q a b : Nat} (h : Q (.bool (decide (a = b))) s) : wpAny (model prog w) A (compareOp .Eq (.str (rep q a) t) (.str (rep q b) u)) Q E s :=
  PyProof.Rows.eq_str (by
    have : (rep q a == rep q b) = decide (a = b) := by
      by_cases h : a = b
      · subst h; simp
      · rw [decide_eq_false h]
        refine beq_eq_false_iff_ne.mpr (fun e => h ?_)
        have := congrArg PySem.Str.length e
        rwa [rep_len, rep_len] at this
    rw [this]; exact h)
theorem eq_rep1 {q a : Nat} (h : Q (.bool (decide (a = 1))) s) : wpAny (model prog w) A (compareOp .Eq (.str (rep q a) t) (.str (one q) u)) Q E s := by
  rw [← rep_one]; exact eq_rep h
theorem eq_slice {q n : Nat} {x : PySem.Str} {j k : Int} (h0 : 0 ≤ j) (h1 : j ≤ (x.length : Int)) (hk : k = j + (n : Nat)) (h : Q (.bool (startsQ q n ((cs x).drop j.toNat))) s) : wpAny (model prog w) A (compareOp .Eq (.str (Txt.slice x (some j) (some k)) t) (.str (rep q n) u)) Q E s :=
  PyProof.Rows.eq_str (by
    have : (Txt.slice x (some j) (some k) == rep q n) = startsQ q n ((cs x).drop j.toNat) := by
      unfold startsQ
      have e := cs_slice (x := x) h0 h1 (show j ≤ k by omega)
      rw [show (k - j).toNat = n by omega] at e
      by_cases hh : ((cs x).drop j.toNat).take n = List.replicate n q
      · have : Txt.slice x (some j) (some k) = rep q n := cs_inj (by rw [e, cs_rep, hh])
        rw [this, hh]; simp
      · have : ¬ Txt.slice x (some j) (some k) = rep q n := fun e2 => hh (by rw [← e, e2, cs_rep])
        rw [beq_eq_false_iff_ne.mpr this, beq_eq_false_iff_ne.mpr hh]
    rw [this]; exact h)
theorem find_call {c : Nat} {Q : Value → Shared → Prop} (h : ∀ t' k, Q (.int (escFind c) t') { s with toks := k }) : wpAny (model prog w) A (call (.builtin "str.find") [.str (PySem.Str.ofString "abfrtvn\\\"'") t, .str (one c) u]) Q E s :=
  KXw.find (find_esc c) h
end
end Mine

-- L9
set_option autoImplicit false
set_option maxRecDepth 100000
namespace Mine
open PySem PySem.W PySem.Calls PyProof.Rows
/-- what the law has written so far -/
def Bld4 (k : Nat) (w n : PySem.Str) : Prop :=
  ∃ is, (∀ i ∈ is, i.ok) ∧ pctOk is ∧ lastC 58 is ≠ 46 ∧ cs w = wI is ∧ cs n = nI is ∧ w.length ≤ 3 * k ∧ n.length ≤ 3 * k ∧ ∀ c ∈ cs w, c < 256
theorem bld4_nil {k : Nat} {w n : PySem.Str} (h : k = 0) (h1 : w = PySem.Str.ofString "") (h2 : n = PySem.Str.ofString "") : Bld4 k w n := by
  subst h h1 h2; exact ⟨[], fun i hi => (by cases hi), trivial, (by decide), rfl, rfl, by decide, by decide, fun c hc => by cases hc⟩
theorem pct_app : ∀ (A B : List Nit), pctOk A → pctOk B → pctOk (A ++ B)
  | [], _, _, h => h
  | .plain c :: A, B, h, hB => by
    refine ⟨fun hc => ?_, pct_app A B h.2 hB⟩
    obtain ⟨a, b, r', hr, ha, hb⟩ := h.1 hc
    exact ⟨a, b, r' ++ B, by rw [hr]; rfl, ha, hb⟩
  | .esc c :: A, B, h, hB => pct_app A B h hB
abbrev rawL : List PySem.Str := [PySem.Str.ofString "a", PySem.Str.ofString "Z", PySem.Str.ofString "9", PySem.Str.ofString "-", PySem.Str.ofString "_", PySem.Str.ofString "é", PySem.Str.ofString ":", PySem.Str.ofString ".b", PySem.Str.ofString "0", PySem.Str.ofString "z"]
abbrev escS : PySem.Str := PySem.Str.ofString "(_~-!$&'()*+,;=/?#@%)"
theorem escS_ok : ∀ m : Nat, m < 21 → (cs escS).getD m 0 ∈ cs ESs ∧ (cs escS).getD m 0 ≠ 46 := by decide +kernel
theorem escS_small : ∀ m : Nat, m < 21 → (cs escS).getD m 0 < 256 := by decide +kernel
theorem fig_small : (∀ m : Nat, m < 4 → (cs (PySem.Str.ofString "0aF9")).getD m 0 < 256) ∧ (∀ m : Nat, m < 3 → (cs (PySem.Str.ofString "3eB")).getD m 0 < 256) := by decide +kernel

theorem figA_ok : ∀ m : Nat, m < 4 → (cs (PySem.Str.ofString "0aF9")).getD m 0 ∈ cs HXs ∧ (cs (PySem.Str.ofString "0aF9")).getD m 0 ∉ cs NQs := by decide +kernel
theorem figB_ok : ∀ m : Nat, m < 3 → (cs (PySem.Str.ofString "3eB")).getD m 0 ∈ cs HXs ∧ (cs (PySem.Str.ofString "3eB")).getD m 0 ∉ cs NQs ∧ (cs (PySem.Str.ofString "3eB")).getD m 0 ≠ 46 ∧ (cs (PySem.Str.ofString "3eB")).getD m 0 ≠ 37 := by decide +kernel
theorem figA_no : ∀ m : Nat, m < 4 → (cs (PySem.Str.ofString "0aF9")).getD m 0 ≠ 37 := by decide +kernel
theorem raw_ok : ∀ e ∈ rawL, (∀ c ∈ cs e, c ∉ cs NQs ∧ c ≠ 37) ∧ e.length ≤ 2 ∧ ∃ A c, cs e = A ++ [c] ∧ c ≠ 46 := by
  intro e he
  have h1 : ∀ e ∈ rawL, (∀ c ∈ cs e, c ∉ cs NQs ∧ c ≠ 37) ∧ e.length ≤ 2 := by decide +kernel
  have h2 : ∀ e ∈ rawL, cs e ≠ [] ∧ (cs e).getLastD 0 ≠ 46 := by decide +kernel
  refine ⟨(h1 e he).1, (h1 e he).2, (cs e).dropLast, (cs e).getLast (h2 e he).1, (List.dropLast_concat_getLast (h2 e he).1).symm, ?_⟩
  have := (h2 e he).2
  rwa [List.getLastD_eq_getLast?, List.getLast?_eq_some_getLast (h2 e he).1] at this
theorem raw_small : ∀ e ∈ rawL, ∀ c ∈ cs e, c < 256 := by decide +kernel
theorem wI_plain (l : List Nat) : wI (l.map .plain) = l := by
  induction l with
  | nil => rfl
  | cons c l ih => show [c] ++ wI (l.map .plain) = c :: l; rw [ih]; rfl
theorem nI_plain (l : List Nat) : nI (l.map .plain) = l := by
  induction l with
  | nil => rfl
  | cons c l ih => show [c] ++ nI (l.map .plain) = c :: l; rw [ih]; rfl
theorem pct_plain : ∀ l : List Nat, (∀ c ∈ l, c ≠ 37) → pctOk (l.map .plain)
  | [], _ => trivial
  | c :: l, h => ⟨fun e => absurd e (h c (.head _)), pct_plain l (fun d hd => h d (.tail _ hd))⟩
section
variable {k k' : Nat} {w n z z1 n' y y1 e : PySem.Str} {a b : Int}
theorem bld4_add (H : Bld4 k w n) (J : List Nit) (hok : ∀ i ∈ J, i.ok) (hp : pctOk J) (hl : ∀ q, lastC q J ≠ 46) (hz : cs z = cs w ++ wI J) (hn : cs n' = cs n ++ nI J) (hk : k' = k + 1) (h3 : (wI J).length ≤ 3 ∧ (nI J).length ≤ 3) (hsm : ∀ c ∈ wI J, c < 256) : Bld4 k' z n' := by
  obtain ⟨is, h1, h2, h3', h4, h5, h6, h7, h8⟩ := H
  refine ⟨is ++ J, ?_, pct_app is J h2 hp, ?_, ?_, ?_, ?_, ?_, ?_⟩
  · intro i hi
    rcases List.mem_append.mp hi with hi | hi
    · exact h1 i hi
    · exact hok i hi
  · rw [lastC_app]; exact hl _
  · rw [hz, h4, wI_app]
  · rw [hn, h5, nI_app]
  · rw [← cs_len, hz, List.length_append, cs_len]; omega
  · rw [← cs_len, hn, List.length_append, cs_len]; omega
  · intro c hc
    rw [hz] at hc
    exact (List.mem_append.mp hc).elim (h8 c) (hsm c)
theorem bld4_raw (H : Bld4 k w n) (hz : z = w ++ e) (hn : n' = n ++ e) (he : e ∈ rawL) (hk : k' = k + 1) : Bld4 k' z n' := by
  obtain ⟨r1, r2, A, c, r3, r4⟩ := raw_ok e he
  refine bld4_add H ((cs e).map .plain) ?_ (pct_plain _ (fun c hc => (r1 c hc).2)) (fun q => ?_) (by rw [hz, cs_app, wI_plain]) (by rw [hn, cs_app, nI_plain]) hk (by rw [wI_plain, nI_plain, cs_len]; omega) (by rw [wI_plain]; exact raw_small e he)
  · intro i hi
    obtain ⟨c, hc, rfl⟩ := List.mem_map.mp hi
    exact (r1 c hc).1
  · rw [r3, List.map_append, lastC_app]; exact r4
theorem bld4_esc (H : Bld4 k w n) (hz1 : z1 = w ++ PySem.Str.ofString "\\") (hz : z = z1 ++ one ((cs escS).getD (a.fmod 21).toNat 0)) (hn : n' = n ++ one ((cs escS).getD (a.fmod 21).toNat 0)) (hk : k' = k + 1) : Bld4 k' z n' := by
  have e0 := Int.fmod_nonneg_of_pos a (show (0 : Int) < 21 by decide)
  have e1 := Int.fmod_lt_of_pos a (show (0 : Int) < 21 by decide)
  have hs := escS_ok (a.fmod 21).toNat (by omega)
  have eb : cs (PySem.Str.ofString "\\") = [92] := by decide +kernel
  refine bld4_add H [.esc ((cs escS).getD (a.fmod 21).toNat 0)] ?_ trivial (fun q => hs.2) ?_ ?_ hk ⟨Nat.le_of_ble_eq_true rfl, Nat.le_of_ble_eq_true rfl⟩ (fun c hc => ?_)
  · intro i hi; rw [List.mem_singleton.mp hi]; exact hs
  · rw [hz, hz1, cs_app, cs_app, eb, cs_one, List.append_assoc]; rfl
  · rw [hn, cs_app, cs_one]; rfl
  · rcases List.mem_cons.mp hc with rfl | hc
    · decide
    · rw [List.mem_singleton.mp hc]; exact escS_small _ (by omega)
theorem bld4_pct (H : Bld4 k w n) (hy1 : y1 = PySem.Str.ofString "%" ++ one ((cs (PySem.Str.ofString "0aF9")).getD (a.fmod 4).toNat 0)) (hy : y = y1 ++ one ((cs (PySem.Str.ofString "3eB")).getD (b.fmod 3).toNat 0)) (hz : z = w ++ y) (hn : n' = n ++ y) (hk : k' = k + 1) : Bld4 k' z n' := by
  have a0 := Int.fmod_nonneg_of_pos a (show (0 : Int) < 4 by decide)
  have a1 := Int.fmod_lt_of_pos a (show (0 : Int) < 4 by decide)
  have b0 := Int.fmod_nonneg_of_pos b (show (0 : Int) < 3 by decide)
  have b1 := Int.fmod_lt_of_pos b (show (0 : Int) < 3 by decide)
  have hA := figA_ok (a.fmod 4).toNat (by omega)
  have hA2 := figA_no (a.fmod 4).toNat (by omega)
  have hB := figB_ok (b.fmod 3).toNat (by omega)
  have ep : cs (PySem.Str.ofString "%") = [37] := by decide +kernel
  have ey : cs y = [37, (cs (PySem.Str.ofString "0aF9")).getD (a.fmod 4).toNat 0, (cs (PySem.Str.ofString "3eB")).getD (b.fmod 3).toNat 0] := by rw [hy, hy1, cs_app, cs_app, ep, cs_one, cs_one]; rfl
  refine bld4_add H [.plain 37, .plain ((cs (PySem.Str.ofString "0aF9")).getD (a.fmod 4).toNat 0), .plain ((cs (PySem.Str.ofString "3eB")).getD (b.fmod 3).toNat 0)] ?_ ?_ (fun q => hB.2.2.1) ?_ ?_ hk ⟨Nat.le_of_ble_eq_true rfl, Nat.le_of_ble_eq_true rfl⟩ (fun c hc => ?_)
  · intro i hi
    simp only [List.mem_cons, List.not_mem_nil, or_false] at hi
    rcases hi with rfl | rfl | rfl
    · exact nq37
    · exact hA.2
    · exact hB.2.1
  · exact ⟨fun _ => ⟨_, _, [], rfl, hA.1, hB.1⟩, fun e => absurd e hA2, fun e => absurd e hB.2.2.2, trivial⟩
  · rw [hz, cs_app, ey]; rfl
  · rw [hn, cs_app, ey]; rfl
  · have hc' : c ∈ [37, (cs (PySem.Str.ofString "0aF9")).getD (a.fmod 4).toNat 0, (cs (PySem.Str.ofString "3eB")).getD (b.fmod 3).toNat 0] := hc
    simp only [List.mem_cons, List.not_mem_nil, or_false] at hc'
    rcases hc' with rfl | rfl | rfl
    · decide
    · exact fig_small.1 _ (by omega)
    · exact fig_small.2 _ (by omega)
theorem bld4_lens (H : Bld4 k w n) : w.length ≤ 3 * k ∧ n.length ≤ 3 * k := by obtain ⟨_, _, _, _, _, _, a, b, _⟩ := H; exact ⟨a, b⟩
end

abbrev befL : List PySem.Str := [PySem.Str.ofString "", PySem.Str.ofString " ", PySem.Str.ofString "\n\t", PySem.Str.ofString "# x\n"]
abbrev preL : List PySem.Str := [PySem.Str.ofString "", PySem.Str.ofString "a", PySem.Str.ofString "ex", PySem.Str.ofString "b9", PySem.Str.ofString "p-q", PySem.Str.ofString "r.s", PySem.Str.ofString "é", PySem.Str.ofString "_x"]
abbrev behL : List PySem.Str := [PySem.Str.ofString "", PySem.Str.ofString " ", PySem.Str.ofString ";", PySem.Str.ofString ",", PySem.Str.ofString ")", PySem.Str.ofString "]", PySem.Str.ofString "\n.", PySem.Str.ofString "<"]
abbrev othL : List PySem.Str := [PySem.Str.ofString "12 ", PySem.Str.ofString "-a:b", PySem.Str.ofString "+:c", PySem.Str.ofString ".5", PySem.Str.ofString "word ", PySem.Str.ofString "a;b", PySem.Str.ofString ""]
abbrev badL : List PySem.Str := [PySem.Str.ofString "\\a", PySem.Str.ofString "\\ ", PySem.Str.ofString "\\:", PySem.Str.ofString "%4g", PySem.Str.ofString "%g4", PySem.Str.ofString "\\"]
theorem bef_ok (e : PySem.Str) (h : e ∈ befL) : ∃ qs ∈ befores, (qs.map Prod.fst).flatten = cs e := by
  have : ∀ e ∈ befL, befores.any (fun qs => decide ((qs.map Prod.fst).flatten = cs e)) = true := by decide +kernel
  obtain ⟨qs, h1, h2⟩ := List.any_eq_true.mp (this e h)
  exact ⟨qs, h1, of_decide_eq_true h2⟩
/-- a prefix, and the colon behind it -/
theorem pre_ok : ∀ e ∈ preL, (∀ c ∈ cs e, c ∉ cs NNs) ∧ (cs e).getLastD 0 ≠ 46 ∧ isBlank ((cs e).headD 58) = false ∧ isMark ((cs e).headD 58) = false ∧ (cs e).headD 58 ∉ cs NMs ∧ e ≠ PySem.Str.ofString "_" := by decide +kernel
theorem nn58 : (58 : Nat) ∈ cs NNs := by rw [nn_list]; decide
theorem beh_ok (e : PySem.Str) (h : e ∈ behL) : Fine4 (cs e) := by
  have : ∀ e ∈ behL, cs e = [] ∨ ((cs e).headD 92 ∈ cs NQs ∧ (cs e).headD 92 ≠ 92) := by decide +kernel
  rcases this e h with h1 | ⟨h1, h2⟩
  · exact .inl h1
  · cases hc : cs e with
    | nil => exact .inl rfl
    | cons c l => rw [hc] at h1 h2; exact .inr ⟨c, l, rfl, h1, h2⟩
/-- the faults -/
theorem bad_ok (e y : PySem.Str) (h : e ∈ badL) (hy : y = PySem.Str.ofString " x" ∨ (y = PySem.Str.ofString "" ∧ e = PySem.Str.ofString "\\")) (hy2 : y = PySem.Str.ofString " x" → e ≠ PySem.Str.ofString "\\") : Bad4 (cs e ++ cs y) := by
  have hx : cs (PySem.Str.ofString " x") = [32, 120] := by decide +kernel
  have hb : cs (PySem.Str.ofString "\\") = [92] := by decide +kernel
  rcases hy with hy | ⟨hy, he⟩
  · have hne := hy2 hy
    rw [hy, hx]
    simp only [badL, List.mem_cons, List.not_mem_nil, or_false] at h
    have e1 : cs (PySem.Str.ofString "\\a") = [92, 97] := by decide +kernel
    have e2 : cs (PySem.Str.ofString "\\ ") = [92, 32] := by decide +kernel
    have e3 : cs (PySem.Str.ofString "\\:") = [92, 58] := by decide +kernel
    have e4 : cs (PySem.Str.ofString "%4g") = [37, 52, 103] := by decide +kernel
    have e5 : cs (PySem.Str.ofString "%g4") = [37, 103, 52] := by decide +kernel
    rcases h with rfl | rfl | rfl | rfl | rfl | rfl
    · exact .inl ⟨97, [32, 120], by rw [e1]; rfl, by decide +kernel⟩
    · exact .inl ⟨32, [32, 120], by rw [e2]; rfl, by decide +kernel⟩
    · exact .inl ⟨58, [32, 120], by rw [e3]; rfl, by decide +kernel⟩
    · exact .inr (.inr ⟨52, 103, [32, 120], by rw [e4]; rfl, by decide +kernel⟩)
    · exact .inr (.inr ⟨103, 52, [32, 120], by rw [e5]; rfl, by decide +kernel⟩)
    · exact absurd rfl hne
  · rw [he, hy, hb]
    exact .inr (.inl rfl)
section
variable {k : Nat} {bef pre w n behi x t z1 z2 z3 y bad : PySem.Str}
/-- a text of the law, in the words of the walk -/
structure Name4 (x : PySem.Str) (b p : Int) (pre n : PySem.Str) (is : List Nit) (tail : List Nat) : Prop where
  skip : ∃ B, Skip x B (cs pre ++ 58 :: (wI is ++ tail)) ∧ b = (B.length : Int)
  head : Head x b (cs pre) 58
  place : p = b + (pre.length : Int) + 1
  txt : Txt4 x p is tail
  name : cs n = nI is
  prefix_ : pre ∈ preL
theorem name4_of {tail : PySem.Str} (H : Bld4 k w n) (hb : bef ∈ befL) (hp : pre ∈ preL) (h1 : z1 = bef ++ pre) (h2 : z2 = z1 ++ PySem.Str.ofString ":") (h3 : t = z2 ++ w) (hx : cs x = cs t ++ cs tail) (ht : Fine4 (cs tail) ∨ Bad4 (cs tail)) :
    ∃ is, Name4 x (bef.length : Int) ((bef.length : Int) + (pre.length : Int) + 1) pre n is (cs tail) ∧ (t.length : Int) = (bef.length : Int) + (pre.length : Int) + 1 + ((wI is).length : Int) := by
  obtain ⟨is, a1, a2, a3, a4, a5, a6, a7, a8⟩ := H
  have ec : cs (PySem.Str.ofString ":") = [58] := by decide +kernel
  have et : cs t = cs bef ++ (cs pre ++ 58 :: wI is) := by rw [h3, h2, h1, cs_app, cs_app, cs_app, ec, a4]; simp
  have ex : cs x = cs bef ++ (cs pre ++ 58 :: (wI is ++ cs tail)) := by rw [hx, et]; simp
  obtain ⟨p1, p2, p3, p4, p5, p6⟩ := pre_ok pre hp
  refine ⟨is, ⟨⟨cs bef, ⟨ex, bef_ok bef hb, .inr ?_⟩, by rw [cs_len]⟩, ⟨by omega, ?_, p1, nn58, ?_⟩, rfl, ⟨a1, a2, a3, by omega, ⟨cs bef ++ cs pre, by rw [ex]; simp, by rw [List.length_append, cs_len, cs_len]; omega⟩, ht⟩, a5, hp⟩, ?_⟩
  · cases hc : cs pre with
    | nil => rw [hc] at p3 p4; exact ⟨58, _, rfl, p3, p4⟩
    | cons c l => rw [hc] at p3 p4; exact ⟨c, _, rfl, p3, p4⟩
  · refine ⟨wI is ++ cs tail, ?_⟩
    have : ((bef.length : Nat) : Int).toNat = (cs bef).length := by rw [cs_len]; omega
    rw [ex, this, List.drop_left]
  · intro A c hA e
    rw [hA, e] at p2
    simp at p2
  · have := congrArg List.length et
    rw [cs_len] at this
    simp only [List.length_append, List.length_cons, cs_len] at this
    omega
end
end Mine

-- L10
set_option autoImplicit false
set_option maxRecDepth 100000
namespace Mine
open PySem PySem.W PySem.Calls PyProof.Rows
theorem lens4 : (PySem.Str.ofString ":").length = 1 ∧ (PySem.Str.ofString "%").length = 1 ∧ (PySem.Str.ofString "\\").length = 1 ∧ (PySem.Str.ofString " x").length = 2 ∧ (PySem.Str.ofString "").length = 0 := by decide +kernel
theorem lens4e : (PySem.Str.ofString "illegal escape ").length ≤ 100 ∧ (PySem.Str.ofString "illegal hex escape ").length ≤ 100 ∧ (PySem.Str.ofString "qname cannot end with \\").length ≤ 100 := by decide +kernel
section
variable {prog : Program} {w : World} {A : Around} {E : Value → Shared → Prop} {s : Shared} {t u : Tok} {Q : Value → Shared → Prop}
theorem add_oneR {x : PySem.Str} {c : Nat} (hsz : x.length + 1 ≤ 16777216) (h : ∀ z t' tk, z = x ++ one c → z.length = x.length + 1 → Q (.str z t') { s with toks := tk }) : wpAny (model prog w) A (binaryOp .Add (.str x t) (.str (one c) u)) Q E s :=
  add_len (by rw [one_len]; exact hsz) (fun z t' tk h1 h2 => h z t' tk h1 (by rw [h2, one_len]))
/-- a sign in a written text -/
theorem in_chars {c : Nat} {y : PySem.Str} (h : Q (.bool (decide (c ∈ cs y))) s) : wpAny (model prog w) A (compareOp .In (.str (one c) t) (.str y u)) Q E s := by
  refine PyProof.Rows.in_str ?_
  rw [in_one]; exact h
theorem in_chars_is {c : Nat} {y : PySem.Str} {b : Bool} (hb : decide (c ∈ cs y) = b) (h : Q (.bool b) s) : wpAny (model prog w) A (compareOp .In (.str (one c) t) (.str y u)) Q E s := in_chars (by rw [hb]; exact h)
theorem notin_chars {c : Nat} {y : PySem.Str} (h : Q (.bool (decide (¬ c ∈ cs y))) s) : wpAny (model prog w) A (compareOp .NotIn (.str (one c) t) (.str y u)) Q E s := by
  refine PyProof.Rows.notIn_str ?_
  rw [in_one]
  have e : (!decide (c ∈ cs y)) = decide (¬ c ∈ cs y) := by by_cases q : c ∈ cs y <;> simp [q]
  rw [e]; exact h
theorem notin_chars_is {c : Nat} {y : PySem.Str} {b : Bool} (hb : decide (¬ c ∈ cs y) = b) (h : Q (.bool b) s) : wpAny (model prog w) A (compareOp .NotIn (.str (one c) t) (.str y u)) Q E s := notin_chars (by rw [hb]; exact h)
theorem eq_str_is {x y : PySem.Str} {b : Bool} (hb : (x == y) = b) (h : Q (.bool b) s) : wpAny (model prog w) A (compareOp .Eq (.str x t) (.str y u)) Q E s := PyProof.Rows.eq_str (by rw [hb]; exact h)
/-- ways that meet in a truth -/
structure InTold : Prop where
def BoolEnd (v : Bool) (h₀ : Heap) (L : Addr) (m : PySem.Str → Option Value) (news : List (Addr × Obj)) (s : Shared) (r : Bool) (s' : Shared) : Prop :=
  ∃ h' tk, r = v ∧ s' = { s with heap := h', toks := tk } ∧ Fr h₀ L h' m ∧ News h₀ L h' news
theorem boolEnd {v x : Bool} {h₀ : Heap} {L : Addr} {m : PySem.Str → Option Value} {news news' : List (Addr × Obj)} {s : Shared} {h' : Heap} {tk : Nat} (F : Fr h₀ L h' m) (N : News h₀ L h' news') (hs : ∀ p ∈ news, p ∈ news') (e : x = v) :
    BoolEnd v h₀ L m news s x { s with heap := h', toks := tk } := ⟨h', tk, e, rfl, F, fun p hp => N p (hs p hp)⟩
theorem bool_meet {h₀ : Heap} {L : Addr} {m : PySem.Str → Option Value} {news : List (Addr × Obj)} {tr : Sem Bool} {Q : Bool → Shared → Prop} (v : Bool)
    (F : Fr h₀ L s.heap m) (N : News h₀ L s.heap news) (h : InTold → wpAny (model prog w) A tr (BoolEnd v h₀ L m news s) E s)
    (k : ∀ h' tk, Fr h₀ L h' m → News h₀ L h' news → Q v { s with heap := h', toks := tk }) : wpAny (model prog w) A tr Q E s :=
  wpAny_mono (h ⟨⟩) (fun r s' hr => by obtain ⟨h', tk, rfl, rfl, F', N'⟩ := hr; exact k h' tk F' N') (fun _ _ x => x)
/-- the text behind a fault -/
def BadY (bad y : PySem.Str) : Prop := (y = PySem.Str.ofString " x" ∨ (y = PySem.Str.ofString "" ∧ bad = PySem.Str.ofString "\\")) ∧ (y = PySem.Str.ofString " x" → bad ≠ PySem.Str.ofString "\\")
structure InBad : Prop where
def BadEnd (bad : PySem.Str) (s : Shared) (r : Value) (s' : Shared) : Prop := ∃ y t tk, r = .str y t ∧ BadY bad y ∧ s' = { s with toks := tk }
theorem badEnd_x {bad : PySem.Str} {t : Tok} {tk : Nat} (h : (bad != PySem.Str.ofString "\\") = true) : BadEnd bad s (.str (PySem.Str.ofString " x") t) { s with toks := tk } :=
  ⟨_, t, tk, rfl, ⟨.inl rfl, fun _ => by simpa using h⟩, rfl⟩
theorem badEnd_e {bad : PySem.Str} {t : Tok} {tk : Nat} (h : (bad != PySem.Str.ofString "\\") = false) : BadEnd bad s (.str (PySem.Str.ofString "") t) { s with toks := tk } :=
  ⟨_, t, tk, rfl, ⟨.inr ⟨rfl, by simpa using h⟩, fun e => absurd e (by decide +kernel)⟩, rfl⟩
theorem bad_meet {bad : PySem.Str} {tr : Sem Value} {h₀ : Heap} {L : Addr} {m : PySem.Str → Option Value} (_ : Fr h₀ L s.heap m) (_ : m (PySem.Str.ofString "bad") = some (.str bad t)) (h : InBad → wpAny (model prog w) A tr (BadEnd bad s) E s)
    (k : ∀ y t tk, BadY bad y → y.length ≤ 2 → Q (.str y t) { s with toks := tk }) : wpAny (model prog w) A tr Q E s :=
  wpAny_mono (h ⟨⟩) (fun r s' hr => by
    obtain ⟨y, t, tk, rfl, hy, rfl⟩ := hr
    refine k y t tk hy ?_
    rcases hy.1 with e | ⟨e, _⟩ <;> rw [e] <;> decide +kernel) (fun _ _ x => x)
end
end Mine

-- L11
set_option autoImplicit false
set_option maxRecDepth 100000
namespace Mine
open PySem PySem.W PySem.Calls PyProof.Rows
/-- what is asked of a text: it holds a name (and what lies behind), or a fault; b is where the name's prefix stands -/
structure Ask (x : PySem.Str) (b : Int) (pre n : PySem.Str) (T : Int) (fine : Bool) : Prop where
  ex : ∃ is tail, Name4 x b (b + (pre.length : Int) + 1) pre n is tail ∧ T = b + (pre.length : Int) + 1 + ((wI is).length : Int) ∧ (fine = true → Fine4 tail) ∧ (fine = false → Bad4 tail)
  small : ∀ c ∈ cs x, c < 256
/-- the name's own part: it stands from p on -/
structure AskN (x : PySem.Str) (p : Int) (n : PySem.Str) (T : Int) (fine : Bool) : Prop where
  ex : ∃ is tail, Txt4 x p is tail ∧ cs n = nI is ∧ T = p + ((wI is).length : Int) ∧ (fine = true → Fine4 tail) ∧ (fine = false → Bad4 tail)
  small : ∀ c ∈ cs x, c < 256
/-- the other texts -/
structure Oth (x : PySem.Str) (b : Int) (oth : PySem.Str) : Prop where
  skip : ∃ B, Skip x B (cs oth) ∧ b = (B.length : Int)
  mem : oth ∈ othL
theorem small256 {c : Nat} (h : c < 256) : PySem.Str.isSurrogate c = false := by unfold PySem.Str.isSurrogate; simp; omega
section
variable {k : Nat} {bef pre w n behi x t z1 z2 z5 y bad oth : PySem.Str}
theorem tail_small : (∀ e ∈ befL, ∀ c ∈ cs e, c < 256) ∧ (∀ e ∈ preL, ∀ c ∈ cs e, c < 256) ∧ (∀ e ∈ behL, ∀ c ∈ cs e, c < 256) ∧ (∀ e ∈ badL, ∀ c ∈ cs e, c < 256) := by decide +kernel
theorem text_small (H : Bld4 k w n) (hb : bef ∈ befL) (hp : pre ∈ preL) (h1 : z1 = bef ++ pre) (h2 : z2 = z1 ++ PySem.Str.ofString ":") (h3 : t = z2 ++ w) : ∀ c ∈ cs t, c < 256 := by
  obtain ⟨is, a1, a2, a3, a4, a5, a6, a7, a8⟩ := H
  have ec : ∀ c ∈ cs (PySem.Str.ofString ":"), c < 256 := by decide +kernel
  intro c hc
  rw [h3, h2, h1, cs_app, cs_app, cs_app] at hc
  simp only [List.mem_append] at hc
  rcases hc with ((hc | hc) | hc) | hc
  · exact tail_small.1 bef hb c hc
  · exact tail_small.2.1 pre hp c hc
  · exact ec c hc
  · exact a8 c hc
theorem ask_fine (hbh : behi ∈ behL) (hx : x = t ++ behi) (h3 : t = z2 ++ w) (h2 : z2 = z1 ++ PySem.Str.ofString ":") (h1 : z1 = bef ++ pre) (hb : bef ∈ befL) (hp : pre ∈ preL) (H : Bld4 k w n) : Ask x (bef.length : Int) pre n (t.length : Int) true := by
  obtain ⟨is, N, hT⟩ := name4_of (x := x) (tail := behi) H hb hp h1 h2 h3 (by rw [hx, cs_app]) (.inl (beh_ok behi hbh))
  refine ⟨⟨is, _, N, hT, fun _ => beh_ok behi hbh, (fun h => by cases h)⟩, fun c hc => ?_⟩
  rw [hx, cs_app] at hc
  exact (List.mem_append.mp hc).elim (text_small H hb hp h1 h2 h3 c) (tail_small.2.2.1 behi hbh c)
theorem ask_bad (hbd : bad ∈ badL) (hY : BadY bad y) (hx : x = z5 ++ y) (h5 : z5 = t ++ bad) (h3 : t = z2 ++ w) (h2 : z2 = z1 ++ PySem.Str.ofString ":") (h1 : z1 = bef ++ pre) (hb : bef ∈ befL) (hp : pre ∈ preL) (H : Bld4 k w n) : Ask x (bef.length : Int) pre n (t.length : Int) false := by
  have hB := bad_ok bad y hbd hY.1 hY.2
  rw [← cs_app] at hB
  obtain ⟨is, N, hT⟩ := name4_of (x := x) (tail := bad ++ y) H hb hp h1 h2 h3 (by rw [hx, h5]; simp only [cs_app, List.append_assoc]) (.inr hB)
  refine ⟨⟨is, _, N, hT, (fun h => by cases h), fun _ => hB⟩, fun c hc => ?_⟩
  rw [hx, h5, cs_app, cs_app] at hc
  have hy : ∀ c ∈ cs y, c < 256 := by
    have h1 : ∀ c ∈ cs (PySem.Str.ofString " x"), c < 256 := by decide +kernel
    rcases hY.1 with e | ⟨e, _⟩
    · rw [e]; exact h1
    · rw [e]; intro c hc; cases hc
  simp only [List.mem_append] at hc
  rcases hc with (hc | hc) | hc
  · exact text_small H hb hp h1 h2 h3 c hc
  · exact tail_small.2.2.2 bad hbd c hc
  · exact hy c hc
theorem oth_first : ∀ e ∈ othL, cs e = [] ∨ (isBlank ((cs e).headD 0) = false ∧ isMark ((cs e).headD 0) = false) := by decide +kernel
theorem oth_of4 (ho : oth ∈ othL) (hx : x = bef ++ oth) (hb : bef ∈ befL) : Oth x (bef.length : Int) oth := by
  refine ⟨⟨cs bef, ⟨by rw [hx, cs_app], bef_ok bef hb, ?_⟩, by rw [cs_len]⟩, ho⟩
  rcases oth_first oth ho with h | ⟨h1, h2⟩
  · exact .inl h
  · cases hc : cs oth with
    | nil => exact .inl rfl
    | cons c l => rw [hc] at h1 h2; exact .inr ⟨c, l, rfl, h1, h2⟩
end
section
variable {x pre n oth : PySem.Str} {b i i1 m T p j : Int} {fine : Bool} {c k : Nat} {l : List Nat}
/-- skipSpace, where a name lies ahead -/
theorem ask_skip (A : Ask x b pre n T fine) : ∃ B R, Skip x B R ∧ R ≠ [] ∧ b = (B.length : Int) := by
  obtain ⟨is, tail, N, _⟩ := A.ex
  obtain ⟨B, S, hB⟩ := N.skip
  exact ⟨B, _, S, by simp, hB⟩
theorem ask_word (A : Ask x b pre n T fine) (H : Blk x 0 i) (hd : (cs x).drop i.toNat = c :: l) (hc : isBlank c = false) (hm : isMark c = false) : b = i := by
  obtain ⟨B, R, S, _, hB⟩ := ask_skip A
  rw [hB, skip_word S H hd hc hm]
theorem ask_end (A : Ask x b pre n T fine) (H : Blk x 0 i) (ho : (x.length : Int) ≤ i) : False := by
  obtain ⟨B, R, S, hR, _⟩ := ask_skip A
  exact hR (skip_end S H ho)
theorem ask_some (A : Ask x b pre n T fine) (H : Blk x 0 i1) (hd : (cs x).drop i1.toNat = c :: l) (hc : isBlank c = false) (N : LnAt x i1 i m) (hn : reMatch tlEol ((cs x).drop i.toNat) = none) (hk : k = (((cs x).drop i.toNat).takeWhile isBlank).length) : b = ((i.toNat + k : Nat) : Int) := by
  obtain ⟨B, R, S, _, hB⟩ := ask_skip A
  rw [hB, skip_some S H hd hc N hn hk]
theorem ask_none {k2 : Nat} (A : Ask x b pre n T fine) (H : Blk x 0 i1) (hd : (cs x).drop i1.toNat = c :: l) (hc : isBlank c = false) (N : LnAt x i1 i m) (hn : reMatch tlEol ((cs x).drop i.toNat) = none) (hk : k = (((cs x).drop i.toNat).takeWhile isBlank).length) (he : reMatch tlEof ((cs x).drop ((i.toNat + k : Nat) : Int).toNat) = some k2) : False := by
  obtain ⟨B, R, S, hR, _⟩ := ask_skip A
  exact hR (skip_none S H hd hc N hn hk he)
theorem oth_word (A : Oth x b oth) (H : Blk x 0 i) (hd : (cs x).drop i.toNat = c :: l) (hc : isBlank c = false) (hm : isMark c = false) : b = i := by
  obtain ⟨B, S, hB⟩ := A.skip
  rw [hB, skip_word S H hd hc hm]
theorem oth_some (A : Oth x b oth) (H : Blk x 0 i1) (hd : (cs x).drop i1.toNat = c :: l) (hc : isBlank c = false) (N : LnAt x i1 i m) (hn : reMatch tlEol ((cs x).drop i.toNat) = none) (hk : k = (((cs x).drop i.toNat).takeWhile isBlank).length) : b = ((i.toNat + k : Nat) : Int) := by
  obtain ⟨B, S, hB⟩ := A.skip
  rw [hB, skip_some S H hd hc N hn hk]
theorem ask_at (h : b = i) (A : Ask x b pre n T fine) : Ask x i pre n T fine := h ▸ A
theorem oth_at (h : b = i) (A : Oth x b oth) : Oth x i oth := h ▸ A
/-- the word ahead, of either -/
theorem ask_head (A : Ask x b pre n T fine) : Head x b (cs pre) 58 := by
  obtain ⟨is, tail, N, _⟩ := A.ex
  exact N.head
theorem ask_pre (A : Ask x b pre n T fine) : pre ∈ preL := by
  obtain ⟨is, tail, N, _⟩ := A.ex
  exact N.prefix_
theorem ask_lt (A : Ask x b pre n T fine) : 0 ≤ b ∧ b < (x.length : Int) := by
  have H := ask_head A
  obtain ⟨l, hl⟩ := H.at_
  have := congrArg List.length hl
  rw [List.length_drop, List.length_append, List.length_cons, cs_len] at this
  have := H.b0
  omega
theorem ask_nonum (A : Ask x b pre n T fine) (hD : (cs x).drop b.toNat = c :: l) : decide (c ∈ cs NMs) = false := by
  obtain ⟨l', hl⟩ := (ask_head A).at_
  obtain ⟨_, _, _, _, h5, _⟩ := pre_ok pre (ask_pre A)
  rw [hD] at hl
  cases hc : cs pre with
  | nil => rw [hc] at hl h5; injection hl with hl _; rw [hl]; exact decide_eq_false h5
  | cons d r => rw [hc] at hl h5; injection hl with hl _; rw [hl]; exact decide_eq_false h5
/-- a word begins -/
theorem ask_word1 (A : Ask x b pre n T fine) (hD : (cs x).drop b.toNat = c :: l) (hc : ¬ c ∈ cs NNs) : cs pre ≠ [] := by
  intro e
  obtain ⟨l', hl⟩ := (ask_head A).at_
  rw [hD, e] at hl
  injection hl with hl _
  rw [hl] at hc
  exact hc nn58
/-- none begins -/
theorem ask_word0 (A : Ask x b pre n T fine) (hD : (cs x).drop b.toNat = c :: l) (hc : ¬ ¬ c ∈ cs NNs) : pre = PySem.Str.ofString "" ∧ c = 58 := by
  obtain ⟨l', hl⟩ := (ask_head A).at_
  rw [hD] at hl
  cases hp : cs pre with
  | nil =>
    rw [hp] at hl
    injection hl with hl _
    exact ⟨cs_inj (by rw [hp]; rfl), hl⟩
  | cons d r =>
    rw [hp] at hl
    injection hl with hl _
    exact absurd (Decidable.of_not_not hc) ((ask_head A).word c (by rw [hp, hl]; exact .head _))
/-- the others: the word that stands there -/
def othWord (e : PySem.Str) : List Nat := if e = PySem.Str.ofString "word " then [119, 111, 114, 100] else [97]
theorem oth_split : ∀ e ∈ othL, cs e = [] ∨ (cs e).headD 0 ∈ cs NMs ∨ (∃ c1 l, c1 ∈ [32, 59] ∧ cs e = othWord e ++ c1 :: l) := by
  intro e he
  have h1 : ∀ e ∈ othL, cs e = [] ∨ (cs e).headD 0 ∈ cs NMs ∨ (cs e = othWord e ++ [32] ∨ cs e = othWord e ++ [59, 98]) := by decide +kernel
  rcases h1 e he with h | h | h | h
  · exact .inl h
  · exact .inr (.inl h)
  · exact .inr (.inr ⟨32, [], by simp, h⟩)
  · exact .inr (.inr ⟨59, [98], by simp, h⟩)
theorem othWord_ok (e : PySem.Str) : (∀ c ∈ othWord e, c ∉ cs NNs) ∧ (∀ A c, othWord e = A ++ [c] → c ≠ 46) ∧ othWord e ≠ [] := by
  have h1 : ∀ c ∈ [119, 111, 114, 100, 97], c ∉ cs NNs := by rw [nn_list]; decide
  unfold othWord
  split
  · refine ⟨fun c hc => h1 c (by simp at hc; simp; omega), fun A c h => ?_, by simp⟩
    have : ([119, 111, 114, 100] : List Nat).getLastD 0 = (A ++ [c]).getLastD 0 := by rw [h]
    simp at this; omega
  · refine ⟨fun c hc => h1 c (by simp at hc; simp; omega), fun A c h => ?_, by simp⟩
    have : ([97] : List Nat).getLastD 0 = (A ++ [c]).getLastD 0 := by rw [h]
    simp at this; omega
theorem oth_head (A : Oth x b oth) (hD : (cs x).drop b.toNat = c :: l) (hc : ¬ c ∈ cs NMs) : ∃ c1, Head x b (othWord oth) c1 ∧ (c1 = 32 ∨ c1 = 59) ∧ c ∉ cs NNs := by
  obtain ⟨B, S, hB⟩ := A.skip
  have hR : (cs x).drop b.toNat = cs oth := skip_at S (by omega)
  rw [hD] at hR
  obtain ⟨w1, w2, w3⟩ := othWord_ok oth
  rcases oth_split oth A.mem with h | h | ⟨c1, l', h1, h2⟩
  · rw [h] at hR; cases hR
  · rw [← hR] at h; exact absurd h hc
  · have h1' : c1 = 32 ∨ c1 = 59 := by simpa using h1
    refine ⟨c1, ⟨by omega, ⟨l', by rw [hD, hR, h2]⟩, w1, ?_, w2⟩, h1', ?_⟩
    · rw [nn_list]; rcases h1' with rfl | rfl <;> decide
    · rw [h2] at hR
      cases ho : othWord oth with
      | nil => exact absurd ho w3
      | cons d r => rw [ho] at hR; injection hR with hR _; exact w1 c (by rw [ho, hR]; exact .head _)
theorem oth_nn (A : Oth x b oth) (hD : (cs x).drop b.toNat = c :: l) (hc : ¬ c ∈ cs NMs) : decide (¬ c ∈ cs NNs) = true := by
  obtain ⟨c1, _, _, h⟩ := oth_head A hD hc
  exact decide_eq_true h
/-- the word's loop -/
theorem ask_in (A : Ask x b pre n T fine) (H : Wd x b i) : i < (x.length : Int) := head_in (ask_head A) H
theorem oth_in {c0 : Nat} {l0 : List Nat} (A : Oth x b oth) (hD : (cs x).drop b.toNat = c0 :: l0) (hc : ¬ c0 ∈ cs NMs) (H : Wd x b i) : i < (x.length : Int) := by
  obtain ⟨c1, h, _, _⟩ := oth_head A hD hc
  exact head_in h H
/-- the word's end -/
theorem ask_wend (A : Ask x b pre n T fine) (H : Wd x b i) (hD : (cs x).drop i.toNat = c :: l) (hc : ¬ ¬ c ∈ cs NNs) : i = b + (pre.length : Int) ∧ c = 58 := by
  have := head_end (ask_head A) H hD (Decidable.of_not_not hc)
  rw [cs_len] at this
  exact this
theorem oth_wend {c0 : Nat} {l0 : List Nat} (A : Oth x b oth) (hD0 : (cs x).drop b.toNat = c0 :: l0) (hc0 : ¬ c0 ∈ cs NMs) (H : Wd x b i) (hD : (cs x).drop i.toNat = c :: l) (hc : ¬ ¬ c ∈ cs NNs) : c = 32 ∨ c = 59 := by
  obtain ⟨c1, h, h2, _⟩ := oth_head A hD0 hc0
  have := (head_end h H hD (Decidable.of_not_not hc)).2
  omega
theorem ask_back (A : Ask x b pre n T fine) {c0 : Nat} {l0 : List Nat} (hD0 : (cs x).drop b.toNat = c0 :: l0) (hc0 : ¬ c0 ∈ cs NNs) (H : Wd x b i) (hD : (cs x).drop i.toNat = c :: l) (hc : ¬ ¬ c ∈ cs NNs) : ∃ c' l', (cs x).drop (i - 1).toNat = c' :: l' ∧ decide (c' = 46) = false := by
  obtain ⟨c', l', h1, h2⟩ := head_last (ask_head A) (ask_word1 A hD0 hc0)
  have := (ask_wend A H hD hc).1
  rw [cs_len] at h1
  rw [← this] at h1
  exact ⟨c', l', h1, decide_eq_false h2⟩
theorem oth_back (A : Oth x b oth) {c0 : Nat} {l0 : List Nat} (hD0 : (cs x).drop b.toNat = c0 :: l0) (hc0 : ¬ c0 ∈ cs NMs) (H : Wd x b i) (hD : (cs x).drop i.toNat = c :: l) (hc : ¬ ¬ c ∈ cs NNs) : ∃ c' l', (cs x).drop (i - 1).toNat = c' :: l' ∧ decide (c' = 46) = false := by
  obtain ⟨c1, h, h2, _⟩ := oth_head A hD0 hc0
  obtain ⟨c', l', h3, h4⟩ := head_last h (othWord_ok oth).2.2
  have := (head_end h H hD (Decidable.of_not_not hc)).1
  rw [← this] at h3
  exact ⟨c', l', h3, decide_eq_false h4⟩
/-- the prefix is what was asked -/
theorem ask_slice (A : Ask x b pre n T fine) (H : Wd x b i) (hD : (cs x).drop i.toNat = c :: l) (hc : ¬ ¬ c ∈ cs NNs) : Txt.slice x (some b) (some i) = pre := by
  have h1 := (ask_wend A H hD hc).1
  have h2 := H.il
  have h3 := H.bi
  refine cs_inj (head_word (ask_head A) (by rw [h1, cs_len]) (by omega))
theorem ask_no_ (A : Ask x b pre n T fine) : (pre == PySem.Str.ofString "_") = false := by
  obtain ⟨_, _, _, _, _, h⟩ := pre_ok pre (ask_pre A)
  exact beq_eq_false_iff_ne.mpr h
/-- from behind the colon on -/
theorem ask_n1 (A : Ask x b pre n T fine) (H : Wd x b i) (hD : (cs x).drop i.toNat = c :: l) (hc : ¬ ¬ c ∈ cs NNs) : AskN x (i + 1) n T fine := by
  have h1 := (ask_wend A H hD hc).1
  obtain ⟨is, tail, N, h2, h3, h4⟩ := A.ex
  refine ⟨⟨is, tail, ?_, N.name, by omega, h3, h4⟩, A.small⟩
  have := N.txt
  rw [← h1] at this
  exact this
theorem ask_n0 (A : Ask x b pre n T fine) (hD : (cs x).drop b.toNat = c :: l) (hc : ¬ ¬ c ∈ cs NNs) : AskN x (b + 1) n T fine := by
  have h1 := (ask_word0 A hD hc).1
  obtain ⟨is, tail, N, h2, h3, h4⟩ := A.ex
  have h0 : (pre.length : Int) = 0 := by rw [h1]; decide
  refine ⟨⟨is, tail, ?_, N.name, by omega, h3, h4⟩, A.small⟩
  have := N.txt
  rw [h0, Int.add_zero] at this
  exact this
end
end Mine

-- Rw5
set_option autoImplicit false
set_option maxRecDepth 100000
namespace Mine
open PySem PySem.W PySem.Calls PyProof.Rows PySem.Builtin.Re

theorem noBool_mat : typeLookup (.type "re.Match") "__bool__" = pure none := by rw [typeLookup_type, builtinLookup_eq_fast]; kernel_rfl
theorem noLen_mat : typeLookup (.type "re.Match") "__len__" = pure none := by rw [typeLookup_type, builtinLookup_eq_fast]; kernel_rfl
section
variable {prog : Program} {w : World} {A : Around} {E : Value → Shared → Prop} {s : Shared} {h₀ : Heap} {L : Addr} {m : PySem.Str → Option Value} {news : List (Addr × Obj)}
theorem truthy_mat {b a : Addr} {pat str : Value} {pos lim : Nat} {li : Int} {Q : Bool → Shared → Prop} (N : News h₀ L s.heap news) (hb : (b, matObj pat str pos lim li a) ∈ news) (h : Q true s) : wpAny (model prog w) A (truthy (.ref b)) Q E s := by
  have hT : s.TypeIs (.ref b) "re.Match" := ⟨_, (N _ hb).1, rfl⟩
  unfold truthy
  first
    | refine wpAny_bind (wpAny_callSpecial?_none (name := PySem.Str.ofString "__bool__") hT noBool_mat ?_)
    | refine wpAny_bind (wpAny_pure (wpAny_bind (wpAny_callSpecial?_none (name := PySem.Str.ofString "__bool__") hT noBool_mat ?_)))
  first
    | refine wpAny_bind (wpAny_specialOf (name := PySem.Str.ofString "__len__") hT noLen_mat ?_)
    | refine wpAny_bind (wpAny_pure (wpAny_bind (wpAny_specialOf (name := PySem.Str.ofString "__len__") hT noLen_mat ?_)))
  exact wpAny_pure h
theorem truthy_one {c : Nat} {t : Tok} {Q : Bool → Shared → Prop} (h : ∀ tk, Q true { s with toks := tk }) : wpAny (model prog w) A (truthy (.str (one c) t)) Q E s := P.truthy_str (by rw [one_len]; decide) (h _)
theorem iadd_len {x y : PySem.Str} {t u : Tok} {Q : Value → Shared → Prop} (hsz : x.length + y.length ≤ 16777216) (h : ∀ z t' tk, z = x ++ y → z.length = x.length + y.length → Q (.str z t') { s with toks := tk }) : wpAny (model prog w) A (inplaceOp .Add (.str x t) (.str y u)) Q E s :=
  PyProof.Rows.iadd_str (fun t' tk => h _ t' tk rfl (PySem.Str.length_append x y)) (by rw [PySem.sizeLine_eq]; exact hsz)
theorem iadd_slice {x y : PySem.Str} {i : Int} {k : Nat} {t u : Tok} {Q : Value → Shared → Prop} (hx : x.length ≤ 1000) (hy : y.length ≤ 1000) (h : ∀ z t' tk, z = x ++ Txt.slice y (some i) (some ((i.toNat + k : Nat) : Int)) → z.length ≤ 2000 → Q (.str z t') { s with toks := tk }) : wpAny (model prog w) A (inplaceOp .Add (.str x t) (.str (Txt.slice y (some i) (some ((i.toNat + k : Nat) : Int))) u)) Q E s := by
  have hl := Txt.slice_le y (some i) (some ((i.toNat + k : Nat) : Int))
  exact iadd_len (by omega) (fun z t' tk hz hzl => h z t' tk hz (by omega))
theorem eq_pair {a b : Addr} {oa ob : Obj} {i j : Int} {x y : PySem.Str} {t1 t2 t3 t4 : Tok} {n1 n2 : Nat} {Q : Value → Shared → Prop} (N : News h₀ L s.heap news) (ha : (a, oa) ∈ news) (hb : (b, ob) ∈ news)
    (a1 : oa.cls = .type "tuple") (a2 : oa.data = .seq #[.int i t1, .str x t2] n1) (b1 : ob.cls = .type "tuple") (b2 : ob.data = .seq #[.int j t3, .str y t4] n2) (hij : i = j) (hxy : x = y) (hu : A.units < cLine) (h : Q (.bool true) s) : wpAny (model prog w) A (compareOp .Eq (.ref a) (.ref b)) Q E s := by
  subst hij hxy
  refine SeqAt.eq_tupleAt (e := fun _ => true) (items := #[.int i t1, .str x t2]) (items2 := #[.int i t3, .str x t4]) ⟨oa, (N _ ha).1, a1, n1, a2⟩ ⟨ob, (N _ hb).1, b1, n2, b2⟩ hu (fun j h1 h2 => ?_) ?_
  · match j, h1 with
    | 0, _ => have := SeqAt.EqAt.int_int (A := A.in1) (s := s) i t1 i t3; rw [beq_self_eq_true] at this; exact this
    | 1, _ => have := SeqAt.EqAt.str_str (A := A.in1) (s := s) x t2 x t4; rw [beq_self_eq_true] at this; exact this
    | n + 2, h1 => exact absurd h1 (by show ¬ (n + 2 < 2); omega)
  · have : ((List.range (min (#[Value.int i t1, Value.str x t2] : Array Value).size (#[Value.int i t3, Value.str x t4] : Array Value).size)).all (fun _ => true) && (#[Value.int i t1, Value.str x t2] : Array Value).size == (#[Value.int i t3, Value.str x t4] : Array Value).size) = true := rfl
    rw [this]; exact h
end
end Mine

-- L12
set_option autoImplicit false
set_option maxRecDepth 100000
namespace Mine
open PySem PySem.W PySem.Calls PyProof.Rows
section
variable {x ln z n : PySem.Str} {p j st T : Int} {ls fine : Bool} {l : List Nat} {c : Nat}
theorem slice_to (h0 : 0 ≤ st) (h1 : st ≤ j) (h2 : j ≤ (x.length : Int)) : cs (Txt.slice x (some st) (some j)) = ((cs x).drop st.toNat).take (j.toNat - st.toNat) := by
  rw [cs_slice h0 (by omega) h1, show (j - st).toNat = j.toNat - st.toNat by omega]
theorem slice_to_len (h0 : 0 ≤ st) (h1 : st ≤ j) (h2 : j ≤ (x.length : Int)) : (Txt.slice x (some st) (some j)).length ≤ j.toNat - st.toNat := by
  rw [← cs_len, slice_to h0 h1 h2]; exact List.length_take_le _ _
theorem qn_pos (H : Qn x p j ls st ln) : 1 ≤ p ∧ p ≤ st ∧ st ≤ j ∧ j ≤ (x.length : Int) ∧ (ln.length : Int) ≤ st ∧ x.length ≤ 1000 := ⟨H.p0, H.ps, H.sj, H.jl, H.ll, H.xl⟩
/-- the turn's ways -/
theorem qn_back1 (H : Qn x p j ls st ln) (hl : ls = false) (hD : (cs x).drop j.toNat = c :: l) (hc : c = 92) (hz : z = ln ++ Txt.slice x (some st) (some j)) : Qn x p (j + 1) true (j + 1) z := by
  subst hl
  obtain ⟨a1, a2, a3, a4, _, _⟩ := qn_pos H
  refine qn_back H hD hc (by rw [hz, cs_app, slice_to (by omega) a3 a4]) ?_
  rw [hz, PySem.Str.length_append]
  have := slice_to_len (x := x) (st := st) (j := j) (by omega) a3 a4
  omega
theorem qn_back0 (H : Qn x p j ls st ln) (hl : ls = false) (hD : (cs x).drop j.toNat = c :: l) (hc : c = 92) (hs : ¬ st < j) : Qn x p (j + 1) true (j + 1) ln := by
  subst hl
  obtain ⟨a1, a2, a3, a4, _, _⟩ := qn_pos H
  have e : j.toNat - st.toNat = 0 := by omega
  exact qn_back H hD hc (by rw [e, List.take_zero, List.append_nil]) (by omega)
theorem qn_esc1 (H : Qn x p j ls st ln) (hl : ls = true) (hD : (cs x).drop j.toNat = c :: l) (hc : ¬ ¬ c ∈ cs ESs) : Qn x p (j + 1) false st ln := by
  subst hl; exact qn_esc H hD (Decidable.of_not_not hc)
theorem qn_plain1 (H : Qn x p j ls st ln) (hl : ls = false) (hD : (cs x).drop j.toNat = c :: l) (hq : ¬ c ∈ cs NQs) (hc : ¬ c = 37) : Qn x p (j + 1) false st ln := by
  subst hl; exact qn_plain H hD hq (.inl hc)
theorem qn_pct1 (H : Qn x p j ls st ln) (hl : ls = false) (hD : (cs x).drop j.toNat = c :: l) (hq : ¬ c ∈ cs NQs) {a b : Nat} {l1 l2 : List Nat} (h1 : (cs x).drop (j + 1).toNat = a :: l1) (h2 : (cs x).drop (j + 2).toNat = b :: l2) (ha : ¬ ¬ a ∈ cs HXs) (hb : ¬ ¬ b ∈ cs HXs) : Qn x p (j + 1) false st ln := by
  subst hl; exact qn_plain H hD hq (.inr ⟨a, b, l1, l2, h1, h2, Decidable.of_not_not ha, Decidable.of_not_not hb⟩)
/-- two signs behind a per cent sign -/
theorem askn_two (A : AskN x p n T fine) (H : Qn x p j ls st ln) (hl : ls = false) (hD : (cs x).drop j.toNat = c :: l) (hc : c = 37) : ∃ a b l1 l2, (cs x).drop (j + 1).toNat = a :: l1 ∧ (cs x).drop (j + 2).toNat = b :: l2 ∧ (fine = true → a ∈ cs HXs ∧ b ∈ cs HXs) := by
  subst hl
  obtain ⟨is, tail, M, _, _, hF, _⟩ := A.ex
  obtain ⟨a, b, l1, l2, h1, h2, h3⟩ := qn_two H M hD hc
  exact ⟨a, b, l1, l2, h1, h2, fun h => h3 (hF h)⟩
/-- a known sign behind a backslash -/
theorem askn_esc (A : AskN x p n T true) (H : Qn x p j ls st ln) (hl : ls = true) (hD : (cs x).drop j.toNat = c :: l) : decide (¬ c ∈ cs ESs) = false := by
  subst hl
  obtain ⟨is, tail, M, _, _, hF, _⟩ := A.ex
  obtain ⟨c', l', h1, h2⟩ := qn_fine_esc H M (hF rfl)
  rw [hD] at h1
  injection h1 with h1 _
  rw [h1]
  exact decide_eq_false (fun h => h h2)
/-- no backslash stands last -/
theorem askn_noend (A : AskN x p n T true) (H : Qn x p j ls st ln) (hl : ls = true) (hj : ¬ j < (x.length : Int)) : False := by
  subst hl
  obtain ⟨is, tail, M, _, _, hF, _⟩ := A.ex
  obtain ⟨c', l', h1, h2⟩ := qn_fine_esc H M (hF rfl)
  have := drop_lt h1
  rw [cs_len] at this
  have := qn_pos H
  omega
/-- the end -/
structure EndN (x : PySem.Str) (p j st : Int) (ln n : PySem.Str) (T : Int) : Prop where
  place : j = T
  name : cs ln ++ ((cs x).drop st.toNat).take (j.toNat - st.toNat) = cs n
  last : ∃ c l, (cs x).drop (j - 1).toNat = c :: l ∧ decide (c = 46) = false
  pos : 1 ≤ p ∧ p ≤ st ∧ st ≤ j ∧ j ≤ (x.length : Int) ∧ (ln.length : Int) ≤ st ∧ x.length ≤ 1000
theorem endn_of {is : List Nit} {tail : List Nat} (H : Qn x p j false st ln) (M : Txt4 x p is tail) (E : End4 x p j st ln is) (hn : cs n = nI is) (hT : T = p + ((wI is).length : Int)) : EndN x p j st ln n T := by
  have hp := qn_pos H
  have h1 := E.place
  obtain ⟨l, hl⟩ := E.last
  exact ⟨by omega, by rw [hn]; exact E.name, ⟨_, l, hl, decide_eq_false M.last⟩, hp⟩
theorem askn_end (A : AskN x p n T true) (H : Qn x p j ls st ln) (hl : ls = false) (hj : ¬ j < (x.length : Int)) : EndN x p j st ln n T := by
  subst hl
  obtain ⟨is, tail, M, hn, hT, hF, _⟩ := A.ex
  exact endn_of H M (qn_fine_end H M (hF rfl) hj) hn hT
theorem askn_stop (A : AskN x p n T true) (H : Qn x p j ls st ln) (hl : ls = false) (hD : (cs x).drop j.toNat = c :: l) (hq : ¬ ¬ c ∈ cs NQs) (hc : ¬ c = 92) : EndN x p j st ln n T := by
  subst hl
  obtain ⟨is, tail, M, hn, hT, hF, _⟩ := A.ex
  exact endn_of H M (qn_fine_stop H M hD (Decidable.of_not_not hq) hc).1 hn hT
theorem askn_bad_end (A : AskN x p n T false) (H : Qn x p j ls st ln) (hl : ls = false) (hj : ¬ j < (x.length : Int)) : False := by
  subst hl
  obtain ⟨is, tail, M, hn, hT, _, hB⟩ := A.ex
  exact qn_bad_end H M (hB rfl) hj
theorem askn_bad_stop (A : AskN x p n T false) (H : Qn x p j ls st ln) (hl : ls = false) (hD : (cs x).drop j.toNat = c :: l) (hq : ¬ ¬ c ∈ cs NQs) (hc : ¬ c = 92) : False := by
  subst hl
  obtain ⟨is, tail, M, hn, hT, _, hB⟩ := A.ex
  exact fine_bad4 (qn_fine_stop H M hD (Decidable.of_not_not hq) hc).2 (hB rfl)
theorem endn_name1 (E : EndN x p j st ln n T) (hz : z = ln ++ Txt.slice x (some st) (some j)) : z = n := by
  obtain ⟨a1, a2, a3, a4, _, _⟩ := E.pos
  exact cs_inj (by rw [hz, cs_app, slice_to (by omega) a3 a4, E.name])
theorem endn_name0 (E : EndN x p j st ln n T) (hs : ¬ st < j) : ln = n := by
  obtain ⟨a1, a2, a3, a4, _, _⟩ := E.pos
  have := E.name
  rw [show j.toNat - st.toNat = 0 by omega, List.take_zero, List.append_nil] at this
  exact cs_inj this
theorem oth_lt {i : Int} {oth : PySem.Str} (A : Oth x i oth) (he : reMatch tlEof ((cs x).drop i.toNat) = none) : i < (x.length : Int) := by
  obtain ⟨B, S, hB⟩ := A.skip
  have hR : (cs x).drop i.toNat = cs oth := skip_at S (by omega)
  cases hd : (cs x).drop i.toNat with
  | nil => rw [hd] at he; cases he
  | cons c l => have := drop_lt hd; rw [cs_len] at this; omega
theorem drop_ltI {i : Int} (h0 : 0 ≤ i) (h : (cs x).drop i.toNat = c :: l) : i < (x.length : Int) := by
  have := drop_lt h; rw [cs_len] at this; omega
theorem oth_pos {i : Int} {oth : PySem.Str} (A : Oth x i oth) : 0 ≤ i := by obtain ⟨B, S, hB⟩ := A.skip; omega
end
section
variable {prog : Program} {w : World} {A : Around} {E : Value → Shared → Prop} {s : Shared} {t u : Tok} {Q : Value → Shared → Prop}
theorem iadd_to {x ln : PySem.Str} {st j : Int} (hl : ln.length ≤ 1000) (hx : x.length ≤ 1000) (h : ∀ z t' tk, z = ln ++ Txt.slice x (some st) (some j) → Q (.str z t') { s with toks := tk }) : wpAny (model prog w) A (inplaceOp .Add (.str ln t) (.str (Txt.slice x (some st) (some j)) u)) Q E s := by
  have hl := Txt.slice_le x (some st) (some j)
  exact iadd_len (by omega) (fun z t' tk hz _ => h z t' tk hz)
theorem eq_oneS_is {c k : Nat} {y : PySem.Str} {b : Bool} (hy : y = one k) (hb : decide (c = k) = b) (h : Q (.bool b) s) : wpAny (model prog w) A (compareOp .Eq (.str (one c) t) (.str y u)) Q E s := eq_oneS hy (by rw [hb]; exact h)
end
end Mine
namespace Mine
theorem nb1 {c : Nat} (h : (false || decide (one c = PySem.Str.ofString " ") || decide (one c = PySem.Str.ofString "\t")) = false) : isBlank c = false := by rw [← in_blank]; exact h
theorem nb2 {c : Nat} (h : ¬ (false || decide (one c = PySem.Str.ofString " ") || decide (one c = PySem.Str.ofString "\t")) = true) : isBlank c = false := nb1 (Bool.eq_false_iff.mpr h)
theorem nm1 {c : Nat} (h : (false || decide (one c = PySem.Str.ofString "#") || decide (one c = PySem.Str.ofString "\r") || decide (one c = PySem.Str.ofString "\n")) = false) : isMark c = false := by rw [← in_mark]; exact h
theorem nm2 {c : Nat} (h : ¬ (false || decide (one c = PySem.Str.ofString "#") || decide (one c = PySem.Str.ofString "\r") || decide (one c = PySem.Str.ofString "\n")) = true) : isMark c = false := nm1 (Bool.eq_false_iff.mpr h)
theorem nm3 {c : Nat} (h : (!(false || decide (one c = PySem.Str.ofString "#") || decide (one c = PySem.Str.ofString "\r") || decide (one c = PySem.Str.ofString "\n"))) = true) : isMark c = false := nm1 (by rw [Bool.not_eq_true'] at h; exact h)
theorem nm4 {c : Nat} (h : ¬ (!(false || decide (one c = PySem.Str.ofString "#") || decide (one c = PySem.Str.ofString "\r") || decide (one c = PySem.Str.ofString "\n"))) = false) : isMark c = false := nm3 (Bool.not_eq_false _ ▸ h)
end Mine
namespace Mine
theorem hexl_is {a b : Nat} (h : a ∈ cs HXs ∧ b ∈ cs HXs) : decide (¬ a ∈ cs HXs) = false := decide_eq_false (fun q => q h.1)
theorem hexr_is {a b : Nat} (h : a ∈ cs HXs ∧ b ∈ cs HXs) : decide (¬ b ∈ cs HXs) = false := decide_eq_false (fun q => q h.2)
end Mine
namespace Mine
open PySem PySem.W PySem.Calls PyProof.Rows PySem.Spec
theorem told_is {i T : Int} {p1 p2 n1 n2 : PySem.Str} (h1 : i = T) (h2 : p1 = p2) (h3 : n1 = n2) : (!PyData.eqv (.tuple [.int i, .list [.tuple [.str p1, .str n1]]]) (.tuple [.int T, .list [.tuple [.str p2, .str n2]]])) = false := by
  subst h1 h2 h3
  simp [PyData.eqv, PyData.eqvAll]
end Mine
namespace Mine
open PySem PySem.W PySem.Calls PyProof.Rows
section
variable {x pre n oth : PySem.Str} {b i T : Int} {fine : Bool} {c : Nat} {l : List Nat}
theorem ask_58w (H : Wd x b i) (A : Ask x b pre n T fine) (hD : (cs x).drop i.toNat = c :: l) (hc : ¬ ¬ c ∈ cs NNs) : decide (c = 58) = true := decide_eq_true (ask_wend A H hD hc).2
theorem ask_58n (A : Ask x b pre n T fine) (hD : (cs x).drop b.toNat = c :: l) (hc : ¬ ¬ c ∈ cs NNs) : decide (c = 58) = true := decide_eq_true (ask_word0 A hD hc).2
theorem oth_58 {c0 : Nat} {l0 : List Nat} (H : Wd x b i) (A : Oth x b oth) (hD0 : (cs x).drop b.toNat = c0 :: l0) (hc0 : ¬ c0 ∈ cs NMs) (hD : (cs x).drop i.toNat = c :: l) (hc : ¬ ¬ c ∈ cs NNs) : decide (c = 58) = false := by
  have := oth_wend A hD0 hc0 H hD hc
  exact decide_eq_false (by omega)
theorem ask_slice_no (H : Wd x b i) (A : Ask x b pre n T fine) (hD : (cs x).drop i.toNat = c :: l) (hc : ¬ ¬ c ∈ cs NNs) : (Txt.slice x (some b) (some i) == PySem.Str.ofString "_") = false := by
  rw [ask_slice A H hD hc]; exact ask_no_ A
end
end Mine
namespace Mine
open PySem PySem.W PySem.Calls PyProof.Rows
section
variable {x ln n : PySem.Str} {p j st T : Int} {ls : Bool} {l : List Nat} {c : Nat}
theorem qn_esc2 (A : AskN x p n T true) (H : Qn x p j ls st ln) (hl : ls = true) (hD : (cs x).drop j.toNat = c :: l) : Qn x p (j + 1) false st ln :=
  qn_esc1 H hl hD (fun h => by have := askn_esc A H hl hD; rw [decide_eq_true h] at this; cases this)
theorem qn_pct2 (H : Qn x p j ls st ln) (hl : ls = false) (hD : (cs x).drop j.toNat = c :: l) (hq : ¬ c ∈ cs NQs) {a b : Nat} {l1 l2 : List Nat} (h1 : (cs x).drop (j + 1).toNat = a :: l1) (h2 : (cs x).drop (j + 2).toNat = b :: l2) (hab : a ∈ cs HXs ∧ b ∈ cs HXs) : Qn x p (j + 1) false st ln :=
  qn_pct1 H hl hD hq h1 h2 (fun h => h hab.1) (fun h => h hab.2)
end
end Mine
namespace Mine
open PySem PySem.W PySem.Calls PyProof.Rows PySem.Spec
theorem askn_enc {x n : PySem.Str} {p T : Int} {fine : Bool} (A : AskN x p n T fine) : ∀ c ∈ cs x, PySem.Str.isSurrogate c = false := fun c hc => small256 (A.small c hc)
theorem nI_sub (is : List Nit) : ∀ c ∈ nI is, c ∈ wI is := by
  induction is with
  | nil => intro c h; exact h
  | cons i r ih =>
    intro c h
    rw [nI_cons] at h
    rw [wI_cons]
    rcases List.mem_append.mp h with h | h
    · refine List.mem_append_left _ ?_
      cases i with
      | plain d => exact h
      | esc d => exact List.mem_cons_of_mem _ h
    · exact List.mem_append_right _ (ih c h)
theorem strOk_small {x : PySem.Str} (h : ∀ c ∈ cs x, c < 256) : PyData.strOk x = true := by
  unfold PyData.strOk
  rw [← Array.all_toList, List.all_eq_true]
  intro c hc
  have := h c hc
  exact decide_eq_true (by omega)
theorem askn_strOk {x n : PySem.Str} {p T : Int} {fine : Bool} (A : AskN x p n T fine) : PyData.strOk n = true := by
  obtain ⟨is, tail, M, hn, _⟩ := A.ex
  refine strOk_small (fun c hc => A.small c ?_)
  obtain ⟨pre, hT, _⟩ := M.text
  rw [hT]
  rw [hn] at hc
  exact List.mem_append_right _ (List.mem_append_left _ (nI_sub is c hc))
theorem ask_strOk {x pre n : PySem.Str} {b T : Int} {fine : Bool} (A : Ask x b pre n T fine) : PyData.strOk pre = true := strOk_small (tail_small.2.1 pre (ask_pre A))
theorem told_ne {prog : Program} {w : World} {A : Around} {E : Value → Shared → Prop} {s : Shared} {Q : Value → Shared → Prop} {a b : Value} {as bs : List Addr} {i T : Int} {p1 p2 n1 n2 : PySem.Str} (h1 : i = T) (h2 : p1 = p2) (h3 : n1 = n2) (s2 : PyData.strOk p2 = true) (s3 : PyData.strOk n2 = true)
    (ra : Reads s.heap a (.tuple [.int i, .list [.tuple [.str p1, .str n1]]]) as) (rb : Reads s.heap b (.tuple [.int T, .list [.tuple [.str p2, .str n2]]]) bs) (hu : A.units + 64 < cLine) (h : Q (.bool false) s) : wpAny (model prog w) A (compareOp .NotEq a b) Q E s := by
  subst h1 h2 h3
  have sh : SeqAt.shaped (.tuple [.int i, .list [.tuple [.str p1, .str n1]]]) = true := by
    simp [SeqAt.shaped, PyData.canLay0, PyData.canLayAll0, PyData.depth, PyData.depthAll, s2, s3]
  refine ne_dataH ra rb sh sh hu ?_
  rw [told_is rfl rfl rfl]; exact h
end Mine
namespace Mine
theorem nq92_is {c : Nat} (h : c = 92) : decide (¬ c ∈ cs NQs) = false := decide_eq_false (fun q => q (by rw [h]; exact nq92))
end Mine

-- L13
set_option autoImplicit false
set_option maxRecDepth 100000
namespace Mine
open PySem PySem.W PySem.Calls PyProof.Rows
/-- the ways through skipSpace meet, where a name lies ahead -/
structure InSkip : Prop where
def SkipEnd (b : Int) (g : Heap) (L : Addr) (m : PySem.Str → Option Value) (NW : Value → Value → List (Addr × Obj)) (s : Shared) (r : Value) (s' : Shared) : Prop :=
  ∃ t li so t1 t2 h' tk, r = .int b t ∧ s' = { s with heap := h', toks := tk } ∧ Fr g L h' m ∧ News g L h' (NW (.int li t1) (.int so t2))
section
variable {prog : Program} {w : World} {A : Around} {E : Value → Shared → Prop} {s : Shared} {g : Heap} {L : Addr} {m : PySem.Str → Option Value}
variable {e0 e1 e2 e3 e4 e5 e6 e7 : Addr × Obj} {d : Addr} {a0 a1 a2 : DictEntry} {hh3 hh4 : Int} {kk3 kk4 v3 v4 : Value} {ar : List DictEntry} {n : Nat} {rest news' : List (Addr × Obj)}
theorem skip_meet {x pre nm : PySem.Str} {b T : Int} {fine : Bool} (_ : Ask x b pre nm T fine) {tr : Sem Value} {Q : Value → Shared → Prop} (F : Fr g L s.heap m)
    (N : News g L s.heap (e0 :: e1 :: e2 :: e3 :: e4 :: e5 :: e6 :: e7 :: (d, dictOf (a0 :: a1 :: a2 :: ⟨hh3, kk3, v3⟩ :: ⟨hh4, kk4, v4⟩ :: ar) n) :: rest))
    (h : InSkip → wpAny (model prog w) A tr (SkipEnd b g L m (fun x y => e0 :: e1 :: e2 :: e3 :: e4 :: e5 :: e6 :: e7 :: (d, dictOf (a0 :: a1 :: a2 :: ⟨hh3, kk3, x⟩ :: ⟨hh4, kk4, y⟩ :: ar) n) :: rest) s) E s)
    (k : ∀ t li so t1 t2 h' tk, Fr g L h' m → News g L h' (e0 :: e1 :: e2 :: e3 :: e4 :: e5 :: e6 :: e7 :: (d, dictOf (a0 :: a1 :: a2 :: ⟨hh3, kk3, .int li t1⟩ :: ⟨hh4, kk4, .int so t2⟩ :: ar) n) :: rest) → Q (.int b t) { s with heap := h', toks := tk }) : wpAny (model prog w) A tr Q E s :=
  wpAny_mono (h ⟨⟩) (fun r s' hr => by obtain ⟨t, li, so, t1, t2, h', tk, rfl, rfl, F', N'⟩ := hr; exact k t li so t1 t2 h' tk F' N') (fun _ _ x => x)
theorem skipEnd {b i li so : Int} {NW : Value → Value → List (Addr × Obj)} {h' : Heap} {tk : Nat} {t t1 t2 : Tok} (F : Fr g L h' m) (N : News g L h' news') (hs : ∀ p ∈ NW (.int li t1) (.int so t2), p ∈ news') (e : b = i) :
    SkipEnd b g L m NW s (.int i t) { s with heap := h', toks := tk } := ⟨t, li, so, t1, t2, h', tk, by rw [e], rfl, F, fun p hp => N p (hs p hp)⟩
end
/-- the two ways to the prefix meet -/
structure InPre : Prop where
structure PreFacts (x : PySem.Str) (n : PySem.Str) (T iv : Int) (fine : Bool) : Prop where
  name : AskN x (iv + 1) n T fine
  colon : ∃ c l, (cs x).drop iv.toNat = c :: l ∧ decide (c = 58) = true
  pos : 0 ≤ iv ∧ iv < (x.length : Int)
def PreEnd (x n pre : PySem.Str) (T : Int) (fine : Bool) (g : Heap) (L : Addr) (m : PySem.Str → Option Value) (news : List (Addr × Obj)) (s : Shared) (r : Flow) (s' : Shared) : Prop :=
  r = .next ∧ ∃ iv t1 t2 m' h' tk, s' = { s with heap := h', toks := tk } ∧ Fr g L h' m' ∧ News g L h' news ∧ m' (PySem.Str.ofString "i") = some (.int iv t1) ∧ m' (PySem.Str.ofString "ln") = some (.str pre t2) ∧
    (∀ y, ¬ y = PySem.Str.ofString "i" → ¬ y = PySem.Str.ofString "ln" → ¬ y = PySem.Str.ofString "j" → m' y = m y) ∧ PreFacts x n T iv fine
section
variable {prog : Program} {w : World} {A : Around} {E : Value → Shared → Prop} {s : Shared} {g : Heap} {L : Addr} {m m' : PySem.Str → Option Value} {news news' : List (Addr × Obj)}
variable {x n pre ln : PySem.Str} {T iv b : Int} {fine : Bool} {c : Nat} {l : List Nat}
theorem pre_meet {st : Stmt} {env : Env} {Q : Flow → Shared → Prop} (_ : Ask x b pre n T fine) (F : Fr g L s.heap m) (N : News g L s.heap news)
    (h : InPre → wpAny (model prog w) A (exec st env) (PreEnd x n pre T fine g L m news s) E s)
    (k : ∀ iv t1 t2 h' tk (U : PySem.Str → Option Value), PreFacts x n T iv fine → Fr g L h' (fun y => if y = PySem.Str.ofString "i" then some (.int iv t1) else if y = PySem.Str.ofString "ln" then some (.str pre t2) else if y = PySem.Str.ofString "j" then U y else m y) → News g L h' news → Q .next { s with heap := h', toks := tk }) : wpAny (model prog w) A (exec st env) Q E s :=
  wpAny_mono (h ⟨⟩) (fun r s' hr => by
    obtain ⟨rfl, iv, t1, t2, m', h', tk, rfl, F', N', hi, hl, hy, P⟩ := hr
    refine k iv t1 t2 h' tk m' P ?_ N'
    have e : (fun y => if y = PySem.Str.ofString "i" then some (Value.int iv t1) else if y = PySem.Str.ofString "ln" then some (Value.str pre t2) else if y = PySem.Str.ofString "j" then m' y else m y) = m' := by
      funext y
      by_cases h1 : y = PySem.Str.ofString "i"
      · rw [if_pos h1, h1, hi]
      · rw [if_neg h1]
        by_cases h2 : y = PySem.Str.ofString "ln"
        · rw [if_pos h2, h2, hl]
        · rw [if_neg h2]
          by_cases h3 : y = PySem.Str.ofString "j"
          · rw [if_pos h3]
          · rw [if_neg h3, hy y h1 h2 h3]
    rw [e]; exact F') (fun _ _ x => x)
theorem preEnd {h' : Heap} {tk : Nat} {t1 t2 : Tok} (P : PreFacts x n T iv fine) (e : ln = pre) (F : Fr g L h' m') (N : News g L h' news') (hs : ∀ p ∈ news, p ∈ news') (hi : m' (PySem.Str.ofString "i") = some (.int iv t1)) (hl : m' (PySem.Str.ofString "ln") = some (.str ln t2))
    (hy : ∀ y, ¬ y = PySem.Str.ofString "i" → ¬ y = PySem.Str.ofString "ln" → ¬ y = PySem.Str.ofString "j" → m' y = m y) : PreEnd x n pre T fine g L m news s .next { s with heap := h', toks := tk } :=
  ⟨rfl, iv, t1, t2, m', h', tk, rfl, F, fun p hp => N p (hs p hp), hi, by rw [← e]; exact hl, hy, P⟩
theorem pre_w (H : Wd x b iv) (A : Ask x b pre n T fine) (hD : (cs x).drop iv.toNat = c :: l) (hc : ¬ ¬ c ∈ cs NNs) : PreFacts x n T iv fine := by
  have h0 := H.b0; have h1 := H.bi
  exact ⟨ask_n1 A H hD hc, ⟨c, l, hD, ask_58w H A hD hc⟩, by omega, drop_ltI (by omega) hD⟩
theorem pre_n (A : Ask x b pre n T fine) (hD : (cs x).drop b.toNat = c :: l) (hc : ¬ ¬ c ∈ cs NNs) : PreFacts x n T b fine :=
  ⟨ask_n0 A hD hc, ⟨c, l, hD, ask_58n A hD hc⟩, (ask_lt A).1, (ask_lt A).2⟩
theorem pre_e (A : Ask x b pre n T fine) (hD : (cs x).drop b.toNat = c :: l) (hc : ¬ ¬ c ∈ cs NNs) : PySem.Str.ofString "" = pre := (ask_word0 A hD hc).1.symm
theorem ask_le (A : Ask x b pre n T fine) (hx : x.length ≤ 1000) : 0 ≤ b ∧ b < (x.length : Int) ∧ x.length ≤ 1000 := ⟨(ask_lt A).1, (ask_lt A).2, hx⟩
end
end Mine

-- X1
set_option autoImplicit false
set_option maxRecDepth 100000
namespace Mine
open PySem PySem.W PySem.Calls PyProof.Rows

abbrev seBm : List Value := [.type "SyntaxError", .type "Exception", .type "BaseException", .type "object"]
theorem se_mro : mroOf (.type "SyntaxError") = pure seBm := by rw [mroOf_type]; kernel_rfl
theorem se_init : typeLookup (.type "SyntaxError") "__init__" = pure (some (.builtin "SyntaxError.__init__")) := by rw [typeLookup_type, builtinLookup_eq_fast]; kernel_rfl
theorem store_SyntaxError : StoreFacts "SyntaxError" seBm "object.__setattr__" "object" where
  mro := by kernel_rfl
  slot := .of (owner := "object") (n := "__setattr__") (by rw [typeLookup_type, builtinLookup_eq_fast]; kernel_rfl) (by decide +kernel) (by decide +kernel) (by decide +kernel)
    (by first | exact .inl (by decide +kernel) | exact .inr (by decide +kernel)) (by rw [isSubtype_type]; kernel_rfl)
  entry := PySem.F.entry_object_sa
  kind := by decide +kernel
  split := by decide +kernel
  hasOwner := by decide +kernel
  args := fun a b c => by unfold argsOk; kernel_rfl
  passes := fun self => by kernel_rfl

section
variable {M : PySem.Model} {A : Around} {E : Value → Shared → Prop} {h : Heap} {g : Array GenState} {d : Drawn} {t : Nat} {os : OsState}
variable {nm q : PySem.Str} {C N : Addr} {bs : List Value} {hdct : Bool} {sn : List PySem.Str} {sub : List Value} {ab : Bool} {col : Option Bool} {dd : Option Addr} {k0 k1 k2 k3 k5 : Option Value}
theorem se_check_new {rest : List Value} {Q : Unit → Shared → Prop} (hC : h.get? C = some (excClassObj nm q C N bs seBm hdct sn sub ab col dd k0 k1 k2 k3 k5 "Exception.__new__")) (hq : Q () ⟨h, g, d, t, os⟩) :
    wpAny M A (checkBuiltinCall "Exception.__new__" ⟨.ref C :: rest, []⟩) Q E ⟨h, g, d, t, os⟩ := by
  have hcont : (Value.ref C :: seBm).contains (.type "Exception") = true := by rw [List.contains_cons]; simp
  have F := PySem.F.excBase_Exception
  have hstar := F.noStar
  simp only [checkBuiltinCall, F.newKind, F.newSplit, F.newRow]
  repeat (first | refine wpAny_loadPart_at hC ?_ | (refine wpAny_isSubtype_exc hC ?_; rw [hcont]) | refine wpAny_staticBase_exc hC ?_ | refine wpAny_madeBy_exc hC ?_ | simp only [bne_self_eq_false, Bool.false_eq_true, if_false] | wp_step)
  exact hq
end
section
variable {prog : Program} {w : World} {A : Around} {R : Result → Shared → Prop} {h : Heap} {g : Array GenState} {d : Drawn} {t : Nat} {os : OsState}
variable {nm q : PySem.Str} {C N : Addr} {bs : List Value} {hdct : Bool} {sn : List PySem.Str} {sub : List Value} {ab : Bool} {col : Option Bool} {dd : Option Addr} {k0 k1 k2 k3 k5 : Option Value}
/-- the instance as it is born -/
abbrev bornExc (C t : Addr) : Obj := { cls := .ref C, data := .fields #[.ref t, .none, .none, .none, .bool false, .none] }
theorem se_new {rest : List Value} (hC : h.get? C = some (excClassObj nm q C N bs seBm hdct sn sub ab col dd k0 k1 k2 k3 k5 "Exception.__new__"))
    (hq : R (.ok (.ret (.ref (h.objs.size + 1)))) ⟨(h.push { cls := .type "tuple", data := .seq rest.toArray }).push (bornExc C h.objs.size), g, d, t, os⟩) (hrest : rest.length ≤ sizeLine) :
    codeAny (model prog w) A (.builtin "Exception.__new__" ⟨.ref C :: rest, []⟩) R ⟨h, g, d, t, os⟩ := by
  have F := PySem.F.excBase_Exception
  have hends := F.ends
  have hcB : (Value.ref C :: seBm).contains (.type "Exception") = true := by rw [List.contains_cons]; simp
  have hcA : (Value.ref C :: seBm).contains (.type "AttributeError") = false := by rw [List.contains_cons]; simp
  have hcN : (Value.ref C :: seBm).contains (.type "NameError") = false := by rw [List.contains_cons]; simp
  refine codeAny_builtinAt F.entry ?_
  unfold Builtin.«BaseException.__new__»
  refine PySem.wpAt_bind ?_
  show PySem.wpAt _ _ _ (stack >>= _) _ _ _
  refine PySem.wpAt_bind (PySem.wpAt_stack fun p below => PySem.wpAt_of_wpAny ?_)
  wp_walk
  refine PySem.wpAt_of_wpAny ?_
  rw [F.owner]
  repeat (first | with_reducible refine wpAny_madeHere_exc F.canon hC ?_ | with_reducible refine wpAny_loadPart_at hC ?_ | (with_reducible refine wpAny_isSubtype_exc hC ?_; first | rw [hcB] | rw [hcA] | rw [hcN]) | wp_step)
  show R _ _
  rw [Heap.size_push]
  exact hq
end
section
variable {prog : Program} {w : World} {A : Around} {E : Value → Shared → Prop} {h : Heap} {g : Array GenState} {d : Drawn} {t : Nat} {os : OsState}
variable {nm q : PySem.Str} {C N : Addr} {bs : List Value} {hdct : Bool} {sn : List PySem.Str} {sub : List Value} {ab : Bool} {col : Option Bool} {dd : Option Addr} {k0 k1 k2 k3 k5 : Option Value}
theorem se_type_call {mN : PySem.Str → Option Value} {rest : List Value} {f : Addr} {fo : Obj} {Q : Fin → Shared → Prop}
    (hC : h.get? C = some (excClassObj nm q C N bs seBm hdct sn sub ab col dd k0 k1 k2 k3 k5 "Exception.__new__")) (hn : h.Ns N mN) (hi : mN "__init__" = some (.ref f)) (hf : h.get? f = some fo) (hfc : fo.cls = .type "function") (hrest : rest.length ≤ sizeLine)
    (hq : wpAny (model prog w) A (call (.ref f) (.ref (h.objs.size + 1) :: rest)) (fun r s' => r = .none ∧ Q (.done (.ret (.ref (h.objs.size + 1)))) s') E
      ⟨(h.push { cls := .type "tuple", data := .seq rest.toArray }).push (bornExc C h.objs.size), g, d, t, os⟩) :
    wpAny (model prog w) A (Builtin.«type.__call__» ⟨.ref C :: rest, []⟩) Q E ⟨h, g, d, t, os⟩ := by
  have F := PySem.F.excBase_Exception
  repeat (first | with_reducible refine wpAny_loadPart_at hC ?_ | with_reducible refine wpAny_madeBy_exc hC ?_ | wp_step)
  refine codeAny_call_builtin_code (Code.quiet_builtin _ F.quiet) (se_check_new hC ?_)
  refine se_new hC ?_ hrest
  show wpAny _ _ _ _ _ _
  have hC₁ := Heap.get?_push_of_some (bornExc C h.objs.size) (Heap.get?_push_of_some { cls := .type "tuple", data := .seq rest.toArray } hC)
  have hf₁ := Heap.get?_push_of_some (bornExc C h.objs.size) (Heap.get?_push_of_some { cls := .type "tuple", data := .seq rest.toArray } hf)
  have hn₁ : ((h.push { cls := .type "tuple", data := .seq rest.toArray }).push (bornExc C h.objs.size)).Ns N mN :=
    let ⟨o, es, ep, e, r⟩ := hn; ⟨o, es, ep, Heap.get?_push_of_some _ (Heap.get?_push_of_some _ e), r⟩
  have hget : ((h.push { cls := .type "tuple", data := .seq rest.toArray }).push (bornExc C h.objs.size)).get? (h.objs.size + 1) = some (bornExc C h.objs.size) := by heap_get
  have hcC : (Value.ref C :: seBm).contains (.ref C) = true := by simp
  unfold isInstance
  repeat (first | with_reducible refine wpAny_loadPart_at hget ?_ | (with_reducible refine wpAny_isSubtype_exc hC₁ ?_; rw [hcC]) | wp_step)
  show wpAny _ _ (typeLookup (.ref C) _) _ _ _
  refine wpAny_typeLookup_exc hC₁ hn₁ se_mro se_init ?_
  rw [hi]
  dsimp only
  refine wpAny_holding (wpAny_bind ?_)
  unfold bindSpecial
  refine wpAny_bind (wpAny_typeOf (T := "function") ⟨fo, hf₁, hfc⟩ ?_)
  rw [if_pos (by rfl)]
  refine wpAny_pure (wpAny_bind (wpAny_mono hq (fun r s' hr => ?_) fun _ _ y => y))
  obtain ⟨rfl, hr⟩ := hr
  refine wpAny_pure ?_
  dsimp only
  rw [if_neg (by decide)]
  exact wpAny_pure hr
theorem se_call {mN : PySem.Str → Option Value} {rest : List Value} {f : Addr} {fo : Obj} {Q : Value → Shared → Prop}
    (hC : h.get? C = some (excClassObj nm q C N bs seBm hdct sn sub ab col dd k0 k1 k2 k3 k5 "Exception.__new__")) (hn : h.Ns N mN) (hi : mN "__init__" = some (.ref f)) (hf : h.get? f = some fo) (hfc : fo.cls = .type "function") (hrest : rest.length ≤ sizeLine)
    (hq : wpAny (model prog w) (A.under (.builtin "type.__call__" ⟨.ref C :: rest, []⟩)) (call (.ref f) (.ref (h.objs.size + 1) :: rest)) (fun r s' => r = .none ∧ Q (.ref (h.objs.size + 1)) s') E
      ⟨(h.push { cls := .type "tuple", data := .seq rest.toArray }).push (bornExc C h.objs.size), g, d, t, os⟩) :
    wpAny (model prog w) A (call (.ref C) rest) Q E ⟨h, g, d, t, os⟩ := by
  have f1 := tc_lookup
  have f2 := tc_bind (.ref C)
  have hT : (⟨h, g, d, t, os⟩ : Shared).TypeIs (.ref C) "type" := ⟨_, hC, rfl⟩
  refine wpAny_call (codeAny_of_tree ?_)
  show wpAny _ _ (callAny (.ref C) _) _ _ _
  repeat (any_goals (first | assumption | with_reducible refine wpAny_loadPart_at hC ?_ | wp_step))
  refine ⟨rfl, ?_⟩
  exact codeAny_call_builtin_at (Code.quiet_builtin _ (by decide +kernel)) entry_typeCall (wpAny_check_type_call_sub hC (se_type_call hC hn hi hf hfc hrest hq))
end
end Mine

-- X2
set_option autoImplicit false
set_option maxRecDepth 100000
namespace Mine
open PySem PySem.W PySem.Calls PyProof.Rows

/-- an own exception made by its class and its own __init__: whatever its dict holds -/
structure MadeI (h h' : Heap) (e : Addr) (cls : Value) (args : List Value) : Prop where
  keeps : ∀ b o, h.get? b = some o → h'.get? b = some o
  new : h.get? e = none
  there : ∃ t o, h'.get? e = some o ∧ o.cls = cls ∧ o.data = .fields #[.ref t, .none, .none, .none, .bool false, .none] ∧ h.get? t = none ∧ h'.get? t = some { cls := .type "tuple", data := .seq args.toArray }

section
variable {M : PySem.Model} {A : Around} {E : Value → Shared → Prop} {s : Shared}
theorem leaves_madeI {base h : Heap} {env : Env} {outer : List Env} {L e : Addr} {cls : Value} {args : List Value} {Q : Unit → Shared → Prop}
    (hfr : A.frames = some (env :: outer)) (hf : env.frame = some L) (hkb : base.StaysIn h) (hl : h.FunFrames base (env :: outer)) (hx : MadeI h s.heap e cls args)
    (hQ : ∀ h' t, Heap.FlyingW base outer e cls (.ref t) h' → h'.TupAt t args → base.get? t = none → s.heap.UpToSlots h' → Q () { s with heap := h' }) : wpAny M A (leaving env (.ref e)) Q E s := by
  obtain ⟨t, o, he, hc, hd, htn, ht⟩ := hx.there
  have fresh : ∀ b, h.get? b = none → base.get? b = none := fun b hb => by
    cases hq : base.get? b with
    | none => rfl
    | some o' => have := hkb b o' hq; rw [hb] at this; cases this
  refine wpAny_leaving_firstW (a0 := .ref t) hfr (hl.of_keeps fun b o hb _ => ⟨o, hx.keeps b o hb, rfl⟩) hf he (fun b o hb => hx.keeps b o (hkb b o hb)) (fresh e hx.new) hd rfl rfl fun h' hL => ?_
  obtain ⟨k1, ⟨_, _, k2⟩, k3, k4⟩ := hL
  rw [hc] at k3
  exact hQ h' t ⟨k1, fresh e hx.new, k2, k3⟩ (Heap.TupAt.of_slots ⟨_, _, ht, rfl, rfl⟩ k4) (fresh t htn) k4
end
section
variable {M : PySem.Model} {A : Around} {E : Value → Shared → Prop} {s' : Shared} {base g g₂ h : Heap} {outer : List Env} {L a e t : Addr} {m : PySem.Str → Option Value} {name : PySem.Str} {scope : Scope} {cd : Value} {Q : Unit → Shared → Prop} {news : List (Addr × Obj)}
theorem leave_I {cls : Value} {vs : List Value} (K : Below A base outer g) (hx : MadeI h s'.heap e cls vs) (F : Fr g L h m) (N : News g L h news)
    (hQ : ∀ h' t, RaisedS base g outer e cls t vs news h' → RaisedK base outer e cls t vs news h' → g.UpToSlots h' → Q () { s' with heap := h' }) (hk : scope.kind = .function := by rfl) :
    wpAny M (A.deeper (envOf name scope L a cd)) (leaving (envOf name scope L a cd) (.ref e)) Q E s' := by
  have K' := K.push (name := name) (a := a) (cd := cd) F hk
  have hin : ∀ env ∈ (envOf name scope L a cd :: outer), ∀ b, env.frame = some b → b ∈ (envOf name scope L a cd :: outer).filterMap (·.frame) := fun env he b hb => List.mem_filterMap.mpr ⟨env, he, hb⟩
  have st : base.StaysIn (hideAll h ((envOf name scope L a cd :: outer).filterMap (·.frame))) := fun b o q => hideAll_get _ (K'.stays b o q) fun hm => by
    rw [(K'.frames.mem hm).1] at q; cases q
  have sg : ∀ b o, g.get? b = some o → b ∉ outer.filterMap (·.frame) → (hideAll h ((envOf name scope L a cd :: outer).filterMap (·.frame))).get? b = some o := fun b o q nm => hideAll_get _ (F.keep b o q) fun hm => by
    rcases kts_mem hm with z | z
    · rw [z, kts_self F] at q
      cases q
    · exact nm z
  have hl : ∀ q ∈ news, (hideAll h ((envOf name scope L a cd :: outer).filterMap (·.frame))).get? q.1 = some q.2 ∧ g.get? q.1 = none ∧ base.get? q.1 = none := fun q hq => by
    refine ⟨hideAll_get _ (N q hq).1 fun hm => ?_, (N q hq).2.2, fresh_of_stays K.stays (N q hq).2.2⟩
    obtain ⟨env, he, hf⟩ := List.mem_filterMap.mp hm
    rcases List.mem_cons.mp he with rfl | he
    · exact (N q hq).2.1 (Option.some.inj hf).symm
    · obtain ⟨o, ho, _⟩ := (K.frames.mem (List.mem_filterMap.mpr ⟨env, he, hf⟩)).2
      rw [(N q hq).2.2] at ho; cases ho
  exact leaves_madeI K'.stack rfl (fun b o q => of_hideAll _ q) (funFrames_hide K'.frames hin) hx fun h' t x1 x2 x3 x4 =>
    have R : RaisedS base g outer e cls t vs news h' := ⟨⟨_, st, sg, hl, x1, x3⟩, x2⟩
    hQ h' t R R.toK (((Heap.UpToSlots.of_keeps F.keep).trans (Heap.UpToSlots.of_keeps hx.keeps)).trans x4)
end

section
variable {M : PySem.Model} {A : Around} {E : Value → Shared → Prop} {env : Env}
variable {nm q : PySem.Str} {C N : Addr} {bs bm : List Value} {hdct : Bool} {sn : List PySem.Str} {sub : List Value} {ab : Bool} {col : Option Bool} {dd : Option Addr} {k0 k1 k2 k3 k5 : Option Value} {newId : String}
/-- raise upon an instance that has been made, whatever its dict holds -/
theorem raise_made {s : Shared} {x : Sem Value} {Q : Flow → Shared → Prop} (hbase : bm.contains (.type "BaseException") = true) (hh : A.handled = none)
    (h : wpAny M A x (fun v s₁ => ∃ e o t, v = .ref e ∧ s₁.heap.get? C = some (excClassObj nm q C N bs bm hdct sn sub ab col dd k0 k1 k2 k3 k5 newId) ∧
      s₁.heap.get? e = some o ∧ o.cls = .ref C ∧ o.data = .fields #[.ref t, .none, .none, .none, .bool false, .none] ∧ E (.ref e) s₁) E s) :
    wpAny M A (raiseStmt env (some x) none) Q E s := by
  have hcB : (Value.ref C :: bm).contains (.type "BaseException") = true := by rw [List.contains_cons, hbase, Bool.or_true]
  unfold raiseStmt
  refine wpAny_bind (wpAny_mono h (fun v s₁ h₁ => ?_) fun _ _ x => x)
  obtain ⟨e, ⟨oc, od, odt, osl⟩, t, rfl, hC, he, hc, hd, hE⟩ := h₁
  dsimp only at hc hd
  subst hc hd
  obtain ⟨hp, g, d, tk, os⟩ := s₁
  repeat (first | with_reducible refine wpAny_loadPart_at he ?_ | with_reducible refine wpAny_loadPart_at hC ?_ | (with_reducible refine wpAny_isSubtype_exc hC ?_; rw [hcB]) | wp_step)
  exact wpAny_raiseNew_none hh hE
end
end Mine

-- X3
set_option autoImplicit false
set_option maxRecDepth 100000
namespace Mine
open PySem PySem.W PySem.Calls PyProof.Rows PySem.Builtin.ObjectAttr

abbrev withDict (C t dx : Addr) : Obj := { cls := .ref C, dict := some dx, data := .fields #[.ref t, .none, .none, .none, .bool false, .none] }
section
variable {prog : Program} {w : World} {A : Around} {E : Value → Shared → Prop} {h : Heap} {g : Array GenState} {d : Drawn} {t : Nat} {os : OsState}
variable {nm q : PySem.Str} {C N x T : Addr} {bs : List Value} {sn : List PySem.Str} {sub : List Value} {ab : Bool} {col : Option Bool} {dd : Option Addr} {k0 k1 k2 k3 k5 : Option Value}
  {mN : PySem.Str → Option Value} {name : PySem.Str} {v : Value}
structure HidX (p : Prop) : Prop where
  out : p
/-- the first store upon a new-born instance: its dict is made -/
theorem first_entry {tk : Tok} {Q : Fin → Shared → Prop}
    (hC : h.get? C = some (excClassObj nm q C N bs seBm true sn sub ab col dd k0 k1 k2 k3 k5 "Exception.__new__")) (hn : h.Ns N mN) (hna : mN name = none)
    (hB : typeLookup (.type "SyntaxError") name = pure none) (hx : h.get? x = some (bornExc C T))
    (hq : ∀ h' tk', h'.get? x = some (withDict C T h.objs.size) → h'.Ns1 h.objs.size (fun y => if y = name then some v else none) → (∀ b o, b ≠ x → h.get? b = some o → h'.get? b = some o) → Q (.done (.ret .none)) ⟨h', g, d, tk', os⟩) :
    wpAny (model prog w) A (Builtin.«object.__setattr__» ⟨[.ref x, .str name tk, v], []⟩) Q E ⟨h, g, d, t, os⟩ := by
  have SF := store_SyntaxError
  have hpass := SF.passes (.ref x)
  obtain ⟨o, ho, hc, hdn, hdt, hsl⟩ : ∃ o, h.get? x = some o ∧ o.cls = .ref C ∧ o.dict = none ∧ o.data = .fields #[.ref T, .none, .none, .none, .bool false, .none] ∧ o.slots = #[] := ⟨_, hx, rfl, rfl, rfl, rfl⟩
  clear hx
  unfold Builtin.«object.__setattr__»
  repeat (first | rw [refuse_eq] | (rw [refuseLoop_ref, hpass]) | (with_reducible refine wpAny_loadPart_at ho ?_; rw [hc]) | with_reducible refine wpAny_mroOf_exc hC ?_ | (with_reducible refine wpAny_typeLookup_exc hC hn SF.mro hB ?_; rw [hna]) | wp_step)
  rw [hdn, if_neg (by simp [typeHasDict])]
  split
  · rename_i hcd
    cases hcd
  split
  · rename_i c hcd
    rw [hdt] at hcd
    cases hcd
  · have hx₁ : (h.push { cls := .type "dict", data := .dict #[] }).get? x = some o := Heap.get?_push_of_some _ ho
    have hxs : x ≠ h.objs.size := Nat.ne_of_lt (Heap.lt_size ho)
    refine wpAny_bind (wpAny_alloc' ?_)
    refine wpAny_bind (wpAny_update' hx₁ ?_)
    refine wpAny_pure ?_
    have hgd : ((h.push { cls := .type "dict", data := .dict #[] }).update x fun o => { cls := o.cls, dict := some h.objs.size, data := o.data, slots := o.slots }).get? h.objs.size
        = some { cls := .type "dict", data := .dict #[] } :=
      (Heap.get?_update_ne _ _ _ _ hxs.symm).trans (Heap.get?_push_at rfl rfl)
    have hnd : ((h.push { cls := .type "dict", data := .dict #[] }).update x fun o => { cls := o.cls, dict := some h.objs.size, data := o.data, slots := o.slots }).Ns h.objs.size (fun _ => none) :=
      ⟨_, #[], _, hgd, rfl, fun e he => absurd he (by simp), fun _ => rfl⟩
    show wpAny _ _ (storeInDict h.objs.size (.str name tk) name v) _ _ _
    unfold storeInDict newKeyGuard
    refine wpAny_bind (wpAny_pure (wpAny_bind (wpAny_nsSet1 (Heap.Ns1.of_empty hnd) fun h' hn' hs => ?_)))
    obtain ⟨oD, esD, epD, hoD, hdD, hcD⟩ := hn'.count (Within.cons name v Within.nil)
    refine wpAny_bind (wpAny_lookBehind hoD (by rw [hdD]; exact pastItsLine_dict (Nat.le_trans hcD (by rw [List.length_cons, List.length_nil, sizeLine_eq]; omega))) ?_)
    wp_walk
    refine hq h' _ ?_ hn' (fun b ob hbx hb => ?_)
    · refine (hs.2 x hxs).trans ((Heap.get?_update_self _ hx₁ ?_).trans ?_)
      · have hfr := (Heap.get?_some_iff.mp ho).2
        obtain ⟨oc, od, odt, osl⟩ := o
        cases odt <;> first | rfl | exact hfr
      · obtain ⟨oc, od, odt, osl⟩ := o
        dsimp only at hc hdt hsl
        subst hc hdt hsl
        rfl
    · exact (hs.2 b (Nat.ne_of_lt (Heap.lt_size hb))).trans ((Heap.get?_update_ne _ _ _ _ hbx).trans (Heap.get?_push_of_some _ hb))
theorem first_call {sa owner : String} {tk : Tok} {R : Result → Shared → Prop} (SF : StoreFacts "SyntaxError" seBm sa owner)
    (hC : h.get? C = some (excClassObj nm q C N bs seBm true sn sub ab col dd k0 k1 k2 k3 k5 "Exception.__new__")) (hn : h.Ns N mN) (hna : mN name = none)
    (hB : typeLookup (.type "SyntaxError") name = pure none) (hx : h.get? x = some (bornExc C T))
    (hq : ∀ h' tk', h'.get? x = some (withDict C T h.objs.size) → h'.Ns1 h.objs.size (fun y => if y = name then some v else none) → (∀ b o, b ≠ x → h.get? b = some o → h'.get? b = some o) → R (.ok (.ret .none)) ⟨h', g, d, tk', os⟩) :
    codeAny (model prog w) A (.call (.builtin sa) ⟨[.ref x, .str name tk, v], []⟩) R ⟨h, g, d, t, os⟩ :=
  codeAny_call_builtin SF.slot.plain SF.entry (wpAny_check_sa SF hC hx rfl (first_entry hC hn hna hB hx hq))
theorem first_store {sa owner : String} {Q : Unit → Shared → Prop} (SF : StoreFacts "SyntaxError" seBm sa owner)
    (hC : h.get? C = some (excClassObj nm q C N bs seBm true sn sub ab col dd k0 k1 k2 k3 k5 "Exception.__new__")) (hn : h.Ns N mN) (hns : mN "__setattr__" = none) (hna : mN name = none)
    (hB : typeLookup (.type "SyntaxError") name = pure none) (hx : h.get? x = some (bornExc C T))
    (hq : ∀ h' tk', h'.get? x = some (withDict C T h.objs.size) → h'.Ns1 h.objs.size (fun y => if y = name then some v else none) → (∀ b o, b ≠ x → h.get? b = some o → h'.get? b = some o) → Q () ⟨h', g, d, tk', os⟩) :
    wpAny (model prog w) A (setAttr (.ref x) name v) Q E ⟨h, g, d, t, os⟩ := by
  have f3 := SF.slot.bind (.ref x)
  obtain ⟨o, ho, hc⟩ : ∃ o, h.get? x = some o ∧ o.cls = .ref C := ⟨_, hx, rfl⟩
  have hxx := HidX.mk hx
  have hqq := HidX.mk hq
  clear hx hq
  unfold setAttr callSpecial? specialOf
  repeat (any_goals (first | assumption | (with_reducible refine wpAny_loadPart_at ho ?_; rw [hc]) | (with_reducible refine wpAny_typeLookup_exc hC hn SF.mro SF.slot.lookup ?_; rw [hns]) | wp_step))
  refine first_call SF hC hn hna hB hxx.out (fun h' tk' a1 a2 a3 => ?_)
  have b1 := HidX.mk a1
  have b2 := HidX.mk a2
  have b3 := HidX.mk a3
  clear a1 a2 a3
  repeat (any_goals (first | assumption | wp_step))
  exact hqq.out h' tk' b1.out b2.out b3.out
end
end Mine

-- X4
set_option autoImplicit false
set_option maxRecDepth 100000
namespace Mine
open PySem PySem.W PySem.Calls PyProof.Rows

theorem fr_but {h₀ h h' : Heap} {L : Addr} {m : PySem.Str → Option Value} (bad : Addr → Prop) (F : Fr h₀ L h m) (hk : ∀ b o, ¬ bad b → h.get? b = some o → h'.get? b = some o) (hL : ¬ bad L) (h0 : ∀ b, bad b → h₀.get? b = none) : Fr h₀ L h' m := by
  obtain ⟨oL, a1, a2, hoL, a3⟩ := F.ns
  refine ⟨⟨oL, a1, a2, hk _ _ hL hoL, a3⟩, fun b x e => hk b x (fun q => ?_) (F.keep b x e), F.above⟩
  rw [h0 b q] at e
  cases e
theorem news_but {h₀ h h' : Heap} {L : Addr} {news : List (Addr × Obj)} (bad : Addr → Prop) (N : News h₀ L h news) (hk : ∀ b o, ¬ bad b → h.get? b = some o → h'.get? b = some o) (hn : ∀ p ∈ news, ¬ bad p.1) : News h₀ L h' news :=
  fun p hp => ⟨hk _ _ (hn p hp) (N p hp).1, (N p hp).2⟩

/-- an instance of the own exception class whose dict has been made: beside the ledger -/
def ExcH (h₀ : Heap) (L : Addr) (news : List (Addr × Obj)) (C T e : Addr) (k : Nat) (h : Heap) : Prop :=
  e ≠ L ∧ h₀.get? e = none ∧ (∀ p ∈ news, p.1 ≠ e) ∧ ∃ dx mA ns, h.get? e = some (withDict C T dx) ∧ dx ≠ e ∧ dx ≠ L ∧ h₀.get? dx = none ∧ (∀ p ∈ news, p.1 ≠ dx) ∧ h.Ns1 dx mA ∧ Within mA ns ∧ ns.length ≤ k

section
variable {prog : Program} {w : World} {A : Around} {E : Value → Shared → Prop} {s : Shared} {h₀ : Heap} {L : Addr} {m : PySem.Str → Option Value} {news : List (Addr × Obj)}
variable {nm q : PySem.Str} {C N e T : Addr} {bs : List Value} {sn : List PySem.Str} {sub : List Value} {ab : Bool} {col : Option Bool} {dd : Option Addr} {k0 k1 k2 k3 k5 : Option Value}
  {mN : PySem.Str → Option Value} {name : PySem.Str} {v : Value}
theorem exc_store1 {Q : Unit → Shared → Prop} (F : Fr h₀ L s.heap m) (Nn : News h₀ L s.heap ((e, bornExc C T) :: news)) (hne : ∀ p ∈ news, p.1 ≠ e)
    (hC : s.heap.get? C = some (excClassObj nm q C N bs seBm true sn sub ab col dd k0 k1 k2 k3 k5 "Exception.__new__")) (hn : s.heap.Ns N mN) (hns : mN "__setattr__" = none) (hna : mN name = none)
    (hB : typeLookup (.type "SyntaxError") name = pure none)
    (hq : ∀ h' tk', Fr h₀ L h' m → News h₀ L h' news → ExcH h₀ L news C T e 1 h' → (∀ b o, b ≠ e → s.heap.get? b = some o → h'.get? b = some o) → Q () { s with heap := h', toks := tk' }) :
    wpAny (model prog w) A (setAttr (.ref e) name v) Q E s := by
  have n0 := Nn _ (.head _)
  have Nr : News h₀ L s.heap news := fun p hp => Nn p (.tail _ hp)
  obtain ⟨h, g, d, t, os⟩ := s
  refine first_store store_SyntaxError hC hn hns hna hB n0.1 (fun h' tk' a1 a2 a3 => ?_)
  have lt : ∀ b o, h.get? b = some o → b ≠ h.objs.size := fun b o hb => Nat.ne_of_lt (Heap.lt_size hb)
  have hL : L ≠ h.objs.size := Nat.ne_of_lt F.ns.lt
  have hk : ∀ b o, ¬ (b = e) → h.get? b = some o → h'.get? b = some o := a3
  refine hq h' tk' (fr_but (fun b => b = e) F hk (fun z => n0.2.1 z.symm) (fun b z => by rw [z]; exact n0.2.2)) (news_but (fun b => b = e) Nr hk hne) ⟨n0.2.1, n0.2.2, hne, h.objs.size, _, [name], a1, (lt e _ n0.1).symm, hL.symm, Heap.get?_none_of_le (Nat.le_trans F.above (Nat.le_of_lt F.ns.lt)), fun p hp => lt p.1 _ (Nr p hp).1, a2, Within.cons name v Within.nil, Nat.le_refl _⟩ a3
theorem exc_store2 {k : Nat} {Q : Unit → Shared → Prop} (F : Fr h₀ L s.heap m) (Nn : News h₀ L s.heap news) (H : ExcH h₀ L news C T e k s.heap) (hCe : e ≠ C)
    (hC : s.heap.get? C = some (excClassObj nm q C N bs seBm true sn sub ab col dd k0 k1 k2 k3 k5 "Exception.__new__")) (hn : s.heap.Ns N mN) (hns : mN "__setattr__" = none) (hna : mN name = none)
    (hB : typeLookup (.type "SyntaxError") name = pure none) (hk9 : k ≤ 100)
    (hq : ∀ h' tk', Fr h₀ L h' m → News h₀ L h' news → ExcH h₀ L news C T e (k + 1) h' → Q () { s with heap := h', toks := tk' }) :
    wpAny (model prog w) A (setAttr (.ref e) name v) Q E s := by
  obtain ⟨e1, e2, e3, dx, mA, ns, b1, b2, b3, b4, b5, b6, b7, b8⟩ := H
  obtain ⟨h, g, d, t, os⟩ := s
  refine store_attr store_SyntaxError hC hn hns hna hB hCe ⟨_, b1, rfl, fun c => by simp, .inr ⟨dx, rfl, b2, b6⟩⟩ (fun h' tk' I' keep same => ?_) b7 (by rw [PySem.sizeLine_eq]; omega)
  have hk : ∀ b o, ¬ (b = e ∨ b = dx) → h.get? b = some o → h'.get? b = some o := fun b o hb ho => keep b o (fun z => hb (.inl z)) (fun o₀ d₀ h1 h2 => by
    rw [b1] at h1; cases h1; cases h2; exact fun z => hb (.inr z)) ho
  obtain ⟨o₁, s1, s2, s3, s4, s5⟩ := same _ b1
  have ho1 : h'.get? e = some (withDict C T dx) := by
    have := s5 dx rfl
    obtain ⟨oc, od, odt, osl⟩ := o₁
    dsimp only at s2 s3 s4 this
    subst s2 s3 s4 this
    exact s1
  obtain ⟨o₂, i1, _, _, i4⟩ := I'
  rw [ho1] at i1
  cases i1
  rcases i4 with ⟨hd, _⟩ | ⟨d₂, hd, _, hns2⟩
  · cases hd
  · cases hd
    refine hq h' tk' (fr_but (fun b => b = e ∨ b = dx) F hk (fun z => z.elim (fun z => e1 z.symm) (fun z => b3 z.symm)) (fun b z => z.elim (fun z => by rw [z]; exact e2) (fun z => by rw [z]; exact b4))) (news_but (fun b => b = e ∨ b = dx) Nn hk (fun p hp z => z.elim (e3 p hp) (b5 p hp)))
      ⟨e1, e2, e3, dx, _, name :: ns, ho1, b2, b3, b4, b5, hns2, Within.cons name v b7, by rw [List.length_cons]; omega⟩
end
end Mine

-- X5
set_option autoImplicit false
set_option maxRecDepth 100000
namespace Mine
open PySem PySem.W PySem.Calls PyProof.Rows

def excNames : List PySem.Str := [PySem.Str.ofString "_str", PySem.Str.ofString "_i", PySem.Str.ofString "_why", PySem.Str.ofString "lines", PySem.Str.ofString "_uri"]
/-- the written part shows the own exception class, with its own __init__ -/
def excI (K : Frag) (C f : Addr) : Bool := match K.lookup C with
  | some ⟨.type "type", _, .cls cd, sl⟩ => (match cd.mro, sl.toList with
    | .ref C' :: bm, [_, _, _, _, some (.builtin n), _] => C' == C && n == "Exception.__new__" && !cd.hasDel && cd.hasDict && bm == seBm && nsOkIn K cd.ns && nsIn K cd.ns "__init__" == some (some (.ref f)) && nsIn K cd.ns "__setattr__" == some none && excNames.all fun x => nsIn K cd.ns x == some none
    | _, _ => false)
  | _ => false
theorem ns_some_of {K : Frag} {h : Heap} {N : Addr} {mg : PySem.Str → Option Value} {n : PySem.Str} {v : Value} (X : K.In h) (G : h.Ns N mg) (e : nsIn K N n = some (some v)) : mg n = some v := by
  obtain ⟨o, es, ep, ho, hd, _, hf⟩ := G
  unfold nsIn at e
  split at e
  · rename_i c d es' n' sl q
    have := X _ _ q
    rw [ho] at this
    cases this
    cases hd
    split at e
    · rename_i en he
      cases e
      rw [← hf]
      unfold nsFind findBy
      rw [← Array.find?_toList, he]
      rfl
    · split at e <;> cases e
  · cases e
structure ClsI (h : Heap) (C f : Addr) : Prop where
  ex : ∃ nm q N bs sn sub ab col dd k0 k1 k2 k3 k5 mN, h.get? C = some (excClassObj nm q C N bs seBm true sn sub ab col dd k0 k1 k2 k3 k5 "Exception.__new__") ∧ h.Ns N mN ∧ mN "__init__" = some (.ref f) ∧ mN "__setattr__" = none ∧ ∀ x ∈ excNames, mN x = none
theorem cls_of {K : Frag} {h : Heap} {C f : Addr} (X : K.In h) (q : excI K C f = true) : ClsI h C f := by
  unfold excI at q
  split at q
  · rename_i dd cd sl ho
    split at q
    · rename_i C' bm k0 k1 k2 k3 n k5 hm hs
      simp only [Bool.and_eq_true, beq_iff_eq, Bool.not_eq_true', List.all_eq_true] at q
      obtain ⟨⟨⟨⟨⟨⟨⟨⟨rfl, rfl⟩, hdel⟩, hdc⟩, rfl⟩, hok⟩, hni⟩, hns⟩, hall⟩ := q
      obtain ⟨nm, bs, mro, ns, qn, hd, sn, sub, ab, col, del⟩ := cd
      dsimp only at hm hdel hok hni hdc hns hall
      subst hm hdel hdc
      have hsl : sl = #[k0, k1, k2, k3, some (.builtin "Exception.__new__"), k5] := by
        obtain ⟨l⟩ := sl
        simp only at hs
        rw [hs]
      subst hsl
      have G := Heap.Ns.of_isNs (isNs_of_in X hok)
      exact ⟨nm, qn, ns, bs, sn, sub, ab, col, dd, k0, k1, k2, k3, k5, _, X _ _ ho, G, ns_some_of X G hni, ns_none_of X G hns, fun x hx => ns_none_of X G (hall x hx)⟩
    · cases q
  · cases q
end Mine

-- X6
set_option autoImplicit false
set_option maxRecDepth 100000
namespace Mine
open PySem PySem.W PySem.Calls PyProof.Rows PySem.Builtin._codecs

theorem encode_tree2 (x : PySem.Str) (t u : Tok) : Builtin.«str.encode» ⟨[.str x t, .str (PySem.Str.ofString "utf-8") u], []⟩ = (do ret (← encodeRoad "str.encode" (.str x t) x (PySem.Str.ofString "utf-8") none)) := by kernel_rfl
section
variable {M : PySem.Model} {A : Around} {E : Value → Shared → Prop} {s : Shared}
theorem enc_bytes {y : List Nat} : ((y.foldl (fun acc c => acc ++ (utf8Codec.bytesOf c).toArray) (#[] : Array UInt8))).size ≤ 4 * y.length := by
  have key : ∀ (y : List Nat) (acc : Array UInt8), (y.foldl (fun acc c => acc ++ (utf8Codec.bytesOf c).toArray) acc).size ≤ acc.size + 4 * y.length := by
    intro y
    induction y with
    | nil => intro acc; simp
    | cons c y ih =>
      intro acc
      rw [List.foldl_cons]
      refine Nat.le_trans (ih _) ?_
      have : (utf8Codec.bytesOf c).length ≤ 4 := by
        show (PySem.Str.utf8Of c).length ≤ 4
        unfold PySem.Str.utf8Of
        repeat' split
        all_goals simp
      simp only [Array.size_append, List.size_toArray, List.length_cons]
      omega
  have := key y #[]
  simpa using this
theorem narrow_ok {x : PySem.Str} {self : Value} {Q : Array UInt8 → Shared → Prop} (hx : ∀ c ∈ cs x, PySem.Str.isSurrogate c = false) (hl : x.length ≤ 1000000) (h : ∀ b : Array UInt8, b.size ≤ 4 * x.length → Q b s) :
    wpAny M A (encodeNarrow "str.encode" utf8Codec none self x) Q E s := by
  unfold encodeNarrow
  simp only [Std.Legacy.Range.forIn_eq_forIn_range', Std.Legacy.Range.size]
  have hsz : x.cps.size = x.length := rfl
  have hex : x.cps.extract 0 = x.cps := by simp
  have hnone : Array.findIdx? utf8Codec.bad x.cps = none := by
    rw [Array.findIdx?_eq_none_iff]
    intro c hc
    exact hx c (Array.mem_toList_iff.mpr hc)
  rw [show (x.length - 0 + 1 - 1) / 1 = x.length by omega]
  cases hn : x.length with
  | zero =>
    rw [List.range'_zero, List.forIn_nil]
    refine wpAny_bind (wpAny_pure (wpAny_pure (h _ ?_)))
    simp
  | succ n =>
    rw [List.range'_succ, List.forIn_cons]
    have h0 : ∃ c, x.cps[0]? = some c ∧ utf8Codec.bad c = false := by
      have hlt : 0 < x.cps.size := by omega
      exact ⟨x.cps[0], by simp [hlt], hx _ (Array.mem_toList_iff.mpr (Array.getElem_mem hlt))⟩
    obtain ⟨c, hc, hb⟩ := h0
    have hb4 : (Array.foldl (fun acc y => acc ++ (utf8Codec.bytesOf y).toArray) (#[] : Array UInt8) (x.cps.extract 0 x.cps.size)).size ≤ 4 * x.length := by
      have e : x.cps.extract 0 x.cps.size = x.cps := by simp
      rw [e, ← Array.foldl_toList]
      have := enc_bytes (y := x.cps.toList)
      rw [Array.length_toList, hsz] at this
      exact this
    refine wpAny_bind (wpAny_bind ?_)
    dsimp only
    rw [if_neg (by decide), hc]
    dsimp only
    rw [hb, if_pos (by rfl), hex, hnone]
    dsimp only [Option.getD]
    refine wpAny_pure ?_
    dsimp only
    generalize hB : Array.foldl (fun acc y => acc ++ (utf8Codec.bytesOf y).toArray) (#[] : Array UInt8) (x.cps.extract 0 x.cps.size) = B at hb4
    cases n with
    | zero =>
      rw [List.range'_zero, List.forIn_nil]
      refine wpAny_pure (wpAny_pure (h _ ?_))
      exact hb4
    | succ n =>
      rw [List.range'_succ, List.forIn_cons]
      refine wpAny_bind ?_
      dsimp only
      rw [if_neg (by have : sizeLine = 16777216 := PySem.sizeLine_eq; omega)]
      have hend : x.cps[0 + x.cps.size]? = none := by simp
      rw [hend]
      dsimp only
      refine wpAny_pure ?_
      dsimp only
      refine wpAny_pure (wpAny_pure (h _ hb4))
theorem encode_call {prog : Program} {w : World} {A : Around} {E : Value → Shared → Prop} {s : Shared} {x : PySem.Str} {t u : Tok} {Q : Value → Shared → Prop} (hx : ∀ c ∈ cs x, PySem.Str.isSurrogate c = false) (hl : x.length ≤ 1000000) (h : ∀ b t' tk, Q (.bytes b t') { s with toks := tk }) :
    wpAny (model prog w) A (PySem.call (.builtin "str.encode") [.str x t, .str (PySem.Str.ofString "utf-8") u]) Q E s := by
  refine wpAny_call (codeAny_call_builtin PySem.F.slot_str_encode.plain PySem.F.entry_str_encode (PySem.F.slot_str_encode.check _ _ _ _ _ _ _ _ (typeIs_str s x t) (PySem.F.args_str_encode_2 _ _) ?_))
  rw [encode_tree2]
  refine wpAny_bind ?_
  rw [PySem.encodeRoad_utf8]
  refine wpAny_bind (narrow_ok hx hl (fun b hb => ?_))
  refine wpAny_mkBytes ?_ ?_
  · exact wpAny_pure (h _ _ _)
  · rw [PySem.sizeLine_eq]; omega
end
end Mine

-- X7
set_option autoImplicit false
set_option maxRecDepth 100000
namespace Mine
open PySem PySem.W PySem.Calls PyProof.Rows
section
variable {prog : Program} {w : World} {A : Around} {E : Value → Shared → Prop} {s : Shared} {env : Env}
variable {nm q : PySem.Str} {C N f : Addr} {fo : Obj} {bs : List Value} {sn : List PySem.Str} {sub : List Value} {ab : Bool} {col : Option Bool} {dd : Option Addr} {k0 k1 k2 k3 k5 : Option Value}
/-- raise C(args) for the own exception class: its __init__ is run upon the new-born instance -/
theorem raise_call_I {mN : PySem.Str → Option Value} {x : PySem.Str} {np cpos pos : Pos} {args : List PySem.Expr} {Q : Flow → Shared → Prop}
    (hh : A.handled = none) (hplain : (backTo cpos (starEach args env)).any (·.1) = false)
    (h : wpAny (model prog w) A (eval (.Name x np) env) (fun v s₁ => v = .ref C ∧ wpAny (model prog w) A (evalArgs (.ref C) true (backTo cpos (starEach args env)) [])
      (fun a s₂ => a.kw = [] ∧ a.pos.length ≤ sizeLine ∧ s₂.heap.get? C = some (excClassObj nm q C N bs seBm true sn sub ab col dd k0 k1 k2 k3 k5 "Exception.__new__") ∧ s₂.heap.Ns N mN ∧ mN "__init__" = some (.ref f) ∧ s₂.heap.get? f = some fo ∧ fo.cls = .type "function" ∧
        wpAny (model prog w) (A.under (.builtin "type.__call__" ⟨.ref C :: a.pos, []⟩)) (call (.ref f) (.ref (s₂.heap.objs.size + 1) :: a.pos)) (fun r s' => r = .none ∧ s'.heap.get? C = some (excClassObj nm q C N bs seBm true sn sub ab col dd k0 k1 k2 k3 k5 "Exception.__new__") ∧
          (∃ o t, s'.heap.get? (s₂.heap.objs.size + 1) = some o ∧ o.cls = .ref C ∧ o.data = .fields #[.ref t, .none, .none, .none, .bool false, .none]) ∧ E (.ref (s₂.heap.objs.size + 1)) s') E
          { s₂ with heap := (s₂.heap.push { cls := .type "tuple", data := .seq a.pos.toArray }).push (bornExc C s₂.heap.objs.size) }) E s₁) E s) :
    wpAny (model prog w) A (exec (.Raise (some (.Call (.Name x np) args [] cpos)) none pos) env) Q E s := by
  have hbase : seBm.contains (.type "BaseException") = true := by decide
  rw [arm_exec_Raise]
  first
    | refine wpAny_bind (wpAny_standAt (raise_made (C := C) (nm := nm) (q := q) (N := N) (bs := bs) (bm := seBm) (hdct := true) (sn := sn) (sub := sub) (ab := ab) (col := col) (dd := dd) (k0 := k0) (k1 := k1) (k2 := k2) (k3 := k3) (k5 := k5) (newId := "Exception.__new__") hbase hh (wpAny_bind (wpAny_mono (wpAny_Call_ofName (wpAny_mono h (fun f s₁ h₁ => ?_) fun _ _ x => x)) (fun v s₃ h₃ => wpAny_bind (wpAny_standAt (wpAny_pure h₃))) fun _ _ x => x))))
    | (simp only [evalOpt, Option.map]; refine wpAny_bind (wpAny_standAt (raise_made (C := C) (nm := nm) (q := q) (N := N) (bs := bs) (bm := seBm) (hdct := true) (sn := sn) (sub := sub) (ab := ab) (col := col) (dd := dd) (k0 := k0) (k1 := k1) (k2 := k2) (k3 := k3) (k5 := k5) (newId := "Exception.__new__") hbase hh (wpAny_bind (wpAny_mono (wpAny_Call_ofName (wpAny_mono h (fun f s₁ h₁ => ?_) fun _ _ x => x)) (fun v s₃ h₃ => wpAny_bind (wpAny_standAt (wpAny_pure h₃))) fun _ _ x => x)))))
  obtain ⟨rfl, h₁⟩ := h₁
  unfold callWith
  refine wpAny_bind (wpAny_holding (wpAny_mono h₁ (fun a s₂ h₂ => wpAny_bind (wpAny_standAt ?_)) fun _ _ x => x))
  obtain ⟨apos, akw⟩ := a
  obtain ⟨hkw, hlen, hC, hn, hi, hf, hfc, h₂⟩ := h₂
  obtain rfl : akw = [] := hkw
  obtain ⟨hp, g, d, tk, os⟩ := s₂
  simp only [hplain]
  refine wpAny_bind (wpAny_keeperOf_exc hC ?_)
  refine wpAny_bind (se_call hC hn hi hf hfc hlen (wpAny_mono h₂ (fun r s' hr => ?_) fun _ _ y => y))
  obtain ⟨rfl, hC', ⟨o, t, ho, hc, hd⟩, hE⟩ := hr
  refine ⟨rfl, wpAny_bind (wpAny_holding (wpAny_point (wpAny_pure ?_)))⟩
  exact ⟨_, o, t, rfl, hC', ho, hc, hd, hE⟩
end
end Mine

-- X8
set_option autoImplicit false
set_option maxRecDepth 100000
namespace Mine
open PySem PySem.W PySem.Calls PyProof.Rows

/-- what is wanted when __init__ is through: the raise goes on -/
def InitEnd (h₀ : Heap) (L : Addr) (m : PySem.Str → Option Value) (news : List (Addr × Obj)) (C T e : Addr) (vs : List Value) (cls : Obj) (E : Value → Shared → Prop) (r : Value) (s' : Shared) : Prop :=
  r = .none ∧ s'.heap.get? C = some cls ∧ (∃ o t, s'.heap.get? e = some o ∧ o.cls = .ref C ∧ o.data = .fields #[.ref t, .none, .none, .none, .bool false, .none]) ∧ E (.ref e) s'
abbrev tupObj (vs : List Value) : Obj := { cls := .type "tuple", data := .seq vs.toArray }
section
variable {E : Value → Shared → Prop} {s : Shared} {h₀ g : Heap} {L L' : Addr} {m : PySem.Str → Option Value} {news : List (Addr × Obj)} {C T e : Addr} {vs : List Value} {cls : Obj} {k : Nat}
theorem init_end (F : Fr h₀ L s.heap m) (N : News h₀ L s.heap ((T, tupObj vs) :: news)) (FG : Fr h₀ L g m) (H : ExcH g L' ((T, tupObj vs) :: news) C T e k s.heap) (hn : ∀ p ∈ news, p.1 ≠ T) (hC : s.heap.get? C = some cls)
    (h : ∀ hh, MadeI hh s.heap e (.ref C) vs → Fr h₀ L hh m → News h₀ L hh news → E (.ref e) s) : InitEnd h₀ L m news C T e vs cls E .none s := by
  obtain ⟨e1, e2, e3, dx, mA, ns, b1, b2, b3, b4, b5, b6, b7, b8⟩ := H
  have nT := N _ (.head _)
  have hTe : T ≠ e := e3 _ (.head _)
  have heL : e ≠ L := fun z => by
    obtain ⟨oL, _, _, hoL, _⟩ := FG.ns
    rw [z, hoL] at e2; cases e2
  have he0 : h₀.get? e = none := by
    cases q : h₀.get? e with
    | none => rfl
    | some o => have := FG.keep _ _ q; rw [e2] at this; cases this
  refine ⟨rfl, hC, ⟨_, T, b1, rfl, rfl⟩, h (hideAll s.heap [e, T]) ⟨fun b o q => of_hideAll _ q, hideAll_none _ (.head _), ⟨T, _, b1, rfl, rfl, hideAll_none _ (.tail _ (.head _)), nT.1⟩⟩ ?_ ?_⟩
  · refine fr_but (fun b => b ∈ [e, T]) F (fun b o nb q => hideAll_get _ q nb) ?_ ?_
    · intro z
      rcases List.mem_cons.mp z with z | z
      · exact heL z.symm
      · exact nT.2.1 (List.mem_singleton.mp z).symm
    · intro b z
      rcases List.mem_cons.mp z with z | z
      · rw [z]; exact he0
      · rw [List.mem_singleton.mp z]; exact nT.2.2
  · refine news_but (fun b => b ∈ [e, T]) (fun p hp => N p (.tail _ hp)) (fun b o nb q => hideAll_get _ q nb) (fun p hp z => ?_)
    rcases List.mem_cons.mp z with z | z
    · exact e3 p (.tail _ hp) z
    · exact hn p hp (List.mem_singleton.mp z)
end
end Mine

-- X9
set_option autoImplicit false
set_option maxRecDepth 100000
namespace Mine
open PySem PySem.W PySem.Calls PyProof.Rows

/-- the arguments are there: the instance is to be made -/
def RaiseLeaf (prog : Program) (w : World) (A : Around) (E : Value → Shared → Prop) (h₀ : Heap) (C f : Addr) (vs : List Value) (s₂ : Shared) : Prop :=
  vs.length ≤ sizeLine ∧ (∀ b o, h₀.get? b = some o → s₂.heap.get? b = some o) ∧ ∀ cls, h₀.get? C = some cls →
    wpAny (model prog w) (A.under (.builtin "type.__call__" ⟨.ref C :: vs, []⟩)) (call (.ref f) (.ref (s₂.heap.objs.size + 1) :: vs)) (fun r s' => r = .none ∧ s'.heap.get? C = some cls ∧
      (∃ o t, s'.heap.get? (s₂.heap.objs.size + 1) = some o ∧ o.cls = .ref C ∧ o.data = .fields #[.ref t, .none, .none, .none, .bool false, .none]) ∧ E (.ref (s₂.heap.objs.size + 1)) s') E
      { s₂ with heap := (s₂.heap.push (tupObj vs)).push (bornExc C s₂.heap.objs.size) }
section
variable {prog : Program} {w : World} {A : Around} {E : Value → Shared → Prop} {s : Shared} {K : Frag} {h₀ : Heap} {L a C f : Addr} {m mg mb : PySem.Str → Option Value} {name : PySem.Str} {scope : Scope} {cd : Value} {p : Program} {loose : List PySem.Str} {news : List (Addr × Obj)} {vs : List Value}
theorem raise_leaf (F : Fr h₀ L s.heap m) (N : News h₀ L s.heap news) (hl : vs.length ≤ 1000)
    (turn : ∀ T e h' cls, h₀.get? C = some cls → Fr h₀ L h' m → News h₀ L h' ((e, bornExc C T) :: (T, tupObj vs) :: news) → (∀ q ∈ news, q.1 < T) → T < e → (∀ q ∈ (T, tupObj vs) :: news, q.1 ≠ e) → (∀ q ∈ news, q.1 ≠ T) →
      wpAny (model prog w) (A.under (.builtin "type.__call__" ⟨.ref C :: vs, []⟩)) (call (.ref f) (.ref e :: vs)) (InitEnd h₀ L m news C T e vs cls E) E { s with heap := h' }) : RaiseLeaf prog w A E h₀ C f vs s := by
  refine ⟨Nat.le_trans hl (by rw [PySem.sizeLine_eq]; decide), F.keep, fun cls hcls => ?_⟩
  have F1 := F.push (tupObj vs)
  have N1 := News.push F N (tupObj vs) rfl
  have F2 := F1.push (bornExc C s.heap.objs.size)
  have N2 := News.push F1 N1 (bornExc C s.heap.objs.size) rfl
  have hs : (s.heap.push (tupObj vs)).objs.size = s.heap.objs.size + 1 := Heap.size_push ..
  rw [hs] at N2
  refine turn s.heap.objs.size (s.heap.objs.size + 1) _ cls hcls F2 N2 (fun q hq => Heap.lt_size (N q hq).1) (Nat.lt_succ_self _) (fun q hq => ?_) (fun q hq => Nat.ne_of_lt (Heap.lt_size (N q hq).1))
  rcases List.mem_cons.mp hq with rfl | hq
  · exact Nat.ne_of_lt (Nat.lt_succ_self _)
  · exact Nat.ne_of_lt (Nat.lt_succ_of_lt (Heap.lt_size (N q hq).1))

theorem Raise_I {x : PySem.Str} {np cpos pos : Pos} {e₀ : PySem.Expr} {rest : List PySem.Expr} {fo : Obj} {Q : Flow → Shared → Prop} (F : Fr h₀ L s.heap m) (X₀ : K.In h₀) (TR : TopRead p loose mg mb h₀)
    (ex : nsIn K mainGlobals x = some (some (.ref C))) (_ : findIn K (.ref C) "__init__" = some (some (.ref f))) (q : excI K C f = true) (hf : K.lookup f = some fo) (hfc : fo.cls = .type "function") (hh : A.handled = none)
    (h : excI K C f = true → wpAny (model prog w) A (spliced (backTo cpos (starEach (e₀ :: rest) (envOf name scope L a cd)))) (fun vs s₂ => RaiseLeaf prog w A E h₀ C f vs s₂) E s)
    (he : starEach (e₀ :: rest) (envOf name scope L a cd) = (false, eval e₀ (envOf name scope L a cd)) :: starEach rest (envOf name scope L a cd) := by rfl)
    (hplain : (backTo cpos (starEach rest (envOf name scope L a cd))).any (·.1) = false := by rfl)
    (hk : scope.kind = .function := by rfl) (hx : (envOf name scope L a cd).kindOf x = some .globalImplicit := by rfl) (hd : (x == ("__debug__" : PySem.Str)) = false := by decide) :
    wpAny (model prog w) A (exec (.Raise (some (.Call (.Name x np) (e₀ :: rest) [] cpos)) none pos) (envOf name scope L a cd)) Q E s := by
  replace h := h q
  obtain ⟨nm, qn, N, bs, sn, sub, ab, col, dd, k0, k1, k2, k3, k5, mN, hC, hN, hni, hns, hall⟩ := (cls_of X₀ q).ex
  refine raise_call_I (C := C) (f := f) (fo := fo) (mN := mN) (nm := nm) (q := qn) (N := N) (bs := bs) (sn := sn) (sub := sub) (ab := ab) (col := col) (dd := dd) (k0 := k0) (k1 := k1) (k2 := k2) (k3 := k3) (k5 := k5) hh
    (by rw [he]; show (false || (backTo cpos (starEach rest (envOf name scope L a cd))).any (·.1)) = false; rw [hplain]; rfl) (name_K F X₀ TR ex ⟨rfl, ?_⟩ hk hx hd)
  rw [he] at h ⊢
  refine Calls.evalArgs_plain (wpAny_mono h (fun vs s₂ h₂ => ?_) fun _ _ y => y)
  obtain ⟨h1, h2, h3⟩ := h₂
  exact ⟨rfl, h1, h2 _ _ hC, hN.keeps h2, hni, h2 _ _ (X₀ _ _ hf), hfc, h3 _ hC⟩
end
end Mine

-- X10
set_option autoImplicit false
set_option maxRecDepth 100000
namespace Mine
open PySem PySem.W PySem.Calls PyProof.Rows
/-- names that SyntaxError knows nothing of -/
theorem se_names : ∀ x ∈ excNames, typeLookup (.type "SyntaxError") x = pure none := by
  intro x hx
  simp only [excNames, List.mem_cons, List.not_mem_nil, or_false] at hx
  rcases hx with rfl | rfl | rfl | rfl | rfl <;> (rw [typeLookup_type, builtinLookup_eq_fast]; kernel_rfl)
section
variable {prog : Program} {w : World} {A : Around} {E : Value → Shared → Prop} {s : Shared} {h₀ : Heap} {L : Addr} {m : PySem.Str → Option Value} {news : List (Addr × Obj)} {C T e f : Addr} {name : PySem.Str} {v : Value}
theorem store_born {Q : Unit → Shared → Prop} (F : Fr h₀ L s.heap m) (N : News h₀ L s.heap ((e, bornExc C T) :: news)) (hne : ∀ p ∈ news, p.1 ≠ e) (H : ClsI s.heap C f) (hx : name ∈ excNames)
    (hq : ∀ h' tk', Fr h₀ L h' m → News h₀ L h' news → ExcH h₀ L news C T e 1 h' → Q () { s with heap := h', toks := tk' }) : wpAny (model prog w) A (setAttr (.ref e) name v) Q E s := by
  obtain ⟨nm, qn, Nn, bs, sn, sub, ab, col, dd, k0, k1, k2, k3, k5, mN, hC, hN, hni, hns, hall⟩ := H.ex
  exact exc_store1 F N hne hC hN hns (hall _ hx) (se_names _ hx) (fun h' tk' a b c _ => hq h' tk' a b c)
theorem store_more {k : Nat} {Q : Unit → Shared → Prop} (F : Fr h₀ L s.heap m) (N : News h₀ L s.heap news) (X : ExcH h₀ L news C T e k s.heap) (H : ClsI s.heap C f) (hx : name ∈ excNames) (hk : k ≤ 100)
    (hq : ∀ h' tk', Fr h₀ L h' m → News h₀ L h' news → ExcH h₀ L news C T e (k + 1) h' → Q () { s with heap := h', toks := tk' }) : wpAny (model prog w) A (setAttr (.ref e) name v) Q E s := by
  obtain ⟨nm, qn, Nn, bs, sn, sub, ab, col, dd, k0, k1, k2, k3, k5, mN, hC, hN, hni, hns, hall⟩ := H.ex
  have hCe : e ≠ C := fun z => by
    obtain ⟨_, _, _, dx, mA, ns, b1, _⟩ := X
    rw [z, hC] at b1
    injection b1 with b1
    cases b1
  exact exc_store2 F N X hCe hC hN hns (hall _ hx) (se_names _ hx) hk hq
end
end Mine

-- X6b
set_option autoImplicit false
set_option maxRecDepth 100000
namespace Mine
open PySem PySem.W PySem.Calls PyProof.Rows
theorem encode_get {M : PySem.Model} {A : Around} {E : Value → Shared → Prop} {s : Shared} {pl : Sem Bool} {x : PySem.Str} {t : Tok} {Q : Value × List Value → Shared → Prop} (h : Q (.builtin "str.encode", [.str x t]) s) : wpAny M A (getMethod (.str x t) "encode" pl) Q E s := by
  with_reducible exact GM.of (.str x t) (typeIs_str _ _ _) PySem.F.slot_str_encode PySem.F.type_str_encode GM.noRef h
end Mine

-- K10
set_option autoImplicit false
set_option maxRecDepth 100000
namespace Mine
open PySem PySem.W PySem.Calls PyProof.Rows
/-- a set of two or three written signs, and a test upon it -/
def SetHas (prog : Program) (w : World) (D : Addr) (ss : List PySem.Str) (news : List (Addr × Obj)) : Prop :=
  ∃ so n rest, news = (D, so) :: rest ∧ (∀ p ∈ rest, p.1 ≠ D) ∧ so.SetObjOf (PySem.strKind prog w) (fun k => ss.foldl (fun b s => b || decide (k = s)) false) n ∧ n ≤ 10
section
variable {prog : Program} {w : World} {A : Around} {E : Value → Shared → Prop} {s : Shared} {h₀ : Heap} {L : Addr} {m : PySem.Str → Option Value} {news : List (Addr × Obj)}
variable {K : Frag} {k0 : Nat} {pos p1 p2 p3 : Pos} {env : Env} {s1 s2 s3 : PySem.Str} {n1 n2 n3 : Nat} {Q : Value → Shared → Prop}
theorem const_str {M : PySem.Model} {x : PySem.Str} {n : Nat} {p : Pos} {Q : Value → Shared → Prop} (h : ∀ t tk, Q (.str x t) { s with toks := tk }) : wpAny M A (eval (.Constant (.str x) n p) env) Q E s := Calls.Constant_str (h _ _)
theorem add_one {S : PySem.Str → Bool} {n : Nat} {D : Addr} {so : Obj} {x : PySem.Str} {t : Tok} {Q : Bool → Shared → Prop} (F : Fr h₀ L s.heap m) (N : News h₀ L s.heap ((D, so) :: news)) (hne : ∀ p ∈ news, p.1 ≠ D) (hso : so.SetObjOf (PySem.strKind prog w) S n) (hn : n ≤ 9)
    (h : ∀ b h' so' n' tk, Fr h₀ L h' m → News h₀ L h' ((D, so') :: news) → so'.SetObjOf (PySem.strKind prog w) (fun k => S k || decide (k = x)) n' → n' ≤ n + 1 → Q b { s with heap := h', toks := tk }) :
    wpAny (model prog w) A (setAdd D (.str x t)) Q E s := by
  refine kds_add (knd := PySem.strKind prog w) (k := x) F N (.head hne) hso (by unfold scanBound; omega) (strKind_is _ _ _ _) rfl (fun h' so' F' N' hs' => ?_)
  exact h _ h' so' _ _ F' N' hs' (by split <;> omega)
theorem unled_one {S : PySem.Str → Bool} {n : Nat} {D : Addr} {so : Obj} {Q : Unit → Shared → Prop} (F : Fr h₀ L s.heap m) (N : News h₀ L s.heap ((D, so) :: news)) (hne : ∀ p ∈ news, p.1 ≠ D) (hso : so.SetObjOf (PySem.strKind prog w) S n) (hn : n ≤ 10)
    (h : ∀ h' so', Fr h₀ L h' m → News h₀ L h' ((D, so') :: news) → so'.SetObjOf (PySem.strKind prog w) S n → Q () { s with heap := h' }) :
    wpAny (model prog w) A (setUnled D) Q E s :=
  kds_unled (knd := PySem.strKind prog w) F N (.head hne) hso (by unfold scanBound; omega) h
theorem set_two (F : Fr h₀ L s.heap m) (N : News h₀ L s.heap news) (X : K.In h₀) (hc : kdsCode K env.code = true) {u : Bool} (hr1 : (displayRoad k0 [.Constant (.str s1) n1 p1, .Constant (.str s2) n2 p2] == .constants) = false) (hr2 : (displayRoad k0 [.Constant (.str s1) n1 p1, .Constant (.str s2) n2 p2] == .unsure) = u)
    (h : ∀ D h' tk news', Fr h₀ L h' m → News h₀ L h' news' → SetHas prog w D [s1, s2] news' → (∃ so, news' = (D, so) :: news) → Q (.ref D) { s with heap := h', toks := tk }) :
    wpAny (model prog w) A (eval (.Set [.Constant (.str s1) n1 p1, .Constant (.str s2) n2 p2] k0 pos) env) Q E s := by
  refine kds_eval F N X hc hr1 rfl (Nat.le_of_ble_eq_true rfl) (fun D h' led F' N' hlt _ hs0 => ?_)
  have hne : ∀ p ∈ news, p.1 ≠ D := fun p hp => Nat.ne_of_lt (hlt p hp)
  rw [hr2]
  dsimp only [KdsAll]
  refine const_str (fun t1 q1 => const_str (fun t2 q2 => ?_))
  refine kds_fill_cons (add_one F' N' hne hs0 (by omega) (fun b1 h1 so1 m1 k1 F1 N1 S1 l1 => ?_))
  refine kds_fill_cons (add_one F1 N1 hne S1 (by omega) (fun b2 h2 so2 m2 k2 F2 N2 S2 l2 => ?_))
  cases u with
  | true =>
    refine kds_fill_unled rfl (unled_one F2 N2 hne S2 (by omega) (fun h3 so3 F3 N3 S3 => ?_))
    exact h D h3 _ _ F3 N3 ⟨so3, m2, news, rfl, hne, S3, by omega⟩ ⟨_, rfl⟩
  | false =>
    refine kds_fill_nil rfl ?_
    exact h D h2 _ _ F2 N2 ⟨so2, m2, news, rfl, hne, S2, by omega⟩ ⟨_, rfl⟩
theorem set_three (F : Fr h₀ L s.heap m) (N : News h₀ L s.heap news) (X : K.In h₀) (hc : kdsCode K env.code = true) {u : Bool} (hr1 : (displayRoad k0 [.Constant (.str s1) n1 p1, .Constant (.str s2) n2 p2, .Constant (.str s3) n3 p3] == .constants) = false) (hr2 : (displayRoad k0 [.Constant (.str s1) n1 p1, .Constant (.str s2) n2 p2, .Constant (.str s3) n3 p3] == .unsure) = u)
    (h : ∀ D h' tk news', Fr h₀ L h' m → News h₀ L h' news' → SetHas prog w D [s1, s2, s3] news' → (∃ so, news' = (D, so) :: news) → Q (.ref D) { s with heap := h', toks := tk }) :
    wpAny (model prog w) A (eval (.Set [.Constant (.str s1) n1 p1, .Constant (.str s2) n2 p2, .Constant (.str s3) n3 p3] k0 pos) env) Q E s := by
  refine kds_eval F N X hc hr1 rfl (Nat.le_of_ble_eq_true rfl) (fun D h' led F' N' hlt _ hs0 => ?_)
  have hne : ∀ p ∈ news, p.1 ≠ D := fun p hp => Nat.ne_of_lt (hlt p hp)
  rw [hr2]
  dsimp only [KdsAll]
  refine const_str (fun t1 q1 => const_str (fun t2 q2 => const_str (fun t3 q3 => ?_)))
  refine kds_fill_cons (add_one F' N' hne hs0 (by omega) (fun b1 h1 so1 m1 k1 F1 N1 S1 l1 => ?_))
  refine kds_fill_cons (add_one F1 N1 hne S1 (by omega) (fun b2 h2 so2 m2 k2 F2 N2 S2 l2 => ?_))
  refine kds_fill_cons (add_one F2 N2 hne S2 (by omega) (fun b3 h3 so3 m3 k3 F3 N3 S3 l3 => ?_))
  cases u with
  | true =>
    refine kds_fill_unled rfl (unled_one F3 N3 hne S3 (by omega) (fun h4 so4 F4 N4 S4 => ?_))
    exact h D h4 _ _ F4 N4 ⟨so4, m3, news, rfl, hne, S4, by omega⟩ ⟨_, rfl⟩
  | false =>
    refine kds_fill_nil rfl ?_
    exact h D h3 _ _ F3 N3 ⟨so3, m3, news, rfl, hne, S3, by omega⟩ ⟨_, rfl⟩
/-- the test takes the set off the ledger -/
theorem set_in {D : Addr} {ss : List PySem.Str} {news' : List (Addr × Obj)} {x : PySem.Str} {t : Tok} {b : Bool} (F : Fr h₀ L s.heap m) (N : News h₀ L s.heap news') (H : SetHas prog w D ss news') (hn : ∃ so, news' = (D, so) :: news) (hb : ss.foldl (fun b s => b || decide (x = s)) false = b)
    (h : ∀ tk, News h₀ L s.heap news → Q (.bool b) { s with toks := tk }) : wpAny (model prog w) A (compareOp .In (.str x t) (.ref D)) Q E s := by
  obtain ⟨so, n, rest, e, hne, hso, hl⟩ := H
  subst e
  obtain ⟨so2, e2⟩ := hn
  injection e2 with _ e2
  subst e2
  refine kse_in (knd := PySem.strKind prog w) (k := x) N (.head hne) hso (by unfold scanBound; omega) (strKind_is _ _ _ _) rfl ?_

  rw [hb]
  exact h _ (fun p hp => N p (.tail _ hp))
theorem set_notin {D : Addr} {ss : List PySem.Str} {news' : List (Addr × Obj)} {x : PySem.Str} {t : Tok} {b : Bool} (F : Fr h₀ L s.heap m) (N : News h₀ L s.heap news') (H : SetHas prog w D ss news') (hn : ∃ so, news' = (D, so) :: news) (hb : ss.foldl (fun b s => b || decide (x = s)) false = b)
    (h : ∀ tk, News h₀ L s.heap news → Q (.bool (!b)) { s with toks := tk }) : wpAny (model prog w) A (compareOp .NotIn (.str x t) (.ref D)) Q E s := by
  obtain ⟨so, n, rest, e, hne, hso, hl⟩ := H
  subst e
  obtain ⟨so2, e2⟩ := hn
  injection e2 with _ e2
  subst e2
  refine kse_notin (knd := PySem.strKind prog w) (k := x) N (.head hne) hso (by unfold scanBound; omega) (strKind_is _ _ _ _) rfl ?_

  rw [hb]
  exact h _ (fun p hp => N p (.tail _ hp))
end
end Mine
namespace Mine
open PySem PySem.W PySem.Calls PyProof.Rows
section
variable {prog : Program} {w : World} {A : Around} {E : Value → Shared → Prop} {s : Shared} {h₀ : Heap} {L : Addr} {m : PySem.Str → Option Value} {news news' : List (Addr × Obj)} {D : Addr} {s1 s2 s3 x : PySem.Str} {t : Tok} {b : Bool} {Q : Value → Shared → Prop}
theorem in_two (H : SetHas prog w D [s1, s2] news') (hn : ∃ so, news' = (D, so) :: news) (F : Fr h₀ L s.heap m) (N : News h₀ L s.heap news') (hb : (false || decide (x = s1) || decide (x = s2)) = b)
    (h : ∀ tk, News h₀ L s.heap news → Q (.bool b) { s with toks := tk }) : wpAny (model prog w) A (compareOp .In (.str x t) (.ref D)) Q E s := set_in F N H hn hb h
theorem in_two' (H : SetHas prog w D [s1, s2] news') (hn : ∃ so, news' = (D, so) :: news) (F : Fr h₀ L s.heap m) (N : News h₀ L s.heap news')
    (h : ∀ tk, News h₀ L s.heap news → Q (.bool (false || decide (x = s1) || decide (x = s2))) { s with toks := tk }) : wpAny (model prog w) A (compareOp .In (.str x t) (.ref D)) Q E s := set_in F N H hn rfl h
theorem notin_three (H : SetHas prog w D [s1, s2, s3] news') (hn : ∃ so, news' = (D, so) :: news) (F : Fr h₀ L s.heap m) (N : News h₀ L s.heap news')
    (h : ∀ tk, News h₀ L s.heap news → Q (.bool (!(false || decide (x = s1) || decide (x = s2) || decide (x = s3)))) { s with toks := tk }) : wpAny (model prog w) A (compareOp .NotIn (.str x t) (.ref D)) Q E s := set_notin F N H hn rfl h
end
end Mine
namespace Mine
open PySem PySem.W PySem.Calls PyProof.Rows
section
variable {prog : Program} {w : World} {A : Around} {E : Value → Shared → Prop} {s : Shared} {h₀ : Heap} {L : Addr} {m : PySem.Str → Option Value} {news news' : List (Addr × Obj)} {D : Addr} {ss : List PySem.Str} {Q : Unit → Shared → Prop}
theorem set_unled (H : SetHas prog w D ss news') (hn : ∃ so, news' = (D, so) :: news) (F : Fr h₀ L s.heap m) (N : News h₀ L s.heap news')
    (h : ∀ h' nw, Fr h₀ L h' m → News h₀ L h' nw → SetHas prog w D ss nw → (∃ so, nw = (D, so) :: news) → Q () { s with heap := h' }) : wpAny (model prog w) A (setUnled D) Q E s := by
  obtain ⟨so, n, rest, e, hne, hso, hl⟩ := H
  subst e
  obtain ⟨so2, e2⟩ := hn
  injection e2 with e1 e2
  subst e2
  refine unled_one F N hne hso hl (fun h' so' F' N' S' => ?_)
  exact h h' _ F' N' ⟨so', n, rest, rfl, hne, S', hl⟩ ⟨_, rfl⟩
end
end Mine

open PySem PySem.W PyProof.Rows Mine
local macro_rules | `(tactic| walk_at "LawEnd") => `(tactic| first | exact lawEnd_pos (by omega) | exact lawEnd_neg (by omega))
local macro_rules | `(tactic| walk_at "eval IfExp") => `(tactic| (k_here; (fail_if_success (rename InJoin => hJ)); (with_reducible show wpAny _ _ (PySem.eval (PySem.Expr.IfExp (PySem.Expr.Compare (PySem.Expr.Name (PySem.Str.ofString "k") _) _ _ _) _ _ _) _) _ _ _); k_dflt (refine' ifexp_join2 ?k1 ?k2 ?k3 ?k4 ?k5 ?k6 ?kp ?k7 ?_; (case k1 => k_asm); (case k2 => with_unfolding_all rfl); (case k3 => with_unfolding_all rfl); (case k4 => with_unfolding_all rfl); (case k5 => k_asm); (case k6 => k_asm); (case kp => decide); (case k7 => (intro hJ; k_steps; done))); intro t' tk' hLa1 hLa2))
local macro_rules | `(tactic| walk_at "subscriptTail") => `(tactic| (k_here; (with_reducible show wpAny _ _ (subscriptTail (PySem.Expr.List (PySem.Expr.Constant (PySem.Const.str _) _ _ :: _) _) (PySem.Expr.Call _ _ _ _) (Value.ref _) (Value.int _ _)) _ _ _); k_dflt (refine' item_menu ?k1 ?k2 ?k3 ?k4 ?k5 10 ?k6 ?_; (case k1 => ktb_isList); (case k2 => repeat constructor); (case k3 => omega); (case k4 => (simp only [List.length_cons, List.length_nil]; omega)); (case k5 => omega); (case k6 => decide +kernel)); intro t' e' hE' hEl'))
local macro_rules | `(tactic| walk_at "subscriptTail") => `(tactic| (k_here; (with_reducible show wpAny _ _ (subscriptTail _ _ (Value.str _ _) (Value.int (Int.fmod _ _) _)) _ _ _); k_dflt (refine' text_pick ?k1 ?k2 ?k3 ?_ ?k4 ?k5; (case k1 => decide); (case k2 => decide +kernel); (case k3 => decide); (case k4 => with_unfolding_all rfl); (case k5 => intro _; with_unfolding_all rfl)); intro t' tk'))
local macro_rules | `(tactic| walk_at "exec For Name Call cons nil") => `(tactic| (k_here; (rename Fr _ _ _ _ => lF'); (with_unfolding_all refine' For_invVF lF' ?k1 ?k2 ?_; (case k1 => exact rfl); (case k2 => exact rfl); k_whole)))
local macro_rules | `(tactic| walk_at "call ref") => `(tactic| (k_here; (fail_if_success k_inElt); kts_any; k_dflt (refine wpAny_call ?_; first
  | (refine' code_defS ?k1 ?k2 ?k3 ?k4 ?k5 ?XB ?TB ?D ?T0 ?kA ?k6 ?k7 ?k8 ?k9 ?kB ?_ ?cK ?c2 ?c3 ?c4 ?c5; (case kA => exact rfl); (case k2 => with_reducible assumption); (case k1 => with_reducible assumption); (case XB => with_reducible assumption); (case TB => with_reducible assumption); (case D => with_reducible assumption); (case T0 => first | with_reducible assumption | exact KtsTurn.refl); (case k3 => with_reducible assumption); (case k4 => with_reducible assumption); (case k5 => with_reducible assumption); (case k6 => k_is); (case k7 => k_is); (case k8 => k_room); (case k9 => first | exact binds_K (by first | with_reducible assumption | exact Frag.In.keeps (by with_reducible assumption) (Fr.keep (by with_reducible assumption))) rfl (by k_is) rfl rfl rfl | exact BindsTo.of_eq rfl | fail "kts_go: no rule for these arguments"); (case kB => exact locs rfl); (case cK => exact rfl); (case c2 => exact rfl); (case c3 => exact rfl); (case c4 => exact rfl); (case c5 => decide); k_whole; intro g' L' h' FG' F' N' B' X' T' D'; (try dsimp only); (try k_lift B'); (try k_fold))
  | (refine' code_defS0 ?k1 ?k2 ?k3 ?k4 ?k5 ?kA ?k6 ?k7 ?k8 ?k9 ?kB ?_ ?cK ?c2 ?c3 ?c4 ?c5; (case kA => exact rfl); (case k2 => with_reducible assumption); (case k1 => with_reducible assumption); (case k3 => with_reducible assumption); (case k4 => with_reducible assumption); (case k5 => with_reducible assumption); (case k6 => k_is); (case k7 => k_is); (case k8 => k_room); (case k9 => first | exact binds_K (by first | with_reducible assumption | exact Frag.In.keeps (by with_reducible assumption) (Fr.keep (by with_reducible assumption))) rfl (by k_is) rfl rfl rfl | exact BindsTo.of_eq rfl | fail "kts_go: no rule for these arguments"); (case kB => exact locs rfl); (case cK => exact rfl); (case c2 => exact rfl); (case c3 => exact rfl); (case c4 => exact rfl); (case c5 => decide); k_whole; intro g' L' h' FG' F' N' B' X' T' D'; (try dsimp only); (try k_lift B'); (try k_fold)))))
local macro_rules | `(tactic| walk_at "call ref") => `(tactic| (k_here; (k_dflt (refine' call_cls ?k1 ?k2 ?k3 ?k4 ?k5 ?k6 ?_; (case k1 => with_reducible assumption); (case k2 => with_reducible assumption); (case k3 => with_reducible assumption); (case k4 => k_is); (case k5 => k_is); (case k6 => k_is); k_whole; intro x' d' h' F' N' l1 l2; (try k_lt l1); (try k_lt2 l2); (try k_sweep); (refine' code_def ?e1 ?e2 ?e3 ?e4 ?e5 ?eA ?eF ?eK ?e6 ?e7 ?e8 ?e9 ?eB ?_ ?c2 ?c3 ?c4 ?c5; (case eA => exact rfl); (case eF => exact rfl); (case eK => exact rfl); (case e1 => with_reducible assumption); (case e2 => with_reducible assumption); (case e3 => with_reducible assumption); (case e4 => with_reducible assumption); (case e5 => with_reducible assumption); (case e6 => k_is); (case e7 => k_is); (case e8 => k_room); (case e9 => first | exact binds_K (by first | with_reducible assumption | exact Frag.In.keeps (by with_reducible assumption) (Fr.keep (by with_reducible assumption))) rfl (by k_is) rfl rfl rfl | exact BindsTo.of_eq rfl); (case c5 => decide); (case eB => exact locs rfl); (case c2 => exact rfl); (case c3 => exact rfl); (case c4 => exact rfl); k_whole; intro g' L' h' FG' F' N' B' X' T'; (try dsimp only); (try k_lift B'); (try k_fold))))))
local macro_rules | `(tactic| walk_at "eval Set") => `(tactic| (k_here; k_dflt (first
  | (refine' set_two ?F ?N ?X ?c ?r1 ?r2 (fun D' h' tk' nw' F' N' hSH' hSE' => ?_); (case F => with_reducible assumption); (case N => with_reducible assumption); (case X => with_reducible assumption); (case c => first | k_is | kernel_rfl!); (case r1 => kds_road); (case r2 => exact rfl))
  | (refine' set_three ?F ?N ?X ?c ?r1 ?r2 (fun D' h' tk' nw' F' N' hSH' hSE' => ?_); (case F => with_reducible assumption); (case N => with_reducible assumption); (case X => with_reducible assumption); (case c => first | k_is | kernel_rfl!); (case r1 => kds_road); (case r2 => exact rfl)))))
local macro_rules | `(tactic| kst_p) => `(tactic| ((try dsimp only); first | (refine bld4_nil ?_ ?_ ?_; (first | rfl | decide); rfl; rfl) | exact bld4_raw (by with_reducible assumption) (by with_reducible assumption) (by with_reducible assumption) (by with_reducible assumption) (by simp) | exact bld4_esc (by with_reducible assumption) (by with_reducible assumption) (by with_reducible assumption) (by with_reducible assumption) (by simp) | exact bld4_pct (by with_reducible assumption) (by with_reducible assumption) (by with_reducible assumption) (by with_reducible assumption) (by with_reducible assumption) (by simp) | exact blk_start (by omega) (by omega) (by omega) | exact blk_step (by with_reducible assumption) (by with_reducible assumption) (by rw [← in_blank]; with_reducible assumption) | exact ln_start (by omega) (by omega) (by omega) | exact ln_step (by with_reducible assumption) (by with_reducible assumption) (by omega) | exact wd_start (by omega) (by omega) (by with_reducible assumption) (by with_reducible assumption) | exact wd_start (by omega) (by omega) (by with_reducible assumption) (of_decide_eq_true (oth_nn (by with_reducible assumption) (by with_reducible assumption) (by with_reducible assumption))) | exact wd_step (by with_reducible assumption) (by with_reducible assumption) (by with_reducible assumption) | exact qn_start (by omega) (by omega) (by omega) | exact qn_back1 (by with_reducible assumption) (by with_reducible assumption) (by with_reducible assumption) (by with_reducible assumption) (by with_reducible assumption) | exact qn_back0 (by with_reducible assumption) (by with_reducible assumption) (by with_reducible assumption) (by with_reducible assumption) (by with_reducible assumption) | exact qn_esc1 (by with_reducible assumption) (by with_reducible assumption) (by with_reducible assumption) (by with_reducible assumption) | exact qn_esc2 (by with_reducible assumption) (by with_reducible assumption) (by with_reducible assumption) (by with_reducible assumption) | exact qn_plain1 (by with_reducible assumption) (by with_reducible assumption) (by with_reducible assumption) (by with_reducible assumption) (by with_reducible assumption) | exact qn_pct1 (by with_reducible assumption) (by with_reducible assumption) (by with_reducible assumption) (by with_reducible assumption) (by with_reducible assumption) (by with_reducible assumption) (by with_reducible assumption) (by with_reducible assumption) | exact qn_pct2 (by with_reducible assumption) (by with_reducible assumption) (by with_reducible assumption) (by with_reducible assumption) (by with_reducible assumption) (by with_reducible assumption) (by with_reducible assumption) | ((fail "kst"))))
local macro_rules | `(tactic| walk_at "binaryOp Add str str") => `(tactic| (k_here; k_dflt (first | ((with_reducible refine' add_oneR ?k1 ?_); (case k1 => (have hLs := lens4); (obtain ⟨hLa, hLb, hLc, hLd, hLe⟩ := hLs); first | omega | ((have hBl := bld4_lens (by with_reducible assumption)); omega) | ((have hLf := lens4e); omega))) | (refine' add_len ?k1 ?_; (case k1 => (have hLs := lens4); (obtain ⟨hLa, hLb, hLc, hLd, hLe⟩ := hLs); first | omega | ((have hBl := bld4_lens (by with_reducible assumption)); omega) | ((fail "len"))))); intro z' t' tk' hz' hzl'))
local macro_rules | `(tactic| walk_at "subscriptTail") => `(tactic| (k_here; (with_reducible show wpAny _ _ (subscriptTail (PySem.Expr.Call _ _ _ _) _ (Value.ref _) (Value.int (Int.fmod _ 10) _)) _ _ _); k_dflt (refine' item_menu ?k1 ?k2 ?k3 ?k4 ?k5 2 ?k6 ?_; (case k1 => ktb_isList); (case k2 => repeat constructor); (case k3 => exact Int.fmod_nonneg_of_pos _ (by decide)); (case k4 => exact Int.fmod_lt_of_pos _ (by decide)); (case k5 => exact Int.lt_trans (Int.fmod_lt_of_pos _ (by decide)) (by decide)); (case k6 => decide +kernel)); intro t' e' hE' hEl'))
local macro_rules | `(tactic| walk_at "subscriptTail Name BinOp str int") => `(tactic| (k_here; (with_reducible show wpAny _ _ (subscriptTail _ _ (Value.str _ _) (Value.int (Int.fmod _ _) _)) _ _ _); k_dflt (refine' text_pick ?k1 ?k2 ?k3 ?_ ?k4 ?k5; (case k1 => decide); (case k2 => decide +kernel); (case k3 => decide); (case k4 => with_unfolding_all rfl); (case k5 => intro _; with_unfolding_all rfl)); intro t' tk'))
local macro_rules | `(tactic| walk_at "exec While Constant cons nil") => `(tactic| (k_here; (with_reducible show wpAny _ _ (PySem.exec (PySem.Stmt.While (PySem.Expr.Constant (PySem.Const.bool true) _ _) _ _ _) _) _ _ _); (first | (with_reducible rename Ask _ _ _ _ _ _ => hAskX) | (have hOth := oth_of4 (by with_reducible assumption) (by with_reducible assumption) (by with_reducible assumption))); (have hBl := bld4_lens (by with_reducible assumption)); (have hLs := lens4); (obtain ⟨hLa, hLb, hLc, hLd, hLe⟩ := hLs); k_while_given ["argstr", "i!"] (fun x i0 _ i => Blk x i0 i) (fun x _ _ i => (x.length - i).toNat) "i"))
local macro_rules | `(tactic| walk_at "exec While Constant cons nil") => `(tactic| (k_here; (with_reducible show wpAny _ _ (PySem.exec (PySem.Stmt.While (PySem.Expr.Constant (PySem.Const.int 1) _ _) _ _ _) _) _ _ _); (with_reducible rename Blk _ _ _ => hBlk); (have hB1 := hBlk.1); (have hB2 := hBlk.2.1); (have hB3 := hBlk.2.2.1); (have hB4 := hBlk.2.2.2.1); k_while_given ["argstr", "i!"] (fun x i1 _ i n _ => LnAt x i1 i n) (fun x _ _ i _ _ => (x.length - i).toNat) "i" "self.lines" "self.startOfLine"))
local macro_rules | `(tactic| walk_at "getMethod ref") => `(tactic| (k_here; (with_reducible show wpAny _ _ (PySem.getMethod _ (PySem.Str.ofString "match") _) _ _ _); k_dflt (first | (refine' match_get (code := eolCode) (groups := 1) (patK ?k1 ?k2 ?k3 ?k4) ?_; (case k1 => exact Frag.In.keeps (by with_reducible assumption) (Fr.keep (by with_reducible assumption))); (case k2 => k_is); (case k3 => k_is); (case k4 => decide +kernel)) | (refine' match_get (code := eofCode) (groups := 1) (patK ?k1 ?k2 ?k3 ?k4) ?_; (case k1 => exact Frag.In.keeps (by with_reducible assumption) (Fr.keep (by with_reducible assumption))); (case k2 => k_is); (case k3 => k_is); (case k4 => decide +kernel)) | (refine' match_get (code := wsCode) (groups := 0) (patK ?k1 ?k2 ?k3 ?k4) ?_; (case k1 => exact Frag.In.keeps (by with_reducible assumption) (Fr.keep (by with_reducible assumption))); (case k2 => k_is); (case k3 => k_is); (case k4 => decide +kernel)))))
local macro_rules | `(tactic| walk_at "call builtin:re.Pattern.match") => `(tactic| (k_here; (with_reducible rename LnAt _ _ _ _ => hLn); (have hL1 := hLn.2.1); (have hL2 := hLn.2.2.1); (have hL3 := hLn.2.2.2.1); k_dflt (first | (refine' call_eol ?F ?N (patK ?k1 ?k2 ?k3 ?k4) ?a ?b ?c (fun hNo' => ?_) (fun k' a' b' more' li' h' hK' hK1' hK2' F' N' l1 l2 => ?_); (case F => k_asm); (case N => k_asm); (case k1 => exact Frag.In.keeps (by with_reducible assumption) (Fr.keep (by with_reducible assumption))); (case k2 => k_is); (case k3 => k_is); (case k4 => decide +kernel); (case a => omega); (case b => omega); (case c => omega)) | (refine' call_eof ?F ?N (patK ?k1 ?k2 ?k3 ?k4) ?a ?b ?c (fun hNo' => ?_) (fun k' a' b' more' li' h' hK' F' N' l1 l2 => ?_); (case F => k_asm); (case N => k_asm); (case k1 => exact Frag.In.keeps (by with_reducible assumption) (Fr.keep (by with_reducible assumption))); (case k2 => k_is); (case k3 => k_is); (case k4 => decide +kernel); (case a => omega); (case b => omega); (case c => omega)) | (refine' call_ws ?F ?N (patK ?k1 ?k2 ?k3 ?k4) ?a ?b ?c (fun k' a' b' more' li' h' hK' hK2' F' N' l1 l2 => ?_); (case F => k_asm); (case N => k_asm); (case k1 => exact Frag.In.keeps (by with_reducible assumption) (Fr.keep (by with_reducible assumption))); (case k2 => k_is); (case k3 => k_is); (case k4 => decide +kernel); (case a => omega); (case b => omega); (case c => omega))); (all_goals (try k_lt l1)); (all_goals (try k_lt2 l2)); (all_goals (try k_sweep)); (all_goals (try (exfalso; exact ask_none (by with_reducible assumption) (by with_reducible assumption) (by with_reducible assumption) (by first | exact nb1 (by with_reducible assumption) | exact nb2 (by with_reducible assumption)) (by with_reducible assumption) (by with_reducible assumption) (by with_reducible assumption) (by with_reducible assumption); done)))))
local macro_rules | `(tactic| walk_at "getMethod ref") => `(tactic| (k_here; (with_reducible show wpAny _ _ (PySem.getMethod _ (PySem.Str.ofString "end") _) _ _ _); k_dflt (refine' mat_get ?k1 ?k2 ?_; (case k1 => k_asm); (case k2 => k_mem))))
local macro_rules | `(tactic| walk_at "call builtin:re.Match.end") => `(tactic| (k_here; k_dflt (refine' mat_end ?k1 ?k2 ?k3 ?_; (case k1 => k_asm); (case k2 => k_mem); (case k3 => k_mem)); intro t'))
local macro_rules | `(tactic| walk_at "noteFrame ref") => `(tactic| (k_here; (with_reducible rename Heap.NewExc _ _ _ _ => hNx); first | (exfalso; exact ask_end (by with_reducible assumption) (by with_reducible assumption) (by with_reducible assumption)) | (k_dflt (refine' caught_new (T' := "IndexError") ?R ?F ?N ?K ?XB ?TB ?D ?T0 ?ex PyProof.Rows.Boot.«IndexError» ?hn PySem.F.isExc_IndexError PySem.F.notTuple_IndexError ?hs ?_; (case R => exact hNx); (case F => k_asm); (case N => k_asm); (case K => with_reducible assumption); (case XB => with_reducible assumption); (case TB => with_reducible assumption); (case D => with_reducible assumption); (case T0 => first | with_reducible assumption | exact KtsTurn.refl); (case hs => kts_sub); (case ex => k_is); (case hn => decide)); intro h' g' T' F' N' K' X' P' D'; (try k_lift K'); (try k_sweep))))
local macro_rules | `(tactic| walk_at "setUnled") => `(tactic| (k_here; (with_reducible rename SetHas _ _ _ _ _ => hSH); k_dflt (refine' set_unled hSH ?E ?F ?N (fun h' nw' F' N' hSH' hSE' => ?_); (case E => with_reducible assumption); (case F => with_reducible assumption); (case N => with_reducible assumption)); (clear hSH)))
local macro_rules | `(tactic| walk_at "compareOp In str ref") => `(tactic| (k_here; (with_reducible rename SetHas _ _ _ _ _ => hSH); k_dflt (refine' in_two' hSH ?E ?F ?N ?_; (case E => with_reducible assumption); (case F => with_reducible assumption); (case N => with_reducible assumption)); intro tk' N'; (clear hSH)))
local macro_rules | `(tactic| walk_at "compareOp NotIn str ref") => `(tactic| (k_here; (with_reducible rename SetHas _ _ _ _ _ => hSH); k_dflt (refine' notin_three hSH ?E ?F ?N ?_; (case E => with_reducible assumption); (case F => with_reducible assumption); (case N => with_reducible assumption)); intro tk' N'; (clear hSH)))
local macro_rules | `(tactic| walk_at "exec If Compare cons nil") => `(tactic| (k_here; (with_reducible show wpAny _ _ (PySem.exec (PySem.Stmt.If (PySem.Expr.Compare (PySem.Expr.Name (PySem.Str.ofString "i") _) _ _ _) _ _ _) _) _ _ _); (with_reducible rename Blk _ _ _ => hBlk); (have hBp := hBlk.2.1); (have hBx := hBlk.2.2.2.1); (first | ((with_reducible rename Ask _ _ _ _ _ _ => hAsk); (first | (have hI := ask_some hAsk hBlk (by with_reducible assumption) (by first | exact nb1 (by with_reducible assumption) | exact nb2 (by with_reducible assumption)) (by with_reducible assumption) (by with_reducible assumption) (by with_reducible assumption)) | (have hI := ask_word hAsk hBlk (by with_reducible assumption) (by first | exact nb1 (by with_reducible assumption) | exact nb2 (by with_reducible assumption)) (by first | exact nm1 (by with_reducible assumption) | exact nm2 (by with_reducible assumption) | exact nm3 (by with_reducible assumption) | exact nm4 (by with_reducible assumption)))); (have hAskI := ask_at hI hAsk); (have hAskP := ask_lt hAskI)) | ((with_reducible rename Oth _ _ _ => hOth); (first | (have hI := oth_some hOth hBlk (by with_reducible assumption) (by first | exact nb1 (by with_reducible assumption) | exact nb2 (by with_reducible assumption)) (by with_reducible assumption) (by with_reducible assumption) (by with_reducible assumption)) | (have hI := oth_word hOth hBlk (by with_reducible assumption) (by first | exact nb1 (by with_reducible assumption) | exact nb2 (by with_reducible assumption)) (by first | exact nm1 (by with_reducible assumption) | exact nm2 (by with_reducible assumption) | exact nm3 (by with_reducible assumption) | exact nm4 (by with_reducible assumption)))); (have hOthI := oth_at hI hOth); (have hOthP := oth_pos hOthI)) | skip); (clear hBlk); (try ((with_reducible rename LnAt _ _ _ _ => hLn); clear hLn))))
local macro_rules | `(tactic| walk_at "subscriptTail Name Name str int") => `(tactic| (k_here; first | ((with_reducible rename Blk _ _ _ => hBlk); k_dflt (refine' text_at ?k0 ?k1 ?k2 (fun hOut' h' tk' e' x' => ?_) (fun c' l' t' tk' hIn' hDr' => ?_) ?k6 ?k7; (case k0 => rfl); (case k1 => have := hBlk.1; have := hBlk.2.1; omega); (case k2 => have := hBlk.2.2; omega); (case k6 => with_unfolding_all rfl); (case k7 => intro _; with_unfolding_all rfl))) | ((with_reducible rename Qn _ _ _ _ _ _ => hQn); (have hQp := qn_pos hQn); k_dflt (refine' text_in ?k1 ?k2 ?k3 (fun c' l' t' tk' hD' => ?_) ?k4 ?k5; (case k1 => omega); (case k2 => omega); (case k3 => omega); (case k4 => with_unfolding_all rfl); (case k5 => intro _; with_unfolding_all rfl))) | (k_dflt (refine' text_known (r := _) ?k1 ?k2 ?k3 ?_ ?k4 ?k5; (case k3 => with_reducible assumption); (case k1 => first | omega | ((with_reducible rename Wd _ _ _ => hWd); have := hWd.b0; have := hWd.bi; omega)); (case k2 => first | omega | ((with_reducible rename Wd _ _ _ => hWd); exact hWd.xl)); (case k4 => with_unfolding_all rfl); (case k5 => intro _; with_unfolding_all rfl)); intro t' tk') | ((with_reducible rename Wd _ _ _ => hWd); (have hWb := hWd.b0); (have hWi := hWd.bi); (have hWx := hWd.xl); (have hWl := hWd.il); first | ((have hIn := ask_in (by with_reducible assumption) hWd); k_dflt (refine' text_in ?k1 ?k2 ?k3 (fun c' l' t' tk' hD' => ?_) ?k4 ?k5; (case k1 => omega); (case k2 => omega); (case k3 => omega); (case k4 => with_unfolding_all rfl); (case k5 => intro _; with_unfolding_all rfl))) | ((have hIn := oth_in (by with_reducible assumption) (by with_reducible assumption) (by with_reducible assumption) hWd); k_dflt (refine' text_in ?k1 ?k2 ?k3 (fun c' l' t' tk' hD' => ?_) ?k4 ?k5; (case k1 => omega); (case k2 => omega); (case k3 => omega); (case k4 => with_unfolding_all rfl); (case k5 => intro _; with_unfolding_all rfl)))) | (k_dflt (refine' text_in ?k1 ?k2 ?k3 (fun c' l' t' tk' hD' => ?_) ?k4 ?k5; (case k1 => omega); (case k2 => omega); (case k3 => first | omega | exact oth_lt (by with_reducible assumption) (by with_reducible assumption)); (case k4 => with_unfolding_all rfl); (case k5 => intro _; with_unfolding_all rfl)))))
local macro_rules | `(tactic| walk_at "subscriptTail Name BinOp str int") => `(tactic| (k_here; (with_reducible show wpAny _ _ (subscriptTail (PySem.Expr.Name (PySem.Str.ofString "argstr") _) _ (Value.str _ _) (Value.int _ _)) _ _ _); first | (k_dflt (refine' text_known (r := _) ?k1 ?k2 ?k3 ?_ ?k4 ?k5; (case k3 => with_reducible assumption); (case k1 => omega); (case k2 => omega); (case k4 => with_unfolding_all rfl); (case k5 => intro _; with_unfolding_all rfl)); intro t' tk') | ((with_reducible rename EndN _ _ _ _ _ _ _ => hEn); (have hEp := hEn.pos); (obtain ⟨c9', l9', hD9', hc9'⟩ := hEn.last); k_dflt (refine' text_known (r := _) ?k1 ?k2 ?k3 ?_ ?k4 ?k5; (case k3 => exact hD9'); (case k1 => omega); (case k2 => omega); (case k4 => with_unfolding_all rfl); (case k5 => intro _; with_unfolding_all rfl)); intro t' tk') | ((with_reducible rename Qn _ _ _ _ _ _ => hQn); (have hQp := qn_pos hQn); (have hTw9 := askn_two (by with_reducible assumption) hQn (by with_reducible assumption) (by with_reducible assumption) (by with_reducible assumption)); (obtain ⟨a9', b9', l9', m9', hD8', hD9', hPc'⟩ := hTw9); (try (have hPc2' := hPc' rfl)); k_dflt (refine' text_known (r := _) ?k1 ?k2 ?k3 ?_ ?k4 ?k5; (case k3 => with_reducible assumption); (case k1 => omega); (case k2 => omega); (case k4 => with_unfolding_all rfl); (case k5 => intro _; with_unfolding_all rfl)); intro t' tk') | ((with_reducible rename Wd _ _ _ => hWd); (have hWb := hWd.b0); (have hWi := hWd.bi); (have hWx := hWd.xl); (first | (have hBk9 := ask_back (by with_reducible assumption) (by with_reducible assumption) (by with_reducible assumption) hWd (by with_reducible assumption) (by with_reducible assumption)) | (have hBk9 := oth_back (by with_reducible assumption) (by with_reducible assumption) (by with_reducible assumption) hWd (by with_reducible assumption) (by with_reducible assumption))); (obtain ⟨c9', l9', hD9', hc9'⟩ := hBk9); k_dflt (refine' text_known (r := _) ?k1 ?k2 ?k3 ?_ ?k4 ?k5; (case k3 => exact hD9'); (case k1 => omega); (case k2 => omega); (case k4 => with_unfolding_all rfl); (case k5 => intro _; with_unfolding_all rfl)); intro t' tk')))
local macro_rules | `(tactic| walk_at "compareOp In str str") => `(tactic| (k_here; first | (with_reducible refine in_chars_is (b := false) (ask_nonum (by with_reducible assumption) (by with_reducible assumption)) ?_) | (with_reducible refine in_chars ?_)))
local macro_rules | `(tactic| walk_at "compareOp NotIn str str") => `(tactic| (k_here; first | (with_reducible refine notin_chars_is (b := true) (oth_nn (by with_reducible assumption) (by with_reducible assumption) (by with_reducible assumption)) ?_) | (with_reducible refine notin_chars_is (b := false) (askn_esc (by with_reducible assumption) (by with_reducible assumption) (by with_reducible assumption) (by with_reducible assumption)) ?_) | (with_reducible refine notin_chars_is (b := false) (hexl_is (by with_reducible assumption)) ?_) | (with_reducible refine notin_chars_is (b := false) (hexr_is (by with_reducible assumption)) ?_) | (with_reducible refine notin_chars_is (b := false) (nq92_is (by with_reducible assumption)) ?_) | (with_reducible refine notin_chars ?_)))
local macro_rules | `(tactic| walk_at "compareOp Eq str str") => `(tactic| (k_here; first | (refine eq_oneS_is (k := 46) (b := false) (by decide +kernel) (by with_reducible assumption) ?_) | (refine eq_oneS_is (k := 58) (b := true) (by decide +kernel) (by with_reducible assumption) ?_) | (with_reducible refine eq_str_is (b := false) (ask_no_ (by with_reducible assumption)) ?_) | (with_reducible refine eq_str_is (b := false) (ask_slice_no (by with_reducible assumption) (by with_reducible assumption) (by with_reducible assumption) (by with_reducible assumption)) ?_) | (refine eq_oneS_is (k := 58) (b := true) (by decide +kernel) (ask_58w (by with_reducible assumption) (by with_reducible assumption) (by with_reducible assumption) (by with_reducible assumption)) ?_) | (refine eq_oneS_is (k := 58) (b := false) (by decide +kernel) (oth_58 (by with_reducible assumption) (by with_reducible assumption) (by with_reducible assumption) (by with_reducible assumption) (by with_reducible assumption) (by with_reducible assumption)) ?_) | (refine eq_oneS_is (k := 58) (b := true) (by decide +kernel) (ask_58n (by with_reducible assumption) (by with_reducible assumption) (by with_reducible assumption)) ?_) | (refine eq_oneS (k := 92) (by decide +kernel) ?_) | (refine eq_oneS (k := 37) (by decide +kernel) ?_)))
local macro_rules | `(tactic| walk_at "exec While Compare cons nil") => `(tactic| (k_here; (with_reducible show wpAny _ _ (PySem.exec (PySem.Stmt.While (PySem.Expr.Compare (PySem.Expr.Subscript _ _ _) _ _ _) _ _ _) _) _ _ _); k_while_given ["argstr", "j"] (fun x j _ i => Wd x j i) (fun x _ _ i => (x.length - i).toNat) "i"))
local macro_rules | `(tactic| walk_at "exec While Compare cons nil") => `(tactic| (k_here; (with_reducible show wpAny _ _ (PySem.exec (PySem.Stmt.While (PySem.Expr.Compare (PySem.Expr.Name (PySem.Str.ofString "i") _) _ _ _) _ _ _) _) _ _ _); (with_reducible rename AskN _ _ _ _ _ => hAnX); k_while_given ["argstr", "start!"] (fun x st0 _ i ls st ln => Qn x st0 i ls st ln) (fun x _ _ i _ _ _ => (x.length - i).toNat) "i" "lastslash" "start" "ln"))
local macro_rules | `(tactic| walk_at "inplaceOp Add str str") => `(tactic| (k_here; (first | ((with_reducible rename EndN _ _ _ _ _ _ _ => hEn); (have hEp := hEn.pos)) | ((with_reducible rename Qn _ _ _ _ _ _ => hQn); (have hQp := qn_pos hQn))); k_dflt (refine' iadd_to ?k1 ?k2 ?_; (case k1 => omega); (case k2 => omega)); intro z' t' tk' hz'))
local macro_rules | `(tactic| walk_at "isTrue Compare") => `(tactic| (k_here; (fail_if_success (rename InTold => hJ)); (with_reducible show wpAny _ _ (PySem.isTrue (PySem.Expr.Compare (PySem.Expr.Call (PySem.Expr.Name (PySem.Str.ofString "_law_told") _) _ _ _) [PySem.CmpOp.NotEq] _ _) _ _) _ _ _); k_dflt (refine' bool_meet false ?F ?N ?h ?_; (case F => k_asm); (case N => k_asm); (case h => (intro hJ; k_steps; done))); intro h' tk' F' N'; (try k_sweep)))
local macro_rules | `(tactic| walk_at "BoolEnd") => `(tactic| (refine boolEnd (by with_reducible assumption) (by with_reducible assumption) (by intro p hp; repeat (first | exact hp | refine List.Mem.tail _ ?_)) rfl))
local macro_rules | `(tactic| walk_at "eval IfExp") => `(tactic| (k_here; (fail_if_success (rename InBad => hJ)); (with_reducible show wpAny _ _ (PySem.eval (PySem.Expr.IfExp (PySem.Expr.Compare (PySem.Expr.Name (PySem.Str.ofString "bad") _) _ _ _) _ _ _) _) _ _ _); k_dflt (refine' bad_meet ?k1 ?k2 ?h ?_; (case k1 => k_asm); (case k2 => with_unfolding_all rfl); (case h => (intro hJ; k_steps; done))); intro y' t' tk' hBY' hYl'))
local macro_rules | `(tactic| walk_at "BadEnd") => `(tactic| (first | exact badEnd_x (by with_reducible assumption) | exact badEnd_e (by with_reducible assumption) | exact badEnd_e (Bool.eq_false_iff.mpr (by with_reducible assumption)) | (fail "badend")))
local macro_rules | `(tactic| walk_at "call builtin:len") => `(tactic| (k_here; (with_reducible show wpAny _ _ (PySem.call (Value.builtin "len") [Value.str _ _]) _ _ _); (refine' len_text ?k1 ?_; (case k1 => (have hLs := lens4); (obtain ⟨hLa, hLb, hLc, hLd, hLe⟩ := hLs); first | omega | ((have hBl := bld4_lens (by with_reducible assumption)); omega) | (fail "len2"))); intro t' tk'))
local macro_rules | `(tactic| walk_at "exec If Compare cons nil") => `(tactic| (k_here; (fail_if_success (with_reducible rename EndN _ _ _ _ _ _ _ => hEnX)); (with_reducible show wpAny _ _ (PySem.exec (PySem.Stmt.If (PySem.Expr.Compare (PySem.Expr.Subscript _ _ _) _ _ _) _ _ _) _) _ _ _); (with_reducible rename Qn _ _ _ _ _ _ => hQn); first | (have hEn := askn_end (by with_reducible assumption) hQn (by with_reducible assumption) (by with_reducible assumption)) | (have hEn := askn_stop (by with_reducible assumption) hQn (by with_reducible assumption) (by with_reducible assumption) (by with_reducible assumption) (by with_reducible assumption)) | (exfalso; exact askn_bad_end (by with_reducible assumption) hQn (by with_reducible assumption) (by with_reducible assumption)) | (exfalso; exact askn_bad_stop (by with_reducible assumption) hQn (by with_reducible assumption) (by with_reducible assumption) (by with_reducible assumption) (by with_reducible assumption)) | (fail "endn")))
local macro_rules | `(tactic| walk_at "compareOp NotEq ref ref") => `(tactic| (k_here; (with_reducible show wpAny _ _ (compareOp CmpOp.NotEq (Value.ref _) (Value.ref _)) _ _ _); (with_reducible rename EndN _ _ _ _ _ _ _ => hEn); (have hT1 := hEn.place); (have hT2 : True := trivial); (first | (have hT3 := endn_name1 hEn (by with_reducible assumption)) | (have hT3 := endn_name0 hEn (by with_reducible assumption))); k_dflt (refine told_ne hT1 rfl hT3 (ask_strOk (by with_reducible assumption)) (askn_strOk (by with_reducible assumption)) (by ked_read) (by ked_read) (by ke_room) ?_)))
local macro_rules | `(tactic| walk_at "exec Raise some none") => `(tactic| (k_here; (with_reducible show wpAny _ _ (PySem.exec (PySem.Stmt.Raise (some (PySem.Expr.Call (PySem.Expr.Name _ _) (_ :: _) [] _)) none _) _) _ _ _); k_dflt (refine' Raise_I ?F ?X ?T ?ex ?hi ?q ?hf ?hfc ?hh (fun hExcI => ?_) ?a ?b ?c ?d ?e; (case F => with_reducible assumption); (case X => with_reducible assumption); (case T => k_asm); (case ex => k_is); (case hi => k_is); (case q => kernel_rfl!); (case hf => k_is); (case hfc => rfl); (case hh => first | rfl | assumption); (case a => rfl); (case b => rfl); (case c => rfl); (case d => rfl); (case e => decide))))
local macro_rules | `(tactic| walk_at "RaiseLeaf") => `(tactic| (k_dflt (refine' raise_leaf ?F ?N ?l (fun T' e' h' cls' hcls' F' N' l1 l2 hNe1' hNe2' => ?_); (case F => with_reducible assumption); (case N => with_reducible assumption); (case l => (simp only [List.length_cons, List.length_nil]; omega))); (k_lt l1); (k_lt2 l2)))
local macro_rules | `(tactic| walk_at "setAttr ref") => `(tactic| (k_here; (with_reducible rename (excI _ _ _ = true) => hEx); first | ((with_reducible rename ExcH _ _ _ _ _ _ _ _ => hXH); k_dflt (refine' store_more ?F ?N hXH (cls_of ?X hEx) ?x ?k (fun h' tk' F' N' hXH' => ?_); (case F => with_reducible assumption); (case N => with_reducible assumption); (case X => exact Frag.In.keeps (by with_reducible assumption) (Fr.keep (by with_reducible assumption))); (case x => decide +kernel); (case k => decide)); (clear hXH)) | (k_dflt (refine' store_born ?F ?N ?n (cls_of ?X hEx) ?x (fun h' tk' F' N' hXH' => ?_); (case F => with_reducible assumption); (case N => with_reducible assumption); (case n => (first | with_reducible assumption | (simp only [List.forall_mem_cons]; omega))); (case X => exact Frag.In.keeps (by with_reducible assumption) (Fr.keep (by with_reducible assumption))); (case x => decide +kernel)))))
local macro_rules | `(tactic| walk_at "call builtin:str.encode") => `(tactic| (k_here; k_dflt (refine' encode_call ?x ?l ?_; (case l => omega); (case x => exact askn_enc (by with_reducible assumption))); intro b' t' tk'))
local macro_rules | `(tactic| walk_at "InitEnd") => `(tactic| (k_dflt (refine' init_end ?F ?N ?G ?H ?n ?C (fun hh' hMI' F' N' => ?_); (case F => with_reducible assumption); (case N => with_reducible assumption); (case H => with_reducible assumption); (case G => with_reducible assumption); (case n => with_reducible assumption); (case C => exact (Fr.keep (by with_reducible assumption)) _ _ (by with_reducible assumption)))))
local macro_rules | `(tactic| walk_at "leaving ref") => `(tactic| (k_here; (refine' leave_I ?k1 ?k0 ?k2 ?k3 ?_; (case k0 => assumption); (case k1 => assumption); (case k2 => assumption); (case k3 => k_asm); k_whole; intro h' t' R' RK' U'; (try dsimp only at R' U' ⊢))))
local macro_rules | `(tactic| walk_at "getMethod str") => `(tactic| (k_here; with_reducible refine encode_get ?_))
local macro_rules | `(tactic| walk_at "exec Raise some none") => `(tactic| (exfalso; exact askn_noend (by with_reducible assumption) (by with_reducible assumption) (by with_reducible assumption) (by with_reducible assumption)))
local macro_rules | `(tactic| walk_at "subscriptTail Name Call ref int") => `(tactic| (k_here; (with_reducible show wpAny _ _ (subscriptTail (PySem.Expr.Name (PySem.Str.ofString "others") _) _ (Value.ref _) (Value.int _ _)) _ _ _); k_dflt (refine' item_menu ?k1 ?k2 ?k3 ?k4 ?k5 10 ?k6 ?_; (case k1 => ktb_isList); (case k2 => repeat constructor); (case k3 => omega); (case k4 => (simp only [List.length_cons, List.length_nil]; omega)); (case k5 => omega); (case k6 => decide +kernel)); intro t' e' hE' hEl'))
local macro_rules | `(tactic| walk_at "eval Call Attribute") => `(tactic| (k_here; (fail_if_success (rename InSkip => hJ)); (with_reducible show wpAny _ _ (PySem.eval (PySem.Expr.Call (PySem.Expr.Attribute (PySem.Expr.Name (PySem.Str.ofString "self") _) (PySem.Str.ofString "skipSpace") _) _ _ _) _) _ _ _); (first | (have hAsk := ask_bad (by with_reducible assumption) (by with_reducible assumption) (by with_reducible assumption) (by with_reducible assumption) (by with_reducible assumption) (by with_reducible assumption) (by with_reducible assumption) (by with_reducible assumption) (by with_reducible assumption) (by with_reducible assumption)) | (have hAsk := ask_fine (by with_reducible assumption) (by with_reducible assumption) (by with_reducible assumption) (by with_reducible assumption) (by with_reducible assumption) (by with_reducible assumption) (by with_reducible assumption) (by with_reducible assumption))); (have hBl := bld4_lens (by with_reducible assumption)); (have hLs := lens4); (obtain ⟨hLa, hLb, hLc, hLd, hLe⟩ := hLs); (have hAskL := ask_le hAsk (by omega)); k_dflt (refine' skip_meet hAsk ?F ?N ?h ?_; (case F => with_reducible assumption); (case N => with_reducible assumption); (case h => (intro hJ; k_steps; done))); intro t' li' so' t1' t2' h' tk' F' N'))
local macro_rules | `(tactic| walk_at "SkipEnd") => `(tactic| ((with_reducible rename Blk _ _ _ => hBlk); (first | (have hI := ask_some (by with_reducible assumption) hBlk (by with_reducible assumption) (by first | exact nb1 (by with_reducible assumption) | exact nb2 (by with_reducible assumption)) (by with_reducible assumption) (by with_reducible assumption) (by with_reducible assumption)) | (have hI := ask_word (by with_reducible assumption) hBlk (by with_reducible assumption) (by first | exact nb1 (by with_reducible assumption) | exact nb2 (by with_reducible assumption)) (by first | exact nm1 (by with_reducible assumption) | exact nm2 (by with_reducible assumption) | exact nm3 (by with_reducible assumption) | exact nm4 (by with_reducible assumption)))); (refine' skipEnd ?F ?N ?hs hI; (case F => with_reducible assumption); (case N => with_reducible assumption); (case hs => intro p hp; repeat (first | exact hp | refine List.Mem.tail _ ?_)))))
local macro_rules | `(tactic| walk_at "exec If Compare cons cons") => `(tactic| (k_here; (fail_if_success (rename InPre => hJ)); (with_reducible show wpAny _ _ (PySem.exec (PySem.Stmt.If (PySem.Expr.Compare (PySem.Expr.Name (PySem.Str.ofString "c") _) [PySem.CmpOp.NotIn] [PySem.Expr.Name (PySem.Str.ofString "_notNameChars") _] _) _ _ _) _) _ _ _); (with_reducible rename Ask _ _ _ _ _ _ => hAskJ); k_dflt (refine' pre_meet hAskJ ?F ?N ?h ?_; (case F => with_reducible assumption); (case N => with_reducible assumption); (case h => (intro hJ; k_steps; done))); intro iv' t1' t2' h' tk' U' hPF' F' N'; (have hPp := hPF'.pos); (have hPn := hPF'.name); (obtain ⟨c', l', hPd', hPc'⟩ := hPF'.colon)))
local macro_rules | `(tactic| walk_at "PreEnd") => `(tactic| (first | ((with_reducible rename Wd _ _ _ => hWd); (have hP := pre_w hWd (by with_reducible assumption) (by with_reducible assumption) (by with_reducible assumption)); (have hE := ask_slice (by with_reducible assumption) hWd (by with_reducible assumption) (by with_reducible assumption)); (refine preEnd hP hE (by with_reducible assumption) (by with_reducible assumption) (by intro p hp; repeat (first | exact hp | refine List.Mem.tail _ ?_)) (by first | rfl | with_unfolding_all rfl) (by first | rfl | with_unfolding_all rfl) (by intro y h1 h2 h3; first | rfl | (simp only [h1, h2, h3, if_false, ite_false, ↓reduceIte, List.contains_nil, List.elem_nil, Bool.false_eq_true]; done) | (simp [h1, h2, h3]; done) | (fail)))) | ((have hP := pre_n (by with_reducible assumption) (by with_reducible assumption) (by with_reducible assumption)); (have hE := pre_e (by with_reducible assumption) (by with_reducible assumption) (by with_reducible assumption)); (refine preEnd hP hE (by with_reducible assumption) (by with_reducible assumption) (by intro p hp; repeat (first | exact hp | refine List.Mem.tail _ ?_)) (by first | rfl | with_unfolding_all rfl) (by first | rfl | with_unfolding_all rfl) (by intro y h1 h2 h3; first | rfl | (simp only [h1, h2, h3, if_false, ite_false, ↓reduceIte, List.contains_nil, List.elem_nil, Bool.false_eq_true]; done) | (simp [h1, h2, h3]; done) | (fail))))))
set_option maxRecDepth 100000 in
set_option maxHeartbeats 16000000 in
theorem PySem.Challenge.cw_ez0313_04_holds : PySem.Challenge.rw_ez0313_04.Holds := by
  k_with "table" => skip
  k_with "pyIter ref" => (k_of "number" => k_state (fun pre w n => Mine.Bld4 pre.length w n) "written" "name")
  open_k
