import PyProof.Rows.All
import Wide.All
import OpenK.AllK
import Wide.FinOn
import Lean
import PySem.Challenge.RW_ez0313_03
set_option Elab.async false
set_option linter.all false
set_option maxRecDepth 100000
-- Rx1
set_option autoImplicit false
namespace Mine
open PySem.Sre

def It : Nat → M → M
  | 0, m => m
  | n + 1, m => It n m.step

theorem It_add (a b : Nat) : ∀ m : M, It (a + b) m = It b (It a m) := by
  induction a with
  | zero => intro m; rw [Nat.zero_add]; rfl
  | succ a ih => intro m; rw [Nat.succ_add]; exact ih m.step

theorem step_of_some {m : M} (h : m.outcome.isSome = true) : m.step = m := by
  unfold M.step
  rw [if_pos h]

theorem It_of_some {m : M} (h : m.outcome.isSome = true) : ∀ n, It n m = m
  | 0 => rfl
  | n + 1 => by show It n m.step = m; rw [step_of_some h]; exact It_of_some h n

theorem runFor_eq (n : Nat) : ∀ m : M, M.runFor n m = It n m := by
  induction n with
  | zero => intro m; rfl
  | succ n ih =>
    intro m
    unfold M.runFor
    by_cases h : m.outcome.isSome = true
    · rw [if_pos h]; exact (It_of_some h (n + 1)).symm
    · rw [if_neg h]; exact ih m.step

theorem It_same {m : M} {a b : Nat} (ha : (It a m).outcome.isSome = true) (hb : (It b m).outcome.isSome = true) : It a m = It b m := by
  rcases Nat.le_total a b with h | h
  · obtain ⟨d, rfl⟩ := Nat.exists_eq_add_of_le h
    rw [It_add, It_of_some ha]
  · obtain ⟨d, rfl⟩ := Nat.exists_eq_add_of_le h
    rw [It_add, It_of_some hb]

def Goes (c : Nat) (m : M) (P : M → Prop) : Prop := ∃ k, k ≤ c ∧ P (It k m)
theorem Goes.done {c : Nat} {m : M} {P : M → Prop} (h : P m) : Goes c m P := ⟨0, Nat.zero_le _, h⟩
theorem Goes.step {c : Nat} {m : M} {P : M → Prop} (h : Goes c m.step P) : Goes (c + 1) m P := by
  obtain ⟨k, hk, hp⟩ := h
  exact ⟨k + 1, Nat.succ_le_succ hk, hp⟩
theorem Goes.bind {c d : Nat} {m : M} {P Q : M → Prop} (h : Goes c m P) (h2 : ∀ m', P m' → Goes d m' Q) : Goes (c + d) m Q := by
  obtain ⟨k, hk, hp⟩ := h
  obtain ⟨j, hj, hq⟩ := h2 _ hp
  exact ⟨k + j, Nat.add_le_add hk hj, by rw [It_add]; exact hq⟩
theorem Goes.le {c d : Nat} {m : M} {P : M → Prop} (h : Goes c m P) (hd : c ≤ d) : Goes d m P := by
  obtain ⟨k, hk, hp⟩ := h
  exact ⟨k, Nat.le_trans hk hd, hp⟩
theorem Goes.mono {c : Nat} {m : M} {P Q : M → Prop} (h : Goes c m P) (hq : ∀ m', P m' → Q m') : Goes c m Q := by
  obtain ⟨k, hk, hp⟩ := h
  exact ⟨k, hk, hq _ hp⟩

def Wt (fs : List Frame) : Nat := match fs with
  | [] => 0
  | f :: r => (1 + f.kept.marks.size) + Wt r

structure Regs where
  marks : Array (Option Nat)
  lm : Int
  li : Int
  loops : Array Loop
  inner : Option Nat

def St (b : M) (r : Regs) (pc pos handed : Nat) (om : Bool) (fs : List Frame) (ans : Option Bool) (sn : Seen) : M :=
  { b with pc := pc, pos := pos, handed := handed, outermost := om, marks := r.marks, lastmark := r.lm, lastindex := r.li, loops := r.loops, inner := r.inner, frames := fs, weight := Wt fs, answer := ans, seen := sn, outcome := none }

/-- the list of signs from a place on -/
def Rest (b : M) (p : Nat) : List Nat := b.text.toList.drop p

structure Base (b : M) : Prop where
  lim : b.lim = b.text.size
  small : b.text.size ≤ 16777216
  whole : b.wholeText = false

section
variable {b : M} {r : Regs} {pc pos hd : Nat} {om : Bool} {fs : List Frame} {sn : Seen} {P : M → Prop} {c : Nat}

theorem getD_rest {T : Array Nat} {p : Nat} {x : Nat} {l : List Nat} (h : T.toList.drop p = x :: l) : T.getD p 0 = x := by
  have h2 : T.toList[p]? = some x := by
    have : (T.toList.drop p)[0]? = some x := by rw [h]; rfl
    rwa [List.getElem?_drop, Nat.add_zero] at this
  rw [Array.getD_eq_getD_getElem?, ← Array.getElem?_toList, h2]; rfl

theorem lt_of_rest {T : Array Nat} {p : Nat} {x : Nat} {l : List Nat} (h : T.toList.drop p = x :: l) : p < T.size := by
  have h2 : (T.toList.drop p).length = l.length + 1 := by rw [h]; rfl
  rw [List.length_drop, Array.length_toList] at h2
  omega
theorem rest_succ {T : Array Nat} {p : Nat} {x : Nat} {l : List Nat} (h : T.toList.drop p = x :: l) : T.toList.drop (p + 1) = l := by
  rw [← List.drop_drop, h]; rfl
theorem ge_of_rest {T : Array Nat} {p : Nat} (h : T.toList.drop p = []) : T.size ≤ p := by
  have h2 : (T.toList.drop p).length = 0 := by rw [h]; rfl
  rw [List.length_drop, Array.length_toList] at h2
  omega

theorem op0 : ops[0]? = some .FAILURE := rfl
theorem op1 : ops[1]? = some .SUCCESS := rfl
theorem op6 : ops[6]? = some .AT := rfl
theorem op9 : ops[9]? = some .CHARSET := rfl
theorem op13 : ops[13]? = some .IN := rfl
theorem op14 : ops[14]? = some .INFO := rfl
theorem op16 : ops[16]? = some .LITERAL := rfl
theorem op17 : ops[17]? = some .MARK := rfl
theorem op18 : ops[18]? = some .MAX_UNTIL := rfl
theorem op20 : ops[20]? = some .NOT_LITERAL := rfl
theorem op23 : ops[23]? = some .REPEAT := rfl
theorem op24 : ops[24]? = some .REPEAT_ONE := rfl

/-- one exec step, when nothing is answered -/
theorem step_exec (hpc : pc < b.code.size) : (St b r pc pos hd om fs none sn).step = (St b r pc pos hd om fs none sn).exec := by
  unfold M.step
  simp [St, hpc]

def keepOf (r : Regs) (whole : Bool) : Kept := { lastmark := r.lm, lastindex := r.li, whole := whole, marks := if whole then r.marks.extract 0 (r.lm + 1).toNat else #[] }
def putR (r : Regs) (k : Kept) : Regs := { r with lm := k.lastmark, li := k.lastindex, marks := if k.whole then k.marks ++ r.marks.extract k.marks.size r.marks.size else r.marks }
theorem keepOf_small {r : Regs} (hk : r.marks.size ≤ 8) (wh : Bool) : (keepOf r wh).marks.size ≤ 8 := by
  unfold keepOf
  dsimp only
  split
  · rw [Array.size_extract]; omega
  · simp
theorem wt_comm (n k : Nat) : n + 1 + k = 1 + k + n := by omega
theorem wt_ok {k : Kept} (hw : Wt fs ≤ 1000) (hk : k.marks.size ≤ 8) : ¬ (Wt fs + 1 + k.marks.size > 16777216) := by omega

theorem g_lit_ok (hpc : pc < b.code.size) (h0 : b.code.getD pc 0 = 16) {x : Nat} {l : List Nat} (B : Base b) (hx : Rest b pos = x :: l) (hc : b.code.getD (pc + 1) 0 = x)
    (h : ∀ sn, Goes c (St b r (pc + 2) (pos + 1) hd om fs none sn) P) : Goes (c + 1) (St b r pc pos hd om fs none sn) P := by
  refine Goes.step ?_
  rw [step_exec hpc]
  have hlt := lt_of_rest hx
  have hg := getD_rest hx
  have e1 : ¬ (pos ≥ b.text.size) := by omega
  have e : (St b r pc pos hd om fs none sn).exec = St b r (pc + 2) (pos + 1) hd om fs none (sn.add 16) := by
    simp only [M.exec, St, M.word, Nat.add_zero, h0, op16, accepts, hc, hg, B.lim, if_neg e1, itemWidth, beq_self_eq_true]
  rw [e]; exact h _

theorem g_lit_no (hpc : pc < b.code.size) (h0 : b.code.getD pc 0 = 16) (B : Base b) (hx : ∀ x l, Rest b pos = x :: l → b.code.getD (pc + 1) 0 ≠ x)
    (h : ∀ sn, Goes c (St b r pc pos hd om fs (some false) sn) P) : Goes (c + 1) (St b r pc pos hd om fs none sn) P := by
  refine Goes.step ?_
  rw [step_exec hpc]
  have e : ∃ sn', (St b r pc pos hd om fs none sn).exec = St b r pc pos hd om fs (some false) sn' := by
    by_cases e1 : pos ≥ b.text.size
    · exact ⟨sn.add 16, by simp only [M.exec, St, M.word, Nat.add_zero, h0, op16, B.lim, if_pos e1, M.say]⟩
    · have hlt : pos < b.text.toList.length := by rw [Array.length_toList]; omega
      have hx' := hx _ _ (List.drop_eq_getElem_cons hlt)
      have hg := getD_rest (List.drop_eq_getElem_cons hlt)
      have hne : (b.text.getD pos 0 == b.code.getD (pc + 1) 0) = false := by
        rw [hg]; exact beq_eq_false_iff_ne.mpr (Ne.symm hx')
      exact ⟨sn.add 16, by simp only [M.exec, St, M.word, Nat.add_zero, h0, op16, B.lim, if_neg e1, M.say, accepts, hne]⟩
  obtain ⟨sn', e⟩ := e
  rw [e]; exact h _

theorem g_mark (hpc : pc < b.code.size) (h0 : b.code.getD pc 0 = 17) {k : Nat} (hk : b.code.getD (pc + 1) 0 = k) (hlm : (k : Int) = r.lm + 1)
    (h : ∀ sn, Goes c (St b { r with marks := r.marks.setIfInBounds k (some pos), lm := k, li := if k % 2 == 1 then ((k / 2 + 1 : Nat) : Int) else r.li } (pc + 2) pos hd om fs none sn) P) : Goes (c + 1) (St b r pc pos hd om fs none sn) P := by
  refine Goes.step ?_
  rw [step_exec hpc]
  have e1 : max r.lm (k : Int) = (k : Int) := by omega
  have e2 : ((k : Int) ≤ r.lm + 1) := by omega
  have e : (St b r pc pos hd om fs none sn).exec = St b { r with marks := r.marks.setIfInBounds k (some pos), lm := k, li := if k % 2 == 1 then ((k / 2 + 1 : Nat) : Int) else r.li } (pc + 2) pos hd om fs none (sn.add 17) := by
    simp only [M.exec, St, M.word, Nat.add_zero, h0, op17, M.mark, hk, e1, if_pos e2]
  rw [e]; exact h _

theorem g_rep1 (hpc : pc < b.code.size) (h0 : b.code.getD pc 0 = 24) (B : Base b) {w1 least most n : Nat} (h1 : b.code.getD (pc + 1) 0 = w1) (h2 : b.code.getD (pc + 2) 0 = least) (h3 : b.code.getD (pc + 3) 0 = most)
    (hpos : pos + least ≤ b.text.size) (hrun : ∀ sn, ∃ sn', run b.code b.text (pc + 4) (min most (b.text.size - pos)) pos 0 sn = .ok (n, sn')) (hn : least ≤ n) (hw : Wt fs ≤ 1000) (hk : r.marks.size ≤ 8)
    (h : ∀ sn, Goes c (St b r (pc + 1 + w1) (pos + n) (pos + n) om ({ wait := .giveBack, pc := pc, pos := pos + n, outermost := om, count := n, kept := keepOf r r.inner.isSome } :: fs) none sn) P) : Goes (c + 1) (St b r pc pos hd om fs none sn) P := by
  refine Goes.step ?_
  rw [step_exec hpc]
  obtain ⟨sn', hr⟩ := hrun ((sn.add 24).add (b.code.getD (pc + 4) 0))
  have hroom : ((b.text.size : Int) - (pos : Int)).toNat = b.text.size - pos := by omega
  have hl : ¬ ((least : Int) > (b.text.size : Int) - (pos : Int)) := by omega
  have hn' : ¬ (n < least) := by omega
  have hwt := wt_ok (fs := fs) hw (keepOf_small hk r.inner.isSome)
  have e : (St b r pc pos hd om fs none sn).exec = St b r (pc + 1 + w1) (pos + n) (pos + n) om ({ wait := .giveBack, pc := pc, pos := pos + n, outermost := om, count := n, kept := keepOf r r.inner.isSome } :: fs) none sn' := by
    simp only [M.exec, St, M.word, Nat.add_zero, h0, op24, h1, h2, h3, B.lim, hroom, if_neg hl, Bool.false_eq_true, if_false, hr, if_neg hn', M.afterRun, M.attempt, M.frame]
    rw [if_neg (by exact hwt)]
    simp only [M.keep, keepOf, Wt]
    rw [wt_comm (Wt fs)]
  rw [e]; exact h _

theorem g_repeat (hpc : pc < b.code.size) (h0 : b.code.getD pc 0 = 23) {w1 : Nat} (h1 : b.code.getD (pc + 1) 0 = w1) (hw : Wt fs ≤ 1000)
    (h : ∀ sn, Goes c (St b { r with loops := r.loops.push { pc := pc, outer := r.inner }, inner := some r.loops.size } (pc + 1 + w1) pos pos om ({ wait := .closeLoop, pc := pc, pos := pos, outermost := om, loop := r.loops.size } :: fs) none sn) P) : Goes (c + 1) (St b r pc pos hd om fs none sn) P := by
  refine Goes.step ?_
  rw [step_exec hpc]
  have hwt : ¬ (Wt fs + 1 + (#[] : Array (Option Nat)).size > 16777216) := by simp; omega
  have e : (St b r pc pos hd om fs none sn).exec = St b { r with loops := r.loops.push { pc := pc, outer := r.inner }, inner := some r.loops.size } (pc + 1 + w1) pos pos om ({ wait := .closeLoop, pc := pc, pos := pos, outermost := om, loop := r.loops.size } :: fs) none (sn.add 23) := by
    simp only [M.exec, St, M.word, Nat.add_zero, h0, op23, h1, M.attempt, M.frame]
    rw [if_neg (by exact hwt)]
    simp only [Wt]
    rw [wt_comm (Wt fs)]
  rw [e]; exact h _

/-- the one-turn group: the loop's record stands alone -/
def lp (q : Nat) (n : Int) (bg : Option Nat) : Loop := { pc := q, count := n, began := bg, outer := none }
theorem lp_at (q : Nat) (n : Int) (bg : Option Nat) (d : Loop) : Array.getD #[lp q n bg] 0 d = lp q n bg := rfl
theorem lp_mod (q : Nat) (n : Int) (bg : Option Nat) (f : Loop → Loop) : Array.modify #[lp q n bg] 0 f = #[f (lp q n bg)] := by
  rfl
theorem lp_pc (q : Nat) (n : Int) (bg : Option Nat) : (lp q n bg).pc = q := rfl
theorem lp_count (q : Nat) (n : Int) (bg : Option Nat) : (lp q n bg).count = n := rfl
theorem lp_began (q : Nat) (n : Int) (bg : Option Nat) : (lp q n bg).began = bg := rfl
theorem lp_outer (q : Nat) (n : Int) (bg : Option Nat) : (lp q n bg).outer = none := rfl

theorem g_until_more (hpc : pc < b.code.size) (h0 : b.code.getD pc 0 = 18) {q : Nat} (hlo : r.loops = #[lp q (-1) none]) (hin : r.inner = some 0) (hl : b.code.getD (q + 2) 0 = 0) (hm : b.code.getD (q + 3) 0 = 1) (hw : Wt fs ≤ 1000) (hk : r.marks.size ≤ 8)
    (h : ∀ sn, Goes c (St b { r with loops := #[lp q 0 (some pos)] } (q + 4) pos pos om ({ wait := .maxMore, pc := pc + 1, pos := pos, outermost := om, loop := 0, count := 0, kept := keepOf r true, began := none } :: fs) none sn) P) : Goes (c + 1) (St b r pc pos hd om fs none sn) P := by
  refine Goes.step ?_
  rw [step_exec hpc]
  have hwt := wt_ok (fs := fs) hw (keepOf_small hk true)
  obtain ⟨mk, lm, li, los, inn⟩ := r
  dsimp only at hlo hin; subst hlo; subst hin
  have e : (St b ⟨mk, lm, li, #[lp q (-1) none], some 0⟩ pc pos hd om fs none sn).exec = St b { marks := mk, lm := lm, li := li, inner := some 0, loops := #[lp q 0 (some pos)] } (q + 4) pos pos om ({ wait := .maxMore, pc := pc + 1, pos := pos, outermost := om, loop := 0, count := 0, kept := keepOf ⟨mk, lm, li, #[lp q (-1) none], some 0⟩ true, began := none } :: fs) none (sn.add 18) := by
    simp only [M.exec, St, M.word, Nat.add_zero, h0, op18, M.until_, M.loopAt, lp_at, lp_pc, lp_count, lp_began, hl, hm]
    rw [if_neg (by decide), if_neg (by decide), if_pos (by rfl)]
    simp only [M.round, M.setLoop, M.loopAt, M.attempt, M.frame, lp_mod, lp_at, lp_pc, lp_began]
    rw [if_neg (by exact hwt)]
    simp only [Wt]
    rw [wt_comm (Wt fs)]
    rfl
  rw [e]; exact h _

theorem g_until_tail (hpc : pc < b.code.size) (h0 : b.code.getD pc 0 = 18) {q : Nat} {bg : Option Nat} (hlo : r.loops = #[lp q 0 bg]) (hin : r.inner = some 0) (hl : b.code.getD (q + 2) 0 = 0) (hm : b.code.getD (q + 3) 0 = 1) (hw : Wt fs ≤ 1000)
    (h : ∀ sn, Goes c (St b { r with inner := none } (pc + 1) pos pos om ({ wait := .maxTail, pc := pc + 1, pos := pos, outermost := om, loop := 0, count := 1, kept := keepOf r false } :: fs) none sn) P) : Goes (c + 1) (St b r pc pos hd om fs none sn) P := by
  refine Goes.step ?_
  rw [step_exec hpc]
  have hwt : ¬ (Wt fs + 1 + (#[] : Array (Option Nat)).size > 16777216) := by simp; omega
  obtain ⟨mk, lm, li, los, inn⟩ := r
  dsimp only at hlo hin; subst hlo; subst hin
  have e : (St b ⟨mk, lm, li, #[lp q 0 bg], some 0⟩ pc pos hd om fs none sn).exec = St b { marks := mk, lm := lm, li := li, inner := none, loops := #[lp q 0 bg] } (pc + 1) pos pos om ({ wait := .maxTail, pc := pc + 1, pos := pos, outermost := om, loop := 0, count := 1, kept := keepOf ⟨mk, lm, li, #[lp q 0 bg], some 0⟩ false } :: fs) none (sn.add 18) := by
    simp only [M.exec, St, M.word, Nat.add_zero, h0, op18, M.until_, M.loopAt, lp_at, lp_pc, lp_count, lp_began, hl, hm]
    rw [if_neg (by decide), if_neg (by decide), if_neg (by simp [maxRepeat])]
    simp only [M.afterLoop, M.loopAt, M.attempt, M.frame, lp_at, lp_outer]
    refine (if_neg (by exact hwt)).trans ?_
    simp only [Wt]
    rw [wt_comm (Wt fs)]
    rfl
  rw [e]; exact h _

theorem g_at_end (hpc : pc < b.code.size) (h0 : b.code.getD pc 0 = 6) (h1 : b.code.getD (pc + 1) 0 = 5) (B : Base b) (hx : Rest b pos = [] ∧ pos ≤ b.text.size ∨ Rest b pos = [10])
    (h : ∀ sn, Goes c (St b r (pc + 2) pos hd om fs none sn) P) : Goes (c + 1) (St b r pc pos hd om fs none sn) P := by
  refine Goes.step ?_
  rw [step_exec hpc]
  have hb : (pos == b.text.size || (pos + 1 == b.text.size && b.text.getD pos 0 == 10)) = true := by
    rcases hx with ⟨hx, hp⟩ | hx
    · have := ge_of_rest hx
      have e : pos = b.text.size := by omega
      simp [e]
    · have h1 := lt_of_rest hx
      have h2 := ge_of_rest (rest_succ hx)
      have e : pos + 1 = b.text.size := by omega
      rw [getD_rest hx]
      simp [e]
  have e : (St b r pc pos hd om fs none sn).exec = St b r (pc + 2) pos hd om fs none ((sn.add 6).add 48) := by
    simp only [M.exec, St, M.word, Nat.add_zero, h0, op6, h1, M.isAt, B.lim, hb, if_true]
  rw [e]; exact h _
theorem g_at_no (hpc : pc < b.code.size) (h0 : b.code.getD pc 0 = 6) (h1 : b.code.getD (pc + 1) 0 = 5) (B : Base b) (hx : Rest b pos ≠ []) (hx2 : Rest b pos ≠ [10])
    (h : ∀ sn, Goes c (St b r pc pos hd om fs (some false) sn) P) : Goes (c + 1) (St b r pc pos hd om fs none sn) P := by
  refine Goes.step ?_
  rw [step_exec hpc]
  have hb : (pos == b.text.size || (pos + 1 == b.text.size && b.text.getD pos 0 == 10)) = false := by
    rw [Bool.eq_false_iff]
    intro hh
    rw [Bool.or_eq_true, Bool.and_eq_true, beq_iff_eq, beq_iff_eq, beq_iff_eq] at hh
    unfold Rest at hx hx2
    rcases hh with hh | ⟨hh, h10⟩
    · exact hx (List.drop_of_length_le (by rw [Array.length_toList]; omega))
    · have hlt : pos < b.text.toList.length := by rw [Array.length_toList]; omega
      have q := List.drop_eq_getElem_cons hlt
      have g := getD_rest q
      rw [h10] at g
      rw [← g] at q
      have z : b.text.toList.drop (pos + 1) = [] := List.drop_of_length_le (by rw [Array.length_toList]; omega)
      rw [z] at q
      exact hx2 q
  have e : (St b r pc pos hd om fs none sn).exec = St b r pc pos hd om fs (some false) ((sn.add 6).add 48) := by
    simp only [M.exec, St, M.word, Nat.add_zero, h0, op6, h1, M.isAt, B.lim, hb, Bool.false_eq_true, if_false, M.say]
  rw [e]; exact h _

theorem g_success (hpc : pc < b.code.size) (h0 : b.code.getD pc 0 = 1) (B : Base b) (hm : b.mustAdvance = false)
    (h : ∀ sn, Goes c (St b r pc pos pos om fs (some true) sn) P) : Goes (c + 1) (St b r pc pos hd om fs none sn) P := by
  refine Goes.step ?_
  rw [step_exec hpc]
  have e : (St b r pc pos hd om fs none sn).exec = St b r pc pos pos om fs (some true) (sn.add 1) := by
    simp only [M.exec, St, M.word, Nat.add_zero, h0, op1, B.whole, hm, Bool.false_and, Bool.or_false, Bool.and_false, Bool.false_eq_true, if_false, M.say]
  rw [e]; exact h _

/-! answers -/
theorem step_answer {f : Frame} {yes : Bool} : (St b r pc pos hd om (f :: fs) (some yes) sn).step = M.resume (St b r f.pc f.pos hd f.outermost fs none sn) f yes := by
  unfold M.step
  rw [if_neg (by simp [St])]
  simp only [St, Wt, Nat.add_sub_cancel_left]

/-- the frames that hand a yes on -/
def passes (f : Frame) : Bool := match f.wait with
  | .nextStart | .giveBack | .closeLoop | .maxMore | .maxTail => true
  | _ => false
theorem t_pass {f : Frame} (hf : passes f = true) (h : ∀ r' pc pos om sn, r'.marks = r.marks → r'.lm = r.lm → r'.li = r.li → Goes c (St b r' pc pos hd om fs (some true) sn) P) : Goes (c + 1) (St b r pc pos hd om (f :: fs) (some true) sn) P := by
  refine Goes.step ?_
  rw [step_answer]
  obtain ⟨wt, fpc, fpos, fom, cn, kp, lo, bg⟩ := f
  cases wt <;> simp only [passes, Bool.false_eq_true] at hf
  · exact h r _ _ _ _ rfl rfl rfl
  · exact h r _ _ _ _ rfl rfl rfl
  · exact h { r with inner := (M.loopAt (St b r fpc fpos hd fom fs none sn) lo).outer, loops := r.loops.pop } _ _ _ _ rfl rfl rfl
  · exact h { r with loops := r.loops.modify lo fun l => { l with began := bg } } _ _ _ _ rfl rfl rfl
  · exact h { r with inner := some lo } _ _ _ _ rfl rfl rfl

theorem t_all : ∀ (fs : List Frame) (r : Regs) (pc pos hd : Nat) (om : Bool) (sn : Seen), (∀ f ∈ fs, passes f = true) →
    Goes (fs.length + 1) (St b r pc pos hd om fs (some true) sn) (fun m => m.outcome = some .matched ∧ m.start = b.start ∧ m.handed = hd ∧ m.marks = r.marks ∧ m.lastmark = r.lm ∧ m.lastindex = r.li)
  | [], r, pc, pos, hd, om, sn, _ => by
    refine Goes.step (Goes.done ?_)
    unfold M.step
    rw [if_neg (by simp [St])]
    simp [St]
  | f :: fs, r, pc, pos, hd, om, sn, h => by
    refine t_pass (h f (.head _)) (fun r' pc pos om sn e1 e2 e3 => ?_)
    rw [← e1, ← e2, ← e3]
    exact t_all fs r' pc pos hd om sn (fun g hg => h g (.tail _ hg))

theorem f_end : Goes 1 (St b r pc pos hd om [] (some false) sn) (fun m => m.outcome = some .failed) := by
  refine Goes.step (Goes.done ?_)
  unfold M.step
  rw [if_neg (by simp [St])]
  simp [St]

theorem putR_keep {r r' : Regs} (e : r'.marks = r.marks) : putR r' (keepOf r false) = { r' with lm := r.lm, li := r.li } := rfl

theorem b_give_out {f : Frame} (hf : f.wait = .giveBack) (h2 : b.code.getD (f.pc + 2) 0 = 0) (hn : f.count = 0)
    (h : ∀ pc pos om sn, Goes c (St b (putR r f.kept) pc pos hd om fs (some false) sn) P) : Goes (c + 1) (St b r pc pos hd om (f :: fs) (some false) sn) P := by
  refine Goes.step ?_
  rw [step_answer]
  obtain ⟨wt, fpc, fpos, fom, cn, kp, lo, bg⟩ := f
  dsimp only at hf h2 hn ⊢; subst hf; subst hn
  unfold M.resume
  simp only [Bool.false_eq_true, if_false, M.word, St, h2]
  rw [if_pos (by decide)]
  exact h fpc fpos fom sn

theorem b_give_more {f : Frame} {n : Nat} (hf : f.wait = .giveBack) (h2 : b.code.getD (f.pc + 2) 0 = 0) (hn : f.count = (n : Int) + 1) (hw : Wt fs ≤ 1000) (hk : f.kept.marks.size ≤ 8)
    (h : ∀ sn, Goes c (St b (putR r f.kept) (f.pc + 1 + b.code.getD (f.pc + 1) 0) (f.pos - 1) (f.pos - 1) f.outermost ({ wait := .giveBack, pc := f.pc, pos := f.pos - 1, outermost := f.outermost, count := n, kept := f.kept } :: fs) none sn) P) : Goes (c + 1) (St b r pc pos hd om (f :: fs) (some false) sn) P := by
  refine Goes.step ?_
  rw [step_answer]
  obtain ⟨wt, fpc, fpos, fom, cn, kp, lo, bg⟩ := f
  dsimp only at hf h2 hn hk h ⊢; subst hf; subst hn
  have hwt := wt_ok (fs := fs) hw hk
  unfold M.resume
  simp only [Bool.false_eq_true, if_false, M.word, St, h2]
  rw [if_neg (by omega)]
  simp only [M.afterRun, M.attempt, M.frame, M.word, M.putBack]
  rw [if_neg (by exact hwt)]
  have e : ((n : Int) + 1 - 1) = n := by omega
  have := h sn
  simp only [St, Wt, putR] at this
  rw [wt_comm (Wt fs), e]
  exact this

theorem b_more {f : Frame} {q : Nat} {n : Int} {bg : Option Nat} (hf : f.wait = .maxMore) (hlo : r.loops = #[lp q n bg]) (h0 : f.loop = 0) (hc : f.count = 0) (hb : f.began = none) (hw : Wt fs ≤ 1000)
    (h : ∀ sn, Goes c (St b { putR r f.kept with loops := #[lp q (-1) none], inner := none } f.pc f.pos f.pos f.outermost ({ wait := .maxTail, pc := f.pc, pos := f.pos, outermost := f.outermost, loop := 0, count := 0, kept := keepOf (putR r f.kept) false } :: fs) none sn) P) : Goes (c + 1) (St b r pc pos hd om (f :: fs) (some false) sn) P := by
  refine Goes.step ?_
  rw [step_answer]
  obtain ⟨wt, fpc, fpos, fom, cn, kp, lo, bg'⟩ := f
  obtain ⟨mk, lm, li, los, inn⟩ := r
  dsimp only at hf hlo h0 hc hb h ⊢; subst hf; subst hlo; subst h0; subst hc; subst hb
  have hwt : ¬ (Wt fs + 1 + (#[] : Array (Option Nat)).size > 16777216) := by simp; omega
  have e : M.resume (St b ⟨mk, lm, li, #[lp q n bg], inn⟩ fpc fpos hd fom fs none sn) { wait := .maxMore, pc := fpc, pos := fpos, outermost := fom, count := 0, kept := kp, loop := 0, began := none } false = St b { putR ⟨mk, lm, li, #[lp q n bg], inn⟩ kp with loops := #[lp q (-1) none], inner := none } fpc fpos fpos fom ({ wait := .maxTail, pc := fpc, pos := fpos, outermost := fom, loop := 0, count := 0, kept := keepOf (putR ⟨mk, lm, li, #[lp q n bg], inn⟩ kp) false } :: fs) none sn := by
    unfold M.resume
    simp only [Bool.false_eq_true, if_false, St, M.setLoop, M.putBack, lp_mod]
    rw [show ({ lp q n bg with began := none } : Loop) = lp q n none from rfl, lp_mod]
    rw [show ({ lp q n none with count := 0 - 1 } : Loop) = lp q (-1) none from rfl]
    simp only [M.afterLoop, M.loopAt, M.attempt, M.frame, lp_at, lp_outer, putR]
    generalize (if kp.whole = true then kp.marks ++ mk.extract kp.marks.size mk.size else mk) = mk'
    refine (if_neg (by exact hwt)).trans ?_
    simp only [Wt]
    rw [wt_comm (Wt fs)]
    rfl
  rw [e]; exact h _

theorem b_tail {f : Frame} (hf : f.wait = .maxTail) (h : ∀ pc pos om sn, Goes c (St b { r with inner := some f.loop } pc pos hd om fs (some false) sn) P) : Goes (c + 1) (St b r pc pos hd om (f :: fs) (some false) sn) P := by
  refine Goes.step ?_
  rw [step_answer]
  obtain ⟨wt, fpc, fpos, fom, cn, kp, lo, bg'⟩ := f
  dsimp only at hf h ⊢; subst hf
  exact h fpc fpos fom sn
theorem b_close {f : Frame} {q : Nat} {n : Int} {bg : Option Nat} (hf : f.wait = .closeLoop) (hlo : r.loops = #[lp q n bg]) (h0 : f.loop = 0)
    (h : ∀ pc pos om sn, Goes c (St b { r with inner := none, loops := #[] } pc pos hd om fs (some false) sn) P) : Goes (c + 1) (St b r pc pos hd om (f :: fs) (some false) sn) P := by
  refine Goes.step ?_
  rw [step_answer]
  obtain ⟨wt, fpc, fpos, fom, cn, kp, lo, bg'⟩ := f
  obtain ⟨mk, lm, li, los, inn⟩ := r
  dsimp only at hf hlo h0 h ⊢; subst hf; subst hlo; subst h0
  exact h fpc fpos fom sn
end
end Mine

-- Rx2
set_option autoImplicit false
namespace Mine
open PySem.Sre

def isBlank (x : Nat) : Bool := x == 32 || x == 9
def notNl (x : Nat) : Bool := x != 10

theorem run_cnt (q : Nat → Bool) {C T : Array Nat} {i : Nat} (hq : ∀ x sn, ∃ sn', accepts C i x sn = .ok (q x, sn')) :
    ∀ (n p found : Nat) (sn : Seen), p + n = T.size → ∃ sn', run C T i n p found sn = .ok (found + ((T.toList.drop p).takeWhile q).length, sn')
  | 0, p, found, sn, h => by
    have e : T.toList.drop p = [] := List.drop_of_length_le (by rw [Array.length_toList]; omega)
    exact ⟨sn, by rw [e]; rfl⟩
  | n + 1, p, found, sn, h => by
    have hlt : p < T.toList.length := by rw [Array.length_toList]; omega
    have hd := List.drop_eq_getElem_cons hlt
    have hg := getD_rest hd
    obtain ⟨sn1, h1⟩ := hq (T.getD p 0) sn
    unfold run
    rw [h1, hd, List.takeWhile_cons, ← hg]
    cases hx : q (T.getD p 0) with
    | false => exact ⟨sn1, rfl⟩
    | true =>
      obtain ⟨sn2, h2⟩ := run_cnt (T := T) q hq n (p + 1) (found + 1) sn1 (by omega)
      refine ⟨sn2, ?_⟩
      show run C T i n (p + 1) (found + 1) sn1 = _
      rw [h2]
      simp only [if_true, List.length_cons]
      rw [Nat.add_assoc, Nat.add_comm 1]

theorem acc_two {C : Array Nat} {i a d : Nat} (h0 : C.getD i 0 = 13) (h2 : C.getD (i + 2) 0 = 16) (h3 : C.getD (i + 3) 0 = a) (h4 : C.getD (i + 4) 0 = 16) (h5 : C.getD (i + 5) 0 = d) (h6 : C.getD (i + 6) 0 = 0) (hs : 3 ≤ C.size) (x : Nat) (sn : Seen) :
    ∃ sn', accepts C i x sn = .ok (x == a || x == d, sn') := by
  obtain ⟨k, hk⟩ : ∃ k, C.size = k + 3 := ⟨C.size - 3, by omega⟩
  have h3' : C.getD (i + 2 + 1) 0 = a := h3
  have h5' : C.getD (i + 4 + 1) 0 = d := h5
  unfold accepts
  simp only [h0, op13, hk]
  unfold inSet
  simp only [Nat.add_zero, h2, op16, h3']
  cases hx : x == a with
  | true => exact ⟨_, rfl⟩
  | false =>
    simp only [Bool.false_eq_true, if_false, Bool.false_or]
    show ∃ sn', inSet C x (k + 2) (i + 4) true _ = _
    unfold inSet
    simp only [Nat.add_zero, h4, op16, h5']
    cases hy : x == d with
    | true => exact ⟨_, rfl⟩
    | false =>
      simp only [Bool.false_eq_true, if_false]
      show ∃ sn', inSet C x (k + 1) (i + 6) true _ = _
      unfold inSet
      simp only [Nat.add_zero, h6, op0]
      exact ⟨_, rfl⟩
theorem acc_not {C : Array Nat} {i a : Nat} (h0 : C.getD i 0 = 20) (h1 : C.getD (i + 1) 0 = a) (x : Nat) (sn : Seen) : ∃ sn', accepts C i x sn = .ok (x != a, sn') := by
  unfold accepts
  simp only [h0, op20, h1]
  exact ⟨_, rfl⟩
theorem acc_lit {C : Array Nat} {i a : Nat} (h0 : C.getD i 0 = 16) (h1 : C.getD (i + 1) 0 = a) (x : Nat) (sn : Seen) : ∃ sn', accepts C i x sn = .ok (x == a, sn') := by
  unfold accepts
  simp only [h0, op16, h1]
  exact ⟨_, rfl⟩

theorem run_one (q : Nat → Bool) {C T : Array Nat} {i : Nat} (hq : ∀ x sn, ∃ sn', accepts C i x sn = .ok (q x, sn')) {p : Nat} (sn : Seen) (hp : p ≤ T.size) :
    ∃ sn', run C T i (min 1 (T.size - p)) p 0 sn = .ok (((T.toList.drop p).take 1 |>.takeWhile q).length, sn') := by
  rcases Nat.eq_or_lt_of_le hp with h | h
  · have e : T.toList.drop p = [] := List.drop_of_length_le (by rw [Array.length_toList]; omega)
    rw [e, h, Nat.sub_self]
    exact ⟨sn, rfl⟩
  · have hlt : p < T.toList.length := by rw [Array.length_toList]; omega
    have hd := List.drop_eq_getElem_cons hlt
    have hg := getD_rest hd
    have e1 : min 1 (T.size - p) = 0 + 1 := by omega
    obtain ⟨sn1, h1⟩ := hq (T.getD p 0) sn
    rw [e1, hd]
    unfold run
    rw [h1, List.take_succ_cons, List.take_zero, List.takeWhile_cons, ← hg]
    cases hx : q (T.getD p 0) with
    | false => exact ⟨sn1, rfl⟩
    | true => exact ⟨sn1, rfl⟩

/-- the common head of eol and eof: blanks, then a remark or none; the tail stands at 35 -/
structure Pre (C : Array Nat) : Prop where
  size : 36 ≤ C.size
  c5 : C.getD 5 0 = 24
  c6 : C.getD 6 0 = 11
  c7 : C.getD 7 0 = 0
  c8 : C.getD 8 0 = 4294967295
  c9 : C.getD 9 0 = 13
  c11 : C.getD 11 0 = 16
  c12 : C.getD 12 0 = 32
  c13 : C.getD 13 0 = 16
  c14 : C.getD 14 0 = 9
  c15 : C.getD 15 0 = 0
  c17 : C.getD 17 0 = 23
  c18 : C.getD 18 0 = 16
  c19 : C.getD 19 0 = 0
  c20 : C.getD 20 0 = 1
  c21 : C.getD 21 0 = 17
  c22 : C.getD 22 0 = 0
  c23 : C.getD 23 0 = 16
  c24 : C.getD 24 0 = 35
  c25 : C.getD 25 0 = 24
  c26 : C.getD 26 0 = 6
  c27 : C.getD 27 0 = 0
  c28 : C.getD 28 0 = 4294967295
  c29 : C.getD 29 0 = 20
  c30 : C.getD 30 0 = 10
  c32 : C.getD 32 0 = 17
  c33 : C.getD 33 0 = 1
  c34 : C.getD 34 0 = 18

def TailNo (b : M) (ct : Nat) (p : Nat) : Prop := ∀ (r : Regs) (hd : Nat) (om : Bool) (fs : List Frame) (sn : Seen) (c : Nat) (P : M → Prop), r.inner = none → r.marks.size = 2 → Wt fs ≤ 900 →
  (∀ pc' pos' hd' om' sn', Goes c (St b r pc' pos' hd' om' fs (some false) sn') P) → Goes (c + ct) (St b r 35 p hd om fs none sn) P
def TailYes (b : M) (ct : Nat) (p e : Nat) : Prop := ∀ (r : Regs) (hd : Nat) (om : Bool) (fs : List Frame) (sn : Seen) (c : Nat) (P : M → Prop), r.inner = none → r.marks.size = 2 → Wt fs ≤ 900 →
  (∀ pc' pos' om' fs' sn', (∀ f ∈ fs', passes f = true) → fs'.length ≤ 4 → Goes c (St b r pc' pos' e om' (fs' ++ fs) (some true) sn') P) → Goes (c + ct) (St b r 35 p hd om fs none sn) P

def RR (mk : Array (Option Nat)) : Regs := { marks := mk, lm := -1, li := -1, loops := #[], inner := none }

section
variable {b : M} {fs : List Frame} {sn : Seen} {P : M → Prop} {c ct p hd : Nat} {om : Bool} {mk : Array (Option Nat)}

theorem putR_whole {r r' : Regs} (hl : r.lm = -1) : putR r' (keepOf r true) = { r' with lm := -1, li := r.li } := by
  unfold putR keepOf
  simp [hl]

/-- the group does not begin here -/
theorem group_skip (X : Pre b.code) (B : Base b) (hx : ∀ l, Rest b p ≠ 35 :: l) (hw : Wt fs ≤ 800) (hm : mk.size = 2)
    (h : ∀ mk' f1 f2 sn, mk'.size = 2 → f1.wait = .maxTail → f1.kept.marks.size = 0 → f1.loop = 0 → f2.wait = .closeLoop → f2.loop = 0 → f2.kept.marks.size = 0 →
      Goes c (St b { RR mk' with loops := #[lp 17 (-1) none] } 35 p p om (f1 :: f2 :: fs) none sn) P) :
    Goes (c + 5) (St b (RR mk) 17 p hd om fs none sn) P := by
  have hsz := X.size
  refine g_repeat (w1 := 16) (by omega) X.c17 X.c18 (by omega) (fun sn => ?_)
  refine g_until_more (q := 17) (by omega) X.c34 rfl rfl X.c19 X.c20 (by simp [Wt]; omega) (by show mk.size ≤ 8; omega) (fun sn => ?_)
  refine g_mark (k := 0) (by omega) X.c21 X.c22 rfl (fun sn => ?_)
  refine g_lit_no (by omega) X.c23 B (fun x l e => ?_) (fun sn => ?_)
  · rw [X.c24]; intro e2; rw [← e2] at e; exact hx l e
  refine b_more (q := 17) rfl rfl rfl rfl rfl (by simp [Wt]; omega) (fun sn => ?_)
  dsimp only
  rw [putR_whole rfl]
  exact h (mk.setIfInBounds 0 (some p)) _ _ sn (by simp [hm]) rfl rfl rfl rfl rfl rfl

theorem group_skip_no (X : Pre b.code) (B : Base b) (hx : ∀ l, Rest b p ≠ 35 :: l) (hT : TailNo b ct p) (hw : Wt fs ≤ 800) (hm : mk.size = 2)
    (h : ∀ mk' pc pos hd om sn, mk'.size = 2 → Goes c (St b (RR mk') pc pos hd om fs (some false) sn) P) :
    Goes (c + (ct + 7)) (St b (RR mk) 17 p hd om fs none sn) P := by
  rw [show c + (ct + 7) = (c + 2 + ct) + 5 by omega]
  refine group_skip X B hx hw hm (fun mk' f1 f2 sn hm' w1 k1 l1 w2 l2 k2 => ?_)
  refine hT _ _ _ _ _ _ _ rfl hm' (by simp [Wt, k1, k2]; omega) (fun pc' pos' hd' om' sn' => ?_)
  refine b_tail w1 (fun pc pos om sn => ?_)
  rw [l1]
  refine b_close w2 rfl l2 (fun pc pos om sn => ?_)
  exact h mk' _ _ _ _ _ hm'

def GoodM (r : Regs) : Prop := r.lm = -1 ∨ (r.lm = 1 ∧ ∃ p q, r.marks.getD 0 none = some p ∧ r.marks.getD 1 none = some q ∧ p ≤ q)

theorem group_skip_yes {e : Nat} (X : Pre b.code) (B : Base b) (hx : ∀ l, Rest b p ≠ 35 :: l) (hT : TailYes b ct p e) (hw : Wt fs ≤ 800) (hm : mk.size = 2)
    (h : ∀ r' pc' pos' om' fs' sn', GoodM r' → (∀ f ∈ fs', passes f = true) → fs'.length ≤ 8 → Goes c (St b r' pc' pos' e om' (fs' ++ fs) (some true) sn') P) :
    Goes (c + (ct + 5)) (St b (RR mk) 17 p hd om fs none sn) P := by
  rw [show c + (ct + 5) = (c + ct) + 5 by omega]
  refine group_skip X B hx hw hm (fun mk' f1 f2 sn hm' w1 k1 l1 w2 l2 k2 => ?_)
  refine hT _ _ _ _ _ _ _ rfl hm' (by simp [Wt, k1, k2]; omega) (fun pc' pos' om' fs' sn' hp hl => ?_)
  have := h { RR mk' with loops := #[lp 17 (-1) none] } pc' pos' om' (fs' ++ [f1, f2]) sn' (.inl rfl) (fun f hf => by
    rcases List.mem_append.mp hf with q | q
    · exact hp f q
    · simp only [List.mem_cons, List.not_mem_nil, or_false] at q
      rcases q with rfl | rfl
      · simp [passes, w1]
      · simp [passes, w2]) (by simp; omega)
  rwa [List.append_assoc] at this

/-- the registers within the group -/
def RG (p : Nat) (m : Array (Option Nat)) : Regs := { marks := m, lm := 0, li := -1, loops := #[lp 17 0 (some p)], inner := some 0 }
structure KpG (p : Nat) (k : Kept) : Prop where
  lm : k.lastmark = 0
  li : k.lastindex = -1
  whole : k.whole = true
  size : k.marks.size = 1

theorem putR_G {p : Nat} {r : Regs} {k : Kept} (K : KpG p k) (hm : r.marks.size = 2) (hl : r.loops = #[lp 17 0 (some p)]) (hi : r.inner = some 0) : ∃ m', m'.size = 2 ∧ putR r k = RG p m' := by
  refine ⟨k.marks ++ r.marks.extract k.marks.size r.marks.size, by simp [K.size, hm], ?_⟩
  unfold putR RG
  simp [K.lm, K.li, K.whole, hl, hi]

theorem hash_no (X : Pre b.code) (B : Base b) {kp : Kept} (K : KpG p kp) (hw : Wt fs ≤ 750) : ∀ (j : Nat) (m1 : Array (Option Nat)) (hd : Nat) (om : Bool) (sn : Seen), m1.size = 2 → (∀ i, i ≤ j → TailNo b ct (p + 1 + i)) →
    (∀ m' pc' pos' hd' om' sn', m'.size = 2 → Goes c (St b (RG p m') pc' pos' hd' om' fs (some false) sn') P) →
    Goes (c + (j + 1) * (ct + 4)) (St b (RG p m1) 32 (p + 1 + j) hd om ({ wait := .giveBack, pc := 25, pos := p + 1 + j, outermost := om, count := (j : Nat), kept := kp } :: fs) none sn) P := by
  intro j
  have hsz := X.size
  have hks := K.size
  induction j with
  | zero =>
    intro m1 hd om sn hm hT h
    rw [show c + (0 + 1) * (ct + 4) = (c + 1 + 1 + ct) + 1 + 1 by omega]
    refine g_mark (k := 1) (by omega) X.c32 X.c33 rfl (fun sn => ?_)
    refine g_until_tail (q := 17) (bg := some p) (by omega) X.c34 rfl rfl X.c19 X.c20 (by simp [Wt, hks]; omega) (fun sn => ?_)
    refine hT 0 (Nat.le_refl _) _ _ _ _ _ _ _ rfl (by simp [RG, hm]) (by simp [Wt, keepOf, hks]; omega) (fun pc' pos' hd' om' sn' => ?_)
    refine b_tail rfl (fun pc pos om sn => ?_)
    refine b_give_out rfl X.c27 rfl (fun pc pos om sn => ?_)
    obtain ⟨m', h2, e⟩ := putR_G (r := { marks := (RG p m1).marks.setIfInBounds 1 (some (p + 1 + 0)), lm := 1, li := 1, loops := (RG p m1).loops, inner := some 0 }) K (by simp [RG, hm]) rfl rfl
    have e2 := h m' pc pos hd' om sn h2
    rw [← e] at e2
    exact e2
  | succ j ih =>
    intro m1 hd om sn hm hT h
    rw [show c + (j + 1 + 1) * (ct + 4) = ((c + (j + 1) * (ct + 4)) + 1 + 1 + ct) + 1 + 1 by rw [Nat.add_mul (j + 1) 1]; omega]
    refine g_mark (k := 1) (by omega) X.c32 X.c33 rfl (fun sn => ?_)
    refine g_until_tail (q := 17) (bg := some p) (by omega) X.c34 rfl rfl X.c19 X.c20 (by simp [Wt, hks]; omega) (fun sn => ?_)
    refine hT (j + 1) (Nat.le_refl _) _ _ _ _ _ _ _ rfl (by simp [RG, hm]) (by simp [Wt, keepOf, hks]; omega) (fun pc' pos' hd' om' sn' => ?_)
    refine b_tail rfl (fun _ _ _ _ => ?_)
    refine b_give_more (n := j) rfl X.c27 (by simp) (by omega) (by simp [hks]) (fun sn => ?_)
    dsimp only
    rw [X.c26]
    obtain ⟨m', h2, e⟩ := putR_G (r := { marks := (RG p m1).marks.setIfInBounds 1 (some (p + 1 + (j + 1))), lm := 1, li := 1, loops := (RG p m1).loops, inner := some 0 }) K (by simp [RG, hm]) rfl rfl
    have e2 := ih m' (p + 1 + j) om sn h2 (fun i hi => hT i (by omega)) h
    rw [← e] at e2
    exact e2

/-- into the group, up to its second mark -/
theorem group_hash {l : List Nat} (X : Pre b.code) (B : Base b) (hx : Rest b p = 35 :: l) (hw : Wt fs ≤ 700) (hm : mk.size = 2)
    (h : ∀ m1 kp f2 f3 sn, m1.size = 2 → m1.getD 0 none = some p → KpG p kp → f2.wait = .maxMore → f2.loop = 0 → f2.count = 0 → f2.began = none → f2.pc = 35 → f2.pos = p → f2.kept = keepOf { RR mk with loops := #[lp 17 (-1) none], inner := some 0 } true → f3.wait = .closeLoop → f3.loop = 0 → f3.kept.marks.size = 0 →
      Goes c (St b (RG p m1) 32 (p + 1 + (l.takeWhile notNl).length) (p + 1 + (l.takeWhile notNl).length) om ({ wait := .giveBack, pc := 25, pos := p + 1 + (l.takeWhile notNl).length, outermost := om, count := ((l.takeWhile notNl).length : Nat), kept := kp } :: f2 :: f3 :: fs) none sn) P) :
    Goes (c + 5) (St b (RR mk) 17 p hd om fs none sn) P := by
  have hsz := X.size
  have hlt := lt_of_rest hx
  have hr := rest_succ hx
  refine g_repeat (w1 := 16) (by omega) X.c17 X.c18 (by omega) (fun sn => ?_)
  refine g_until_more (q := 17) (by omega) X.c34 rfl rfl X.c19 X.c20 (by simp [Wt]; omega) (by show mk.size ≤ 8; omega) (fun sn => ?_)
  refine g_mark (k := 0) (by omega) X.c21 X.c22 rfl (fun sn => ?_)
  refine g_lit_ok (by omega) X.c23 B hx X.c24 (fun sn => ?_)
  have hk0 : (keepOf { RR mk with loops := #[lp 17 (-1) none], inner := some 0 } true).marks.size = 0 := by simp [keepOf, RR]
  refine g_rep1 (w1 := 6) (least := 0) (most := 4294967295) (n := (l.takeWhile notNl).length) (by omega) X.c25 B X.c26 X.c27 X.c28 (by omega) (fun sn => ?_) (Nat.zero_le _) ?_ (by simp [RR, hm]) (fun sn => ?_)
  · have e1 : min 4294967295 (b.text.size - (p + 1)) = b.text.size - (p + 1) := by have := B.small; omega
    rw [e1]
    have := run_cnt (T := b.text) notNl (acc_not X.c29 X.c30) (b.text.size - (p + 1)) (p + 1) 0 sn (by omega)
    rw [hr, Nat.zero_add] at this
    exact this
  · simp only [Wt]
    have hk0' : (keepOf { marks := (RR mk).marks, lm := (RR mk).lm, li := (RR mk).li, loops := (RR mk).loops.push { pc := 17, outer := (RR mk).inner }, inner := some (RR mk).loops.size } true).marks.size = 0 := hk0
    rw [hk0']
    simp
    omega
  · exact h (mk.setIfInBounds 0 (some p)) _ _ _ sn (by simp [hm]) (by simp [hm, Array.getElem?_setIfInBounds]) ⟨rfl, rfl, rfl, by simp [keepOf, RR, hm]⟩ rfl rfl rfl rfl rfl rfl rfl rfl rfl rfl

theorem group_hash_yes {l : List Nat} {e : Nat} (X : Pre b.code) (B : Base b) (hx : Rest b p = 35 :: l) (hT : TailYes b ct (p + 1 + (l.takeWhile notNl).length) e) (hw : Wt fs ≤ 700) (hm : mk.size = 2)
    (h : ∀ r' pc' pos' om' fs' sn', GoodM r' → (∀ f ∈ fs', passes f = true) → fs'.length ≤ 8 → Goes c (St b r' pc' pos' e om' (fs' ++ fs) (some true) sn') P) :
    Goes (c + (ct + 7)) (St b (RR mk) 17 p hd om fs none sn) P := by
  have hsz := X.size
  rw [show c + (ct + 7) = ((c + ct) + 1 + 1) + 5 by omega]
  refine group_hash X B hx hw hm (fun m1 kp f2 f3 sn hm1 hg K w2 l2 c2 b2 pc2 pos2 k2 w3 l3 k3 => ?_)
  have hks := K.size
  have hk2 : f2.kept.marks.size = 0 := by rw [k2]; simp [keepOf, RR]
  refine g_mark (k := 1) (by omega) X.c32 X.c33 rfl (fun sn => ?_)
  refine g_until_tail (q := 17) (bg := some p) (by omega) X.c34 rfl rfl X.c19 X.c20 (by simp [Wt, hks, hk2, k3]; omega) (fun sn => ?_)
  refine hT _ _ _ _ _ _ _ rfl (by simp [RG, hm1]) (by simp [Wt, keepOf, hks, hk2, k3]; omega) (fun pc' pos' om' fs' sn' hp hl => ?_)
  have hmm : GoodM { marks := (RG p m1).marks.setIfInBounds 1 (some (p + 1 + (l.takeWhile notNl).length)), lm := (1 : Nat), li := 1, loops := (RG p m1).loops, inner := none } := by
    refine .inr ⟨rfl, p, p + 1 + (l.takeWhile notNl).length, ?_, ?_, by omega⟩
    · have : m1[0]?.getD none = some p := by simpa using hg
      simp [RG, Array.getElem?_setIfInBounds, this]
    · simp [RG, hm1, Array.getElem?_setIfInBounds]
  have key : ∀ ft fg : Frame, passes ft = true → passes fg = true → Goes c (St b { marks := (RG p m1).marks.setIfInBounds 1 (some (p + 1 + (l.takeWhile notNl).length)), lm := (1 : Nat), li := 1, loops := (RG p m1).loops, inner := none } pc' pos' e om' (fs' ++ (ft :: fg :: f2 :: f3 :: fs)) (some true) sn') P := fun ft fg ht hg => by
    have := h _ pc' pos' om' (fs' ++ [ft, fg, f2, f3]) sn' hmm (fun f hf => by
      rcases List.mem_append.mp hf with q | q
      · exact hp f q
      · simp only [List.mem_cons, List.not_mem_nil, or_false] at q
        rcases q with rfl | rfl | rfl | rfl
        · exact ht
        · exact hg
        · simp [passes, w2]
        · simp [passes, w3]) (by simp; omega)
    rw [List.append_assoc] at this
    exact this
  exact key _ _ rfl rfl

theorem group_hash_no {l : List Nat} (X : Pre b.code) (B : Base b) (hx : Rest b p = 35 :: l) (hT : ∀ i, i ≤ (l.takeWhile notNl).length → TailNo b ct (p + 1 + i)) (hT0 : TailNo b ct p) (hw : Wt fs ≤ 700) (hm : mk.size = 2)
    (h : ∀ mk' pc pos hd om sn, mk'.size = 2 → Goes c (St b (RR mk') pc pos hd om fs (some false) sn) P) :
    Goes (c + (ct + 8 + ((l.takeWhile notNl).length + 1) * (ct + 4))) (St b (RR mk) 17 p hd om fs none sn) P := by
  rw [show c + (ct + 8 + ((l.takeWhile notNl).length + 1) * (ct + 4)) = ((c + 1 + 1 + ct) + 1 + ((l.takeWhile notNl).length + 1) * (ct + 4)) + 5 by omega]
  refine group_hash X B hx hw hm (fun m1 kp f2 f3 sn hm1 hg K w2 l2 c2 b2 pc2 pos2 k2 w3 l3 k3 => ?_)
  have hk2 : f2.kept.marks.size = 0 := by rw [k2]; simp [keepOf, RR]
  refine hash_no X B K (by simp [Wt, hk2, k3]; omega) _ m1 _ _ sn hm1 hT (fun m' pc' pos' hd' om' sn' hm' => ?_)
  refine b_more (q := 17) (bg := some p) w2 rfl l2 c2 b2 (by simp [Wt, k3]; omega) (fun sn => ?_)
  rw [k2, putR_whole rfl, pc2, pos2]
  refine hT0 _ _ _ _ _ _ _ rfl (by exact hm') (by simp [Wt, keepOf, k3]; omega) (fun pc' pos' hd' om' sn' => ?_)
  refine b_tail rfl (fun pc pos om sn => ?_)
  refine b_close w3 rfl l3 (fun pc pos om sn => ?_)
  exact h m' _ _ _ _ _ hm'
end
end Mine

-- Rx3
set_option autoImplicit false
namespace Mine
open PySem.Sre

/-- the tail of eol: an optional return, a line feed -/
structure EolTail (C : Array Nat) : Prop where
  size : 45 ≤ C.size
  c35 : C.getD 35 0 = 24
  c36 : C.getD 36 0 = 6
  c37 : C.getD 37 0 = 0
  c38 : C.getD 38 0 = 1
  c39 : C.getD 39 0 = 16
  c40 : C.getD 40 0 = 13
  c42 : C.getD 42 0 = 16
  c43 : C.getD 43 0 = 10
  c44 : C.getD 44 0 = 1
structure EofTail (C : Array Nat) : Prop where
  size : 38 ≤ C.size
  c35 : C.getD 35 0 = 6
  c36 : C.getD 36 0 = 5
  c37 : C.getD 37 0 = 1

def tlEol : List Nat → Option Nat
  | 10 :: _ => some 1
  | 13 :: 10 :: _ => some 2
  | _ => none
def tlEof : List Nat → Option Nat
  | [] => some 0
  | [10] => some 0
  | _ => none

section
variable {b : M} {p e : Nat}

theorem putR_plain {r r' : Regs} (hm : r'.marks = r.marks) (hl : r'.loops = r.loops) (hi : r'.inner = r.inner) : putR r' (keepOf r false) = r := by
  obtain ⟨a, b, c, d, e⟩ := r
  obtain ⟨a', b', c', d', e'⟩ := r'
  dsimp only at hm hl hi
  subst hm; subst hl; subst hi
  rfl

theorem eol_rep (Y : EolTail b.code) (B : Base b) (hp : p ≤ b.text.size) {r : Regs} {hd : Nat} {om : Bool} {fs : List Frame} {sn : Seen} {c : Nat} {P : M → Prop} (hi : r.inner = none) (hm : r.marks.size = 2) (hw : Wt fs ≤ 900) {n : Nat} (hn : (((Rest b p).take 1).takeWhile (· == 13)).length = n)
    (h : ∀ sn, Goes c (St b r 42 (p + n) (p + n) om ({ wait := .giveBack, pc := 35, pos := p + n, outermost := om, count := n, kept := keepOf r false } :: fs) none sn) P) : Goes (c + 1) (St b r 35 p hd om fs none sn) P := by
  have hsz := Y.size
  refine g_rep1 (w1 := 6) (least := 0) (most := 1) (n := n) (by omega) Y.c35 B Y.c36 Y.c37 Y.c38 (by omega) (fun sn => ?_) (Nat.zero_le _) (by omega) (by omega) (fun sn => ?_)
  · have := run_one (T := b.text) (p := p) (· == 13) (acc_lit Y.c39 Y.c40) sn hp
    subst hn
    exact this
  · rw [hi]; exact h sn

theorem eol_yes (Y : EolTail b.code) (B : Base b) (hma : b.mustAdvance = false) {k : Nat} (h : tlEol (Rest b p) = some k) : TailYes b 3 p (p + k) := by
  intro r hd om fs sn c P hi hm hw hc
  have hsz := Y.size
  rw [show c + 3 = c + 1 + 1 + 1 by omega]
  unfold tlEol at h
  split at h
  · rename_i l hx
    cases h
    have hlt := lt_of_rest hx
    refine eol_rep Y B (by omega) hi hm hw (n := 0) (by rw [hx]; rfl) (fun sn => ?_)
    refine g_lit_ok (by omega) Y.c42 B hx Y.c43 (fun sn => ?_)
    refine g_success (by omega) Y.c44 B hma (fun sn => ?_)
    exact hc _ _ _ [_] _ (by simp [passes]) (by simp)
  · rename_i l hx
    cases h
    have hlt := lt_of_rest hx
    refine eol_rep Y B (by omega) hi hm hw (n := 1) (by rw [hx]; rfl) (fun sn => ?_)
    refine g_lit_ok (by omega) Y.c42 B (rest_succ hx) Y.c43 (fun sn => ?_)
    refine g_success (by omega) Y.c44 B hma (fun sn => ?_)
    exact hc _ _ _ [_] _ (by simp [passes]) (by simp)
  · cases h

theorem eol_no (Y : EolTail b.code) (B : Base b) (hp : p ≤ b.text.size) (h : tlEol (Rest b p) = none) : TailNo b 5 p := by
  intro r hd om fs sn c P hi hm hw hc
  have hsz := Y.size
  have h10 : ∀ l, Rest b p ≠ 10 :: l := fun l e => by rw [e] at h; cases h
  by_cases h13 : ∃ l, Rest b p = 13 :: l
  · obtain ⟨l, hx⟩ := h13
    have hlt := lt_of_rest hx
    rw [show c + 5 = c + 1 + 1 + 1 + 1 + 1 by omega]
    refine eol_rep Y B hp hi hm hw (n := 1) (by rw [hx]; rfl) (fun sn => ?_)
    refine g_lit_no (by omega) Y.c42 B (fun x l' e => ?_) (fun sn => ?_)
    · have e2 : l = x :: l' := by rw [← rest_succ hx]; exact e
      rw [Y.c43]; intro e3; rw [hx, e2, ← e3] at h; cases h
    refine b_give_more (n := 0) rfl Y.c37 rfl (by omega) (by simp [keepOf]) (fun sn => ?_)
    dsimp only
    rw [Y.c36, putR_plain rfl rfl rfl, show p + 1 - 1 = p by omega]
    refine g_lit_no (by omega) Y.c42 B (fun x l' e => ?_) (fun sn => ?_)
    · rw [Y.c43]; intro e3; rw [← e3] at e; exact h10 _ e
    refine b_give_out rfl Y.c37 rfl (fun pc pos om sn => ?_)
    rw [putR_plain rfl rfl rfl]
    exact hc _ _ _ _ _
  · rw [show c + 5 = (c + 2) + 1 + 1 + 1 by omega]
    have hn0 : (((Rest b p).take 1).takeWhile (· == 13)).length = 0 := by
      cases hr : Rest b p with
      | nil => rfl
      | cons x l =>
        have : (x == 13) = false := beq_eq_false_iff_ne.mpr fun e => h13 ⟨l, by rw [hr, e]⟩
        rw [List.take_succ_cons, List.take_zero, List.takeWhile_cons]
        simp [this]
    refine eol_rep Y B hp hi hm hw hn0 (fun sn => ?_)
    refine g_lit_no (by omega) Y.c42 B (fun x l' e => ?_) (fun sn => ?_)
    · rw [Y.c43]; intro e3; rw [← e3] at e; exact h10 _ e
    refine b_give_out rfl Y.c37 rfl (fun pc pos om sn => ?_)
    rw [putR_plain rfl rfl rfl]
    exact (hc _ _ _ _ _).le (by omega)

theorem eof_yes (Y : EofTail b.code) (B : Base b) (hma : b.mustAdvance = false) (hp : p ≤ b.text.size) {k : Nat} (h : tlEof (Rest b p) = some k) : TailYes b 3 p (p + k) := by
  intro r hd om fs sn c P hi hm hw hc
  have hsz := Y.size
  rw [show c + 3 = (c + 1) + 1 + 1 by omega]
  have hk : k = 0 ∧ (Rest b p = [] ∧ p ≤ b.text.size ∨ Rest b p = [10]) := by
    unfold tlEof at h
    split at h
    · rename_i hx; cases h; exact ⟨rfl, .inl ⟨hx, hp⟩⟩
    · rename_i hx; cases h; exact ⟨rfl, .inr hx⟩
    · cases h
  obtain ⟨rfl, hx⟩ := hk
  refine g_at_end (by omega) Y.c35 Y.c36 B hx (fun sn => ?_)
  refine g_success (by omega) Y.c37 B hma (fun sn => ?_)
  exact (hc _ _ _ [] _ (by simp) (by simp)).le (by omega)
theorem eof_no (Y : EofTail b.code) (B : Base b) (h : tlEof (Rest b p) = none) : TailNo b 5 p := by
  intro r hd om fs sn c P hi hm hw hc
  have hsz := Y.size
  rw [show c + 5 = (c + 4) + 1 by omega]
  refine g_at_no (by omega) Y.c35 Y.c36 B (fun e => by rw [e] at h; cases h) (fun e => by rw [e] at h; cases h) (fun sn => ?_)
  exact (hc _ _ _ _ _).le (by omega)
end

/-- what the two patterns match: the length of the match -/
def remark (tl : List Nat → Option Nat) (L : List Nat) : Option Nat :=
  match L with
  | 35 :: cs => (tl (cs.dropWhile notNl)).map fun k => 1 + (cs.takeWhile notNl).length + k
  | _ => tl L
theorem remark_no {tl : List Nat → Option Nat} {L : List Nat} (h : ∀ l, L ≠ 35 :: l) : remark tl L = tl L := by
  unfold remark
  split
  · rename_i cs; exact absurd rfl (h cs)
  · rfl
theorem remark_hash {tl : List Nat → Option Nat} {cs : List Nat} : remark tl (35 :: cs) = (tl (cs.dropWhile notNl)).map fun k => 1 + (cs.takeWhile notNl).length + k := rfl
def reMatch (tl : List Nat → Option Nat) (L : List Nat) : Option Nat := (remark tl (L.dropWhile isBlank)).map fun k => (L.takeWhile isBlank).length + k

theorem drop_takeWhile {α : Type} (q : α → Bool) : ∀ l : List α, l.drop (l.takeWhile q).length = l.dropWhile q
  | [] => rfl
  | x :: l => by
    rw [List.takeWhile_cons, List.dropWhile_cons]
    cases q x with
    | true => exact drop_takeWhile q l
    | false => rfl

section
variable {b : M} {ct s : Nat}
structure Tl (b : M) (ct : Nat) (tl : List Nat → Option Nat) : Prop where
  yes : ∀ p k, p ≤ b.text.size → tl (Rest b p) = some k → TailYes b ct p (p + k)
  no : ∀ p, p ≤ b.text.size → tl (Rest b p) = none → TailNo b (ct + 2) p
  blank : ∀ x l, isBlank x = true → tl (x :: l) = none
  hash : ∀ l, tl (35 :: l) = none
  inner : ∀ cs : List Nat, tl (cs.dropWhile notNl) = none → ∀ i, i < (cs.takeWhile notNl).length → tl (cs.drop i) = none

theorem rest_add (p n : Nat) : Rest b (p + n) = (Rest b p).drop n := by
  unfold Rest; rw [List.drop_drop]

theorem back_no {tl : List Nat → Option Nat} (X : Pre b.code) (B : Base b) (T : Tl b ct tl) : ∀ (j : Nat) (mk : Array (Option Nat)) (pc pos hd : Nat) (om fom : Bool) (sn : Seen) (kp : Kept), mk.size = 2 → kp.lastmark = -1 → kp.lastindex = -1 → kp.whole = false → kp.marks.size = 0 →
    (∀ i, i < j → ∃ x l, Rest b (s + i) = x :: l ∧ isBlank x = true) →
    Goes (1 + (j + 1) * (ct + 10)) (St b (RR mk) pc pos hd om [{ wait := .giveBack, pc := 5, pos := s + j, outermost := fom, count := (j : Nat), kept := kp }] (some false) sn) (fun m => m.outcome = some .failed) := by
  intro j
  induction j with
  | zero =>
    intro mk pc pos hd om fom sn kp hm k1 k2 k3 k4 hb
    rw [show 1 + (0 + 1) * (ct + 10) = (1 + ct + 9) + 1 by omega]
    refine b_give_out rfl X.c7 rfl (fun pc pos om sn => ?_)
    exact f_end.le (by omega)
  | succ j ih =>
    intro mk pc pos hd om fom sn kp hm k1 k2 k3 k4 hb
    rw [show 1 + (j + 1 + 1) * (ct + 10) = (1 + (j + 1) * (ct + 10) + (ct + 2 + 7)) + 1 by rw [Nat.add_mul (j + 1) 1]; omega]
    refine b_give_more (n := j) rfl X.c7 (by simp) (by simp [Wt]) (by simp [k4]) (fun sn => ?_)
    dsimp only
    have e : putR (RR mk) kp = RR mk := by unfold putR RR; simp [k1, k2, k3]
    rw [X.c6, e]
    obtain ⟨x, l, hx, hbl⟩ := hb j (by omega)
    have hlt := lt_of_rest hx
    refine group_skip_no X B (p := s + j) (fun l' e2 => ?_) (T.no _ (by omega) ?_) (by simp [Wt, k4]) hm (fun mk' pc' pos' hd' om' sn' hm' => ?_)
    · rw [hx] at e2; cases e2; cases hbl
    · rw [hx]; exact T.blank x l hbl
    exact ih mk' pc' pos' hd' om' fom sn' kp hm' k1 k2 k3 k4 (fun i hi => hb i (by omega))

def Yes (b : M) (e : Nat) (m : M) : Prop := m.outcome = some .matched ∧ m.start = b.start ∧ m.handed = e ∧ (m.lastmark = -1 ∨ (m.lastmark = 1 ∧ ∃ p q, m.marks.getD 0 none = some p ∧ m.marks.getD 1 none = some q ∧ p ≤ q))

theorem t_yes {fs' fs : List Frame} {r : Regs} {pc pos e : Nat} {om : Bool} {sn : Seen} (hg : GoodM r) (hf : ∀ f ∈ fs', passes f = true) (hl : fs'.length ≤ 8) (h1 : ∀ f ∈ fs, passes f = true) (hl1 : fs.length ≤ 1) :
    Goes 10 (St b r pc pos e om (fs' ++ fs) (some true) sn) (Yes b e) := by
  have := t_all (b := b) (fs' ++ fs) r pc pos e om sn (fun f hm => (List.mem_append.mp hm).elim (hf f) (h1 f))
  refine (this.le (by rw [List.length_append]; omega)).mono (fun m hm => ?_)
  obtain ⟨o, st, hd, mk, lm, li⟩ := hm
  refine ⟨o, st, hd, ?_⟩
  rw [lm, mk]
  exact hg

theorem re_ends {tl : List Nat → Option Nat} (X : Pre b.code) (B : Base b) (T : Tl b ct tl) (hs : s ≤ b.text.size) {mk : Array (Option Nat)} (hm : mk.size = 2) {hd : Nat} {om : Bool} {sn : Seen} :
    Goes ((b.text.size + 2) * (4 * ct + 60)) (St b (RR mk) 5 s hd om [] none sn) (fun m => match reMatch tl (Rest b s) with | some k => Yes b (s + k) m | none => m.outcome = some .failed) := by
  have hsz := X.size
  generalize hn : ((Rest b s).takeWhile isBlank).length = n
  have hle : s + n ≤ b.text.size := by
    have h1 := (List.takeWhile_prefix isBlank (l := Rest b s)).length_le
    have h2 : (Rest b s).length = b.text.size - s := by unfold Rest; rw [List.length_drop, Array.length_toList (xs := b.text)]
    omega
  have hdrop : Rest b (s + n) = (Rest b s).dropWhile isBlank := by rw [rest_add, ← hn, drop_takeWhile]
  have hblank : ∀ i, i < n → ∃ x l, Rest b (s + i) = x :: l ∧ isBlank x = true := fun i hi => by
    have hlen : i < ((Rest b s).takeWhile isBlank).length := by omega
    have hpre := List.takeWhile_prefix isBlank (l := Rest b s)
    have hlen2 : i < (Rest b s).length := Nat.lt_of_lt_of_le hlen hpre.length_le
    refine ⟨(Rest b s)[i], (Rest b s).drop (i + 1), ?_, ?_⟩
    · rw [rest_add]; exact List.drop_eq_getElem_cons hlen2
    · have e1 : ((Rest b s).takeWhile isBlank)[i] = (Rest b s)[i] := List.IsPrefix.getElem hpre hlen
      rw [← e1]
      exact List.all_eq_true.mp (List.all_takeWhile) _ (List.getElem_mem _)
  have main : ∀ c P, (∀ sn, Goes c (St b (RR mk) 17 (s + n) (s + n) om [{ wait := .giveBack, pc := 5, pos := s + n, outermost := om, count := (n : Nat), kept := keepOf (RR mk) false }] none sn) P) → Goes (c + 1) (St b (RR mk) 5 s hd om [] none sn) P := by
    intro c P h
    refine g_rep1 (w1 := 11) (least := 0) (most := 4294967295) (n := n) (by omega) X.c5 B X.c6 X.c7 X.c8 (by omega) (fun sn => ?_) (Nat.zero_le _) (by simp [Wt]) (by show mk.size ≤ 8; omega) h
    have e1 : min 4294967295 (b.text.size - s) = b.text.size - s := by have := B.small; omega
    rw [e1]
    have := run_cnt (T := b.text) isBlank (acc_two X.c9 X.c11 X.c12 X.c13 X.c14 X.c15 (by omega)) (b.text.size - s) s 0 sn (by omega)
    rw [Nat.zero_add] at this
    rw [← hn]
    exact this
  have bound : ∀ a : Nat, a ≤ b.text.size → (a + 1) * (ct + 10) ≤ (b.text.size + 1) * (ct + 10) := fun a ha => Nat.mul_le_mul_right _ (by omega)
  have total : (b.text.size + 2) * (4 * ct + 60) = (b.text.size + 1) * (ct + 10) + (b.text.size + 1) * (ct + 10) + (b.text.size + 1) * (ct + 10) + (b.text.size + 1) * (ct + 10) + (b.text.size + 1) * 20 + (4 * ct + 60) := by
    rw [show 4 * ct + 60 = (ct + 10) + (ct + 10) + (ct + 10) + (ct + 10) + 20 by omega]
    simp only [Nat.add_mul, Nat.mul_add]
    omega
  have hfr : ∀ f ∈ [({ wait := .giveBack, pc := 5, pos := s + n, outermost := om, count := (n : Nat), kept := keepOf (RR mk) false } : Frame)], passes f = true := fun f hf => by
    rw [List.mem_singleton.mp hf]; rfl
  unfold reMatch
  rw [← hdrop, hn]
  by_cases h35 : ∃ l, Rest b (s + n) = 35 :: l
  · obtain ⟨cs, hx⟩ := h35
    rw [hx, remark_hash]
    have hcs := rest_succ hx
    have hk : s + n + 1 + (cs.takeWhile notNl).length ≤ b.text.size := by
      have h1 := (List.takeWhile_prefix notNl (l := cs)).length_le
      have h2 := lt_of_rest hx
      have h3 : cs.length = b.text.size - (s + n + 1) := by rw [← hcs, List.length_drop, Array.length_toList (xs := b.text)]
      omega
    have hq : Rest b (s + n + 1 + (cs.takeWhile notNl).length) = cs.dropWhile notNl := by
      rw [rest_add]
      have : Rest b (s + n + 1) = cs := hcs
      rw [this, drop_takeWhile]
    cases hT : tl (cs.dropWhile notNl) with
    | some k =>
      have hy := T.yes _ k hk (by rw [hq]; exact hT)
      simp only [Option.map_some]
      refine (main (10 + (ct + 7)) _ (fun sn => ?_)).le (by have := bound 0 (by omega); rw [total]; omega)
      refine group_hash_yes X B hx hy (by simp [Wt, keepOf]) hm (fun r' pc' pos' om' fs' sn' hg hf hl => ?_)
      rw [show s + (n + (1 + (cs.takeWhile notNl).length + k)) = s + n + 1 + (cs.takeWhile notNl).length + k by omega]
      exact t_yes hg hf hl hfr (by simp)
    | none =>
      simp only [Option.map_none]
      have h0 : TailNo b (ct + 2) (s + n) := T.no _ hle (by rw [hx]; exact T.hash cs)
      have hi : ∀ i, i ≤ (cs.takeWhile notNl).length → TailNo b (ct + 2) (s + n + 1 + i) := fun i hi => by
        refine T.no _ (by omega) ?_
        rcases Nat.lt_or_eq_of_le hi with h | h
        · rw [rest_add]
          have : Rest b (s + n + 1) = cs := hcs
          rw [this]
          exact T.inner cs hT i h
        · rw [h, hq]; exact hT
      refine (main ((1 + (n + 1) * (ct + 10)) + ((ct + 2) + 8 + ((cs.takeWhile notNl).length + 1) * ((ct + 2) + 4))) _ (fun sn => ?_)).le (by
        have h1 := bound n (by omega)
        have h2 := bound (cs.takeWhile notNl).length (by omega)
        have h3 : ((cs.takeWhile notNl).length + 1) * ((ct + 2) + 4) ≤ ((cs.takeWhile notNl).length + 1) * (ct + 10) := Nat.mul_le_mul_left _ (by omega)
        rw [total]; omega)
      refine group_hash_no X B hx hi h0 (by simp [Wt, keepOf]) hm (fun mk' pc' pos' hd' om' sn' hm' => ?_)
      exact back_no X B T n mk' _ _ _ _ _ _ _ hm' rfl rfl rfl (by simp [keepOf]) hblank
  · have hx' : ∀ l, Rest b (s + n) ≠ 35 :: l := fun l e => h35 ⟨l, e⟩
    rw [remark_no hx']
    cases hT : tl (Rest b (s + n)) with
    | some k =>
      have hy := T.yes _ k hle hT
      simp only [Option.map_some]
      refine (main (10 + (ct + 5)) _ (fun sn => ?_)).le (by have := bound 0 (by omega); rw [total]; omega)
      refine group_skip_yes X B hx' hy (by simp [Wt, keepOf]) hm (fun r' pc' pos' om' fs' sn' hg hf hl => ?_)
      rw [show s + (n + k) = s + n + k by omega]
      exact t_yes hg hf hl hfr (by simp)
    | none =>
      simp only [Option.map_none]
      refine (main ((1 + (n + 1) * (ct + 10)) + ((ct + 2) + 7)) _ (fun sn => ?_)).le (by
        have h1 := bound n (by omega)
        rw [total]; omega)
      refine group_skip_no X B hx' (T.no _ hle hT) (by simp [Wt, keepOf]) hm (fun mk' pc' pos' hd' om' sn' hm' => ?_)
      exact back_no X B T n mk' _ _ _ _ _ _ _ hm' rfl rfl rfl (by simp [keepOf]) hblank
end
end Mine

-- Rx4
set_option autoImplicit false
namespace Mine
open PySem.Sre

def eolCode : Array Nat := #[14, 4, 0, 1, 4294967295, 24, 11, 0, 4294967295, 13, 6, 16, 32, 16, 9, 0, 1, 23, 16, 0, 1, 17, 0, 16, 35, 24, 6, 0, 4294967295, 20, 10, 1, 17, 1, 18, 24, 6, 0, 1, 16, 13, 1, 16, 10, 1]
def eofCode : Array Nat := #[14, 4, 0, 0, 4294967295, 24, 11, 0, 4294967295, 13, 6, 16, 32, 16, 9, 0, 1, 23, 16, 0, 1, 17, 0, 16, 35, 24, 6, 0, 4294967295, 20, 10, 1, 17, 1, 18, 6, 5, 1]
def wsCode : Array Nat := #[14, 4, 0, 0, 4294967295, 24, 11, 0, 4294967295, 13, 6, 16, 32, 16, 9, 0, 1, 1]
theorem pre_eol : Pre eolCode := by constructor <;> decide
theorem pre_eof : Pre eofCode := by constructor <;> decide
theorem tail_eol : EolTail eolCode := by constructor <;> decide
theorem tail_eof : EofTail eofCode := by constructor <;> decide

theorem tlEol_blank (x : Nat) (l : List Nat) (h : isBlank x = true) : tlEol (x :: l) = none := by
  unfold tlEol
  split
  · rename_i h2; cases h2; cases h
  · rename_i h2; cases h2; cases h
  · rfl
theorem tlEof_blank (x : Nat) (l : List Nat) (h : isBlank x = true) : tlEof (x :: l) = none := by
  unfold tlEof
  split
  · rename_i h2; cases h2
  · rename_i h2; cases h2; cases h
  · rfl
theorem drop_of_takeWhile {q : Nat → Bool} : ∀ (cs : List Nat) (i : Nat), i < (cs.takeWhile q).length → ∃ x l, cs.drop i = x :: l ∧ q x = true ∧ l.dropWhile q = cs.dropWhile q
  | [], i, h => by cases h
  | x :: l, i, h => by
    rw [List.takeWhile_cons] at h
    cases hx : q x with
    | false => rw [hx] at h; cases h
    | true =>
      rw [hx] at h
      cases i with
      | zero => exact ⟨x, l, rfl, hx, by rw [List.dropWhile_cons, hx]; rfl⟩
      | succ i =>
        obtain ⟨y, l', e1, e2, e3⟩ := drop_of_takeWhile l i (by simpa using h)
        exact ⟨y, l', e1, e2, by rw [e3, List.dropWhile_cons, hx]; rfl⟩
theorem tlEol_inner (cs : List Nat) (h : tlEol (cs.dropWhile notNl) = none) (i : Nat) (hi : i < (cs.takeWhile notNl).length) : tlEol (cs.drop i) = none := by
  obtain ⟨x, l, e1, e2, e3⟩ := drop_of_takeWhile cs i hi
  rw [e1]
  unfold tlEol
  split
  · rename_i h2; cases h2; cases e2
  · rename_i l' h2
    cases h2
    have : (10 :: l').dropWhile notNl = 10 :: l' := rfl
    rw [this] at e3
    rw [← e3] at h
    cases h
  · rfl
theorem tlEof_inner (cs : List Nat) (_ : tlEof (cs.dropWhile notNl) = none) (i : Nat) (hi : i < (cs.takeWhile notNl).length) : tlEof (cs.drop i) = none := by
  obtain ⟨x, l, e1, e2, e3⟩ := drop_of_takeWhile cs i hi
  rw [e1]
  unfold tlEof
  split
  · rename_i h2; cases h2
  · rename_i h2; cases h2; cases e2
  · rfl
theorem tl_eol {b : M} (hc : b.code = eolCode) (B : Base b) (hm : b.mustAdvance = false) : Tl b 3 tlEol where
  yes p k _ h := eol_yes (hc ▸ tail_eol) B hm h
  no p hp h := eol_no (hc ▸ tail_eol) B hp h
  blank := tlEol_blank
  hash _ := rfl
  inner := tlEol_inner
theorem tl_eof {b : M} (hc : b.code = eofCode) (B : Base b) (hm : b.mustAdvance = false) : Tl b 3 tlEof where
  yes p k hp h := eof_yes (hc ▸ tail_eof) B hm hp h
  no p _ h := eof_no (hc ▸ tail_eof) B h
  blank := tlEof_blank
  hash _ := rfl
  inner := tlEof_inner

/-- a run of the machine from its start: it ends, and how -/
def Ends (m : M) (P : M → Prop) : Prop := ∃ n, n ≤ 2 ^ 60 ∧ (It n m).outcome.isSome = true ∧ P (It n m)

structure Hit (m : M) (s e : Nat) : Prop where
  out : m.outcome = some .matched
  start : m.start = s
  handed : m.handed = e
  marks : m.lastmark = -1 ∨ (m.lastmark = 1 ∧ ∃ p q, m.marks.getD 0 none = some p ∧ m.marks.getD 1 none = some q ∧ p ≤ q)

def baseOf (code text : Array Nat) (s : Nat) : M := { code, text, lim := text.size, start := s, pc := 0, pos := 0, handed := 0, marks := #[] }

theorem re_match_ends {code T : Array Nat} {tl : List Nat → Option Nat} {s : Nat} (X : Pre code) (TL : Tl (baseOf code T s) 3 tl) (hs : s ≤ T.size) (hT : T.size ≤ 16777216) {mk : Array (Option Nat)} (hm : mk.size = 2) {sn : Seen} :
    Ends (St (baseOf code T s) (RR mk) 5 s s true [] none sn) (fun m => match reMatch tl (T.toList.drop s) with | some k => Hit m s (s + k) | none => m.outcome = some .failed) := by
  have B : Base (baseOf code T s) := ⟨rfl, hT, rfl⟩
  obtain ⟨n, hn, hp⟩ := re_ends (b := baseOf code T s) X B TL hs hm (hd := s) (om := true) (sn := sn)
  have hb : (T.size + 2) * (4 * 3 + 60) ≤ 2 ^ 60 := by omega
  refine ⟨n, Nat.le_trans hn hb, ?_, ?_⟩
  · revert hp
    show (match reMatch tl (T.toList.drop s) with | some k => Yes (baseOf code T s) (s + k) _ | none => _) → _
    cases reMatch tl (T.toList.drop s) with
    | some k => intro h; simp [h.1]
    | none => intro h; dsimp only at h; simp [h]
  · revert hp
    show (match reMatch tl (T.toList.drop s) with | some k => Yes (baseOf code T s) (s + k) _ | none => _) → _
    cases reMatch tl (T.toList.drop s) with
    | some k => intro h; exact ⟨h.1, h.2.1, h.2.2.1, h.2.2.2⟩
    | none => intro h; exact h

theorem say_ends {m : M} (hf : m.frames = []) (ho : m.outcome = none) : Ends (m.say false) (fun m => m.outcome = some .failed) := by
  have e : It 1 (m.say false) = { m.say false with outcome := some .failed } := by
    show (m.say false).step = _
    unfold M.step
    rw [if_neg (by simp [M.say, ho])]
    simp [M.say, hf]
  exact ⟨1, by decide, by rw [e]; rfl, by rw [e]⟩

theorem eol_match {T : Array Nat} {s : Nat} (hs : s ≤ T.size) (hT : T.size ≤ 16777216) :
    Ends (PySem.Sre.forMatch eolCode T 1 s T.size false false) (fun m => match reMatch tlEol (T.toList.drop s) with | some k => Hit m s (s + k) | none => m.outcome = some .failed) := by
  by_cases h : s = T.size
  · have e : PySem.Sre.forMatch eolCode T 1 s T.size false false = (St (baseOf eolCode T s) (RR #[none, none]) 5 s s true [] none (({} : Seen).add 14)).say false := by
      unfold PySem.Sre.forMatch
      have hh : PySem.Sre.header eolCode = (1, 5) := by decide
      simp only [hh]
      rw [if_pos (by simp; omega)]
      rfl
    have hd : T.toList.drop s = [] := List.drop_of_length_le (by rw [Array.length_toList]; omega)
    rw [e, hd]
    exact say_ends rfl rfl
  · have e : PySem.Sre.forMatch eolCode T 1 s T.size false false = St (baseOf eolCode T s) (RR #[none, none]) 5 s s true [] none (({} : Seen).add 14) := by
      unfold PySem.Sre.forMatch
      have hh : PySem.Sre.header eolCode = (1, 5) := by decide
      simp only [hh]
      rw [if_neg (by simp; omega)]
      rfl
    rw [e]
    exact re_match_ends pre_eol (tl_eol rfl ⟨rfl, hT, rfl⟩ rfl) hs hT rfl
theorem eof_match {T : Array Nat} {s : Nat} (hs : s ≤ T.size) (hT : T.size ≤ 16777216) :
    Ends (PySem.Sre.forMatch eofCode T 1 s T.size false false) (fun m => match reMatch tlEof (T.toList.drop s) with | some k => Hit m s (s + k) | none => m.outcome = some .failed) := by
  have e : PySem.Sre.forMatch eofCode T 1 s T.size false false = St (baseOf eofCode T s) (RR #[none, none]) 5 s s true [] none (({} : Seen).add 14) := by
    unfold PySem.Sre.forMatch
    have hh : PySem.Sre.header eofCode = (0, 5) := by decide
    simp only [hh]
    rw [if_neg (by simp)]
    rfl
  rw [e]
  exact re_match_ends pre_eof (tl_eof rfl ⟨rfl, hT, rfl⟩ rfl) hs hT rfl
theorem ws_match {T : Array Nat} {s : Nat} (hs : s ≤ T.size) (hT : T.size ≤ 16777216) :
    Ends (PySem.Sre.forMatch wsCode T 0 s T.size false false) (fun m => Hit m s (s + ((T.toList.drop s).takeWhile isBlank).length)) := by
  have e : PySem.Sre.forMatch wsCode T 0 s T.size false false = St (baseOf wsCode T s) (RR #[]) 5 s s true [] none (({} : Seen).add 14) := by
    unfold PySem.Sre.forMatch
    have hh : PySem.Sre.header wsCode = (0, 5) := by decide
    simp only [hh]
    rw [if_neg (by simp)]
    rfl
  rw [e]
  have B : Base (baseOf wsCode T s) := ⟨rfl, hT, rfl⟩
  have hle : s + ((T.toList.drop s).takeWhile isBlank).length ≤ T.size := by
    have h1 := (List.takeWhile_prefix isBlank (l := T.toList.drop s)).length_le
    rw [List.length_drop, Array.length_toList (xs := T)] at h1
    omega
  have G : Goes 4 (St (baseOf wsCode T s) (RR #[]) 5 s s true [] none (({} : Seen).add 14)) (fun m => Yes (baseOf wsCode T s) (s + ((T.toList.drop s).takeWhile isBlank).length) m) := by
    refine g_rep1 (b := baseOf wsCode T s) (c := 3) (w1 := 11) (least := 0) (most := 4294967295) (n := ((T.toList.drop s).takeWhile isBlank).length) (show 5 < wsCode.size by decide) rfl B rfl rfl rfl (by exact hs) (fun sn => ?_) (Nat.zero_le _) (by simp [Wt]) (by simp [RR]) (fun sn => ?_)
    · have e1 : min 4294967295 (T.size - s) = T.size - s := by omega
      show ∃ sn', run wsCode T 9 (min 4294967295 (T.size - s)) s 0 sn = _
      rw [e1]
      have := run_cnt (T := T) (C := wsCode) (i := 9) isBlank (acc_two rfl rfl rfl rfl rfl rfl (by decide)) (T.size - s) s 0 sn (by omega)
      rwa [Nat.zero_add] at this
    · refine g_success (b := baseOf wsCode T s) (c := 2) (show 17 < wsCode.size by decide) rfl B rfl (fun sn => ?_)
      refine (t_all _ _ _ _ _ _ _ (List.forall_mem_singleton.mpr rfl)).mono (fun m hm => ?_)
      obtain ⟨o, st, hd, mk, lm, li⟩ := hm
      exact ⟨o, st, hd, .inl lm⟩
  obtain ⟨n, hn, hp⟩ := G
  exact ⟨n, by omega, by simp [hp.1], hp.1, hp.2.1, hp.2.2.1, hp.2.2.2⟩
end Mine

-- Rw0
set_option autoImplicit false
set_option maxRecDepth 100000
namespace Mine
open PySem PySem.W PySem.Calls PyProof.Rows PySem.Builtin.Re

theorem plain_pat : PlainAttrs "re.Pattern" :=
  ⟨⟨"object.__getattribute__", by rw [typeLookup_type, builtinLookup_eq_fast]; kernel_rfl, by decide +kernel⟩, by rw [typeLookup_type, builtinLookup_eq_fast]; kernel_rfl⟩
theorem plain_mat : PlainAttrs "re.Match" :=
  ⟨⟨"object.__getattribute__", by rw [typeLookup_type, builtinLookup_eq_fast]; kernel_rfl, by decide +kernel⟩, by rw [typeLookup_type, builtinLookup_eq_fast]; kernel_rfl⟩
theorem own_pat : Manifest.owners.lookup (String.ofList ['n','r','e','t','t','a','P','.','e','r'].reverse) = some Manifest.sig_re_Pattern := by kernel_rfl
theorem own_mat : Manifest.owners.lookup (String.ofList ['h','c','t','a','M','.','e','r'].reverse) = some Manifest.sig_re_Match := by kernel_rfl

theorem slot_match : Slot "re.Pattern" "match" "re.Pattern.match" :=
  .of (owner := "re.Pattern") (n := "match") (by rw [typeLookup_type, builtinLookup_eq_fast]; kernel_rfl) (by decide +kernel) (by decide +kernel) (by decide +kernel)
    (by first | exact .inl (by decide +kernel) | exact .inr (by decide +kernel)) (by rw [isSubtype_type]; kernel_rfl)
theorem type_match : typeOf (.builtin "re.Pattern.match") = pure (.type "method_descriptor") := by show builtinType _ = _; rw [builtinType_eq_fast]; kernel_rfl
theorem entry_match : entryFor table "re.Pattern.match" = some Builtin.«re.Pattern.match» := entryFor_of_tree (by kernel_rfl)
theorem args_match (a b c : Value) : argsOk "re.Pattern.match" ⟨[a, b, c], []⟩ := by
  unfold argsOk; rw [signature?_of (id := "re.Pattern.match") (n := ['h','c','t','a','m']) (o := ['n','r','e','t','t','a','P','.','e','r']) (by kernel_rfl) own_pat]; kernel_rfl

theorem slot_search : Slot "re.Pattern" "search" "re.Pattern.search" :=
  .of (owner := "re.Pattern") (n := "search") (by rw [typeLookup_type, builtinLookup_eq_fast]; kernel_rfl) (by decide +kernel) (by decide +kernel) (by decide +kernel)
    (by first | exact .inl (by decide +kernel) | exact .inr (by decide +kernel)) (by rw [isSubtype_type]; kernel_rfl)
theorem type_search : typeOf (.builtin "re.Pattern.search") = pure (.type "method_descriptor") := by show builtinType _ = _; rw [builtinType_eq_fast]; kernel_rfl
theorem entry_search : entryFor table "re.Pattern.search" = some Builtin.«re.Pattern.search» := entryFor_of_tree (by kernel_rfl)
theorem args_search (a b c : Value) : argsOk "re.Pattern.search" ⟨[a, b, c], []⟩ := by
  unfold argsOk; rw [signature?_of (id := "re.Pattern.search") (n := ['h','c','r','a','e','s']) (o := ['n','r','e','t','t','a','P','.','e','r']) (by kernel_rfl) own_pat]; kernel_rfl

theorem slot_end : Slot "re.Match" "end" "re.Match.end" :=
  .of (owner := "re.Match") (n := "end") (by rw [typeLookup_type, builtinLookup_eq_fast]; kernel_rfl) (by decide +kernel) (by decide +kernel) (by decide +kernel)
    (by first | exact .inl (by decide +kernel) | exact .inr (by decide +kernel)) (by rw [isSubtype_type]; kernel_rfl)
theorem type_end : typeOf (.builtin "re.Match.end") = pure (.type "method_descriptor") := by show builtinType _ = _; rw [builtinType_eq_fast]; kernel_rfl
theorem entry_end : entryFor table "re.Match.end" = some Builtin.«re.Match.end» := entryFor_of_tree (by kernel_rfl)
theorem args_end (a : Value) : argsOk "re.Match.end" ⟨[a], []⟩ := by
  unfold argsOk; rw [signature?_of (id := "re.Match.end") (n := ['d','n','e']) (o := ['h','c','t','a','M','.','e','r']) (by kernel_rfl) own_mat]; kernel_rfl
theorem slot_start : Slot "re.Match" "start" "re.Match.start" :=
  .of (owner := "re.Match") (n := "start") (by rw [typeLookup_type, builtinLookup_eq_fast]; kernel_rfl) (by decide +kernel) (by decide +kernel) (by decide +kernel)
    (by first | exact .inl (by decide +kernel) | exact .inr (by decide +kernel)) (by rw [isSubtype_type]; kernel_rfl)
theorem type_start : typeOf (.builtin "re.Match.start") = pure (.type "method_descriptor") := by show builtinType _ = _; rw [builtinType_eq_fast]; kernel_rfl
theorem entry_start : entryFor table "re.Match.start" = some Builtin.«re.Match.start» := entryFor_of_tree (by kernel_rfl)
theorem args_start (a : Value) : argsOk "re.Match.start" ⟨[a], []⟩ := by
  unfold argsOk; rw [signature?_of (id := "re.Match.start") (n := ['t','r','a','t','s']) (o := ['h','c','t','a','M','.','e','r']) (by kernel_rfl) own_mat]; kernel_rfl

end Mine

-- Rw1
set_option autoImplicit false
set_option maxRecDepth 100000
namespace Mine
open PySem PySem.W PySem.Calls PyProof.Rows PySem.Builtin.Re

section
variable {M : PySem.Model} {A : Around} {E : Value → Shared → Prop} {s : Shared}

theorem drive_ends {m : Sre.M} {P : Sre.M → Prop} {Q : Sre.M → Shared → Prop} (h : Ends m P) (hq : ∀ m', m'.outcome.isSome = true → P m' → Q m' s) : wpAny M A (reDrive (2 ^ 64) m) Q E s := by
  obtain ⟨n, hn, ho, hp⟩ := h
  have key : ∀ (t : Nat) (m : Sre.M) (n : Nat), n ≤ 4 * (t + 1) → (It n m).outcome.isSome = true → P (It n m) → wpAny M A (reDrive (t + 1) m) Q E s := by
    intro t
    induction t with
    | zero =>
      intro m n hn ho hp
      unfold reDrive
      have e4 : (Sre.M.runFor reTurnSteps m) = It 4 m := runFor_eq 4 m
      have h4 : (It 4 m).outcome.isSome = true := by
        obtain ⟨d, hd⟩ := Nat.exists_eq_add_of_le (show n ≤ 4 by omega)
        rw [hd, It_add, It_of_some ho]; exact ho
      have e5 : It 4 m = It n m := It_same h4 ho
      dsimp only
      rw [e4, if_pos h4, e5]
      exact wpAny_pure (hq _ ho hp)
    | succ t ih =>
      intro m n hn ho hp
      unfold reDrive
      have e4 : (Sre.M.runFor reTurnSteps m) = It 4 m := runFor_eq 4 m
      dsimp only
      rw [e4]
      by_cases h4 : (It 4 m).outcome.isSome = true
      · have e5 : It 4 m = It n m := It_same h4 ho
        rw [if_pos h4, e5]
        exact wpAny_pure (hq _ ho hp)
      · rw [if_neg h4]
        have hn4 : 4 < n := by
          rcases Nat.lt_or_ge 4 n with q | q
          · exact q
          · exfalso
            obtain ⟨d, hd⟩ := Nat.exists_eq_add_of_le q
            rw [hd, It_add, It_of_some ho] at h4
            exact h4 ho
        obtain ⟨d, hd⟩ := Nat.exists_eq_add_of_le (Nat.le_of_lt hn4)
        have e6 : It n m = It d (It 4 m) := by rw [hd, It_add]
        rw [e6] at ho hp
        exact wpAny_bind (wpAny_rule (ih (It 4 m) d (by omega) ho hp))
  have e : (2 : Nat) ^ 64 = (2 ^ 64 - 1) + 1 := by decide
  rw [e]
  exact key _ m n (by omega) ho hp
end
end Mine

-- Rw2
set_option autoImplicit false
set_option maxRecDepth 100000
namespace Mine
open PySem PySem.W PySem.Calls PyProof.Rows PySem.Builtin.Re

section
variable {M : PySem.Model} {A : Around} {E : Value → Shared → Prop} {s : Shared}

theorem for_rules {α : Type} {f : α → PUnit → Sem (ForInStep PUnit)} (hf : ∀ a (Q : ForInStep PUnit → Shared → Prop), Q (.yield ⟨⟩) s → wpAny M A (f a ⟨⟩) Q E s) {Q : PUnit → Shared → Prop} (hq : Q ⟨⟩ s) : ∀ l : List α, wpAny M A (forIn l PUnit.unit f) Q E s
  | [] => wpAny_pure hq
  | a :: l => by
    rw [List.forIn_cons]
    exact wpAny_bind (hf a _ (for_rules hf hq l))

theorem to_end {m : Sre.M} {P : Sre.M → Prop} {Q : Option Sre.M → Shared → Prop} (h : Ends m P) (hP : ∀ m', P m' → m'.outcome = some .matched ∨ m'.outcome = some .failed)
    (hq : ∀ m', P m' → m'.outcome = some .matched → Q (some m') s) (hn : ∀ m', P m' → m'.outcome = some .failed → Q none s) : wpAny M A (reRunToEnd m) Q E s := by
  unfold reRunToEnd
  refine wpAny_bind (drive_ends h (fun m' _ hp => ?_))
  refine wpAny_bind (for_rules (fun a Q hq => ?_) ?_ _)
  · split
    · exact wpAny_bind (wpAny_rule (wpAny_pure hq))
    · exact wpAny_pure hq
  · rcases hP m' hp with e | e
    · rw [e]; exact wpAny_pure (hq m' hp e)
    · rw [e]; exact wpAny_pure (hn m' hp e)

/-- a match as the ledger bears it -/
def matObj (pat str : Value) (pos lim : Nat) (li : Int) (tup : Addr) : Obj := { cls := .type "re.Match", data := .fields #[str, pat, rawInt pos, rawInt lim, rawInt li, .ref tup] }
def matTup (st en : Nat) (more : List Value) : Obj := { cls := .type "tuple", data := .seq (rawInt st :: rawInt en :: more).toArray }

theorem new_match {pat str : Value} {groups pos lim st en : Nat} {m : Sre.M} {Q : Value → Shared → Prop} (hm : Hit m st en) (hg : groups ≤ 1)
    (h : ∀ more li, Q (.ref (s.heap.push (matTup st en more)).objs.size) { s with heap := (s.heap.push (matTup st en more)).push (matObj pat str pos lim li s.heap.objs.size) }) : wpAny M A (reNewMatch pat str groups pos lim m) Q E s := by
  unfold reNewMatch
  dsimp only
  split
  · rename_i hany
    exfalso
    rw [List.any_eq_true] at hany
    obtain ⟨g, hgm, hh⟩ := hany
    have hg0 : g = 0 := by have := List.mem_range.mp hgm; omega
    subst hg0
    rcases hm.marks with h1 | ⟨h1, p, q, e1, e2, hpq⟩
    · split at hh
      · simp [h1] at hh
      · cases hh
    · split at hh
      · rename_i b e hb he
        simp only [Nat.mul_zero, Nat.zero_add] at hb he
        rw [e1] at hb; rw [e2] at he
        cases hb; cases he
        simp at hh
        omega
      · cases hh
  · refine wpAny_bind ?_
    rw [hm.start, hm.handed]
    refine wpAny_newObj_type ?_ ?_
    · refine wpAny_newObj_type ?_ ?_
      · exact h _ m.lastindex
      · size_fits
    · show _ ≤ sizeLine
      rcases Nat.eq_zero_or_pos groups with h0 | h0
      · subst h0
        exact Nat.le_of_ble_eq_true rfl
      · have h1 : groups = 1 := by omega
        subst h1
        simp only [List.range_one, List.flatMap_singleton]
        split
        · exact Nat.le_of_ble_eq_true rfl
        · exact Nat.le_of_ble_eq_true rfl
end
end Mine

-- Rw3
set_option autoImplicit false
set_option maxRecDepth 100000
namespace Mine
open PySem PySem.W PySem.Calls PyProof.Rows PySem.Builtin.Re

section
variable {M : PySem.Model} {A : Around} {E : Value → Shared → Prop} {s : Shared}

theorem fields_of {a : Addr} {o : Obj} {vs : Array Value} {Q : Array Value → Shared → Prop} (ho : s.heap.get? a = some o) (hd : o.data = .fields vs) (h : Q vs s) : wpAny M A (fieldsOf (.ref a)) Q E s := by
  unfold fieldsOf
  refine wpAny_bind (wpAny_load ho ?_)
  rw [hd]; exact wpAny_pure h
theorem raw_items {a : Addr} {o : Obj} {vs : Array Value} {n : Nat} {Q : Array Int → Shared → Prop} (ho : s.heap.get? a = some o) (hd : o.data = .seq vs n) (h : Q (vs.map reRawOf) s) : wpAny M A (reRawItems (.ref a)) Q E s := by
  unfold reRawItems seqItems?
  refine wpAny_bind (wpAny_bind (wpAny_load ho ?_))
  rw [hd]; exact wpAny_pure (wpAny_pure h)

theorem ssize {i : Int} {u : Tok} {Q : Int → Shared → Prop} (h0 : 0 ≤ i) (h1 : i < 2 ^ 63) (h : Q i s) : wpAny M A (reSsize (.int i u)) Q E s := by
  unfold reSsize asIndex asInt?
  refine wpAny_bind (wpAny_bind (wpAny_pure ?_))
  refine wpAny_pure ?_
  have e : (decide (i < -(2 ^ 63)) || decide (i ≥ 2 ^ 63)) = false := by
    rw [Bool.or_eq_false_iff]
    exact ⟨decide_eq_false (by omega), decide_eq_false (by omega)⟩
  dsimp only
  rw [if_neg (by rw [e]; exact Bool.false_ne_true)]
  exact wpAny_pure h

/-- a pattern as the top made it -/
structure PatAt (h : Heap) (p : Addr) (code : Array Nat) (groups : Nat) : Prop where
  ex : ∃ o v0 v1 v3 v4 tup tg tw ot vs n, h.get? p = some o ∧ o.cls = .type "re.Pattern" ∧ o.dict = none ∧ o.data = .fields #[v0, v1, .int (groups : Nat) tg, v3, v4, .ref tup, .int 0 tw] ∧ h.get? tup = some ot ∧ ot.data = .seq vs n ∧ (vs.map reRawOf).map (·.toNat) = code
theorem PatAt.keeps {h h' : Heap} {p : Addr} {code : Array Nat} {groups : Nat} (P : PatAt h p code groups) (k : ∀ b o, h.get? b = some o → h'.get? b = some o) : PatAt h' p code groups := by
  obtain ⟨o, v0, v1, v3, v4, tup, tg, tw, ot, vs, n, h1, h2, h3, h4, h5, h6, h7⟩ := P.ex
  exact ⟨o, v0, v1, v3, v4, tup, tg, tw, ot, vs, n, k _ _ h1, h2, h3, h4, k _ _ h5, h6, h7⟩

theorem target_ok {p : Addr} {code : Array Nat} {groups : Nat} {x : PySem.Str} {t u : Tok} {i : Int} {id f : String} {Q : ReTarget → Shared → Prop} (P : PatAt s.heap p code groups) (h0 : 0 ≤ i) (h1 : i ≤ x.length) (hx : x.length ≤ 16777216)
    (hn : reNamed id f ["string", "pos", "endpos"] 1 [.str x t, .int i u] [] = pure [some (.str x t), some (.int i u), none])
    (h : Q { pattern := .ref p, string := .str x t, code := code, text := x.cps, kind := 0, groups := groups, pos := i.toNat, lim := x.cps.size } s) : wpAny M A (reTarget id f ⟨[.ref p, .str x t, .int i u], []⟩) Q E s := by
  obtain ⟨o, v0, v1, v3, v4, tup, tg, tw, ot, vs, n, g1, g2, g3, g4, g5, g6, g7⟩ := P.ex
  have hs : x.length = x.cps.size := rfl
  unfold reTarget
  dsimp only
  rw [hn]
  refine wpAny_bind (wpAny_pure ?_)
  dsimp only
  refine wpAny_bind (ssize h0 (by omega) ?_)
  refine wpAny_bind (wpAny_pure ?_)
  refine wpAny_bind (fields_of g1 g4 ?_)
  unfold reTextOf asStr?
  refine wpAny_bind (wpAny_bind (wpAny_pure ?_))
  refine wpAny_pure ?_
  refine wpAny_bind (wpAny_pure ?_)
  refine wpAny_bind (raw_items g5 g6 ?_)
  refine wpAny_pure ?_
  have e1 : min i.toNat x.cps.size = i.toNat := by omega
  have e2 : min ((2 : Int) ^ 63 - 1).toNat x.cps.size = x.cps.size := by omega
  have e3 : reRawNat (.int (groups : Nat) tg) = groups := rfl
  show Q { pattern := .ref p, string := .str x t, code := (vs.map reRawOf).map (·.toNat), text := x.cps, kind := 0, groups := reRawNat (.int (groups : Nat) tg), pos := min i.toNat x.cps.size, lim := min ((2 : Int) ^ 63 - 1).toNat x.cps.size } s
  rw [e1, e2, e3, g7]
  exact h

theorem named3 (id f : String) (a b : Value) : reNamed id f ["string", "pos", "endpos"] 1 [a, b] [] = pure [some a, some b, none] := by
  rfl
end
section
variable {prog : Program} {w : World} {A : Around} {E : Value → Shared → Prop} {s : Shared} {h₀ : Heap} {L : Addr} {m : PySem.Str → Option Value} {news : List (Addr × Obj)}

theorem match_get {p : Addr} {code : Array Nat} {groups : Nat} {pl : Sem Bool} {Q : Value × List Value → Shared → Prop} (P : PatAt s.heap p code groups) (h : Q (.builtin "re.Pattern.match", [.ref p]) s) : wpAny (model prog w) A (getMethod (.ref p) "match" pl) Q E s := by
  obtain ⟨o, v0, v1, v3, v4, tup, tg, tw, ot, vs, n, g1, g2, g3, g4, g5, g6, g7⟩ := P.ex
  exact getMethod_builtin ⟨o, g1, g2⟩ plain_pat slot_match type_match (fun a e => by cases e; exact ⟨o, g1, g3⟩) h
theorem search_get {p : Addr} {code : Array Nat} {groups : Nat} {pl : Sem Bool} {Q : Value × List Value → Shared → Prop} (P : PatAt s.heap p code groups) (h : Q (.builtin "re.Pattern.search", [.ref p]) s) : wpAny (model prog w) A (getMethod (.ref p) "search" pl) Q E s := by
  obtain ⟨o, v0, v1, v3, v4, tup, tg, tw, ot, vs, n, g1, g2, g3, g4, g5, g6, g7⟩ := P.ex
  exact getMethod_builtin ⟨o, g1, g2⟩ plain_pat slot_search type_search (fun a e => by cases e; exact ⟨o, g1, g3⟩) h

/-- pattern.match(text, place): none, or a match made -/
theorem match_call {p : Addr} {code : Array Nat} {groups : Nat} {x : PySem.Str} {t u : Tok} {i : Int} {r : Option Nat} {Q : Value → Shared → Prop} (F : Fr h₀ L s.heap m) (N : News h₀ L s.heap news) (P : PatAt s.heap p code groups) (hg : groups ≤ 1)
    (h0 : 0 ≤ i) (h1 : i ≤ x.length) (hx : x.length ≤ 16777216)
    (hE : Ends (Sre.forMatch code x.cps groups i.toNat x.cps.size false false) (fun m => match r with | some k => Hit m i.toNat (i.toNat + k) | none => m.outcome = some .failed))
    (hn : r = none → Q .none s)
    (hy : ∀ k a b more li h', r = some k → Fr h₀ L h' m → News h₀ L h' ((b, matObj (.ref p) (.str x t) i.toNat x.cps.size li a) :: (a, matTup i.toNat (i.toNat + k) more) :: news) → (∀ q ∈ news, q.1 < a) → a < b → Q (.ref b) { s with heap := h' }) :
    wpAny (model prog w) A (call (.builtin "re.Pattern.match") [.ref p, .str x t, .int i u]) Q E s := by
  obtain ⟨o, v0, v1, v3, v4, tup, tg, tw, ot, vs, n, g1, g2, g3, g4, g5, g6, g7⟩ := P.ex
  refine wpAny_call (codeAny_call_builtin slot_match.plain entry_match (slot_match.check _ _ _ _ _ _ _ _ ⟨o, g1, g2⟩ (args_match _ _ _) ?_))
  unfold Builtin.«re.Pattern.match»
  refine wpAny_bind (target_ok P h0 h1 hx (named3 _ _ _ _) ?_)
  unfold reAnswer
  refine wpAny_bind (to_end hE (fun m' hm => ?_) (fun m' hm ho => ?_) (fun m' hm ho => ?_))
  · cases r with
    | none => exact .inr hm
    | some k => exact .inl hm.out
  · cases r with
    | none => rw [show m'.outcome = _ from hm] at ho; cases ho
    | some k =>
      dsimp only
      refine wpAny_bind (new_match hm hg (fun more li => ?_))
      refine wpAny_pure ?_
      have F1 := F.push (matTup i.toNat (i.toNat + k) more)
      have N1 := News.push F N (matTup i.toNat (i.toNat + k) more) rfl
      have F2 := F1.push (matObj (.ref p) (.str x t) i.toNat x.cps.size li s.heap.objs.size)
      have N2 := News.push F1 N1 (matObj (.ref p) (.str x t) i.toNat x.cps.size li s.heap.objs.size) rfl
      refine hy k s.heap.objs.size _ more li _ rfl F2 N2 (fun q hq => Heap.lt_size (N q hq).1) ?_
      have := Heap.lt_size (N1 _ (.head _)).1
      exact this
  · cases r with
    | none => exact wpAny_pure (hn rfl)
    | some k => rw [(show Hit m' _ _ from hm).out] at ho; cases ho

theorem mat_get {b a : Addr} {pat str : Value} {pos lim : Nat} {li : Int} {pl : Sem Bool} {Q : Value × List Value → Shared → Prop} (N : News h₀ L s.heap news) (hb : (b, matObj pat str pos lim li a) ∈ news) (h : Q (.builtin "re.Match.end", [.ref b]) s) :
    wpAny (model prog w) A (getMethod (.ref b) "end" pl) Q E s :=
  getMethod_builtin ⟨_, (N _ hb).1, rfl⟩ plain_mat slot_end type_end (fun a' e => by cases e; exact ⟨_, (N _ hb).1, rfl⟩) h
theorem mat_get_start {b a : Addr} {pat str : Value} {pos lim : Nat} {li : Int} {pl : Sem Bool} {Q : Value × List Value → Shared → Prop} (N : News h₀ L s.heap news) (hb : (b, matObj pat str pos lim li a) ∈ news) (h : Q (.builtin "re.Match.start", [.ref b]) s) :
    wpAny (model prog w) A (getMethod (.ref b) "start" pl) Q E s :=
  getMethod_builtin ⟨_, (N _ hb).1, rfl⟩ plain_mat slot_start type_start (fun a' e => by cases e; exact ⟨_, (N _ hb).1, rfl⟩) h

theorem found_ok {b a : Addr} {pat str : Value} {pos lim st en : Nat} {li : Int} {more : List Value} {Q : ReFound → Shared → Prop} {M : PySem.Model} (N : News h₀ L s.heap news) (hb : (b, matObj pat str pos lim li a) ∈ news) (ha : (a, matTup st en more) ∈ news)
    (h : Q { fields := #[str, pat, rawInt pos, rawInt lim, rawInt li, .ref a], spans := (rawInt st :: rawInt en :: more).toArray.map reRawOf } s) : wpAny M A (reFound (.ref b)) Q E s := by
  unfold reFound
  refine wpAny_bind (fields_of (N _ hb).1 rfl ?_)
  refine wpAny_bind ?_
  show wpAny M A (reRawItems (.ref a)) _ _ _
  exact raw_items (N _ ha).1 rfl (wpAny_pure h)

theorem mat_end {b a : Addr} {pat str : Value} {pos lim st en : Nat} {li : Int} {more : List Value} {Q : Value → Shared → Prop} (N : News h₀ L s.heap news) (hb : (b, matObj pat str pos lim li a) ∈ news) (ha : (a, matTup st en more) ∈ news)
    (h : ∀ t, Q (.int (en : Int) t) { s with toks := s.toks + 1 }) : wpAny (model prog w) A (call (.builtin "re.Match.end") [.ref b]) Q E s := by
  refine wpAny_call (codeAny_call_builtin slot_end.plain entry_end (slot_end.check _ _ _ _ _ _ _ _ ⟨_, (N _ hb).1, rfl⟩ (args_end _) ?_))
  unfold Builtin.«re.Match.end» reOneGroup
  refine wpAny_bind (wpAny_bind (wpAny_pure ?_))
  refine wpAny_bind (found_ok N hb ha ?_)
  refine wpAny_bind (wpAny_pure (wpAny_pure ?_))
  have e : ((rawInt st :: rawInt en :: more).toArray.map reRawOf).getD (2 * 0 + 1) (-1) = (en : Int) := by
    simp [rawInt, reRawOf]
  dsimp only
  rw [e]
  exact wpAny_bind (wpAny_bind (wpAny_fresh (wpAny_pure (wpAny_pure (h _)))))
theorem mat_start {b a : Addr} {pat str : Value} {pos lim st en : Nat} {li : Int} {more : List Value} {Q : Value → Shared → Prop} (N : News h₀ L s.heap news) (hb : (b, matObj pat str pos lim li a) ∈ news) (ha : (a, matTup st en more) ∈ news)
    (h : ∀ t, Q (.int (st : Int) t) { s with toks := s.toks + 1 }) : wpAny (model prog w) A (call (.builtin "re.Match.start") [.ref b]) Q E s := by
  refine wpAny_call (codeAny_call_builtin slot_start.plain entry_start (slot_start.check _ _ _ _ _ _ _ _ ⟨_, (N _ hb).1, rfl⟩ (args_start _) ?_))
  unfold Builtin.«re.Match.start» reOneGroup
  refine wpAny_bind (wpAny_bind (wpAny_pure ?_))
  refine wpAny_bind (found_ok N hb ha ?_)
  refine wpAny_bind (wpAny_pure (wpAny_pure ?_))
  have e : ((rawInt st :: rawInt en :: more).toArray.map reRawOf).getD (2 * 0) (-1) = (st : Int) := by
    simp [rawInt, reRawOf]
  dsimp only
  rw [e]
  exact wpAny_bind (wpAny_bind (wpAny_fresh (wpAny_pure (wpAny_pure (h _)))))
end
end Mine

-- K1
set_option autoImplicit false
set_option maxRecDepth 100000
namespace Mine
open PySem PySem.W PySem.Calls PyProof.Rows

/-- the signs of a text -/
def cs (x : PySem.Str) : List Nat := x.cps.toList
theorem cs_app (a b : PySem.Str) : cs (a ++ b) = cs a ++ cs b := by
  unfold cs; rw [PySem.Str.cps_append, Array.toList_append]
theorem cs_len (a : PySem.Str) : (cs a).length = a.length := Array.length_toList
theorem cs_inj {a b : PySem.Str} (h : cs a = cs b) : a = b := by
  obtain ⟨x⟩ := a; obtain ⟨y⟩ := b
  unfold cs at h
  exact congrArg PySem.Str.mk (Array.toList_inj.mp h)

theorem cs_join (ps : List PySem.Str) : cs (PySem.Txt.join (PySem.Str.ofString "") ps) = (ps.map cs).flatten := by
  have e0 : cs (PySem.Str.ofString "") = [] := by decide +kernel
  show cs (Builtin.Str.glued (PySem.Str.ofString "") ps) = _
  rw [StrLaws.glued_eq_join]
  induction ps with
  | nil => rfl
  | cons a r ih =>
    cases r with
    | nil => simp [PySem.Str.join]
    | cons b r =>
      have : PySem.Str.join (PySem.Str.ofString "") (a :: b :: r) = a ++ PySem.Str.ofString "" ++ PySem.Str.join (PySem.Str.ofString "") (b :: r) := rfl
      rw [this, cs_app, cs_app, ih, e0]
      simp
theorem flat_len {B : Nat} : ∀ (ps : List PySem.Str), (∀ p ∈ ps, p.length ≤ B) → (ps.map cs).flatten.length ≤ ps.length * B
  | [], _ => by simp
  | a :: r, h => by
    have h1 := h a (.head _)
    have h2 := flat_len r (fun p hp => h p (.tail _ hp))
    rw [← cs_len] at h1
    simp only [List.map_cons, List.flatten_cons, List.length_append, List.length_cons]
    rw [Nat.add_mul, Nat.one_mul]
    omega
theorem join_len {B : Nat} {ps : List PySem.Str} (h : ∀ p ∈ ps, p.length ≤ B) : (PySem.Txt.join (PySem.Str.ofString "") ps).length ≤ ps.length * B := by
  rw [← cs_len, cs_join]; exact flat_len ps h

theorem strs_values : ∀ {vs : List Value} {ss : List PySem.Str}, StrsAre vs ss → ∃ l : List (PySem.Str × Tok), strValues l = vs ∧ l.map (·.1) = ss
  | _, _, .nil => ⟨[], rfl, rfl⟩
  | _, _, .cons y t r => by
    obtain ⟨l, e1, e2⟩ := strs_values r
    exact ⟨(y, t) :: l, by rw [← e1]; rfl, by rw [← e2]; rfl⟩

section
variable {prog : Program} {w : World} {A : Around} {E : Value → Shared → Prop} {s : Shared} {h₀ : Heap} {L l : Addr} {m : PySem.Str → Option Value} {news : List (Addr × Obj)} {value slice : PySem.Expr} {vs : List Value} {ss ms : List PySem.Str} {vl vu : Value} {lo hi : Option Int} {Q : Value → Shared → Prop}

theorem join_strs {t : Tok} (B : Nat) (hl : s.heap.IsList l vs.toArray) (hs : StrsAre vs ss) (hB : ∀ p ∈ ss, p.length ≤ B) (hn : ss.length * B ≤ 16777216)
    (h : ∀ t' k, Q (.str (PySem.Txt.join (PySem.Str.ofString "") ss) t') { s with toks := k }) : wpAny (model prog w) A (PySem.call (.builtin "str.join") [.str (PySem.Str.ofString "") t, .ref l]) Q E s := by
  obtain ⟨lv, e1, e2⟩ := strs_values hs
  subst e1
  refine SC.join hl e2 ?_ h
  unfold JoinOk
  rw [StrLaws.joinFits hB (by rw [show (PySem.Str.ofString "").length = 0 from rfl]; omega)]
  rfl

theorem strs_upto {y : Int} (hs : StrsAre vs ss) (h : 0 ≤ y) : StrsAre (slicePick vs.toArray none (some y) none).toList (ss.take y.toNat) := by
  have e : sliceBounds none (some y) none vs.toArray.size = (((0 : Nat) : Int), ((min y.toNat vs.toArray.size : Nat) : Int), 1) := by
    simp only [sliceBounds, Option.getD_none, show (1 : Int) > 0 by decide, if_true, if_neg (show ¬ (y < 0) by omega)]
    congr 1
    congr 1
    omega
  rw [kmk_pick_nat _ e]
  have : ((vs.drop 0).take (min y.toNat vs.toArray.size - 0)) = vs.take y.toNat := by
    rw [List.drop_zero, Nat.sub_zero, List.size_toArray, kmk_take_min]
  show StrsAre ((vs.drop 0).take (min y.toNat vs.toArray.size - 0)) _
  rw [this]
  exact hs.take' _
theorem strs_from {x : Int} (hs : StrsAre vs ss) (h : 0 ≤ x) : StrsAre (slicePick vs.toArray (some x) none none).toList (ss.drop x.toNat) := by
  have e : sliceBounds (some x) none none vs.toArray.size = (((min x.toNat vs.toArray.size : Nat) : Int), ((vs.toArray.size : Nat) : Int), 1) := by
    simp only [sliceBounds, Option.getD_none, show (1 : Int) > 0 by decide, if_true, if_neg (show ¬ (x < 0) by omega)]
    congr 1
    omega
  rw [kmk_pick_nat _ e]
  have : ((vs.drop (min x.toNat vs.toArray.size)).take (vs.toArray.size - min x.toNat vs.toArray.size)) = vs.drop x.toNat := by
    rw [List.size_toArray, kmk_drop_min, List.take_of_length_le (by rw [List.length_drop]; omega)]
  show StrsAre ((vs.drop (min x.toNat vs.toArray.size)).take (vs.toArray.size - min x.toNat vs.toArray.size)) _
  rw [this]
  exact hs.drop' _

theorem slice_strs (F : Fr h₀ L s.heap m) (N : News h₀ L s.heap news) (hl : s.heap.IsList l vs.toArray) (pl : IsPart vl lo) (pu : IsPart vu hi) (_ : StrsAre vs ss) (hm : StrsAre (slicePick vs.toArray lo hi none).toList ms)
    (h : ∀ D ws h', Fr h₀ L h' m → News h₀ L h' ((D, listOf (List.toArray ws) 0) :: news) → (∀ p ∈ news, p.1 < D) → StrsAre ws ms → Q (.ref D) { s with heap := h' })
    (hs : subscripted slice false (.ref l) (.ref s.heap.objs.size) = operate [.ref s.heap.objs.size, .ref l] (getItem (.ref l) (.ref s.heap.objs.size))) (ht : ∀ r, letTemporaryGo value (.ref l) r = pure ()) (hz : vs.toArray.size ≤ sizeLine) :
    wpAny (model prog w) A (subscriptTail value slice (.ref l) (.ref s.heap.objs.size)) Q E { s with heap := s.heap.push { cls := .type "slice", data := .fields #[vl, vu, .none] } } := by
  refine kmk_slice F N hl pl pu (fun D h' F' N' l1 => h D (slicePick vs.toArray lo hi none).toList h' F' ?_ l1 hm) hs ht hz
  rw [Array.toArray_toList]
  exact N'

theorem item_menu {i : Int} {u : Tok} (hl : s.heap.IsList l vs.toArray) (hw : StrsAre vs ss) (h0 : 0 ≤ i) (h1 : i < (ss.length : Int)) (hfit : i < 2 ^ 63) (B : Nat) (hB : ∀ e ∈ ss, e.length ≤ B) (h : ∀ t' e, e ∈ ss → e.length ≤ B → Q (.str e t') s)
    (hs : subscripted slice false (.ref l) (.int i u) = operate [.ref l, .int i u] (getItem (.ref l) (.int i u)) := by with_unfolding_all rfl) :
    wpAny (model prog w) A (subscriptTail value slice (.ref l) (.int i u)) Q E s := by
  refine KTb.item_list hl hw h0 h1 hfit (fun t' hlt => (fun hm => h t' _ hm (hB _ hm)) ?_) hs
  rw [List.getD_eq_getElem?_getD, List.getElem?_eq_getElem hlt]
  exact List.getElem_mem _

theorem add_gen {x y : PySem.Str} {t u : Tok} (hsz : x.length + y.length ≤ 16777216) (h : ∀ z t' tk, z = x ++ y → Q (.str z t') { s with toks := tk }) : wpAny (model prog w) A (binaryOp .Add (.str x t) (.str y u)) Q E s :=
  PyProof.Rows.add_str (fun t' tk => h _ t' tk rfl) (by rw [PySem.sizeLine_eq]; exact hsz)
theorem join_gen {t : Tok} (B C : Nat) (hC : C ≤ 16777216) (hl : s.heap.IsList l vs.toArray) (hs : StrsAre vs ss) (hB : ∀ p ∈ ss, p.length ≤ B) (hn : ss.length * B ≤ C)
    (h : ∀ z t' k, z = PySem.Txt.join (PySem.Str.ofString "") ss → z.length ≤ C → Q (.str z t') { s with toks := k }) : wpAny (model prog w) A (PySem.call (.builtin "str.join") [.str (PySem.Str.ofString "") t, .ref l]) Q E s :=
  join_strs B hl hs hB (by omega) (fun t' k => h _ t' k rfl (Nat.le_trans (join_len hB) hn))
theorem len_text {x : PySem.Str} {t : Tok} (hx : x.length ≤ 16777216) (h : ∀ t k, Q (.int (x.length : Int) t) { s with toks := k }) : wpAny (model prog w) A (PySem.call (.builtin "len") [.str x t]) Q E s :=
  P.len_str (by omega) (h _ _)
theorem len_strs (hl : s.heap.IsList l vs.toArray) (hs : StrsAre vs ss) (hn : ss.length ≤ 1000000) (h : ∀ t k, Q (.int (ss.length : Int) t) { s with toks := k }) : wpAny (model prog w) A (PySem.call (.builtin "len") [.ref l]) Q E s := by
  have e2 : vs.toArray.size = ss.length := by rw [List.size_toArray, hs.length]
  exact len_list hl (by rw [e2]; omega) (by rw [e2]; exact h _ _)
end
end Mine

-- K2
set_option autoImplicit false
set_option maxRecDepth 100000
namespace Mine
open PySem PySem.W PySem.Calls PyProof.Rows

/-- a text of one sign -/
def one (c : Nat) : PySem.Str := ⟨#[c]⟩
section
variable {prog : Program} {w : World} {A : Around} {E : Value → Shared → Prop} {s : Shared} {value slice : PySem.Expr} {x : PySem.Str} {t u : Tok} {i : Int} {Q : Value → Shared → Prop}

theorem drop_of_lt {x : PySem.Str} {i : Int} (h0 : 0 ≤ i) (h : i < (x.length : Int)) : ∃ c l, (cs x).drop i.toNat = c :: l ∧ PySem.Txt.item x i = one c := by
  have hlt : i.toNat < (cs x).length := by rw [cs_len]; omega
  refine ⟨(cs x)[i.toNat], (cs x).drop (i.toNat + 1), List.drop_eq_getElem_cons hlt, ?_⟩
  have hg := getD_rest (T := x.cps) (List.drop_eq_getElem_cons hlt)
  have hs : i.toNat < x.cps.size := by have := cs_len x; show _ < x.length; omega
  unfold PySem.Txt.item one
  have : PySem.Txt.charAt x i = x.cps[i.toNat]? := by
    unfold PySem.Txt.charAt
    rw [seqIndex_of h0 h]
    rfl
  rw [this]
  rw [Array.getD_eq_getD_getElem?] at hg
  rw [hg]

theorem fits_of (h0 : 0 ≤ i) (hi : i < 2 ^ 62) : fitsSsize i = true := by
  unfold fitsSsize
  rw [decide_eq_false (by omega), decide_eq_false (by omega)]
  rfl
theorem text_at (hA : A.handled = none) (h0 : 0 ≤ i) (hi : i < 2 ^ 62)
    (hout : (x.length : Int) ≤ i → ∀ h' tk e, Heap.NewExc s.heap h' e "IndexError" → E (.ref e) { s with heap := h', toks := tk })
    (hin : ∀ c l t' k, i < (x.length : Int) → (cs x).drop i.toNat = c :: l → Q (.str (one c) t') { s with toks := k })
    (hs : subscripted slice false (.str x t) (.int i u) = operate [.str x t, .int i u] (getItem (.str x t) (.int i u)) := by with_unfolding_all rfl)
    (ht : ∀ r, letTemporaryGo value (.str x t) r = pure () := by intro _; with_unfolding_all rfl) :
    wpAny (model prog w) A (subscriptTail value slice (.str x t) (.int i u)) Q E s := by
  refine item_str_or hA (fits_of h0 hi) (fun h h' tk e x' => hout (by omega) h' tk e x') (fun h1 h2 => ?_) hs ht
  obtain ⟨c, l, e1, e2⟩ := drop_of_lt h0 h2
  rw [e2]
  exact hin c l _ _ h2 e1
theorem text_in (h0 : 0 ≤ i) (hi : i < 2 ^ 62) (hlt : i < (x.length : Int))
    (hin : ∀ c l t' k, (cs x).drop i.toNat = c :: l → Q (.str (one c) t') { s with toks := k })
    (hs : subscripted slice false (.str x t) (.int i u) = operate [.str x t, .int i u] (getItem (.str x t) (.int i u)) := by with_unfolding_all rfl)
    (ht : ∀ r, letTemporaryGo value (.str x t) r = pure () := by intro _; with_unfolding_all rfl) :
    wpAny (model prog w) A (subscriptTail value slice (.str x t) (.int i u)) Q E s := by
  refine item_str (fits_of h0 hi) (by omega) hlt (fun _ => ?_) hs ht
  obtain ⟨c, l, e1, e2⟩ := drop_of_lt h0 hlt
  rw [e2]
  exact hin c l _ _ e1
end
end Mine

-- K3
set_option autoImplicit false
set_option maxRecDepth 100000
namespace Mine
open PySem PySem.W PySem.Calls PyProof.Rows

theorem ofS (s : String) (c : Nat) (h : PySem.Str.ofString s = one c) (d : Nat) : decide (one d = PySem.Str.ofString s) = (d == c) := by
  rw [h]
  by_cases e : d = c
  · subst e; simp
  · rw [decide_eq_false (fun q => e (by unfold one at q; injection q with q; injection q with q; injection q))]
    exact (beq_eq_false_iff_ne.mpr e).symm
theorem o_blank : PySem.Str.ofString " " = one 32 := by decide +kernel
theorem o_tab : PySem.Str.ofString "\t" = one 9 := by decide +kernel
theorem o_hash : PySem.Str.ofString "#" = one 35 := by decide +kernel
theorem o_cr : PySem.Str.ofString "\r" = one 13 := by decide +kernel
theorem o_lf : PySem.Str.ofString "\n" = one 10 := by decide +kernel
theorem in_blank (c : Nat) : (false || decide (one c = PySem.Str.ofString " ") || decide (one c = PySem.Str.ofString "\t")) = isBlank c := by
  rw [ofS _ _ o_blank, ofS _ _ o_tab]; rfl
def isMark (c : Nat) : Bool := c == 35 || c == 13 || c == 10
theorem in_mark (c : Nat) : (false || decide (one c = PySem.Str.ofString "#") || decide (one c = PySem.Str.ofString "\r") || decide (one c = PySem.Str.ofString "\n")) = isMark c := by
  rw [ofS _ _ o_hash, ofS _ _ o_cr, ofS _ _ o_lf]; rfl

theorem takeWhile_le (q : Nat → Bool) (L : List Nat) : (L.takeWhile q).length ≤ L.length := (List.takeWhile_prefix q).length_le
theorem split_len (q : Nat → Bool) (L : List Nat) : (L.takeWhile q).length + (L.dropWhile q).length = L.length := by
  rw [← List.length_append, List.takeWhile_append_dropWhile]
theorem tlEol_le : ∀ (L : List Nat) (k : Nat), tlEol L = some k → 1 ≤ k ∧ k ≤ L.length := by
  intro L k h
  unfold tlEol at h
  split at h
  · cases h; simp
  · cases h; simp
  · cases h
theorem eol_le {L : List Nat} {k : Nat} (h : reMatch tlEol L = some k) : 1 ≤ k ∧ k ≤ L.length := by
  unfold reMatch at h
  obtain ⟨j, hj, rfl⟩ := Option.map_eq_some_iff.mp h
  have hs := split_len isBlank L
  have : 1 ≤ j ∧ j ≤ (L.dropWhile isBlank).length := by
    generalize L.dropWhile isBlank = R at hj
    by_cases h35 : ∃ l, R = 35 :: l
    · obtain ⟨l, rfl⟩ := h35
      rw [remark_hash] at hj
      obtain ⟨j', hj', rfl⟩ := Option.map_eq_some_iff.mp hj
      have h1 := tlEol_le _ _ hj'
      have h2 := split_len notNl l
      simp only [List.length_cons]
      omega
    · rw [remark_no (fun l e => h35 ⟨l, e⟩)] at hj
      exact tlEol_le _ _ hj
  omega

section
variable {x : PySem.Str} {i : Int}
theorem cs_drop_len (h0 : 0 ≤ i) (h1 : i ≤ (x.length : Int)) : (((cs x).drop i.toNat).length : Int) = (x.length : Int) - i := by
  rw [List.length_drop, cs_len]; omega
end

section
variable {prog : Program} {w : World} {A : Around} {E : Value → Shared → Prop} {s : Shared} {h₀ : Heap} {L p : Addr} {m : PySem.Str → Option Value} {news : List (Addr × Obj)} {x : PySem.Str} {t u : Tok} {i : Int} {Q : Value → Shared → Prop}
theorem call_eol (F : Fr h₀ L s.heap m) (N : News h₀ L s.heap news) (P : PatAt s.heap p eolCode 1) (h0 : 0 ≤ i) (h1 : i ≤ (x.length : Int)) (hx : x.length ≤ 16777216)
    (hn : reMatch tlEol ((cs x).drop i.toNat) = none → Q .none s)
    (hy : ∀ k a b more li h', reMatch tlEol ((cs x).drop i.toNat) = some k → 1 ≤ k → i + (k : Int) ≤ (x.length : Int) → Fr h₀ L h' m → News h₀ L h' ((b, matObj (.ref p) (.str x t) i.toNat x.cps.size li a) :: (a, matTup i.toNat (i.toNat + k) more) :: news) → (∀ q ∈ news, q.1 < a) → a < b → Q (.ref b) { s with heap := h' }) :
    wpAny (model prog w) A (PySem.call (.builtin "re.Pattern.match") [.ref p, .str x t, .int i u]) Q E s := by
  have hs : i.toNat ≤ x.cps.size := by show i.toNat ≤ x.length; omega
  refine match_call (r := reMatch tlEol ((cs x).drop i.toNat)) F N P (Nat.le_refl _) h0 h1 hx (eol_match hs hx) hn (fun k a b more li h' hk F' N' l1 l2 => ?_)
  have h3 := eol_le hk
  have h4 := cs_drop_len (x := x) h0 h1
  exact hy k a b more li h' hk h3.1 (by omega) F' N' l1 l2
theorem call_eof (F : Fr h₀ L s.heap m) (N : News h₀ L s.heap news) (P : PatAt s.heap p eofCode 1) (h0 : 0 ≤ i) (h1 : i ≤ (x.length : Int)) (hx : x.length ≤ 16777216)
    (hn : reMatch tlEof ((cs x).drop i.toNat) = none → Q .none s)
    (hy : ∀ k a b more li h', reMatch tlEof ((cs x).drop i.toNat) = some k → Fr h₀ L h' m → News h₀ L h' ((b, matObj (.ref p) (.str x t) i.toNat x.cps.size li a) :: (a, matTup i.toNat (i.toNat + k) more) :: news) → (∀ q ∈ news, q.1 < a) → a < b → Q (.ref b) { s with heap := h' }) :
    wpAny (model prog w) A (PySem.call (.builtin "re.Pattern.match") [.ref p, .str x t, .int i u]) Q E s := by
  have hs : i.toNat ≤ x.cps.size := by show i.toNat ≤ x.length; omega
  exact match_call (r := reMatch tlEof ((cs x).drop i.toNat)) F N P (Nat.le_refl _) h0 h1 hx (eof_match hs hx) hn hy
theorem call_ws (F : Fr h₀ L s.heap m) (N : News h₀ L s.heap news) (P : PatAt s.heap p wsCode 0) (h0 : 0 ≤ i) (h1 : i ≤ (x.length : Int)) (hx : x.length ≤ 16777216)
    (hy : ∀ k a b more li h', k = (((cs x).drop i.toNat).takeWhile isBlank).length → i + (k : Int) ≤ (x.length : Int) → Fr h₀ L h' m → News h₀ L h' ((b, matObj (.ref p) (.str x t) i.toNat x.cps.size li a) :: (a, matTup i.toNat (i.toNat + k) more) :: news) → (∀ q ∈ news, q.1 < a) → a < b → Q (.ref b) { s with heap := h' }) :
    wpAny (model prog w) A (PySem.call (.builtin "re.Pattern.match") [.ref p, .str x t, .int i u]) Q E s := by
  have hs : i.toNat ≤ x.cps.size := by show i.toNat ≤ x.length; omega
  refine match_call (r := some (((cs x).drop i.toNat).takeWhile isBlank).length) F N P (Nat.zero_le _) h0 h1 hx (ws_match hs hx) (fun e => by cases e) (fun k a b more li h' hk F' N' l1 l2 => ?_)
  cases hk
  have h3 := takeWhile_le isBlank ((cs x).drop i.toNat)
  have h4 := cs_drop_len (x := x) h0 h1
  exact hy _ a b more li h' rfl (by omega) F' N' l1 l2

theorem patK {K : Frag} {h : Heap} {tup : Addr} {v0 v1 v3 v4 oc : Value} {od : Option Addr} {osl osl2 : Array (Option Value)} {tg tw : Tok} {vs : Array Value} {n groups : Nat} {code : Array Nat} (X : K.In h)
    (h1 : K.lookup p = some { cls := .type "re.Pattern", dict := none, data := .fields #[v0, v1, .int (groups : Nat) tg, v3, v4, .ref tup, .int 0 tw], slots := osl2 }) (h2 : K.lookup tup = some { cls := oc, dict := od, data := .seq vs n, slots := osl }) (h3 : (vs.map Builtin.Re.reRawOf).map (·.toNat) = code) : PatAt h p code groups :=
  ⟨⟨_, v0, v1, v3, v4, tup, tg, tw, _, vs, n, X _ _ h1, rfl, rfl, rfl, X _ _ h2, rfl, h3⟩⟩

/-- steps of line ends -/
inductive Ln (T : List Nat) : Nat → Nat → Nat → Prop
  | refl (p : Nat) : Ln T p p 0
  | step {p q n k : Nat} : Ln T p q n → reMatch tlEol (T.drop q) = some k → Ln T p (q + k) (n + 1)
def LnAt (x : PySem.Str) (i1 i n : Int) : Prop := 0 ≤ i1 ∧ 0 ≤ i ∧ i ≤ (x.length : Int) ∧ x.length ≤ 1000 ∧ 0 ≤ n ∧ Ln (cs x) i1.toNat i.toNat n.toNat
theorem ln_start (h0 : 0 ≤ i) (h1 : i ≤ (x.length : Int)) (h2 : x.length ≤ 1000) : LnAt x i i 0 := ⟨h0, h0, h1, h2, Int.le_refl _, Ln.refl _⟩
theorem ln_step {i1 n : Int} {k : Nat} (H : LnAt x i1 i n) (hk : reMatch tlEol ((cs x).drop i.toNat) = some k) (hl : i + (k : Int) ≤ (x.length : Int)) : LnAt x i1 ((i.toNat + k : Nat) : Int) (n + 1) := by
  obtain ⟨a, b, c, d, e, f⟩ := H
  refine ⟨a, by omega, by omega, d, by omega, ?_⟩
  have := f.step hk
  rw [show (n + 1).toNat = n.toNat + 1 by omega, Int.toNat_natCast]
  exact this
end
end Mine

-- K4
set_option autoImplicit false
set_option maxRecDepth 100000
namespace Mine
open PySem PySem.W PySem.Calls PyProof.Rows PySem.Spec

section
variable {prog : Program} {w : World} {A₀ : Around} {E : Value → Shared → Prop} {s' : Shared} {base g g₀ G : Heap} {outer : List Env} {L a e : Addr} {m : PySem.Str → Option Value} {name : PySem.Str} {scope : Scope} {cd : Value}
  {b₀ : Stmt} {suite : List Stmt} {pos np : Pos} {rest : List ExceptHandler} {Q : Flow → Shared → Prop} {news : List (Addr × Obj)} {KF : Frag}
  {p : Program} {loose : List PySem.Str} {mean : ExcName → Option Value} {mg mb : PySem.Str → Option Value} {x : PySem.Str} {X T' : String}

/-- the frame looks at an exception just raised in itself -/
theorem looks_new {Q : Unit → Shared → Prop} {M : PySem.Model} (K : Below A₀ base outer g) (hx : Heap.NewExc G s'.heap e X) (F : Fr g L G m) (hk : scope.kind = .function)
    (hQ : ∀ h' a0, Heap.HeldW (hideAll G ((envOf name scope L a cd :: outer).filterMap (·.frame))) (envOf name scope L a cd :: outer) e (.type X) a0 L h' → s'.heap.UpToSlots h' → Q () { s' with heap := h' }) :
    wpAny M (A₀.deeper (envOf name scope L a cd)) (noteFrame (.ref e) (envOf name scope L a cd)) Q E s' := by
  have K' := K.push (name := name) (a := a) (cd := cd) F hk
  have hin : ∀ env ∈ (envOf name scope L a cd :: outer), ∀ b, env.frame = some b → b ∈ (envOf name scope L a cd :: outer).filterMap (·.frame) := fun env he b hb => List.mem_filterMap.mpr ⟨env, he, hb⟩
  obtain ⟨ob, tp, he, hcls, hd⟩ := hx.there
  have hen : (hideAll G ((envOf name scope L a cd :: outer).filterMap (·.frame))).get? e = none := by
    cases q : (hideAll G ((envOf name scope L a cd :: outer).filterMap (·.frame))).get? e with
    | none => rfl
    | some o => have := of_hideAll _ q; rw [hx.new] at this; cases this
  unfold noteFrame
  simp only [show (envOf name scope L a cd).frame = some L from rfl]
  refine wpAny_bind (wpAny_field he hd (x := .none) rfl ?_)
  rw [if_neg (by decide)]
  refine wpAny_entryW (base := hideAll G ((envOf name scope L a cd :: outer).filterMap (·.frame))) (a0 := tp) (Around.frames_deeper K.stack) ((funFrames_hide K'.frames hin).of_keeps fun b o hb _ => ⟨o, hx.keeps b o hb, rfl⟩) rfl he (fun b o hb => hx.keeps b o (of_hideAll _ hb)) hen hd (by show 1 < 6; decide) rfl fun h' hN => ?_
  obtain ⟨k1, k2, k3, k4⟩ := hN
  exact hQ h' tp ⟨k1, hen, k2, by rw [← hcls]; exact k3⟩ k4

theorem caught_new (hx9 : Heap.NewExc G s'.heap e X) (F : Fr g L G m) (N : News g L G news) (K : Below A₀ base outer g) (XB : KF.In base) (TB : Top p loose mean mg mb base)
    (D : KtsDicts (outer.filterMap (·.frame)) g) (T0 : KtsTurn (outer.filterMap (·.frame)) g₀ g)
    (ex : nsIn KF mainGlobals x = some none) (hv : bootBuiltins x = some (.type T')) (hn' : x ≠ "__name__")
    (hexc : isSubtype (.type T') (.type "BaseException") = pure true) (hnt : isSubtype (.type ((Manifest.find? T').elim "type" fun y => y.metatype)) (.type "tuple") = pure false) (hsub : isSubtype (.type X) (.type T') = pure true)
    (k : ∀ h' g', KtsTurn (outer.filterMap (·.frame)) g₀ g' → Fr g' L h' m → News g' L h' news → Below A₀ base outer g' → KF.In g' → Top p loose mean mg mb g' → KtsDicts (outer.filterMap (·.frame)) g' →
      wpAny (model prog w) ((A₀.deeper (envOf name scope L a cd)).mark (some (.ref e))) (execs (b₀ :: suite) (envOf name scope L a cd)) Q E { s' with heap := h' })
    (hk : scope.kind = .function := by rfl) (hx : (envOf name scope L a cd).kindOf x = some .globalImplicit := by rfl) (hd : (x == ("__debug__" : PySem.Str)) = false := by decide)
    (hE : PassesOwnAt (model prog w) ((A₀.deeper (envOf name scope L a cd)).mark (some (.ref e))) (A₀.deeper (envOf name scope L a cd)) (envOf name scope L a cd) E := by passes_own) :
    wpAny (model prog w) (A₀.deeper (envOf name scope L a cd)) (noteFrame (.ref e) (envOf name scope L a cd))
      (fun _ s₂ => wpAny (model prog w) (A₀.deeper (envOf name scope L a cd)) (setFlight (.ref e) none) (fun _ s₃ =>
        wpAny (model prog w) (A₀.deeper (envOf name scope L a cd)) (handleBy (.ref e) (envOf name scope L a cd) (.ExceptHandler (some (.Name x np)) none (b₀ :: suite) pos :: rest)) Q E s₃) E s₂) E s' := by
  have K' := K.push (name := name) (a := a) (cd := cd) F hk
  have hBG : ∀ b o, G.get? b = some o → b ∉ (envOf name scope L a cd :: outer).filterMap (·.frame) → (hideAll G ((envOf name scope L a cd :: outer).filterMap (·.frame))).get? b = some o := fun b o q nm => hideAll_get _ q nm
  have hnm : ∀ q ∈ news, q.1 ∉ (envOf name scope L a cd :: outer).filterMap (·.frame) := fun q hq hm => by
    obtain ⟨env, he, hf⟩ := List.mem_filterMap.mp hm
    rcases List.mem_cons.mp he with rfl | he
    · exact (N q hq).2.1 (Option.some.inj hf).symm
    · obtain ⟨o, ho, _⟩ := (K.frames.mem (List.mem_filterMap.mpr ⟨env, he, hf⟩)).2
      rw [(N q hq).2.2] at ho; cases ho
  have hsm : G.UpToSlots s'.heap := Heap.UpToSlots.of_keeps hx9.keeps
  refine looks_new K hx9 F hk fun h₄ a0 hheld₄ hsm₄ => ?_
  refine wpAny_landsW hheld₄ fun h₅ hheld hsm₅' => ?_
  have hsm₅ := hsm₄.trans hsm₅'
  obtain ⟨g₅, T₅, F₅, K₅⟩ := kts_ground K F hBG hheld.1 (hsm.trans hsm₅)
  have X₅ : KF.In g₅ := XB.keeps K₅.stays
  have P₅ : TopRead p loose mg mb g₅ := topRead_of (TB.keeps K₅.stays)
  obtain ⟨ob, hob, hobc⟩ := hheld.there
  refine wpAny_handleBy_builtin (X := X) (T := T') (b := true) hexc hnt hsub (name_B F₅ X₅ P₅ ex hv hn' ⟨rfl, ⟨ob, hob, hobc⟩, ?_⟩ hk hx hd)
  refine lands_againW hheld fun h₆ hfl₆ hsm₆ => ?_
  obtain ⟨g₆, T₆, F₆, K₆⟩ := kts_ground K F hBG hfl₆.1 ((hsm.trans hsm₅).trans hsm₆)
  have Nl : News g₆ L h₆ news := fun q hq => ⟨hfl₆.1 _ _ (hideAll_get _ (N q hq).1 (hnm q hq)), (N q hq).2.1, T₆.none_ _ (N q hq).2.2⟩
  exact wpAny_passesOwnAt hE (k h₆ g₆ (T0.trans T₆) F₆ Nl K₆ (XB.keeps K₆.stays) (TB.keeps K₆.stays) (D.turn T₆))
end
end Mine

-- K5
set_option autoImplicit false
set_option maxRecDepth 100000
namespace Mine
open PySem PySem.W PySem.Calls PyProof.Rows PySem.Spec

def AccEnd (h₀ : Heap) (L : Addr) (x y : PySem.Str) (m₀ : PySem.Str → Option Value) (r : Int) (nx : List (Addr × Obj)) (s₁ : Shared) (fl : Flow) (s₂ : Shared) : Prop :=
  fl = .next ∧ ∃ h' tk m' t', s₂ = { s₁ with heap := h', toks := tk } ∧ Fr h₀ L h' m' ∧ News h₀ L h' nx ∧ m' y = some (.int r t') ∧ ∀ z, z ≠ x → z ≠ y → m' z = m₀ z
theorem accEnd {h₀ : Heap} {L : Addr} {x y : PySem.Str} {m₀ m' : PySem.Str → Option Value} {r : Int} {nx : List (Addr × Obj)} {s₁ : Shared} {h' : Heap} {tk : Nat} {t' : Tok} (F : Fr h₀ L h' m') (N : News h₀ L h' nx) (hy : m' y = some (.int r t')) (hz : ∀ z, z ≠ x → z ≠ y → m' z = m₀ z) :
    AccEnd h₀ L x y m₀ r nx s₁ .next { s₁ with heap := h', toks := tk } := ⟨rfl, h', tk, m', t', rfl, F, N, hy, hz⟩

section
variable {prog : Program} {w : World} {A : Around} {E : Value → Shared → Prop} {s : Shared} {env : Env} {h₀ : Heap} {x : PySem.Str} {body : List Stmt} {Q : Flow → Shared → Prop}
theorem strs_acc {l : Addr} {vs : List Value} {ss : List PySem.Str} {nn : Nat} {m₀ : PySem.Str → Option Value} {news : List (Addr × Obj)} {a₀ : Int} {t₀ : Tok} (y : PySem.Str) (f : PySem.Str → Int)
    (hh : A.handled = none) (hl : (l, listOf vs.toArray nn) ∈ news) (hs : StrsAre vs ss) (F : Fr h₀ env.locals s.heap m₀) (N : News h₀ env.locals s.heap news) (hxy : x ≠ y) (hy : m₀ y = some (.int a₀ t₀))
    (turn : ∀ p a t tp h tk own, p ∈ ss → Fr h₀ env.locals h (fun z => if z = x then some (.str p tp) else if z = y then some (.int a t) else m₀ z) → News h₀ env.locals h (news ++ own) →
      wpAny (model prog w) A (execs body env) (AccEnd h₀ env.locals x y m₀ (a + f p) (news ++ own) { s with heap := h, toks := tk }) E { s with heap := h, toks := tk })
    (done : ∀ a t (u : PySem.Str → Option Value) h tk, a = a₀ + (ss.map f).sum → Fr h₀ env.locals h (fun z => if z = x then u z else if z = y then some (.int a t) else m₀ z) → News h₀ env.locals h news → Q .next { s with heap := h, toks := tk }) :
    wpAny (model prog w) A (pyIter (.ref l)) (fun it s₂ => LoopAtV prog w A h₀ env x body Q E it s₂) E s := by
  refine kdl_iter (fun i m nx => nx = news ∧ ∃ t, m y = some (.int (a₀ + ((ss.take i).map f).sum) t) ∧ ∀ z, z ≠ x → z ≠ y → m z = m₀ z) hh hl F N ⟨rfl, t₀, by simpa using hy, fun _ _ _ => rfl⟩ ?_ ?_
  · rintro i v m₁ nx h tk own hv hoff _ ⟨rfl, t, h1, h2⟩ F₁ N₁
    obtain ⟨p, tp, rfl, hp⟩ := StrsAre.item hs i v hv
    have hpm : p ∈ ss := List.mem_of_getElem? hp
    have em : (fun z => if z = x then some (Value.str p tp) else m₁ z) = fun z => if z = x then some (Value.str p tp) else if z = y then some (.int (a₀ + ((ss.take i).map f).sum) t) else m₀ z := by
      funext z
      by_cases e1 : z = x
      · rw [if_pos e1, if_pos e1]
      · rw [if_neg e1, if_neg e1]
        by_cases e2 : z = y
        · rw [if_pos e2, e2, h1]
        · rw [if_neg e2, h2 z e1 e2]
    rw [em] at F₁
    refine wpAny_mono (turn p _ t tp h tk own hpm F₁ N₁) (fun fl s₂ q => ?_) fun _ _ z => z
    obtain ⟨rfl, h', tk', m', t', rfl, F', N', e1, e2⟩ := q
    refine InvEndG.intro F' N' ⟨hl, rfl, t', ?_, e2⟩ (fun p hp b hb => hoff p hp b hb) (fun p hp => List.mem_append_left _ hp) (fun p hp => List.mem_append_right _ hp)
    rw [e1, List.take_add_one, hp, List.map_append, List.sum_append]
    simp only [Option.toList_some, List.map_cons, List.map_nil, List.sum_cons, List.sum_nil, Int.add_zero]
    rw [Int.add_assoc]
  · rintro m₁ nx h tk ⟨rfl, t, h1, h2⟩ F₁ N₁
    have em : m₁ = fun z => if z = x then m₁ z else if z = y then some (.int (a₀ + ((ss.take vs.length).map f).sum) t) else m₀ z := by
      funext z
      by_cases e1 : z = x
      · rw [if_pos e1]
      · rw [if_neg e1]
        by_cases e2 : z = y
        · rw [if_pos e2, e2, h1]
        · rw [if_neg e2, h2 z e1 e2]
    rw [em] at F₁
    refine done _ t m₁ h tk ?_ F₁ N₁
    rw [hs.length, List.take_length]
end

/-- ends that meet: an int, whatever was made on the way -/
structure InDue : Prop where
def IntEnd (v : Int) (h₀ : Heap) (L : Addr) (m : PySem.Str → Option Value) (news : List (Addr × Obj)) (s : Shared) (r : Value) (s' : Shared) : Prop :=
  ∃ t h' tk, r = .int v t ∧ s' = { s with heap := h', toks := tk } ∧ Fr h₀ L h' m ∧ News h₀ L h' news
theorem intEnd {v x : Int} {h₀ : Heap} {L : Addr} {m : PySem.Str → Option Value} {news news' : List (Addr × Obj)} {s : Shared} {h' : Heap} {tk : Nat} {t : Tok} (F : Fr h₀ L h' m) (N : News h₀ L h' news') (hs : ∀ p ∈ news, p ∈ news') (e : x = v) :
    IntEnd v h₀ L m news s (.int x t) { s with heap := h', toks := tk } := ⟨t, h', tk, by rw [e], rfl, F, fun p hp => N p (hs p hp)⟩
theorem int_meet {prog : Program} {w : World} {A : Around} {E : Value → Shared → Prop} {s : Shared} {tr : Sem Value} {Q : Value → Shared → Prop} {h₀ : Heap} {L : Addr} {m : PySem.Str → Option Value} {news : List (Addr × Obj)} (v : Int)
    (F : Fr h₀ L s.heap m) (N : News h₀ L s.heap news) (h : InDue → wpAny (model prog w) A tr (IntEnd v h₀ L m news s) E s)
    (k : ∀ t h' tk, Fr h₀ L h' m → News h₀ L h' news → Q (.int v t) { s with heap := h', toks := tk }) : wpAny (model prog w) A tr Q E s :=
  wpAny_mono (h ⟨⟩) (fun r s' hr => by obtain ⟨t, h', tk, rfl, rfl, F', N'⟩ := hr; exact k t h' tk F' N') (fun _ _ x => x)
end Mine

-- L3
set_option autoImplicit false
set_option maxRecDepth 100000
namespace Mine
open PySem

inductive Steps : List Nat → Nat → Nat → Prop
  | stop {L : List Nat} : reMatch tlEol L = none → Steps L 0 0
  | more {L : List Nat} {k m n : Nat} : reMatch tlEol L = some k → Steps (L.drop k) m n → Steps L (k + m) (n + 1)
theorem Steps.det {L : List Nat} {m n : Nat} (h : Steps L m n) : ∀ {m' n' : Nat}, Steps L m' n' → m = m' ∧ n = n' := by
  induction h with
  | stop e =>
    intro m' n' h'
    cases h' with
    | stop _ => exact ⟨rfl, rfl⟩
    | more e' _ => rw [e] at e'; cases e'
  | more e _ ih =>
    intro m' n' h'
    cases h' with
    | stop e' => rw [e] at e'; cases e'
    | more e' h2 =>
      rw [e] at e'; cases e'
      obtain ⟨a, b⟩ := ih h2
      exact ⟨by omega, by omega⟩
theorem Steps.zero {L : List Nat} {m : Nat} (h : Steps L m 0) : m = 0 := by cases h; rfl

theorem blank_dropWhile {B : List Nat} (hb : ∀ c ∈ B, isBlank c = true) (L : List Nat) : (B ++ L).dropWhile isBlank = L.dropWhile isBlank := by
  induction B with
  | nil => rfl
  | cons c B ih =>
    rw [List.cons_append, List.dropWhile_cons, hb c (.head _)]
    exact ih (fun d hd => hb d (.tail _ hd))
theorem blank_takeWhile {B : List Nat} (hb : ∀ c ∈ B, isBlank c = true) (L : List Nat) : ((B ++ L).takeWhile isBlank).length = B.length + (L.takeWhile isBlank).length := by
  induction B with
  | nil => simp
  | cons c B ih =>
    rw [List.cons_append, List.takeWhile_cons, hb c (.head _)]
    simp only [if_true, List.length_cons]
    rw [ih (fun d hd => hb d (.tail _ hd))]
    omega
theorem blank_match {tl : List Nat → Option Nat} {B : List Nat} (hb : ∀ c ∈ B, isBlank c = true) (L : List Nat) : reMatch tl (B ++ L) = (reMatch tl L).map (B.length + ·) := by
  unfold reMatch
  rw [blank_dropWhile hb, blank_takeWhile hb, Option.map_map]
  congr 1
  funext k
  simp only [Function.comp]
  omega
theorem blank_steps {B L : List Nat} {m n : Nat} (hb : ∀ c ∈ B, isBlank c = true) (h : Steps L m n) : Steps (B ++ L) (if n = 0 then 0 else B.length + m) n := by
  cases h with
  | stop e => exact Steps.stop (by rw [blank_match hb, e]; rfl)
  | more e h2 =>
    rename_i k m n
    rw [if_neg (by omega), ← Nat.add_assoc]
    refine Steps.more (by rw [blank_match hb, e]; rfl) ?_
    have : (B ++ L).drop (B.length + k) = L.drop k := by rw [← List.drop_drop, List.drop_left]
    rw [this]; exact h2

theorem ln_steps {T : List Nat} {p q n : Nat} (h : Ln T p q n) : ∀ {m n' : Nat}, Steps (T.drop q) m n' → p ≤ q ∧ Steps (T.drop p) (q - p + m) (n + n') := by
  induction h with
  | refl => intro m n' h; exact ⟨Nat.le_refl _, by rw [Nat.sub_self, Nat.zero_add, Nat.zero_add]; exact h⟩
  | step _ hk ih =>
    rename_i q n k _
    intro m n' h
    have := ih (Steps.more hk (by rw [List.drop_drop]; exact h))
    refine ⟨by omega, ?_⟩
    rw [show q + k - p + m = q - p + (k + m) by omega, show n + 1 + n' = n + (n' + 1) by omega]
    exact this.2

inductive Part : List Nat → Int → Prop
  | blank {l : List Nat} (h : ∀ c ∈ l, isBlank c = true) : Part l 0
  | line {c : Nat} {r : List Nat} (hm : isMark c = true) (hb : isBlank c = false) (h : ∀ L, reMatch tlEol ((c :: r) ++ L) = some (c :: r).length) : Part (c :: r) 1

/-- the parts and then an end: the steps come behind the last line, before the blanks -/
theorem parts_steps {α : Type} (g : α → List Nat) (f : α → Int) (ce : List Nat) (he : reMatch tlEol ce = none) : ∀ qs : List α, (∀ p ∈ qs, Part (g p) (f p)) →
    ∃ m n bs, Steps ((qs.map g).flatten ++ ce) m n ∧ (n : Int) = (qs.map f).sum ∧ ((qs.map g).flatten ++ ce).drop m = bs ++ ce ∧ (∀ c ∈ bs, isBlank c = true) ∧ m + bs.length = (qs.map g).flatten.length
  | [], _ => ⟨0, 0, [], Steps.stop he, rfl, rfl, by simp, rfl⟩
  | p :: qs, h => by
    obtain ⟨m, n, bs, h1, h2, h3, h4, h5⟩ := parts_steps g f ce he qs (fun q hq => h q (.tail _ hq))
    have hp := h p (.head _)
    simp only [List.map_cons, List.flatten_cons, List.sum_cons, List.append_assoc, List.length_append]
    generalize g p = l at hp ⊢
    generalize f p = z at hp ⊢
    cases hp with
    | blank hb =>
      have hs := blank_steps hb h1
      by_cases hn : n = 0
      · subst hn
        have hm := h1.zero
        subst hm
        rw [if_pos rfl] at hs
        refine ⟨0, 0, l ++ bs, hs, by omega, ?_, fun c hc => (List.mem_append.mp hc).elim (hb c) (h4 c), by rw [List.length_append]; omega⟩
        rw [List.drop_zero] at h3 ⊢
        rw [h3, List.append_assoc]
      · rw [if_neg hn] at hs
        refine ⟨_, n, bs, hs, by omega, ?_, h4, by omega⟩
        rw [← List.drop_drop, List.drop_left]; exact h3
    | line hm hb hk =>
      rename_i c r
      refine ⟨(c :: r).length + m, n + 1, bs, Steps.more (hk _) (by rw [List.drop_left]; exact h1), by omega, ?_, h4, by omega⟩
      rw [← List.drop_drop, List.drop_left]; exact h3

theorem dropWhile_take (L : List Nat) : L = L.takeWhile isBlank ++ L.dropWhile isBlank := (List.takeWhile_append_dropWhile).symm
theorem head_dropWhile : ∀ {L : List Nat} {c : Nat} {l : List Nat}, L.dropWhile isBlank = c :: l → isBlank c = false
  | [], _, _, h => by cases h
  | d :: L, c, l, h => by
    rw [List.dropWhile_cons] at h
    cases hd : isBlank d with
    | true => rw [hd] at h; exact head_dropWhile h
    | false => rw [hd] at h; cases h; exact hd
theorem all_takeWhile_blank (L : List Nat) : ∀ c ∈ L.takeWhile isBlank, isBlank c = true := fun c hc => List.all_eq_true.mp List.all_takeWhile c hc

/-- from any place on: where the steps and the blanks behind them end -/
theorem end_of {α : Type} (g : α → List Nat) (f : α → Int) (ce : List Nat) (he : reMatch tlEol ce = none) (qs : List α) (hq : ∀ p ∈ qs, Part (g p) (f p)) {m n : Nat}
    (h : Steps (((qs.map g).flatten ++ ce).dropWhile isBlank) m n) :
    (n : Int) = (qs.map f).sum ∧ (((qs.map g).flatten ++ ce).takeWhile isBlank).length + m + (((((qs.map g).flatten ++ ce).dropWhile isBlank).drop m).takeWhile isBlank).length = (qs.map g).flatten.length + (ce.takeWhile isBlank).length := by
  obtain ⟨m', n', bs, h1, h2, h3, h4, h5⟩ := parts_steps g f ce he qs hq
  generalize hR : (qs.map g).flatten ++ ce = R at *
  have hs := blank_steps (all_takeWhile_blank R) h
  rw [← dropWhile_take] at hs
  obtain ⟨e1, e2⟩ := hs.det h1
  subst e2
  refine ⟨h2, ?_⟩
  by_cases hn : n = 0
  · subst hn
    have hm := h.zero
    subst hm
    rw [if_pos rfl] at e1
    subst e1
    rw [List.drop_zero] at h3
    have e4 : ((R.dropWhile isBlank).takeWhile isBlank).length = 0 := by
      cases hd : R.dropWhile isBlank with
      | nil => rfl
      | cons c l =>
        have : isBlank c = false := head_dropWhile hd
        rw [List.takeWhile_cons, this]; rfl
    rw [List.drop_zero, e4, h3, blank_takeWhile h4]
    omega
  · rw [if_neg hn] at e1
    have e5 : (R.dropWhile isBlank).drop m = bs ++ ce := by
      rw [← h3, ← e1, ← List.drop_drop, drop_takeWhile]
    rw [e5, blank_takeWhile h4]
    omega
end Mine

-- L3b
set_option autoImplicit false
set_option maxRecDepth 100000
namespace Mine
open PySem PySem.W PySem.Calls PyProof.Rows

def Blk (x : PySem.Str) (i0 i : Int) : Prop := 0 ≤ i0 ∧ i0 ≤ i ∧ i ≤ (x.length : Int) ∧ x.length ≤ 1000 ∧ ∀ k : Nat, i0.toNat ≤ k → k < i.toNat → isBlank ((cs x).getD k 0) = true
theorem blk_start {x : PySem.Str} {i : Int} (h0 : 0 ≤ i) (h1 : i ≤ (x.length : Int)) (h2 : x.length ≤ 1000) : Blk x i i := ⟨h0, Int.le_refl _, h1, h2, fun k a b => absurd b (by omega)⟩
theorem blk_step {x : PySem.Str} {i0 i : Int} {c : Nat} {l : List Nat} (B : Blk x i0 i) (hl : (cs x).drop i.toNat = c :: l) (hc : isBlank c = true) : Blk x i0 (i + 1) := by
  obtain ⟨a, b, d, e, f⟩ := B
  have h1 := lt_of_rest (T := x.cps) hl
  have h2 : x.cps.size = x.length := rfl
  refine ⟨a, by omega, by omega, e, fun k k1 k2 => ?_⟩
  rcases Nat.lt_or_ge k i.toNat with q | q
  · exact f k k1 q
  · have ek : k = i.toNat := by omega
    subst ek
    have : (cs x)[i.toNat]? = some c := by
      have : ((cs x).drop i.toNat)[0]? = some c := by rw [hl]; rfl
      rwa [List.getElem?_drop, Nat.add_zero] at this
    rw [List.getD_eq_getElem?_getD, this]
    exact hc

def menu3 : List PySem.Str := [PySem.Str.ofString " ", PySem.Str.ofString "\t", PySem.Str.ofString "\n", PySem.Str.ofString "\r\n", PySem.Str.ofString "# a b\n", PySem.Str.ofString "#\r\n", PySem.Str.ofString "   ", PySem.Str.ofString "#<x> .\n"]
def ends3 : List PySem.Str := [PySem.Str.ofString "a", PySem.Str.ofString "<x>", PySem.Str.ofString "\"", PySem.Str.ofString "", PySem.Str.ofString "  ", PySem.Str.ofString "# no end", PySem.Str.ofString "\t# x"]
def cntNl (p : PySem.Str) : Int := (PySem.Txt.count p (PySem.Str.ofString "\n") : Int)
def dueFlag (e : PySem.Str) : Bool := ([PySem.Str.ofString "a", PySem.Str.ofString "<", PySem.Str.ofString "\""].any fun x => x == PySem.Txt.slice e none (some 1)) && (e != PySem.Str.ofString "")
def dueOf (e z : PySem.Str) : Int := if dueFlag e = true then (z.length : Int) else -1

theorem part_of {p : PySem.Str} {l : List Nat} {z : Int} (h1 : cs p = l) (h2 : cntNl p = z) (h : Part l z) : Part (cs p) (cntNl p) := by rw [h1, h2]; exact h
theorem menu3_part (p : PySem.Str) (h : p ∈ menu3) : Part (cs p) (cntNl p) := by
  simp only [menu3, List.mem_cons, List.not_mem_nil, or_false] at h
  rcases h with rfl | rfl | rfl | rfl | rfl | rfl | rfl | rfl
  · exact part_of (l := [32]) (z := 0) (by decide +kernel) (by decide +kernel) (.blank (by decide))
  · exact part_of (l := [9]) (z := 0) (by decide +kernel) (by decide +kernel) (.blank (by decide))
  · exact part_of (l := [10]) (z := 1) (by decide +kernel) (by decide +kernel) (.line rfl rfl (fun L => rfl))
  · exact part_of (l := [13, 10]) (z := 1) (by decide +kernel) (by decide +kernel) (.line rfl rfl (fun L => rfl))
  · exact part_of (l := [35, 32, 97, 32, 98, 10]) (z := 1) (by decide +kernel) (by decide +kernel) (.line rfl rfl (fun L => rfl))
  · exact part_of (l := [35, 13, 10]) (z := 1) (by decide +kernel) (by decide +kernel) (.line rfl rfl (fun L => rfl))
  · exact part_of (l := [32, 32, 32]) (z := 0) (by decide +kernel) (by decide +kernel) (.blank (by decide))
  · exact part_of (l := [35, 60, 120, 62, 32, 46, 10]) (z := 1) (by decide +kernel) (by decide +kernel) (.line rfl rfl (fun L => rfl))

theorem ends3_no : ∀ e ∈ ends3, reMatch tlEol (cs e) = none := by decide +kernel
theorem ends3_eof : ∀ e ∈ ends3, (reMatch tlEof ((cs e).dropWhile isBlank)).isNone = dueFlag e := by decide +kernel
theorem ends3_bl : ∀ e ∈ ends3, dueFlag e = true → (cs e).takeWhile isBlank = [] := by decide +kernel
theorem ends3_all : ∀ e ∈ ends3, (cs e).all isBlank = true → dueFlag e = false := by decide +kernel
theorem ends3_first : ∀ e ∈ ends3, (match (cs e).dropWhile isBlank with | c :: _ => !isMark c | [] => false) = true → dueFlag e = true := by decide +kernel

section
variable {ps : List PySem.Str} {n : Nat} {x z1 z2 e : PySem.Str}
/-- the text of the law -/
structure Txt3 (ps : List PySem.Str) (n : Nat) (x z1 z2 e : PySem.Str) : Prop where
  hx : x = z1 ++ e
  hz1 : z1 = PySem.Txt.join (PySem.Str.ofString "") ps
  hz2 : z2 = PySem.Txt.join (PySem.Str.ofString "") (ps.take n)
  hM : ∀ p ∈ ps, p ∈ menu3
  hE : e ∈ ends3
def rest3 (ps : List PySem.Str) (n : Nat) (e : PySem.Str) : List Nat := ((ps.drop n).map cs).flatten ++ cs e
theorem Txt3.split (H : Txt3 ps n x z1 z2 e) : cs x = cs z2 ++ rest3 ps n e := by
  unfold rest3
  rw [H.hx, cs_app, H.hz1, H.hz2, cs_join, cs_join, ← List.append_assoc]
  congr 1
  rw [← List.flatten_append, ← List.map_append, List.take_append_drop]
theorem Txt3.drop (H : Txt3 ps n x z1 z2 e) : (cs x).drop z2.length = rest3 ps n e := by
  rw [H.split, ← cs_len z2, List.drop_left]
theorem Txt3.len1 (H : Txt3 ps n x z1 z2 e) : z1.length = z2.length + ((ps.drop n).map cs).flatten.length := by
  rw [← cs_len z1, ← cs_len z2, H.hz1, H.hz2, cs_join, cs_join, ← List.length_append, ← List.flatten_append, ← List.map_append, List.take_append_drop]
theorem Txt3.len (H : Txt3 ps n x z1 z2 e) : x.length = z2.length + (rest3 ps n e).length := by
  rw [← cs_len x, H.split, List.length_append, cs_len]
theorem Txt3.parts (H : Txt3 ps n x z1 z2 e) : ∀ p ∈ ps.drop n, Part (cs p) (cntNl p) := fun p hp => menu3_part p (H.hM p (List.mem_of_mem_drop hp))

/-- blanks up to a place -/
theorem blk_rest {i : Int} (H : Txt3 ps n x z1 z2 e) (B : Blk x (z2.length : Int) i) : ∃ d, i.toNat = z2.length + d ∧ (∀ c ∈ (rest3 ps n e).take d, isBlank c = true) ∧ (cs x).drop i.toNat = (rest3 ps n e).drop d ∧ d ≤ (rest3 ps n e).length := by
  obtain ⟨_, b, c, _, f⟩ := B
  have hl := H.len
  refine ⟨i.toNat - z2.length, by omega, fun q hq => ?_, ?_, by omega⟩
  · obtain ⟨k, hk, ek⟩ := List.mem_iff_getElem.mp hq
    rw [List.length_take] at hk
    have := f (z2.length + k) (by omega) (by omega)
    have e2 : (cs x).getD (z2.length + k) 0 = q := by
      rw [H.split, List.getD_eq_getElem?_getD, ← cs_len z2, List.getElem?_append_right (by omega), Nat.add_sub_cancel_left, ← ek, List.getElem_take, List.getElem?_eq_getElem (by omega)]
      rfl
    rw [e2] at this; exact this
  · rw [← H.drop, List.drop_drop]; congr 1; omega

theorem path_end {i : Int} (H : Txt3 ps n x z1 z2 e) (B : Blk x (z2.length : Int) i) (ho : (x.length : Int) ≤ i) : dueOf e z1 = -1 := by
  obtain ⟨d, h1, h2, h3, h4⟩ := blk_rest H B
  have hl := H.len
  have hd : d = (rest3 ps n e).length := by omega
  rw [hd, List.take_length] at h2
  have : (cs e).all isBlank = true := List.all_eq_true.mpr fun c hc => h2 c (by unfold rest3; exact List.mem_append_right _ hc)
  unfold dueOf
  rw [ends3_all e H.hE this]; rfl
theorem blk_split {i : Int} {c : Nat} {l : List Nat} (H : Txt3 ps n x z1 z2 e) (B : Blk x (z2.length : Int) i) (hd : (cs x).drop i.toNat = c :: l) (hc : isBlank c = false) :
    i.toNat = z2.length + ((rest3 ps n e).takeWhile isBlank).length ∧ (rest3 ps n e).dropWhile isBlank = c :: l := by
  obtain ⟨d, h1, h2, h3, h4⟩ := blk_rest H B
  have e1 : rest3 ps n e = (rest3 ps n e).take d ++ c :: l := by rw [← hd, h3, List.take_append_drop]
  have e2 := blank_takeWhile h2 (c :: l)
  have e3 := blank_dropWhile h2 (c :: l)
  rw [← e1] at e2 e3
  have e4 : ((c :: l).takeWhile isBlank).length = 0 := by rw [List.takeWhile_cons, hc]; rfl
  have e5 : (c :: l).dropWhile isBlank = c :: l := by rw [List.dropWhile_cons, hc]; rfl
  rw [e4, List.length_take] at e2
  rw [e5] at e3
  exact ⟨by omega, e3⟩
theorem Txt3.fin (H : Txt3 ps n x z1 z2 e) {m k : Nat} (h : Steps ((rest3 ps n e).dropWhile isBlank) m k) :
    (k : Int) = ((ps.drop n).map cntNl).sum ∧ z2.length + ((rest3 ps n e).takeWhile isBlank).length + m + ((((rest3 ps n e).dropWhile isBlank).drop m).takeWhile isBlank).length = z1.length + ((cs e).takeWhile isBlank).length := by
  have h1 := H.len1
  obtain ⟨a, b⟩ := end_of cs cntNl (cs e) (ends3_no e H.hE) (ps.drop n) H.parts h
  refine ⟨a, ?_⟩
  unfold rest3
  omega
theorem plain_none {c : Nat} {l : List Nat} (hb : isBlank c = false) (hm : isMark c = false) : reMatch tlEol (c :: l) = none := by
  have h35 : c ≠ 35 := fun q => by subst q; cases hm
  have h10 : c ≠ 10 := fun q => by subst q; cases hm
  have h13 : c ≠ 13 := fun q => by subst q; cases hm
  unfold reMatch
  rw [List.dropWhile_cons, hb]
  simp only [Bool.false_eq_true, if_false]
  rw [remark_no (fun l' q => by injection q with q; exact h35 q)]
  have : tlEol (c :: l) = none := by
    unfold tlEol
    split
    · rename_i q; injection q with q; exact absurd q h10
    · rename_i q; injection q with q; exact absurd q h13
    · rfl
  rw [this]; rfl
theorem tail_at (H : Txt3 ps n x z1 z2 e) {q : Nat} (hq : q = z1.length + ((cs e).takeWhile isBlank).length) : (cs x).drop q = (cs e).dropWhile isBlank := by
  rw [hq, H.hx, cs_app, ← List.drop_drop, ← cs_len z1, List.drop_left, drop_takeWhile]
theorem path_word {i : Int} {c : Nat} {l : List Nat} (H : Txt3 ps n x z1 z2 e) (B : Blk x (z2.length : Int) i) (hd : (cs x).drop i.toNat = c :: l) (hc : isBlank c = false) (hm : isMark c = false) :
    0 ≤ i ∧ dueOf e z1 = i ∧ ((ps.drop n).map cntNl).sum = 0 := by
  obtain ⟨h1, h2⟩ := blk_split H B hd hc
  have h3 : Steps ((rest3 ps n e).dropWhile isBlank) 0 0 := Steps.stop (by rw [h2]; exact plain_none hc hm)
  obtain ⟨a, b⟩ := H.fin h3
  have e4 : ((((rest3 ps n e).dropWhile isBlank).drop 0).takeWhile isBlank).length = 0 := by rw [List.drop_zero, h2, List.takeWhile_cons, hc]; rfl
  rw [e4] at b
  have h5 := tail_at H (q := i.toNat) (by omega)
  have h6 : dueFlag e = true := ends3_first e H.hE (by rw [← h5, hd]; simp [hm])
  have h7 := ends3_bl e H.hE h6
  rw [h7] at b
  have hi := B.2.1
  refine ⟨by omega, ?_, by omega⟩
  unfold dueOf
  rw [if_pos h6]
  simp at b
  omega
theorem path_lines {i1 i m : Int} {c k : Nat} {l : List Nat} (H : Txt3 ps n x z1 z2 e) (B : Blk x (z2.length : Int) i1) (hd : (cs x).drop i1.toNat = c :: l) (hc : isBlank c = false) (N : LnAt x i1 i m) (hn : reMatch tlEol ((cs x).drop i.toNat) = none)
    (hk : k = (((cs x).drop i.toNat).takeWhile isBlank).length) : m = ((ps.drop n).map cntNl).sum ∧ i.toNat + k = z1.length + ((cs e).takeWhile isBlank).length := by
  obtain ⟨h1, h2⟩ := blk_split H B hd hc
  obtain ⟨n1, n2, n3, n4, n5, n6⟩ := N
  obtain ⟨h3, h4⟩ := ln_steps n6 (Steps.stop hn)
  rw [Nat.add_zero, Nat.add_zero, hd, ← h2] at h4
  obtain ⟨a, b⟩ := H.fin h4
  have e5 : ((rest3 ps n e).dropWhile isBlank).drop (i.toNat - i1.toNat) = (cs x).drop i.toNat := by
    rw [h2, ← hd, List.drop_drop]; congr 1; omega
  rw [e5, ← hk] at b
  exact ⟨by omega, by omega⟩
theorem path_some {i1 i m : Int} {c k : Nat} {l : List Nat} (H : Txt3 ps n x z1 z2 e) (B : Blk x (z2.length : Int) i1) (hd : (cs x).drop i1.toNat = c :: l) (hc : isBlank c = false) (N : LnAt x i1 i m) (hn : reMatch tlEol ((cs x).drop i.toNat) = none)
    (hk : k = (((cs x).drop i.toNat).takeWhile isBlank).length) (he : reMatch tlEof ((cs x).drop ((i.toNat + k : Nat) : Int).toNat) = none) : dueOf e z1 = ((i.toNat + k : Nat) : Int) ∧ m = ((ps.drop n).map cntNl).sum := by
  obtain ⟨a, b⟩ := path_lines H B hd hc N hn hk
  have h5 := tail_at H b
  rw [Int.toNat_natCast, h5] at he
  have h6 : dueFlag e = true := by rw [← ends3_eof e H.hE, he]; rfl
  have h7 := ends3_bl e H.hE h6
  rw [h7] at b
  refine ⟨?_, a⟩
  unfold dueOf
  rw [if_pos h6]
  simp at b
  omega
theorem path_none {i1 i m : Int} {c k k2 : Nat} {l : List Nat} (H : Txt3 ps n x z1 z2 e) (B : Blk x (z2.length : Int) i1) (hd : (cs x).drop i1.toNat = c :: l) (hc : isBlank c = false) (N : LnAt x i1 i m) (hn : reMatch tlEol ((cs x).drop i.toNat) = none)
    (hk : k = (((cs x).drop i.toNat).takeWhile isBlank).length) (he : reMatch tlEof ((cs x).drop ((i.toNat + k : Nat) : Int).toNat) = some k2) : dueOf e z1 = -1 := by
  obtain ⟨a, b⟩ := path_lines H B hd hc N hn hk
  have h5 := tail_at H b
  rw [Int.toNat_natCast, h5] at he
  have h6 : dueFlag e = false := by rw [← ends3_eof e H.hE, he]; rfl
  unfold dueOf
  rw [h6]; rfl
end
end Mine

-- W03
namespace Mine
open PySem PySem.W PyProof.Rows
def lawAt (ns : List Int) (k many : Int) : Int := if k < (ns.length : Int) then (if ns.getD k.toNat 0 < 0 then -(ns.getD k.toNat 0) else ns.getD k.toNat 0).fmod many else 0
theorem lawAt_bounds (ns : List Int) (k many : Int) : 0 < many → 0 ≤ lawAt ns k many ∧ lawAt ns k many < many := fun h => by
  unfold lawAt
  split
  · exact ⟨Int.fmod_nonneg_of_pos _ h, Int.fmod_lt_of_pos _ h⟩
  · omega
theorem menu3_len (i : Nat) : (menu3.getD i PySem.Str.empty).length ≤ 10 := by
  by_cases h : i < 8
  · revert i; decide +kernel
  · rw [List.getD_eq_getElem?_getD, List.getElem?_eq_none (by show 8 ≤ i; omega)]; decide
theorem menu3_mem_len {p : PySem.Str} (h : p ∈ menu3) : p.length ≤ 10 := by revert p; decide +kernel
def g3 (k : Int) : PySem.Str := menu3.getD ((if k < 0 then -k else k).fmod 8).toNat PySem.Str.empty
theorem g3_mem (k : Int) : g3 k ∈ menu3 := by
  have h1 := Int.fmod_nonneg_of_pos (if k < 0 then -k else k) (show (0 : Int) < 8 by decide)
  have h2 := Int.fmod_lt_of_pos (if k < 0 then -k else k) (show (0 : Int) < 8 by decide)
  have h3 : ((if k < 0 then -k else k).fmod 8).toNat < menu3.length := by show _ < 8; omega
  unfold g3
  rw [List.getD_eq_getElem?_getD, List.getElem?_eq_getElem h3]
  exact List.getElem_mem _

section
variable {prog : Program} {w : World} {A : Around} {h₀ : Heap} {L : Addr} {m : PySem.Str → Option Value} {env : Env} {elt : PySem.Expr} {x : PySem.Str} {scope : Scope} {cl : List (PySem.Str × Addr)} {s : Shared} {S : List (Addr × Obj) → Prop} {Fin : List Value → List (Addr × Obj) → Prop} {news : List (Addr × Obj)}
theorem kct_menu {vs : List Value} {ns : List Int} (hi : IntsAre vs ns) (hn : ns.length ≤ 20)
    (turn : ∀ k t I oI C oC D m₂ ys h tk (E' : Value → Shared → Prop), k ∈ ns → LCg.NsObj oC m₂ → m₂ x = some (.int k t) → Fr h₀ L h m → News h₀ L h ((I, oI) :: (C, oC) :: (D, LCg.lst ys) :: news) → LCg.Off3 I C D news → ((@Ne Nat I C) ∧ (@Ne Nat I D) ∧ (@Ne Nat C D)) → KPfMark →
      wpAny (model prog w) A (eval elt (compEnvC scope cl C env)) (LCg.CompEnd h₀ L m { s with heap := h, toks := tk } I oI C oC D (LCg.lst ys) S (fun y news' => KCtEl news (g3 k) y news')) E' { s with heap := h, toks := tk })
    (fin : ∀ ys ps, StrsAre ys ps → (∀ p ∈ ps, p ∈ menu3) → ps.length ≤ 20 → Fin ys news) : LCg.CompRest prog w A h₀ L m env elt x scope cl s S (fun i v => vs.toArray[i]? = some v) Fin vs.toArray.size 0 [] news :=
  kct_list g3 hi turn (fun ys hc _ => fin ys (ns.map g3) hc.strsOf (fun p hp => by
    obtain ⟨k, _, rfl⟩ := List.mem_map.mp hp
    exact g3_mem k) (by rw [List.length_map]; exact hn))
end
theorem all_menu {ps qs : List PySem.Str} (hM : ∀ p ∈ ps, p ∈ menu3) (h : ∀ p ∈ qs, p ∈ ps) : ∀ p ∈ qs, p.length ≤ 10 := fun p hp => menu3_mem_len (hM p (h p hp))
theorem flat_take_le (ps : List PySem.Str) (n : Nat) : ((ps.take n).map cs).flatten.length ≤ (ps.map cs).flatten.length := by
  have e : (ps.map cs).flatten = ((ps.take n).map cs).flatten ++ ((ps.drop n).map cs).flatten := by rw [← List.flatten_append, ← List.map_append, List.take_append_drop]
  rw [e, List.length_append]; omega
theorem blk_place {ps : List PySem.Str} {n : Nat} {z1 z2 e x : PySem.Str} (h2 : x = z1 ++ e) (h1 : z1 = PySem.Txt.join (PySem.Str.ofString "") ps) (h3 : z2 = PySem.Txt.join (PySem.Str.ofString "") (ps.take n)) (hl : z1.length ≤ 200) (he : e.length ≤ 10) : Blk x (z2.length : Int) (z2.length : Int) := by
  have a1 : z1.length = (ps.map cs).flatten.length := by rw [← cs_len, h1, cs_join]
  have a2 : z2.length = ((ps.take n).map cs).flatten.length := by rw [← cs_len, h3, cs_join]
  have a3 := flat_take_le ps n
  have a4 : x.length = z1.length + e.length := by rw [h2, PySem.Str.length_append]
  exact blk_start (by omega) (by omega) (by omega)
theorem due_yes {e z z1 J : PySem.Str} (h1 : z = J) (h2 : z1 = J) (a1 : ([PySem.Str.ofString "a", PySem.Str.ofString "<", PySem.Str.ofString "\""].any fun x => x == PySem.Txt.slice e none (some 1)) = true) (a2 : (e != PySem.Str.ofString "") = true) : (z.length : Int) = dueOf e z1 := by
  unfold dueOf dueFlag; rw [a1, a2, h1, h2]; rfl
theorem due_no1 {e z1 : PySem.Str} (a1 : ([PySem.Str.ofString "a", PySem.Str.ofString "<", PySem.Str.ofString "\""].any fun x => x == PySem.Txt.slice e none (some 1)) = false) : (-1 : Int) = dueOf e z1 := by
  unfold dueOf dueFlag; rw [a1]; rfl
theorem due_no2 {e z1 : PySem.Str} (a2 : (e != PySem.Str.ofString "") = false) : (-1 : Int) = dueOf e z1 := by
  unfold dueOf dueFlag; rw [a2, Bool.and_false]; rfl
theorem due_no3 {e z1 : PySem.Str} (a1 : ¬ ([PySem.Str.ofString "a", PySem.Str.ofString "<", PySem.Str.ofString "\""].any fun x => x == PySem.Txt.slice e none (some 1)) = true) : (-1 : Int) = dueOf e z1 := due_no1 (by simpa using a1)
theorem due_no4 {e z1 : PySem.Str} (a2 : ¬ (e != PySem.Str.ofString "") = true) : (-1 : Int) = dueOf e z1 := due_no2 (by simpa using a2)
theorem due_meet {prog : Program} {w : World} {A : Around} {E : Value → Shared → Prop} {s : Shared} {tr : Sem Value} {Q : Value → Shared → Prop} {h₀ : Heap} {L : Addr} {m : PySem.Str → Option Value} {news : List (Addr × Obj)} {e x z1 : PySem.Str} {ps : List PySem.Str}
    (F : Fr h₀ L s.heap m) (N : News h₀ L s.heap news) (_ : x = z1 ++ e) (_ : z1 = PySem.Txt.join (PySem.Str.ofString "") ps) (h : InDue → wpAny (model prog w) A tr (IntEnd (dueOf e z1) h₀ L m news s) E s)
    (k : ∀ t h' tk, Fr h₀ L h' m → News h₀ L h' news → Q (.int (dueOf e z1) t) { s with heap := h', toks := tk }) : wpAny (model prog w) A tr Q E s := int_meet (dueOf e z1) F N h k
structure PathMark : Prop where
theorem nb1 {c : Nat} (h : (false || decide (one c = PySem.Str.ofString " ") || decide (one c = PySem.Str.ofString "\t")) = false) : isBlank c = false := by rw [← in_blank]; exact h
theorem nb2 {c : Nat} (h : ¬ (false || decide (one c = PySem.Str.ofString " ") || decide (one c = PySem.Str.ofString "\t")) = true) : isBlank c = false := nb1 (Bool.eq_false_iff.mpr h)
theorem nm1 {c : Nat} (h : (false || decide (one c = PySem.Str.ofString "#") || decide (one c = PySem.Str.ofString "\r") || decide (one c = PySem.Str.ofString "\n")) = false) : isMark c = false := by rw [← in_mark]; exact h
theorem nm2 {c : Nat} (h : ¬ (false || decide (one c = PySem.Str.ofString "#") || decide (one c = PySem.Str.ofString "\r") || decide (one c = PySem.Str.ofString "\n")) = true) : isMark c = false := nm1 (Bool.eq_false_iff.mpr h)
theorem nm3 {c : Nat} (h : (!(false || decide (one c = PySem.Str.ofString "#") || decide (one c = PySem.Str.ofString "\r") || decide (one c = PySem.Str.ofString "\n"))) = true) : isMark c = false := nm1 (by rw [Bool.not_eq_true'] at h; exact h)
theorem nm4 {c : Nat} (h : ¬ (!(false || decide (one c = PySem.Str.ofString "#") || decide (one c = PySem.Str.ofString "\r") || decide (one c = PySem.Str.ofString "\n"))) = false) : isMark c = false := nm3 (Bool.not_eq_false _ ▸ h)
theorem txt3_of {ps : List PySem.Str} {n : Nat} {x z1 z2 e : PySem.Str} (hx : x = z1 ++ e) (hz1 : z1 = PySem.Txt.join (PySem.Str.ofString "") ps) (hz2 : z2 = PySem.Txt.join (PySem.Str.ofString "") (ps.take n)) (hM : ∀ p ∈ ps, p ∈ menu3) (hE : e ∈ [PySem.Str.ofString "a", PySem.Str.ofString "<x>", PySem.Str.ofString "\"", PySem.Str.ofString "", PySem.Str.ofString "  ", PySem.Str.ofString "# no end", PySem.Str.ofString "\t# x"]) : Txt3 ps n x z1 z2 e := ⟨hx, hz1, hz2, hM, hE⟩
structure InJoin : Prop where
def LawEnd (v : Int) (s : Shared) (r : Value) (s' : Shared) : Prop := ∃ t tk, r = .int v t ∧ s' = { s with toks := tk }
theorem lawEnd_pos {s : Shared} {ns : List Int} {k many : Int} {t : Tok} {tk : Nat} (h : k < (ns.length : Int)) : LawEnd (lawAt ns k many) s (.int ((if ns.getD k.toNat 0 < 0 then -(ns.getD k.toNat 0) else ns.getD k.toNat 0).fmod many) t) { s with toks := tk } :=
  ⟨t, tk, by unfold lawAt; rw [if_pos h], rfl⟩
theorem lawEnd_neg {s : Shared} {ns : List Int} {k many : Int} {t : Tok} {tk : Nat} (h : ¬ k < (ns.length : Int)) : LawEnd (lawAt ns k many) s (.int 0 t) { s with toks := tk } :=
  ⟨t, tk, by unfold lawAt; rw [if_neg h], rfl⟩
theorem ifexp_join {prog : Program} {w : World} {A : Around} {E : Value → Shared → Prop} {s : Shared} {e : PySem.Expr} {env : Env} {Q : Value → Shared → Prop} {h₀ hb : Heap} {L l : Addr} {m : PySem.Str → Option Value} {vs : List Value} {ns : List Int} {k many : Int} {t u : Tok}
    (_ : Fr h₀ L s.heap m) (_ : m (PySem.Str.ofString "k") = some (.int k t)) (_ : m (PySem.Str.ofString "many") = some (.int many u)) (_ : m (PySem.Str.ofString "script") = some (.ref l)) (_ : hb.IsList l vs.toArray) (_ : IntsAre vs ns)
    (h : InJoin → wpAny (model prog w) A (eval e env) (LawEnd (lawAt ns k many) s) E s) (hq : ∀ t tk, (0 < many → 0 ≤ lawAt ns k many ∧ lawAt ns k many < many) → Q (.int (lawAt ns k many) t) { s with toks := tk }) : wpAny (model prog w) A (eval e env) Q E s :=
  wpAny_mono (h ⟨⟩) (fun r s' hr => by obtain ⟨t, tk, rfl, rfl⟩ := hr; exact hq t tk (lawAt_bounds ns k many)) (fun _ _ x => x)

end Mine

open PySem PySem.W PyProof.Rows Mine
local macro_rules | `(tactic| walk_at "CompSrc") => `(tactic| (k_here; k_dflt (refine LCg.CompSrc.ledger (by rfl) (by k_asm) (by k_asm) (by k_mem) (by kcf_size) ?_; intro g'; (refine' kct_menu (by first | assumption | l_ints) (by (simp only [List.length_take, List.length_drop]; omega)) (fun k' t' I' oI' C' oC' D' m' ys' h' tk' E' hk' hC' hx' F' N' off' ne' hMark' => ?_) (fun ys' ps' hS' hM' hL' => ?_)); (all_goals (try (simp only [LCg.Off3, and_true] at off'))); kcf_last)))
local macro_rules | `(tactic| walk_at "KCtEl") => `(tactic| (refine kct_el ?_ (by with_unfolding_all rfl) (by with_unfolding_all rfl); with_unfolding_all rfl))
local macro_rules | `(tactic| walk_at "call builtin:str.join") => `(tactic| (k_here; (with_reducible show wpAny _ _ (PySem.call (Value.builtin "str.join") [Value.str _ _, Value.ref _]) _ _ _); k_dflt (refine' join_gen 10 200 (by decide) ?k1 ?k2 ?k3 ?k4 ?_; (case k1 => first | kmk_list | is_list); (case k2 => k_asm); (case k3 => exact all_menu (by assumption) (by first | exact fun p hp => hp | exact fun p hp => List.mem_of_mem_take hp | exact fun p hp => List.mem_of_mem_drop hp)); (case k4 => (try rw [List.length_take]); omega)); intro z' t' tk' hz' hzl'))
local macro_rules | `(tactic| walk_at "call builtin:len") => `(tactic| (k_here; (with_reducible show wpAny _ _ (PySem.call (Value.builtin "len") [Value.ref _]) _ _ _); k_dflt (refine' len_strs ?k1 ?k2 ?k3 ?_; (case k1 => first | kmk_list | is_list); (case k2 => with_reducible assumption); (case k3 => omega)); intro t' tk'))
local macro_rules | `(tactic| walk_at "call builtin:len") => `(tactic| (k_here; (with_reducible show wpAny _ _ (PySem.call (Value.builtin "len") [Value.str _ _]) _ _ _); (refine' len_text ?k1 ?_; (case k1 => omega)); intro t' tk'))
local macro_rules | `(tactic| walk_at "subscriptTail Name Slice ref ref") => `(tactic| (k_here; (with_reducible show wpAny _ _ (subscriptTail _ (PySem.Expr.Slice _ _ none _) (Value.ref _) (Value.ref _)) _ _ _); k_dflt (refine' slice_strs ?F ?N ?l ?p ?q ?i ?m ?_ ?s ?t ?z; (case F => k_asm); (case N => k_asm); (case l => kmk_list); (case p => kmk_part); (case q => kmk_part); (case i => with_reducible assumption); (case m => first | exact strs_upto (by with_reducible assumption) (by omega) | exact strs_from (by with_reducible assumption) (by omega)); (case s => with_unfolding_all rfl); (case t => kmk_pure); (case z => (rw [List.size_toArray, StrsAre.length (by with_reducible assumption), PySem.sizeLine_eq]; omega))); intro D' ws' h' F' N' l1 hS'; (try k_lt l1); (try k_sweep)))
local macro_rules | `(tactic| walk_at "binaryOp Add str str") => `(tactic| (k_here; (refine' add_gen ?k1 ?_; (case k1 => omega)); intro z' t' tk' hz'))
local macro_rules | `(tactic| walk_at "subscriptTail") => `(tactic| (k_here; (with_reducible show wpAny _ _ (subscriptTail _ _ (Value.ref _) (Value.int (lawAt _ _ _) _)) _ _ _); k_dflt (refine' item_menu ?k1 ?k2 ?k3 ?k4 ?k5 10 ?k6 ?_; (case k1 => ktb_isList); (case k2 => repeat constructor); (case k3 => omega); (case k4 => (simp only [List.length_cons, List.length_nil]; omega)); (case k5 => omega); (case k6 => decide +kernel)); intro t' e' hE' hEl'))
local macro_rules | `(tactic| kst_p) => `(tactic| ((try dsimp only); first | exact blk_place (by assumption) (by assumption) (by assumption) (by assumption) (by assumption) | exact blk_step (by assumption) (by assumption) (by rw [← in_blank]; assumption) | exact ln_start (by omega) (by omega) (by omega) | exact ln_step (by assumption) (by assumption) (by omega)))
local macro_rules | `(tactic| walk_at "exec While Constant cons nil") => `(tactic| (k_here; (with_reducible show wpAny _ _ (PySem.exec (PySem.Stmt.While (PySem.Expr.Constant (PySem.Const.bool true) _ _) _ _ _) _) _ _ _); k_while_given ["argstr", "i!"] (fun x i0 _ i => Blk x i0 i) (fun x _ _ i => (x.length - i).toNat) "i"))
local macro_rules | `(tactic| walk_at "subscriptTail") => `(tactic| (k_here; (with_reducible show wpAny _ _ (subscriptTail _ _ (Value.str _ _) (Value.int _ _)) _ _ _); (with_reducible rename Blk _ _ _ => hBlk); k_dflt (refine' text_at ?k0 ?k1 ?k2 (fun hOut' h' tk' e' x' => ?_) (fun c' l' t' tk' hIn' hDr' => ?_) ?k6 ?k7; (case k0 => rfl); (case k1 => have := hBlk.1; have := hBlk.2.1; omega); (case k2 => have := hBlk.2.2; omega); (case k6 => with_unfolding_all rfl); (case k7 => intro _; with_unfolding_all rfl))))
local macro_rules | `(tactic| walk_at "exec While Constant cons nil") => `(tactic| (k_here; (with_reducible show wpAny _ _ (PySem.exec (PySem.Stmt.While (PySem.Expr.Constant (PySem.Const.int 1) _ _) _ _ _) _) _ _ _); (with_reducible rename Blk _ _ _ => hBlk); (have hB1 := hBlk.1); (have hB2 := hBlk.2.1); (have hB3 := hBlk.2.2.1); (have hB4 := hBlk.2.2.2.1); k_while_given ["argstr", "i!"] (fun x i1 _ i n _ => LnAt x i1 i n) (fun x _ _ i _ _ => (x.length - i).toNat) "i" "self.lines" "self.startOfLine"))
local macro_rules | `(tactic| walk_at "getMethod ref") => `(tactic| (k_here; (with_reducible show wpAny _ _ (PySem.getMethod _ (PySem.Str.ofString "match") _) _ _ _); k_dflt (first
  | (refine' match_get (code := eolCode) (groups := 1) (patK ?k1 ?k2 ?k3 ?k4) ?_; (case k1 => exact Frag.In.keeps (by with_reducible assumption) (Fr.keep (by with_reducible assumption))); (case k2 => k_is); (case k3 => k_is); (case k4 => decide +kernel))
  | (refine' match_get (code := eofCode) (groups := 1) (patK ?k1 ?k2 ?k3 ?k4) ?_; (case k1 => exact Frag.In.keeps (by with_reducible assumption) (Fr.keep (by with_reducible assumption))); (case k2 => k_is); (case k3 => k_is); (case k4 => decide +kernel))
  | (refine' match_get (code := wsCode) (groups := 0) (patK ?k1 ?k2 ?k3 ?k4) ?_; (case k1 => exact Frag.In.keeps (by with_reducible assumption) (Fr.keep (by with_reducible assumption))); (case k2 => k_is); (case k3 => k_is); (case k4 => decide +kernel)))))
local macro_rules | `(tactic| walk_at "call builtin:re.Pattern.match") => `(tactic| (k_here; (with_reducible rename LnAt _ _ _ _ => hLn); (have hL1 := hLn.2.1); (have hL2 := hLn.2.2.1); (have hL3 := hLn.2.2.2.1); k_dflt (first
  | (refine' call_eol ?F ?N (patK ?k1 ?k2 ?k3 ?k4) ?a ?b ?c (fun hNo' => ?_) (fun k' a' b' more' li' h' hK' hK1' hK2' F' N' l1 l2 => ?_); (case F => k_asm); (case N => k_asm); (case k1 => exact Frag.In.keeps (by with_reducible assumption) (Fr.keep (by with_reducible assumption))); (case k2 => k_is); (case k3 => k_is); (case k4 => decide +kernel); (case a => omega); (case b => omega); (case c => omega))
  | (refine' call_eof ?F ?N (patK ?k1 ?k2 ?k3 ?k4) ?a ?b ?c (fun hNo' => ?_) (fun k' a' b' more' li' h' hK' F' N' l1 l2 => ?_); (case F => k_asm); (case N => k_asm); (case k1 => exact Frag.In.keeps (by with_reducible assumption) (Fr.keep (by with_reducible assumption))); (case k2 => k_is); (case k3 => k_is); (case k4 => decide +kernel); (case a => omega); (case b => omega); (case c => omega))
  | (refine' call_ws ?F ?N (patK ?k1 ?k2 ?k3 ?k4) ?a ?b ?c (fun k' a' b' more' li' h' hK' hK2' F' N' l1 l2 => ?_); (case F => k_asm); (case N => k_asm); (case k1 => exact Frag.In.keeps (by with_reducible assumption) (Fr.keep (by with_reducible assumption))); (case k2 => k_is); (case k3 => k_is); (case k4 => decide +kernel); (case a => omega); (case b => omega); (case c => omega))); (all_goals (try k_lt l1)); (all_goals (try k_lt2 l2)); (all_goals (try k_sweep))))
local macro_rules | `(tactic| walk_at "getMethod ref") => `(tactic| (k_here; (with_reducible show wpAny _ _ (PySem.getMethod _ (PySem.Str.ofString "end") _) _ _ _); k_dflt (refine' mat_get ?k1 ?k2 ?_; (case k1 => k_asm); (case k2 => k_mem))))
local macro_rules | `(tactic| walk_at "call builtin:re.Match.end") => `(tactic| (k_here; k_dflt (refine' mat_end ?k1 ?k2 ?k3 ?_; (case k1 => k_asm); (case k2 => k_mem); (case k3 => k_mem)); intro t'))
local macro_rules | `(tactic| walk_at "noteFrame ref") => `(tactic| (k_here; (with_reducible rename Heap.NewExc _ _ _ _ => hNx); k_dflt (refine' caught_new (T' := "IndexError") ?R ?F ?N ?K ?XB ?TB ?D ?T0 ?ex PyProof.Rows.Boot.«IndexError» ?hn PySem.F.isExc_IndexError PySem.F.notTuple_IndexError ?hs ?_; (case R => exact hNx); (case F => k_asm); (case N => k_asm); (case K => assumption); (case XB => assumption); (case TB => assumption); (case D => assumption); (case T0 => first | assumption | exact KtsTurn.refl); (case hs => kts_sub); (case ex => k_is); (case hn => decide)); intro h' g' T' F' N' K' X' P' D'; (try k_lift K'); (try k_sweep)))
local macro_rules | `(tactic| walk_at "IntEnd") => `(tactic| (refine intEnd (by assumption) (by assumption) (by intro p hp; repeat (first | exact hp | refine List.Mem.tail _ ?_)) ?_; first | exact due_yes (by assumption) (by assumption) (by assumption) (by assumption) | exact due_no1 (by assumption) | exact due_no2 (by assumption) | exact due_no3 (by assumption) | exact due_no4 (by assumption)))
local macro_rules | `(tactic| walk_at "eval IfExp") => `(tactic| (k_here; (fail_if_success (rename InDue => hJ)); (with_reducible show wpAny _ _ (PySem.eval (PySem.Expr.IfExp (PySem.Expr.BoolOp _ _ _) _ _ _) _) _ _ _); k_dflt (refine' due_meet ?k1 ?k2 ?k3 ?k4 ?k7 ?_; (case k1 => k_asm); (case k2 => k_asm); (case k3 => with_reducible assumption); (case k4 => with_reducible assumption); (case k7 => intro hJ; k_steps; done)); intro t' h' tk' F' N'; (try k_sweep)))
local macro_rules | `(tactic| walk_at "exec For Name Subscript cons nil") => `(tactic| (k_here; (rename Fr _ _ _ _ => lF'); (with_unfolding_all refine' For_invVF lF' ?k1 ?k2 ?_; (case k1 => exact rfl); (case k2 => exact rfl); k_whole)))
local macro_rules | `(tactic| walk_at "AccEnd") => `(tactic| (refine accEnd (by assumption) (by assumption) (by with_unfolding_all rfl) ?_; ksw_same))
local macro_rules | `(tactic| walk_at "pyIter ref") => `(tactic| (k_here; k_dflt (refine' strs_acc (PySem.Str.ofString "ends") cntNl ?k0 ?k1 ?k2 ?k3 ?k4 ?k5 ?k6 (fun p' a' t' tp' h' tk' own' hp' F' N' => ?_) (fun a' t' u' h' tk' hSum' F' N' => ?_); (case k0 => rfl); (case k3 => k_asm); (case k4 => k_asm); (case k1 => k_mem); (case k2 => with_reducible assumption); (case k5 => decide +kernel); (case k6 => with_unfolding_all rfl)); (all_goals (try k_fold)); rotate_left; (have hT3 := txt3_of (by with_reducible assumption) (by with_reducible assumption) (by with_reducible assumption) (by with_reducible assumption) (by with_reducible assumption)); (first | (have hPath := path_end hT3 (by with_reducible assumption) (by with_reducible assumption)) | (have hPath := path_word hT3 (by with_reducible assumption) (by with_reducible assumption) (by first | exact nb1 (by with_reducible assumption) | exact nb2 (by with_reducible assumption)) (by first | exact nm1 (by with_reducible assumption) | exact nm2 (by with_reducible assumption) | exact nm3 (by with_reducible assumption) | exact nm4 (by with_reducible assumption))) | (have hPath := path_some hT3 (by with_reducible assumption) (by with_reducible assumption) (by first | exact nb1 (by with_reducible assumption) | exact nb2 (by with_reducible assumption)) (by with_reducible assumption) (by with_reducible assumption) (by with_reducible assumption) (by with_reducible assumption)) | (have hPath := path_none hT3 (by with_reducible assumption) (by with_reducible assumption) (by first | exact nb1 (by with_reducible assumption) | exact nb2 (by with_reducible assumption)) (by with_reducible assumption) (by with_reducible assumption) (by with_reducible assumption) (by with_reducible assumption))); rotate_right))
local macro_rules | `(tactic| walk_at "LawEnd") => `(tactic| first | exact lawEnd_pos (by omega) | exact lawEnd_neg (by omega))
local macro_rules | `(tactic| walk_at "eval IfExp") => `(tactic| (k_here; (fail_if_success (rename InJoin => hJ)); (with_reducible show wpAny _ _ (PySem.eval (PySem.Expr.IfExp (PySem.Expr.Compare (PySem.Expr.Name (PySem.Str.ofString "k") _) _ _ _) _ _ _) _) _ _ _); k_dflt (refine' ifexp_join ?k1 ?k2 ?k3 ?k4 ?k5 ?k6 ?k7 ?_; (case k1 => k_asm); (case k2 => with_unfolding_all rfl); (case k3 => with_unfolding_all rfl); (case k4 => with_unfolding_all rfl); (case k5 => k_asm); (case k6 => k_asm); (case k7 => intro hJ; k_steps; done)); intro t' tk' hLa))
set_option maxRecDepth 100000 in
set_option maxHeartbeats 16000000 in
theorem PySem.Challenge.cw_ez0313_03_holds : PySem.Challenge.rw_ez0313_03.Holds := by
  k_with "table" => skip
  open_k
