import PyProof.Rows.All
import Wide.All
import OpenK.AllK
import Wide.FinOn
import Lean
import PySem.Challenge.RW_wb0018_01
set_option Elab.async false
set_option maxRecDepth 100000
set_option maxHeartbeats 8000000
section
open PySem PySem.W PyProof.Rows
namespace Mine
open_top hd for PySem.Challenge.rw_wb0018_01
end Mine
end

section
open PySem PySem.Sre
namespace Mine

def zcode : Array Nat := #[14, 4, 0, 1, 6, 6, 0, 23, 14, 0, 1, 17, 0, 13, 6, 16, 45, 16, 43, 0, 17, 1, 18, 17, 2, 13, 4, 8, 0, 0, 24, 9, 0, 1, 13, 4, 8, 0, 0, 1, 17, 3, 24, 6, 0, 1, 16, 58, 1, 23, 17, 0, 1, 17, 4, 13, 4, 8, 0, 0, 13, 4, 8, 0, 0, 17, 5, 18, 6, 5, 1]

/-- two signs that the pattern cannot tell apart -/
def Alike (c d : Nat) : Prop := c = d ∨ (isDigit c = true ∧ isDigit d = true)

theorem zcode_out {i : Nat} (h : 71 ≤ i) : zcode.getD i 0 = 0 := by
  unfold Array.getD
  rw [dif_neg (by show ¬ i < 71; omega)]

theorem zcode_all (P : Nat → Nat → Prop) (h0 : ∀ i, P i 0) (h : ∀ i, i < 71 → P i (zcode.getD i 0)) (i : Nat) : P i (zcode.getD i 0) := by
  by_cases hi : i < 71
  · exact h i hi
  · rw [zcode_out (by omega)]; exact h0 i

/-- where a word of one sign may stand -/
theorem zcode_ops : ∀ i, i < 71 → zcode.getD i 0 ∈ [0, 1, 4, 5, 6, 8, 9, 14, 17, 18, 23, 43, 45, 58] ∨ (i, zcode.getD i 0) ∈ [(24, 2), (41, 3), (13, 13), (25, 13), (34, 13), (55, 13), (60, 13), (15, 16), (17, 16), (46, 16), (30, 24), (42, 24)] := by decide +kernel

theorem digit_bounds {c : Nat} (h : isDigit c = true) : 48 ≤ c ∧ c ≤ 57 := by
  unfold isDigit at h
  simpa using h

theorem alike_eq {c d : Nat} (h : Alike c d) {v : Nat} (hv : v < 48 ∨ 57 < v) : (c == v) = (d == v) := by
  rcases h with rfl | ⟨h1, h2⟩
  · rfl
  · have := digit_bounds h1; have := digit_bounds h2
    rw [beq_eq_false_iff_ne.mpr (by omega), beq_eq_false_iff_ne.mpr (by omega)]

theorem alike_digit {c d : Nat} (h : Alike c d) : isDigit c = isDigit d := by
  rcases h with rfl | ⟨h1, h2⟩
  · rfl
  · rw [h1, h2]

theorem accepts_zero (i c : Nat) (seen : Seen) (h : zcode.getD i 0 ∈ [0, 1, 4, 5, 6, 8, 9, 14, 17, 18, 23, 43, 45, 58]) : accepts zcode i c seen = .error "code:not-one-character" := by
  simp only [List.mem_cons, List.not_mem_nil, or_false] at h
  unfold accepts
  rcases h with h | h | h | h | h | h | h | h | h | h | h | h | h | h <;> rw [h] <;> rfl

theorem category_alike {c d : Nat} (h : Alike c d) : category 0 c = category 0 d := by
  unfold category
  show Except.map _ (Except.ok (isDigit c)) = Except.map _ (Except.ok (isDigit d))
  rw [alike_digit h]

theorem set_digit (i : Nat) (hi : i = 27 ∨ i = 36 ∨ i = 57 ∨ i = 62) {c d : Nat} (h : Alike c d) (seen : Seen) : inSet zcode c 71 i true seen = inSet zcode d 71 i true seen := by
  have hc := category_alike h
  rcases hi with rfl | rfl | rfl | rfl <;>
  · show (do if ← category 0 c then _ else _ : Except String (Bool × Seen)) = (do if ← category 0 d then _ else _)
    rw [hc]
    rfl

theorem set_sign {c d : Nat} (h : Alike c d) (seen : Seen) : inSet zcode c 71 15 true seen = inSet zcode d 71 15 true seen := by
  show (if c == 45 then _ else (if c == 43 then _ else _) : Except String (Bool × Seen)) = (if d == 45 then _ else (if d == 43 then _ else _))
  rw [alike_eq h (by omega : (45 : Nat) < 48 ∨ 57 < 45), alike_eq h (by omega : (43 : Nat) < 48 ∨ 57 < 43)]
  rfl

theorem accepts_alike {c d : Nat} (h : Alike c d) (i : Nat) (seen : Seen) : accepts zcode i c seen = accepts zcode i d seen := by
  by_cases hi : i < 71
  · rcases zcode_ops i hi with q | q
    · rw [accepts_zero i c seen q, accepts_zero i d seen q]
    · simp only [List.mem_cons, Prod.mk.injEq, List.not_mem_nil, or_false] at q
      rcases q with ⟨rfl, q⟩ | ⟨rfl, q⟩ | ⟨rfl, q⟩ | ⟨rfl, q⟩ | ⟨rfl, q⟩ | ⟨rfl, q⟩ | ⟨rfl, q⟩ | ⟨rfl, q⟩ | ⟨rfl, q⟩ | ⟨rfl, q⟩ | ⟨rfl, q⟩ | ⟨rfl, q⟩
      · show Except.ok (c != 10, seen) = Except.ok (d != 10, seen)
        unfold bne; rw [alike_eq h (by omega)]
      · rfl
      · exact set_sign h seen
      · exact set_digit 27 (by omega) h seen
      · exact set_digit 36 (by omega) h seen
      · exact set_digit 57 (by omega) h seen
      · exact set_digit 62 (by omega) h seen
      · show Except.ok (c == 45, seen) = Except.ok (d == 45, seen)
        rw [alike_eq h (by omega)]
      · show Except.ok (c == 43, seen) = Except.ok (d == 43, seen)
        rw [alike_eq h (by omega)]
      · show Except.ok (c == 58, seen) = Except.ok (d == 58, seen)
        rw [alike_eq h (by omega)]
      · rfl
      · rfl
  · have := zcode_out (by omega : 71 ≤ i)
    rw [accepts_zero i c seen (by rw [this]; decide), accepts_zero i d seen (by rw [this]; decide)]

def AlikeText (t u : Array Nat) : Prop := ∀ p, Alike (t.getD p 0) (u.getD p 0)

theorem run_alike {t u : Array Nat} (h : AlikeText t u) (i : Nat) : ∀ (n p found : Nat) (seen : Seen), Sre.run zcode t i n p found seen = Sre.run zcode u i n p found seen
  | 0, _, _, _ => rfl
  | n + 1, p, found, seen => by
    unfold Sre.run
    rw [accepts_alike (h p)]
    cases accepts zcode i (u.getD p 0) seen with
    | error e => rfl
    | ok r =>
      obtain ⟨y, s⟩ := r
      cases y with
      | true => exact run_alike h i n (p + 1) (found + 1) s
      | false => rfl

def wt (m : M) (u : Array Nat) : M := { m with text := u }

theorem zcode_at : ∀ i, i < 71 → zcode.getD i 0 = 6 → zcode.getD (i + 1) 0 ∈ [0, 5, 6, 16] := by decide +kernel

theorem isAt_alike {m : M} {u : Array Nat} (h : AlikeText m.text u) {k : Nat} (hk : k ∈ [0, 5, 6, 16]) : (wt m u).isAt k = m.isAt k := by
  have h1 := alike_eq (h m.pos) (by omega : (10 : Nat) < 48 ∨ 57 < 10)
  simp only [List.mem_cons, List.not_mem_nil, or_false] at hk
  rcases hk with rfl | rfl | rfl | rfl
  · rfl
  · show Except.ok (m.pos == m.lim || (m.pos + 1 == m.lim && u.getD m.pos 0 == 10)) = Except.ok (m.pos == m.lim || (m.pos + 1 == m.lim && m.text.getD m.pos 0 == 10))
    rw [h1]
  · show Except.ok (m.pos == m.lim || u.getD m.pos 0 == 10) = Except.ok (m.pos == m.lim || m.text.getD m.pos 0 == 10)
    rw [h1]
  · rfl

structure Same (m n : M) (t u : Array Nat) : Prop where
  code : m.code = zcode
  text : m.text = t
  eq : n = wt m u

theorem wt_wt {m : M} {t : Array Nat} (h : m.text = t) (u : Array Nat) : wt (wt m u) t = m := by subst h; rfl

theorem same_say (m : M) {u : Array Nat} (hc : m.code = zcode) (b : Bool) : Same (m.say b) ((wt m u).say b) m.text u := ⟨hc, rfl, rfl⟩
theorem same_ite {a b a' b' : M} {t u : Array Nat} {c : Prop} [Decidable c] (h1 : c → Same a b t u) (h2 : ¬ c → Same a' b' t u) : Same (if c then a else a') (if c then b else b') t u := by
  by_cases h : c
  · rw [if_pos h, if_pos h]; exact h1 h
  · rw [if_neg h, if_neg h]; exact h2 h
theorem same_attempt (m : M) {u : Array Nat} (hc : m.code = zcode) (f : Sre.Frame) (x y : Nat) (b : Bool) : Same (m.attempt f x y b) ((wt m u).attempt f x y b) m.text u := by
  unfold M.attempt
  exact same_ite (fun _ => ⟨hc, rfl, rfl⟩) (fun _ => ⟨hc, rfl, rfl⟩)
theorem same_mark (m : M) {u : Array Nat} (hc : m.code = zcode) (i : Nat) : Same (m.mark i) ((wt m u).mark i) m.text u := ⟨hc, rfl, rfl⟩
theorem same_round (m : M) {u : Array Nat} (hc : m.code = zcode) (wait : Wait) (i : Nat) (count : Int) (g : Bool) (k : Sre.Kept) : Same (m.round wait i count g k) ((wt m u).round wait i count g k) m.text u := by
  unfold M.round
  exact same_attempt (m.setLoop i _) hc _ _ _ _
theorem same_afterLoop (m : M) {u : Array Nat} (hc : m.code = zcode) (wait : Wait) (i : Nat) (count : Int) (w : Option Nat → Bool) : Same (m.afterLoop wait i count w) ((wt m u).afterLoop wait i count w) m.text u := by
  unfold M.afterLoop
  dsimp only
  exact same_attempt { m with inner := (m.loopAt i).outer } hc _ _ _ _
theorem same_until (m : M) {u : Array Nat} (hc : m.code = zcode) (g : Bool) : Same (m.until_ g) ((wt m u).until_ g) m.text u := by
  unfold M.until_
  show Same (match m.inner with | none => _ | some i => _) (match m.inner with | none => _ | some i => _) m.text u
  cases m.inner with
  | none => exact ⟨hc, rfl, rfl⟩
  | some i =>
    refine same_ite (fun _ => same_round m hc _ _ _ _ _) (fun _ => same_ite (fun _ => same_afterLoop m hc _ _ _ _) (fun _ => same_ite (fun _ => same_round m hc _ _ _ _ _) (fun _ => same_afterLoop m hc _ _ _ _)))
theorem same_afterRun (m : M) {u : Array Nat} (hc : m.code = zcode) (wait : Wait) (count : Int) (k : Sre.Kept) : Same (m.afterRun wait count k) ((wt m u).afterRun wait count k) m.text u := by
  unfold M.afterRun
  exact same_attempt m hc _ _ _ _
theorem same_attemptAt (m : M) {u : Array Nat} (hc : m.code = zcode) (s : Nat) (f : Bool) : Same (m.attemptAt s f) ((wt m u).attemptAt s f) m.text u := by
  unfold M.attemptAt
  exact same_attempt { m with start := s, pos := s, lastmark := -1, lastindex := -1 } hc _ _ _ _
theorem same_attemptFrom (m : M) {u : Array Nat} (hc : m.code = zcode) (s : Nat) (f : Bool) : Same (m.attemptFrom s f) ((wt m u).attemptFrom s f) m.text u := by
  have e : m.hasFirstSet = false := by unfold M.hasFirstSet; rw [hc]; rfl
  have e' : (wt m u).hasFirstSet = false := e
  unfold M.attemptFrom
  rw [e, e']
  exact same_attemptAt m hc s f
theorem same_possessive (m : M) {u : Array Nat} (hc : m.code = zcode) (i : Nat) (count : Int) (began : Option Nat) : Same (m.possessive i count began) ((wt m u).possessive i count began) m.text u := by
  unfold M.possessive
  exact same_ite (fun _ => same_attempt m hc _ _ _ _) (fun _ => same_ite (fun _ => same_attempt m hc _ _ _ _) (fun _ => ⟨hc, rfl, rfl⟩))
theorem same_alternative (m : M) {u : Array Nat} (hc : m.code = zcode) (a : Nat) (k : Sre.Kept) : Same (m.alternative a k) ((wt m u).alternative a k) m.text u := by
  unfold M.alternative
  exact same_ite (fun _ => same_say m hc _) (fun _ => same_attempt m hc _ _ _ _)
theorem exec_alike {u : Array Nat} (m : M) (h : AlikeText m.text u) (hc : m.code = zcode) : Same m.exec (wt m u).exec m.text u := by
  have hw : m.word 0 = zcode.getD m.pc 0 := by unfold M.word; rw [hc]; rfl
  have hv : zcode.getD m.pc 0 ∈ [0, 1, 4, 5, 6, 8, 9, 14, 17, 18, 23, 43, 45, 58] ∨ zcode.getD m.pc 0 ∈ [2, 3, 13, 16, 24] := by
    by_cases hi : m.pc < 71
    · rcases zcode_ops _ hi with q | q
      · exact .inl q
      · right
        simp only [List.mem_cons, Prod.mk.injEq, List.not_mem_nil, or_false] at q ⊢
        omega
    · rw [zcode_out (by omega)]; decide
  have hat : m.word 0 = 6 → m.word 1 ∈ [0, 5, 6, 16] := by
    intro q
    rw [hw] at q
    have : m.word 1 = zcode.getD (m.pc + 1) 0 := by unfold M.word; rw [hc]
    rw [this]
    by_cases hi : m.pc < 71
    · exact zcode_at _ hi q
    · rw [zcode_out (by omega)] at q; cases q
  rw [← hw] at hv
  have hw' : (wt m u).word 0 = m.word 0 := rfl
  have acc : ∀ (i p : Nat) (seen : Seen), accepts m.code i (u.getD p 0) seen = accepts m.code i (m.text.getD p 0) seen := fun i p seen => by rw [hc, accepts_alike (h p)]
  have rn : ∀ (i n p f : Nat) (seen : Seen), Sre.run m.code u i n p f seen = Sre.run m.code m.text i n p f seen := fun i n p f seen => by rw [hc, run_alike h]
  simp only [List.mem_cons, List.not_mem_nil, or_false] at hv
  rcases hv with (q | q | q | q | q | q | q | q | q | q | q | q | q | q) | (q | q | q | q | q)
  · have o : ops[m.word 0]? = some Op.FAILURE := by rw [q]; rfl
    unfold M.exec
    rw [hw', o]
    dsimp only
    exact ⟨hc, rfl, rfl⟩
  · have o : ops[m.word 0]? = some Op.SUCCESS := by rw [q]; rfl
    unfold M.exec
    rw [hw', o]
    dsimp only
    exact same_ite (fun _ => ⟨hc, rfl, rfl⟩) (fun _ => ⟨hc, rfl, rfl⟩)
  · have o : ops[m.word 0]? = some Op.ASSERT := by rw [q]; rfl
    unfold M.exec
    rw [hw', o]
    dsimp only
    exact same_ite (fun _ => ⟨hc, rfl, rfl⟩) (fun _ => same_attempt { m with seen := m.seen.add (m.word 0) } hc _ _ _ _)
  · have o : ops[m.word 0]? = some Op.ASSERT_NOT := by rw [q]; rfl
    unfold M.exec
    rw [hw', o]
    dsimp only
    exact same_ite (fun _ => ⟨hc, rfl, rfl⟩) (fun _ => same_attempt { m with seen := m.seen.add (m.word 0) } hc _ _ _ _)
  · have o : ops[m.word 0]? = some Op.AT := by rw [q]; rfl
    unfold M.exec
    rw [hw', o]
    dsimp only
    have e := isAt_alike (m := { m with seen := m.seen.add (m.word 0) }) (u := u) h (hat q)
    show Same (match M.isAt { m with seen := m.seen.add (m.word 0) } (m.word 1) with | .error why => _ | .ok yes => _) (match M.isAt (wt { m with seen := m.seen.add (m.word 0) } u) (m.word 1) with | .error why => _ | .ok yes => _) m.text u
    rw [e]
    rcases M.isAt { m with seen := m.seen.add (m.word 0) } (m.word 1) with _ | _
    · exact ⟨hc, rfl, rfl⟩
    · exact same_ite (fun _ => ⟨hc, rfl, rfl⟩) (fun _ => ⟨hc, rfl, rfl⟩)
  · have o : ops[m.word 0]? = some Op.CATEGORY := by rw [q]; rfl
    unfold M.exec
    rw [hw', o]
    dsimp only
    exact ⟨hc, rfl, rfl⟩
  · have o : ops[m.word 0]? = some Op.CHARSET := by rw [q]; rfl
    unfold M.exec
    rw [hw', o]
    dsimp only
    exact ⟨hc, rfl, rfl⟩
  · have o : ops[m.word 0]? = some Op.INFO := by rw [q]; rfl
    unfold M.exec
    rw [hw', o]
    dsimp only
    exact ⟨hc, rfl, rfl⟩
  · have o : ops[m.word 0]? = some Op.MARK := by rw [q]; rfl
    unfold M.exec
    rw [hw', o]
    dsimp only
    exact same_mark { m with seen := m.seen.add (m.word 0) } hc _
  · have o : ops[m.word 0]? = some Op.MAX_UNTIL := by rw [q]; rfl
    unfold M.exec
    rw [hw', o]
    dsimp only
    exact same_until { m with seen := m.seen.add (m.word 0), pc := m.pc + 1 } hc _
  · have o : ops[m.word 0]? = some Op.REPEAT := by rw [q]; rfl
    unfold M.exec
    rw [hw', o]
    dsimp only
    exact same_attempt { m with seen := m.seen.add (m.word 0), loops := m.loops.push { pc := m.pc, outer := m.inner }, inner := some m.loops.size } hc _ _ _ _
  · have o : ops[m.word 0]? = none := by rw [q]; rfl
    unfold M.exec
    rw [hw', o]
    exact ⟨hc, rfl, rfl⟩
  · have o : ops[m.word 0]? = none := by rw [q]; rfl
    unfold M.exec
    rw [hw', o]
    exact ⟨hc, rfl, rfl⟩
  · have o : ops[m.word 0]? = none := by rw [q]; rfl
    unfold M.exec
    rw [hw', o]
    exact ⟨hc, rfl, rfl⟩
  · have o : ops[m.word 0]? = some Op.ANY := by rw [q]; rfl
    unfold M.exec
    rw [hw', o]
    dsimp only
    refine same_ite (fun _ => ⟨hc, rfl, rfl⟩) (fun _ => ?_)
    have e := acc m.pc m.pos (m.seen.add (m.word 0))
    show Same (match accepts m.code m.pc (m.text.getD m.pos 0) (m.seen.add (m.word 0)) with | .error why => _ | .ok (false, seen) => _ | .ok (true, seen) => _) (match accepts m.code m.pc (u.getD m.pos 0) (m.seen.add (m.word 0)) with | .error why => _ | .ok (false, seen) => _ | .ok (true, seen) => _) m.text u
    rw [e]
    rcases accepts m.code m.pc (m.text.getD m.pos 0) (m.seen.add (m.word 0)) with _ | ⟨_ | _, _⟩ <;> exact ⟨hc, rfl, rfl⟩
  · have o : ops[m.word 0]? = some Op.ANY_ALL := by rw [q]; rfl
    unfold M.exec
    rw [hw', o]
    dsimp only
    refine same_ite (fun _ => ⟨hc, rfl, rfl⟩) (fun _ => ?_)
    have e := acc m.pc m.pos (m.seen.add (m.word 0))
    show Same (match accepts m.code m.pc (m.text.getD m.pos 0) (m.seen.add (m.word 0)) with | .error why => _ | .ok (false, seen) => _ | .ok (true, seen) => _) (match accepts m.code m.pc (u.getD m.pos 0) (m.seen.add (m.word 0)) with | .error why => _ | .ok (false, seen) => _ | .ok (true, seen) => _) m.text u
    rw [e]
    rcases accepts m.code m.pc (m.text.getD m.pos 0) (m.seen.add (m.word 0)) with _ | ⟨_ | _, _⟩ <;> exact ⟨hc, rfl, rfl⟩
  · have o : ops[m.word 0]? = some Op.IN := by rw [q]; rfl
    unfold M.exec
    rw [hw', o]
    dsimp only
    refine same_ite (fun _ => ⟨hc, rfl, rfl⟩) (fun _ => ?_)
    have e := acc m.pc m.pos (m.seen.add (m.word 0))
    show Same (match accepts m.code m.pc (m.text.getD m.pos 0) (m.seen.add (m.word 0)) with | .error why => _ | .ok (false, seen) => _ | .ok (true, seen) => _) (match accepts m.code m.pc (u.getD m.pos 0) (m.seen.add (m.word 0)) with | .error why => _ | .ok (false, seen) => _ | .ok (true, seen) => _) m.text u
    rw [e]
    rcases accepts m.code m.pc (m.text.getD m.pos 0) (m.seen.add (m.word 0)) with _ | ⟨_ | _, _⟩ <;> exact ⟨hc, rfl, rfl⟩
  · have o : ops[m.word 0]? = some Op.LITERAL := by rw [q]; rfl
    unfold M.exec
    rw [hw', o]
    dsimp only
    refine same_ite (fun _ => ⟨hc, rfl, rfl⟩) (fun _ => ?_)
    have e := acc m.pc m.pos (m.seen.add (m.word 0))
    show Same (match accepts m.code m.pc (m.text.getD m.pos 0) (m.seen.add (m.word 0)) with | .error why => _ | .ok (false, seen) => _ | .ok (true, seen) => _) (match accepts m.code m.pc (u.getD m.pos 0) (m.seen.add (m.word 0)) with | .error why => _ | .ok (false, seen) => _ | .ok (true, seen) => _) m.text u
    rw [e]
    rcases accepts m.code m.pc (m.text.getD m.pos 0) (m.seen.add (m.word 0)) with _ | ⟨_ | _, _⟩ <;> exact ⟨hc, rfl, rfl⟩
  · have o : ops[m.word 0]? = some Op.REPEAT_ONE := by rw [q]; rfl
    unfold M.exec
    rw [hw', o]
    dsimp only
    refine same_ite (fun _ => ⟨hc, rfl, rfl⟩) (fun _ => ?_)
    have e := rn (m.pc + 4) (min (m.word 3) ((m.lim : Int) - m.pos).toNat) m.pos 0 ((m.seen.add (m.word 0)).add (m.word 4))
    show Same (match Sre.run m.code m.text (m.pc + 4) (min (m.word 3) ((m.lim : Int) - m.pos).toNat) m.pos 0 ((m.seen.add (m.word 0)).add (m.word 4)) with | .error why => _ | .ok (n, seen) => _) (match Sre.run m.code u (m.pc + 4) (min (m.word 3) ((m.lim : Int) - m.pos).toNat) m.pos 0 ((m.seen.add (m.word 0)).add (m.word 4)) with | .error why => _ | .ok (n, seen) => _) m.text u
    rw [e]
    rcases Sre.run m.code m.text (m.pc + 4) (min (m.word 3) ((m.lim : Int) - m.pos).toNat) m.pos 0 ((m.seen.add (m.word 0)).add (m.word 4)) with _ | ⟨n, seen⟩
    · exact ⟨hc, rfl, rfl⟩
    · exact same_ite (fun _ => ⟨hc, rfl, rfl⟩) (fun _ => same_afterRun { m with seen := seen, pos := m.pos + n } hc _ _ _)

theorem same_putBack (m : M) {u : Array Nat} (hc : m.code = zcode) (k : Sre.Kept) : Same (m.putBack k) ((wt m u).putBack k) m.text u := ⟨hc, rfl, rfl⟩

theorem resume_alike {u : Array Nat} (m : M) (h : AlikeText m.text u) (hc : m.code = zcode) (f : Sre.Frame) (yes : Bool) : Same (m.resume f yes) ((wt m u).resume f yes) m.text u := by
  have acc : ∀ (i p : Nat) (seen : Seen), accepts m.code i (u.getD p 0) seen = accepts m.code i (m.text.getD p 0) seen := fun i p seen => by rw [hc, accepts_alike (h p)]
  have sayT : ∀ b, Same (m.say b) ((wt m u).say b) m.text u := fun b => same_say m hc b
  unfold M.resume
  cases f.wait with
  | nextStart => exact same_ite (fun _ => sayT _) (fun _ => same_ite (fun _ => same_attemptFrom { m with mustAdvance := false } hc _ _) (fun _ => sayT _))
  | nextBranch => exact same_ite (fun _ => sayT _) (fun _ => same_alternative (m.putBack f.kept) hc _ _)
  | giveBack => exact same_ite (fun _ => sayT _) (fun _ => same_ite (fun _ => same_say (m.putBack f.kept) hc _) (fun _ => same_afterRun { m.putBack f.kept with pos := f.pos - 1 } hc _ _ _))
  | takeMore =>
    refine same_ite (fun _ => sayT _) (fun _ => same_ite (fun _ => same_say (m.putBack f.kept) hc _) (fun _ => same_ite (fun _ => same_say (m.putBack f.kept) hc _) (fun _ => ?_)))
    have e := acc (m.pc + 4) f.pos m.seen
    show Same (match accepts m.code (m.pc + 4) (m.text.getD f.pos 0) m.seen with | .error why => _ | .ok (false, seen) => _ | .ok (true, seen) => _) (match accepts m.code (m.pc + 4) (u.getD f.pos 0) m.seen with | .error why => _ | .ok (false, seen) => _ | .ok (true, seen) => _) m.text u
    rw [e]
    rcases accepts m.code (m.pc + 4) (m.text.getD f.pos 0) m.seen with _ | ⟨_ | _, seen⟩
    · exact ⟨hc, rfl, rfl⟩
    · exact ⟨hc, rfl, rfl⟩
    · exact same_afterRun { m.putBack f.kept with seen := seen, pos := f.pos + 1 } hc _ _ _
  | closeLoop => exact ⟨hc, rfl, rfl⟩
  | maxBelow => exact same_ite (fun _ => sayT _) (fun _ => ⟨hc, rfl, rfl⟩)
  | minBelow => exact same_ite (fun _ => sayT _) (fun _ => ⟨hc, rfl, rfl⟩)
  | maxMore =>
    dsimp only
    refine same_ite (fun _ => ⟨hc, rfl, rfl⟩) (fun _ => ?_)
    exact same_afterLoop (((m.setLoop f.loop fun l => { l with began := f.began }).putBack f.kept).setLoop f.loop fun l => { l with count := f.count - 1 }) hc _ _ _ _
  | maxTail => exact ⟨hc, rfl, rfl⟩
  | minTail =>
    dsimp only
    refine same_ite (fun _ => ⟨hc, rfl, rfl⟩) (fun _ => same_ite (fun _ => ⟨hc, rfl, rfl⟩) (fun _ => ?_))
    exact same_round (M.putBack { m with inner := some f.loop } f.kept) hc _ _ _ _ _
  | minMore =>
    dsimp only
    exact same_ite (fun _ => ⟨hc, rfl, rfl⟩) (fun _ => ⟨hc, rfl, rfl⟩)
  | possBelow => exact same_ite (fun _ => same_possessive m hc _ _ _) (fun _ => ⟨hc, rfl, rfl⟩)
  | possMore => exact same_ite (fun _ => same_possessive m hc _ _ _) (fun _ => same_possessive { m.putBack f.kept with handed := f.pos } hc _ _ _)
  | atomic => exact same_ite (fun _ => ⟨hc, rfl, rfl⟩) (fun _ => sayT _)
  | look => exact same_ite (fun _ => ⟨hc, rfl, rfl⟩) (fun _ => sayT _)
  | lookNot => exact same_ite (fun _ => sayT _) (fun _ => ⟨hc, rfl, rfl⟩)

theorem step_alike {u : Array Nat} (m : M) (h : AlikeText m.text u) (hc : m.code = zcode) : Same m.step (wt m u).step m.text u := by
  unfold M.step
  refine same_ite (fun _ => ⟨hc, rfl, rfl⟩) (fun _ => ?_)
  obtain ⟨code, text, lim, start, lastStart, wholeText, mustAdvance, pc, pos, handed, outermost, marks, lastmark, lastindex, loops, inner, frames, weight, answer, seen, outcome⟩ := m
  cases answer with
  | none => exact same_ite (fun _ => exec_alike ⟨code, text, lim, start, lastStart, wholeText, mustAdvance, pc, pos, handed, outermost, marks, lastmark, lastindex, loops, inner, frames, weight, none, seen, outcome⟩ h hc) (fun _ => ⟨hc, rfl, rfl⟩)
  | some yes =>
    cases frames with
    | nil => exact ⟨hc, rfl, rfl⟩
    | cons f rest => exact resume_alike ⟨code, text, lim, start, lastStart, wholeText, mustAdvance, f.pc, f.pos, handed, f.outermost, marks, lastmark, lastindex, loops, inner, rest, weight - (1 + f.kept.marks.size), none, seen, outcome⟩ h hc f yes

theorem runFor_alike {u : Array Nat} : ∀ (n : Nat) (m : M), AlikeText m.text u → m.code = zcode → Same (M.runFor n m) (M.runFor n (wt m u)) m.text u
  | 0, m, _, hc => ⟨hc, rfl, rfl⟩
  | n + 1, m, h, hc => by
    unfold M.runFor
    refine same_ite (fun _ => ⟨hc, rfl, rfl⟩) (fun _ => ?_)
    have st := step_alike m h hc
    have := runFor_alike n m.step (u := u) (by rw [st.text]; exact h) st.code
    rw [st.text] at this
    rw [st.eq]
    exact this

theorem runFor_more : ∀ (n : Nat) (m : M), m.outcome.isSome = true → M.runFor n m = m
  | 0, _, _ => rfl
  | n + 1, m, h => by unfold M.runFor; rw [if_pos h]
theorem runFor_add : ∀ (a b : Nat) (m : M), M.runFor (a + b) m = M.runFor b (M.runFor a m)
  | 0, b, m => by rw [Nat.zero_add]; rfl
  | a + 1, b, m => by
    rw [show a + 1 + b = (a + b) + 1 by omega]
    by_cases h : m.outcome.isSome = true
    · rw [runFor_more _ m h, runFor_more (a + 1) m h, runFor_more _ m h]
    · rw [show M.runFor (a + b + 1) m = M.runFor (a + b) m.step by rw [M.runFor, if_neg h], show M.runFor (a + 1) m = M.runFor a m.step by rw [M.runFor, if_neg h]]
      exact runFor_add a b m.step

def mach (t : Array Nat) : M := forSearch zcode t 3 0 t.size false
theorem mach_same {t u : Array Nat} (hu : u.size = t.size) : Same (mach t) (mach u) t u := by
  unfold mach forSearch
  rw [show header zcode = (1, 5) by decide +kernel, hu]
  dsimp only
  refine same_ite (fun _ => ⟨rfl, rfl, rfl⟩) (fun _ => ?_)
  refine same_attemptFrom _ ?_ _ _
  rfl

/-- the same run on texts that the pattern cannot tell apart -/
theorem mach_alike {t u : Array Nat} (hu : u.size = t.size) (ha : AlikeText t u) (n : Nat) : Same (M.runFor n (mach t)) (M.runFor n (mach u)) t u := by
  have a := mach_same hu
  have b := runFor_alike n (mach t) (u := u) (by rw [a.text]; exact ha) a.code
  rw [a.text, ← a.eq] at b
  exact b

def pairI (x : Option Nat × Option Nat) : List Int := match x with
  | (some b, some e) => [(b : Int), (e : Int)]
  | _ => [-1, -1]
theorem pairI_len (x : Option Nat × Option Nat) : (pairI x).length = 2 := by
  rcases x with ⟨_ | b, _ | e⟩ <;> rfl
/-- spans of the answer -/
def spansM (m : M) : List Int :=
  (List.range 3).flatMap fun g => pairI (if ((2 * g + 1 : Nat) : Int) ≤ m.lastmark then (m.marks.getD (2 * g) none, m.marks.getD (2 * g + 1) none) else (none, none))
theorem spansM_len (m : M) : (spansM m).length = 6 := by
  unfold spansM
  simp only [List.range, List.range.loop, List.flatMap_cons, List.flatMap_nil, List.length_append, List.length_nil, pairI_len]
def isMatched (m : M) : Bool := match m.outcome with
  | some .matched => true
  | _ => false
def wrongM (m : M) : Bool := (List.range 3).any (fun g => match m.marks.getD (2 * g) none, m.marks.getD (2 * g + 1) none with | some b, some e => ((2 * g + 1 : Nat) : Int) ≤ m.lastmark && e < b | _, _ => false)

def seesZ (m : M) (n : Nat) (sp : List Int) : Bool := isMatched m && m.start == 0 && m.handed == n && spansM m == sp && !wrongM m

theorem seesZ_wt (m : M) (u : Array Nat) (n : Nat) (sp : List Int) : seesZ (wt m u) n sp = seesZ m n sp := rfl

/-- the shapes: sign, hours' figures, colon, minutes -/
def shape (sign : Option Nat) (two : Bool) (colon : Bool) (mins : Bool) : Array Nat :=
  (sign.toList ++ (if two then [48, 48] else [48]) ++ (if colon then [58] else []) ++ (if mins then [48, 48] else [])).toArray
def shapeSpans (sign : Option Nat) (two : Bool) (colon : Bool) (mins : Bool) : List Int :=
  let o : Int := if sign.isSome then 1 else 0
  let k : Int := o + (if two then 2 else 1)
  let c : Int := k + (if colon then 1 else 0)
  (if sign.isSome then [0, 1] else [-1, -1]) ++ [o, k] ++ (if mins then [c, c + 2] else [-1, -1])

theorem shapes_see : ∀ sg ∈ [none, some 43, some 45], ∀ two ∈ [false, true], ∀ cm ∈ [(false, false), (false, true), (true, true)],
    seesZ (M.runFor 60 (mach (shape sg two cm.1 cm.2))) (shape sg two cm.1 cm.2).size (shapeSpans sg two cm.1 cm.2) = true := by
  decide +kernel

end Mine
end

section
open PySem PySem.W PyProof.Rows
namespace Mine
open Builtin Builtin.Re

theorem slot_search : Slot "re.Pattern" "search" "re.Pattern.search" :=
  .of (owner := "re.Pattern") (n := "search") (by rw [typeLookup_type, builtinLookup_eq_fast]; kernel_rfl) (by decide +kernel) (by decide +kernel) (by decide +kernel)
    (by first | exact .inl (by decide +kernel) | exact .inr (by decide +kernel)) (by rw [isSubtype_type]; kernel_rfl)
theorem entry_search : entryFor table "re.Pattern.search" = some Builtin.«re.Pattern.search» := entryFor_of_tree (by kernel_rfl)
theorem type_search : typeOf (.builtin "re.Pattern.search") = pure (.type "method_descriptor") := by show builtinType _ = _; rw [builtinType_eq_fast]; kernel_rfl
theorem args_search (a b : Value) : argsOk "re.Pattern.search" ⟨[a, b], []⟩ := by unfold argsOk; kernel_rfl
theorem slot_group : Slot "re.Match" "group" "re.Match.group" :=
  .of (owner := "re.Match") (n := "group") (by rw [typeLookup_type, builtinLookup_eq_fast]; kernel_rfl) (by decide +kernel) (by decide +kernel) (by decide +kernel)
    (by first | exact .inl (by decide +kernel) | exact .inr (by decide +kernel)) (by rw [isSubtype_type]; kernel_rfl)
theorem entry_group : entryFor table "re.Match.group" = some Builtin.«re.Match.group» := entryFor_of_tree (by kernel_rfl)
theorem type_group : typeOf (.builtin "re.Match.group") = pure (.type "method_descriptor") := by show builtinType _ = _; rw [builtinType_eq_fast]; kernel_rfl
theorem args_group (a b : Value) : argsOk "re.Match.group" ⟨[a, b], []⟩ := by unfold argsOk; kernel_rfl
theorem match_nobool : typeLookup (.type "re.Match") "__bool__" = pure none := by rw [typeLookup_type, builtinLookup_eq_fast]; kernel_rfl
theorem match_nolen : typeLookup (.type "re.Match") "__len__" = pure none := by rw [typeLookup_type, builtinLookup_eq_fast]; kernel_rfl

section
variable {M : Model} {A : Around} {E : Value → Shared → Prop}

theorem drive {Q : Sre.M → Shared → Prop} {s : Shared} : ∀ (k n : Nat) (m : Sre.M), k < n → (Sre.M.runFor (4 * (k + 1)) m).outcome.isSome = true → Q (Sre.M.runFor (4 * (k + 1)) m) s → wpAny M A (reDrive n m) Q E s
  | k, 0, m, h, _, _ => absurd h (Nat.not_lt_zero _)
  | 0, n + 1, m, _, ho, hq => by
    unfold reDrive
    show wpAny M A (if (Sre.M.runFor 4 m).outcome.isSome = true then pure (Sre.M.runFor 4 m) else _) Q E s
    rw [if_pos ho]
    exact wpAny_pure hq
  | k + 1, n + 1, m, hk, ho, hq => by
    have e : Sre.M.runFor (4 * (k + 1 + 1)) m = Sre.M.runFor (4 * (k + 1)) (Sre.M.runFor 4 m) := by
      rw [← runFor_add]; congr 1; omega
    rw [e] at ho hq
    unfold reDrive
    show wpAny M A (if (Sre.M.runFor 4 m).outcome.isSome = true then pure (Sre.M.runFor 4 m) else (do rule "sre.turn"; reDrive n (Sre.M.runFor 4 m))) Q E s
    by_cases h1 : (Sre.M.runFor 4 m).outcome.isSome = true
    · rw [if_pos h1]
      rw [runFor_more _ _ h1] at hq
      exact wpAny_pure hq
    · rw [if_neg h1]
      exact wpAny_bind (wpAny_rule (drive k n _ (by omega) ho hq))

theorem rules_any {Q : PUnit → Shared → Prop} {s : Shared} (f : Nat → PUnit → Sem (ForInStep PUnit)) (hf : ∀ i u (Q : ForInStep PUnit → Shared → Prop), Q (.yield ⟨⟩) s → wpAny M A (f i u) Q E s) : ∀ (l : List Nat), Q ⟨⟩ s → wpAny M A (forIn l PUnit.unit f) Q E s
  | [], h => by rw [List.forIn_nil]; exact wpAny_pure h
  | i :: l, h => by
    rw [List.forIn_cons]
    exact wpAny_bind (hf i _ _ (rules_any f hf l h))

theorem to_end {Q : Option Sre.M → Shared → Prop} {s : Shared} (k : Nat) (m : Sre.M) (hk : k < 2 ^ 64) (hm : isMatched (Sre.M.runFor (4 * (k + 1)) m) = true) (h : Q (some (Sre.M.runFor (4 * (k + 1)) m)) s) : wpAny M A (reRunToEnd m) Q E s := by
  generalize e : Sre.M.runFor (4 * (k + 1)) m = m' at *
  have ho : m'.outcome = some .matched := by
    unfold isMatched at hm
    split at hm
    · assumption
    · cases hm
  unfold reRunToEnd
  refine wpAny_bind (drive k _ m hk (by rw [e, ho]; rfl) ?_)
  rw [e]
  refine wpAny_bind (rules_any _ (fun i u Q hq => ?_) _ ?_)
  · split
    · exact wpAny_bind (wpAny_rule (wpAny_pure hq))
    · exact wpAny_pure hq
  rw [ho]
  exact wpAny_pure h
end

def spanVals (m : Sre.M) : List Value := rawInt m.start :: rawInt m.handed :: (spansM m).map rawInt
def pairV (x : Option Nat × Option Nat) : List Value := match x with
    | (some b, some e) => [rawInt b, rawInt e]
    | _ => [rawInt (-1), rawInt (-1)]
theorem pairV_eq (x : Option Nat × Option Nat) : pairV x = (pairI x).map rawInt := by
  rcases x with ⟨_ | b, _ | e⟩ <;> rfl
def rawSpans (m : Sre.M) : List Value :=
  (List.range 3).flatMap fun g => pairV (if ((2 * g + 1 : Nat) : Int) ≤ m.lastmark then (m.marks.getD (2 * g) none, m.marks.getD (2 * g + 1) none) else (none, none))
theorem rawSpans_eq (m : Sre.M) : rawSpans m = (spansM m).map rawInt := by
  unfold spansM rawSpans
  rw [List.map_flatMap]
  congr 1
  funext g
  exact pairV_eq _
theorem new_match {Mo : Model} {A : Around} {E : Value → Shared → Prop} {s : Shared} {Q : Value → Shared → Prop} (p v : Value) (pos lim : Nat) (m : Sre.M) (hw : wrongM m = false)
    (h : Q (.ref (s.heap.push { cls := .type "tuple", data := .seq (spanVals m).toArray }).objs.size) { s with heap := (s.heap.push { cls := .type "tuple", data := .seq (spanVals m).toArray }).push { cls := .type "re.Match", data := .fields #[v, p, rawInt pos, rawInt lim, rawInt m.lastindex, .ref s.heap.objs.size] } }) :
    wpAny Mo A (reNewMatch p v 3 pos lim m) Q E s := by
  obtain ⟨hp, g, d, tk, os⟩ := s
  have hs : ¬ (spanVals m).toArray.size > sizeLine := by
    have : (spanVals m).toArray.size = 8 := by simp [spanVals, spansM_len]
    rw [this, sizeLine_eq]; omega
  have fin : wpAny Mo A (do newFields "re.Match" [v, p, rawInt pos, rawInt lim, rawInt m.lastindex, ← newTuple (spanVals m)]) Q E ⟨hp, g, d, tk, os⟩ := by
    refine wpAny_bind ?_
    unfold newTuple newObj newObjAsIs
    dsimp only
    rw [if_neg hs]
    wp_walk
    exact h
  have e : spanVals m = rawInt m.start :: rawInt m.handed :: rawSpans m := by rw [rawSpans_eq]; rfl
  rw [e] at fin
  unfold reNewMatch
  show wpAny Mo A (if wrongM m = true then _ else (newTuple (rawInt m.start :: rawInt m.handed :: rawSpans m) >>= _)) Q E ⟨hp, g, d, tk, os⟩
  rw [hw, if_neg Bool.false_ne_true]
  exact fin
end Mine
end

section
open PySem PySem.W PyProof.Rows
namespace Mine
open Builtin Builtin.Re

theorem raw_items {c : Addr} {cs : Array Value} {n : Nat} {M : Model} {A : Around} {E : Value → Shared → Prop} {s : Shared} {Q : Array Int → Shared → Prop} (hc : s.heap.get? c = some { cls := .type "tuple", data := .seq cs n })
    (h : Q (cs.map reRawOf) s) : wpAny M A (reRawItems (.ref c)) Q E s := by
  obtain ⟨hp', g, d, tk, os⟩ := s
  unfold reRawItems seqItems?
  dsimp only
  refine wpAny_bind (wpAny_bind (wpAny_load hc ?_))
  exact wpAny_pure (wpAny_pure h)

theorem target_str (T : Str) (t : Tok) {p c : Addr} {fs cs : Array Value} {n : Nat} (h2 : fs.getD 2 .none = .int 3 0) (h5 : fs.getD 5 .none = .ref c) (h6 : fs.getD 6 .none = .int 0 0) (hz : (cs.map reRawOf).map (·.toNat) = zcode)
    (hT : T.cps.size < 2 ^ 60)
    {M : Model} {A : Around} {E : Value → Shared → Prop} {s : Shared} {Q : ReTarget → Shared → Prop} (hp : s.heap.get? p = some { cls := .type "re.Pattern", data := .fields fs }) (hc : s.heap.get? c = some { cls := .type "tuple", data := .seq cs n })
    (h : Q ⟨.ref p, .str T t, zcode, T.cps, 0, 3, 0, T.cps.size⟩ s) :
    wpAny M A (reTarget "re.Pattern.search" "search" ⟨[.ref p, .str T t], []⟩) Q E s := by
  obtain ⟨hp', g, d, tk, os⟩ := s
  have e1 : reNamed "re.Pattern.search" "search" ["string", "pos", "endpos"] 1 [.str T t] [] = pure [some (.str T t), none, none] := by
    rfl
  have e2 : (2 ^ 63 - 1 : Int).toNat = 9223372036854775807 := by decide
  have e3 : min (2 ^ 63 - 1 : Int).toNat T.cps.size = T.cps.size := by rw [e2]; omega
  unfold reTarget
  dsimp only
  refine wpAny_bind (wpAny_of_eq e1 ?_)
  dsimp only
  refine wpAny_bind (wpAny_pure ?_)
  refine wpAny_bind (wpAny_pure ?_)
  refine wpAny_bind ?_
  wp_walk
  rw [h6, h5, h2, e3]
  show wpAny M A (reNoCollectionInside (.str T t) 0 >>= _) Q E _
  refine wpAny_bind (wpAny_pure ?_)
  refine wpAny_bind (raw_items hc ?_)
  rw [hz]
  exact wpAny_pure h

theorem size_lt {T : Str} (h : T.cps.size ≤ 20) : T.cps.size < 2 ^ 60 := by omega

theorem search_meets (T : Str) (t : Tok) {p c : Addr} {fs cs : Array Value} {n : Nat} (h2 : fs.getD 2 .none = .int 3 0) (h5 : fs.getD 5 .none = .ref c) (h6 : fs.getD 6 .none = .int 0 0) (hz : (cs.map reRawOf).map (·.toNat) = zcode)
    (hT : T.cps.size < 2 ^ 60) {sp : List Int} (hm : seesZ (Sre.M.runFor 60 (mach T.cps)) T.cps.size sp = true) :
    Meets (Builtin.«re.Pattern.search» ⟨[.ref p, .str T t], []⟩) (fun _ R s => s.heap.get? p = some { cls := .type "re.Pattern", data := .fields fs } ∧ s.heap.get? c = some { cls := .type "tuple", data := .seq cs n } ∧
      ∀ li : Int, R (.ok (.ret (.ref (s.heap.push { cls := .type "tuple", data := .seq ((rawInt 0 :: rawInt T.cps.size :: sp.map rawInt).toArray) }).objs.size)))
        { s with heap := (s.heap.push { cls := .type "tuple", data := .seq ((rawInt 0 :: rawInt T.cps.size :: sp.map rawInt).toArray) }).push { cls := .type "re.Match", data := .fields #[.str T t, .ref p, rawInt 0, rawInt T.cps.size, rawInt li, .ref s.heap.objs.size] } }) :=
  .of_wp fun prog w A R s h => by
    obtain ⟨hp, hc, h⟩ := h
    simp only [seesZ, Bool.and_eq_true, beq_iff_eq, Bool.not_eq_true'] at hm
    obtain ⟨⟨⟨⟨m1, m2⟩, m3⟩, m4⟩, m5⟩ := hm
    unfold Builtin.«re.Pattern.search»
    refine wpAny_bind (target_str T t h2 h5 h6 hz hT hp hc ?_)
    unfold reAnswer
    dsimp only
    refine wpAny_bind (to_end 14 (mach T.cps) (by omega) m1 ?_)
    refine wpAny_bind (new_match _ _ _ _ _ m5 ?_)
    refine wpAny_pure ⟨_, rfl, ?_⟩
    have := h (Sre.M.runFor (4 * (14 + 1)) (mach T.cps)).lastindex
    unfold spanVals
    rw [m2, m3, m4]
    exact this

/-- a part of the answer -/
def partOf (T : Str) (b e : Int) (t : Tok) : Value := if b < 0 ∨ e < 0 then .none else .str ⟨T.cps.extract b.toNat e.toNat⟩ t

theorem group_number {M : Model} {A : Around} {E : Value → Shared → Prop} {s : Shared} {Q : Nat → Shared → Prop} (x : ReFound) (k : Nat) (u : Tok) (hk : 2 * k < x.spans.size) (h : Q k s) : wpAny M A (reGroupNumber x (.int (k : Int) u)) Q E s := by
  unfold reGroupNumber
  refine wpAny_bind (wpAny_pure ?_)
  show wpAny M A (asIndex (.int (k : Int) u) >>= _) Q E s
  refine wpAny_bind ?_
  unfold asIndex
  refine wpAny_bind (wpAny_pure ?_)
  refine wpAny_pure ?_
  have e : (decide ((k : Int) < 0) || decide (2 * (k : Int) ≥ (x.spans.size : Int))) = false := by
    rw [Bool.or_eq_false_iff, decide_eq_false_iff_not, decide_eq_false_iff_not]
    omega
  dsimp only
  rw [e, if_neg Bool.false_ne_true]
  exact wpAny_pure h

theorem group_text {M : Model} {A : Around} {E : Value → Shared → Prop} {s : Shared} {Q : Value → Shared → Prop} (x : ReFound) (k : Nat) (T : Str) (t : Tok) (h0 : x.fields.getD 0 .none = .str T t) (hT : T.cps.size ≤ 20)
    (h : ∀ tk, Q (partOf T (x.spans.getD (2 * k) (-1)) (x.spans.getD (2 * k + 1) (-1)) s.toks) { s with toks := tk }) : wpAny M A (reGroupText x k .none) Q E s := by
  obtain ⟨hp', g, d, tk, os⟩ := s
  unfold reGroupText
  dsimp only
  unfold partOf at h
  by_cases hb : x.spans.getD (2 * k) (-1) < 0 ∨ x.spans.getD (2 * k + 1) (-1) < 0
  · simp only [if_pos hb] at h
    rw [if_pos (by simpa using hb)]
    exact wpAny_pure (h tk)
  · simp only [if_neg hb] at h
    rw [if_neg (by simpa using hb), h0]
    refine wpAny_bind ?_
    unfold reTextOf
    refine wpAny_bind (wpAny_pure ?_)
    refine wpAny_pure ?_
    unfold reSlice
    rw [if_pos (by rfl)]
    refine wpAny_mkStr (h _) ?_
    show (T.cps.extract _ _).size ≤ sizeLine
    rw [Array.size_extract, sizeLine_eq]
    omega

theorem group_meets (T : Str) (t u : Tok) {a c : Addr} {fs : Array Value} {sp : List Int} {n : Nat} (k : Nat) (h0 : fs.getD 0 .none = .str T t) (h5 : fs.getD 5 .none = .ref c) (hk : 2 * k < sp.length) (hT : T.cps.size ≤ 20) :
    Meets (Builtin.«re.Match.group» ⟨[.ref a, .int k u], []⟩) (fun _ R s => s.heap.get? a = some { cls := .type "re.Match", data := .fields fs } ∧ s.heap.get? c = some { cls := .type "tuple", data := .seq ((sp.map rawInt).toArray) n } ∧
      ∀ tk, R (.ok (.ret (partOf T (sp.getD (2 * k) (-1)) (sp.getD (2 * k + 1) (-1)) s.toks))) { s with toks := tk }) :=
  .of_wp fun prog w A R s h => by
    obtain ⟨ha, hc, h⟩ := h
    obtain ⟨hp', g, d, tk, os⟩ := s
    have er : ∀ i, ((sp.map rawInt).toArray.map reRawOf).getD i (-1) = sp.getD i (-1) := by
      intro i
      have : (sp.map rawInt).toArray.map reRawOf = sp.toArray := by
        simp only [List.map_toArray, List.map_map]
        congr 1
        conv => rhs; rw [← List.map_id sp]
        rfl
      rw [this]; simp
    unfold Builtin.«re.Match.group»
    refine wpAny_bind (wpAny_pure ?_)
    dsimp only
    refine wpAny_bind ?_
    unfold reFound
    refine wpAny_bind ?_
    unfold fieldsOf
    dsimp only
    refine wpAny_bind (wpAny_load ha ?_)
    dsimp only
    refine wpAny_pure ?_
    rw [h5]
    refine wpAny_bind (raw_items hc ?_)
    refine wpAny_pure ?_
    refine wpAny_bind (group_number _ k u ?_ ?_)
    · show 2 * k < ((sp.map rawInt).toArray.map reRawOf).size
      simpa using hk
    · refine wpAny_bind (group_text _ k T t h0 hT ?_)
      intro tk'
      refine wpAny_pure ⟨_, rfl, ?_⟩
      dsimp only
      rw [er, er]
      exact h tk'
end Mine
end

section
open PySem PySem.W PySem.Calls PyProof.Rows
namespace Mine

theorem plain_pattern : PlainAttrs "re.Pattern" :=
  ⟨⟨"object.__getattribute__", by rw [typeLookup_type, builtinLookup_eq_fast]; kernel_rfl, by decide +kernel⟩, by rw [typeLookup_type, builtinLookup_eq_fast]; kernel_rfl⟩
theorem plain_match : PlainAttrs "re.Match" :=
  ⟨⟨"object.__getattribute__", by rw [typeLookup_type, builtinLookup_eq_fast]; kernel_rfl, by decide +kernel⟩, by rw [typeLookup_type, builtinLookup_eq_fast]; kernel_rfl⟩

section
variable {prog : Program} {w : World} {M : Model} {A : Around} {E : Value → Shared → Prop} {s : Shared} {K : Frag} {L p c : Addr} {h₀ : Heap} {m : Str → Option Value} {fs cs : Array Value} {n : Nat} {news : List (Addr × Obj)}

theorem method_search {pl : Sem Bool} {Q : Value × List Value → Shared → Prop} (F : Fr h₀ L s.heap m) (X₀ : K.In h₀) (hp : K.lookup p = some { cls := .type "re.Pattern", data := .fields fs }) (h : Q (.builtin "re.Pattern.search", [.ref p]) s) :
    wpAny M A (getMethod (.ref p) (Str.ofString "search") pl) Q E s :=
  getMethod_builtin ⟨_, (X₀.keeps F.keep) _ _ hp, rfl⟩ plain_pattern slot_search type_search (fun a e => by cases e; exact ⟨_, (X₀.keeps F.keep) _ _ hp, rfl⟩) h

theorem call_search (T : Str) (t : Tok) {Q : Value → Shared → Prop} (F : Fr h₀ L s.heap m) (X₀ : K.In h₀) (N : News h₀ L s.heap news) (hp : K.lookup p = some { cls := .type "re.Pattern", data := .fields fs }) (hc : K.lookup c = some { cls := .type "tuple", data := .seq cs n })
    (h2 : fs.getD 2 .none = .int 3 0) (h5 : fs.getD 5 .none = .ref c) (h6 : fs.getD 6 .none = .int 0 0) (hz : (cs.map Builtin.Re.reRawOf).map (·.toNat) = zcode) {sp : List Int}
    (hm : seesZ (Sre.M.runFor 60 (mach T.cps)) T.cps.size sp = true) (hT : T.cps.size ≤ 20)
    (h : ∀ (a b : Addr) (li : Int) (h' : Heap), Fr h₀ L h' m →
      News h₀ L h' ((a, { cls := .type "re.Match", data := .fields #[.str T t, .ref p, rawInt 0, rawInt T.cps.size, rawInt li, .ref b] }) :: (b, { cls := .type "tuple", data := .seq ((rawInt 0 :: rawInt T.cps.size :: sp.map rawInt).toArray) }) :: news) →
      (∀ p ∈ news, p.1 < b) → b < a → Q (.ref a) { s with heap := h' }) :
    wpAny (model prog w) A (call (.builtin "re.Pattern.search") [.ref p, .str T t]) Q E s := by
  have X := X₀.keeps F.keep
  refine call_meets slot_search ⟨_, X _ _ hp, rfl⟩ entry_search (args_search _ _) (search_meets T t h2 h5 h6 hz (by omega) hm) ⟨X _ _ hp, X _ _ hc, fun li => ?_⟩
  have N1 := N.push F { cls := .type "tuple", data := .seq ((rawInt 0 :: rawInt T.cps.size :: sp.map rawInt).toArray) }
  have F1 := F.push { cls := .type "tuple", data := .seq ((rawInt 0 :: rawInt T.cps.size :: sp.map rawInt).toArray) }
  have N2 := N1.push F1 { cls := .type "re.Match", data := .fields #[.str T t, .ref p, rawInt 0, rawInt T.cps.size, rawInt li, .ref s.heap.objs.size] }
  have F2 := F1.push { cls := .type "re.Match", data := .fields #[.str T t, .ref p, rawInt 0, rawInt T.cps.size, rawInt li, .ref s.heap.objs.size] }
  exact h _ _ li _ F2 N2 (fun p hp => Heap.lt_size (N p hp).1) (by simp [Heap.push])

theorem method_group {a : Addr} {pl : Sem Bool} {Q : Value × List Value → Shared → Prop} (N : News h₀ L s.heap news) (ha : (a, ({ cls := .type "re.Match", data := .fields fs } : Obj)) ∈ news) (h : Q (.builtin "re.Match.group", [.ref a]) s) :
    wpAny M A (getMethod (.ref a) (Str.ofString "group") pl) Q E s :=
  getMethod_builtin ⟨_, (N _ ha).1, rfl⟩ plain_match slot_group type_group (fun b e => by cases e; exact ⟨_, (N _ ha).1, rfl⟩) h

def optV (g : Option Str) (t : Tok) : Value := match g with
  | none => .none
  | some x => .str x t
def PartIs (T : Str) (sp : List Int) (k : Nat) (g : Option Str) : Prop := ∀ t, partOf T (sp.getD (2 * k) (-1)) (sp.getD (2 * k + 1) (-1)) t = optV g t

theorem call_group {a b : Addr} {T : Str} {t u : Tok} {v : Value} {li : Int} {sp : List Int} {k : Nat} (g : Option Str) {Q : Value → Shared → Prop} (N : News h₀ L s.heap news)
    (ha : (a, ({ cls := .type "re.Match", data := .fields #[.str T t, v, rawInt 0, rawInt T.cps.size, rawInt li, .ref b] } : Obj)) ∈ news) (hb : (b, ({ cls := .type "tuple", data := .seq ((rawInt 0 :: rawInt T.cps.size :: sp.map rawInt).toArray) } : Obj)) ∈ news)
    (hg : PartIs T (0 :: (T.cps.size : Int) :: sp) k g) (hk : 2 * k < sp.length + 2) (hT : T.cps.size ≤ 20)
    (h : ∀ tk, Q (optV g s.toks) { s with toks := tk }) :
    wpAny (model prog w) A (call (.builtin "re.Match.group") [.ref a, .int (k : Int) u]) Q E s := by
  refine call_meets slot_group ⟨_, (N _ ha).1, rfl⟩ entry_group (args_group _ _) (group_meets T t u (sp := 0 :: (T.cps.size : Int) :: sp) k rfl rfl (by simpa using hk) hT) ⟨(N _ ha).1, (N _ hb).1, fun tk => ?_⟩
  rw [hg]
  exact h tk

theorem truthy_match {a : Addr} {Q : Bool → Shared → Prop} (N : News h₀ L s.heap news) (ha : (a, ({ cls := .type "re.Match", data := .fields fs } : Obj)) ∈ news) (h : Q true s) : wpAny M A (truthy (.ref a)) Q E s := by
  have hT : s.TypeIs (.ref a) "re.Match" := ⟨_, (N _ ha).1, rfl⟩
  unfold truthy
  refine wpAny_bind (m := callSpecial? (.ref a) (Str.ofString "__bool__")) (wpAny_bind (wpAny_specialOf hT match_nobool (wpAny_pure ?_)))
  dsimp only
  refine wpAny_bind (wpAny_specialOf hT match_nolen ?_)
  exact wpAny_pure h
end
end Mine
end

section
open PySem PySem.W PyProof.Rows PySem.Builtin.Str
namespace Mine

def two (n : Nat) : List Nat := [48 + n / 10, 48 + n % 10]
def figs (n : Nat) : List Nat := if n < 10 then [48 + n] else two n
def Wt (n : Int) : Str := Txt.slice (Str.ofString (toString (100 + n))) (some 1) none
def St (n : Int) : Str := Str.ofString (toString n)

theorem toDigits_all : ∀ n, n < 200 → (Nat.toDigits 10 n).map Char.toNat = (if n < 10 then [48 + n] else if n < 100 then [48 + n / 10, 48 + n % 10] else [48 + n / 100, 48 + n / 10 % 10, 48 + n % 10]) := by decide +kernel

theorem cps_num {n : Nat} (h : n < 200) : (St (n : Int)).cps = (if n < 10 then [48 + n] else if n < 100 then [48 + n / 10, 48 + n % 10] else [48 + n / 100, 48 + n / 10 % 10, 48 + n % 10]).toArray := by
  have := KIN.signs_num n
  rw [toDigits_all n h] at this
  rw [← this]
  rfl

theorem cps_S {n : Nat} (h : n < 100) : (St (n : Int)).cps = (figs n).toArray := by
  rw [cps_num (by omega)]
  unfold figs two
  by_cases h1 : n < 10
  · rw [if_pos h1, if_pos h1]
  · rw [if_neg h1, if_neg h1, if_pos h]

theorem cps_W {n : Nat} (h : n < 100) : (Wt (n : Int)).cps = (two n).toArray := by
  have e : (St ((100 + n : Nat) : Int)).cps = #[49, 48 + n / 10, 48 + n % 10] := by
    rw [cps_num (by omega), if_neg (by omega), if_neg (by omega)]
    have e1 : (100 + n) / 100 = 1 := by omega
    have e2 : (100 + n) / 10 % 10 = n / 10 := by omega
    have e3 : (100 + n) % 10 = n % 10 := by omega
    rw [e1, e2, e3]
  have e' : Str.ofString (toString (100 + (n : Int))) = ⟨#[49, 48 + n / 10, 48 + n % 10]⟩ := by
    have : St ((100 + n : Nat) : Int) = ⟨#[49, 48 + n / 10, 48 + n % 10]⟩ := by rw [← e]
    rw [← this]; unfold St; simp
  unfold Wt
  rw [e']
  unfold two Txt.slice
  show (if ((1 : Int) == 1 && (strSliceIndices (some 1) none 1 3).length == 3) = true then (_ : Str) else ⟨((strSliceIndices (some 1) none 1 3).filterMap _).toArray⟩).cps = _
  rw [show strSliceIndices (some 1) none 1 3 = [1, 2] by decide +kernel]
  rfl

theorem reads_two : ∀ n, n < 100 → PySem.intText? ⟨(two n).toArray⟩ = some (n : Int) := by decide +kernel
theorem reads_figs : ∀ n, n < 100 → PySem.intText? ⟨(figs n).toArray⟩ = some (n : Int) := by decide +kernel

/-- the texts of a zone -/
inductive IsZone (h m b : Int) : Str → Prop
  | full (sg f c : Str) (hs : (b = 1 ∧ sg = Str.ofString "-") ∨ (b = 0 ∧ (sg = Str.ofString "" ∨ sg = Str.ofString "+"))) (hf : f = Wt h ∨ f = St h) (hc : c = Str.ofString ":" ∨ c = Str.ofString "") : IsZone h m b (sg ++ f ++ c ++ Wt m)
  | bare (sg f : Str) (hs : (b = 1 ∧ sg = Str.ofString "-") ∨ (b = 0 ∧ (sg = Str.ofString "" ∨ sg = Str.ofString "+"))) (hf : f = Wt h ∨ f = St h) (hm : m = 0) : IsZone h m b (sg ++ f)

/-- the same in figures -/
structure Lay (h m b : Nat) (T : Str) where
  sg : Option Nat
  two : Bool
  cm : Bool × Bool
  hsg : sg ∈ [none, some 43, some 45]
  hcm : cm ∈ [(false, false), (false, true), (true, true)]
  hb : (sg = some 45 ∧ b = 1) ∨ (sg ≠ some 45 ∧ b = 0)
  hm : cm.2 = false → m = 0
  h1 : two = false → h < 10
  cps : T.cps.toList = sg.toList ++ (if two then Mine.two h else [48 + h]) ++ (if cm.1 then [58] else []) ++ (if cm.2 then Mine.two m else [])

theorem cps_app (a b : Str) : (a ++ b).cps.toList = a.cps.toList ++ b.cps.toList := by
  rw [Str.cps_append, Array.toList_append]

theorem sign_lay {b : Nat} {sg : Str} (hs : ((b : Int) = 1 ∧ sg = Str.ofString "-") ∨ ((b : Int) = 0 ∧ (sg = Str.ofString "" ∨ sg = Str.ofString "+"))) :
    ∃ s : Option Nat, s ∈ [none, some 43, some 45] ∧ ((s = some 45 ∧ b = 1) ∨ (s ≠ some 45 ∧ b = 0)) ∧ sg.cps.toList = s.toList := by
  rcases hs with ⟨hb, rfl⟩ | ⟨hb, rfl | rfl⟩
  · exact ⟨some 45, by decide, .inl ⟨rfl, by omega⟩, by decide +kernel⟩
  · exact ⟨none, by decide, .inr ⟨by decide, by omega⟩, by decide +kernel⟩
  · exact ⟨some 43, by decide, .inr ⟨by decide, by omega⟩, by decide +kernel⟩

theorem figs_lay {h : Nat} {f : Str} (hh : h < 100) (hf : f = Wt h ∨ f = St h) : ∃ t : Bool, (t = false → h < 10) ∧ f.cps.toList = (if t then two h else [48 + h]) := by
  rcases hf with rfl | rfl
  · exact ⟨true, by simp, by rw [cps_W hh]; rfl⟩
  · by_cases h1 : h < 10
    · exact ⟨false, fun _ => h1, by rw [cps_S hh]; unfold figs; rw [if_pos h1]; rfl⟩
    · exact ⟨true, by simp, by rw [cps_S hh]; unfold figs; rw [if_neg h1]; rfl⟩

theorem lay_of {h m b : Nat} {T : Str} (hh : h < 100) (hm : m < 100) (Z : IsZone h m b T) : Nonempty (Lay h m b T) := by
  cases Z with
  | full sg f c hs hf hc =>
    obtain ⟨s, s1, s2, s3⟩ := sign_lay hs
    obtain ⟨t, t1, t2⟩ := figs_lay hh hf
    have hc' : ∃ k : Bool, c.cps.toList = (if k then [58] else []) := by
      rcases hc with rfl | rfl
      · exact ⟨true, by decide +kernel⟩
      · exact ⟨false, by decide +kernel⟩
    obtain ⟨k, k1⟩ := hc'
    refine ⟨⟨s, t, (k, true), s1, by cases k <;> simp, s2, by simp, t1, ?_⟩⟩
    rw [cps_app, cps_app, cps_app, s3, t2, k1, cps_W hm]
    simp
  | bare sg f hs hf hm0 =>
    obtain ⟨s, s1, s2, s3⟩ := sign_lay hs
    obtain ⟨t, t1, t2⟩ := figs_lay hh hf
    refine ⟨⟨s, t, (false, false), s1, by simp, s2, fun _ => by omega, t1, ?_⟩⟩
    rw [cps_app, s3, t2]
    simp
def ReadsAs (g : Option Str) (n : Int) : Prop := ∀ X, g = some X → PySem.intText? X = some n ∧ X.length ≤ 640 ∧ 1 ≤ X.length
theorem ReadsAs.out {X : Str} {n : Int} (h : ReadsAs (some X) n) : PySem.intText? X = some n ∧ X.length ≤ 640 ∧ ((X.length : Int) != 0) = true := by
  obtain ⟨a, b, c⟩ := h X rfl
  exact ⟨a, b, bne_iff_ne.mpr (by omega)⟩
def offV (g1 g3 : Option Str) (h m : Int) : Int :=
  match g1 with
  | none => (match g3 with | none => 3600 * h | some _ => 3600 * h + 60 * m)
  | some x => if (x == Str.ofString "-") = true then (match g3 with | none => -(3600 * h) | some _ => -(3600 * h + 60 * m)) else (match g3 with | none => 3600 * h | some _ => 3600 * h + 60 * m)


inductive AL : List Nat → List Nat → Prop
  | nil : AL [] []
  | cons {a b : Nat} {l r : List Nat} : Alike a b → AL l r → AL (a :: l) (b :: r)
theorem alike_self (c : Nat) : Alike c c := .inl rfl
theorem alike_dig {k : Nat} (h : k ≤ 9) : Alike 48 (48 + k) := .inr ⟨by decide, by unfold Sre.isDigit; simp; omega⟩

theorem alike_lists : ∀ (l r : List Nat), AL l r → ∀ p, Alike (l.getD p 0) (r.getD p 0)
  | _, _, .nil, _ => .inl rfl
  | _, _, .cons h _, 0 => h
  | _, _, .cons _ t, p + 1 => alike_lists _ _ t p

theorem alike_arrays {t u : Array Nat} (h : AL t.toList u.toList) : AlikeText t u := by
  intro p
  have := alike_lists _ _ h p
  have e : ∀ a : Array Nat, a.getD p 0 = a.toList.getD p 0 := by
    intro a; simp [Array.getD_eq_getD_getElem?, List.getD_eq_getElem?_getD]
  rw [e, e]
  exact this

theorem alike_append {a b c d : List Nat} (h : AL a b) (k : AL c d) : AL (a ++ c) (b ++ d) := by
  induction h with
  | nil => exact k
  | cons h _ ih => exact .cons h ih

theorem alike_refl (l : List Nat) : AL l l := by
  induction l with
  | nil => exact .nil
  | cons a l ih => exact .cons (.inl rfl) ih

theorem al_size {l r : List Nat} (h : AL l r) : l.length = r.length := by
  induction h with
  | nil => rfl
  | cons _ _ ih => simp [ih]

theorem lay_alike {h m b : Nat} {T : Str} (hh : h < 100) (hm : m < 100) (Y : Lay h m b T) : AL (shape Y.sg Y.two Y.cm.1 Y.cm.2).toList T.cps.toList := by
  rw [Y.cps]
  unfold shape
  rw [List.toList_toArray]
  have t2 : ∀ n, n < 100 → AL [48, 48] (two n) := fun n hn => .cons (alike_dig (by omega)) (.cons (alike_dig (by omega)) .nil)
  refine alike_append (alike_append (alike_append (alike_refl _) ?_) (alike_refl _)) ?_
  · by_cases q : Y.two = true
    · rw [if_pos q, if_pos q]; exact t2 h hh
    · rw [if_neg q, if_neg q]; exact .cons (alike_dig (by have := Y.h1 (by simpa using q); omega)) .nil
  · by_cases q : Y.cm.2 = true
    · rw [if_pos q, if_pos q]; exact t2 m hm
    · rw [if_neg q, if_neg q]; exact .nil

theorem lay_sees {h m b : Nat} {T : Str} (hh : h < 100) (hm : m < 100) (Y : Lay h m b T) :
    seesZ (Sre.M.runFor 60 (mach T.cps)) T.cps.size (shapeSpans Y.sg Y.two Y.cm.1 Y.cm.2) = true := by
  have al := lay_alike hh hm Y
  have hs : T.cps.size = (shape Y.sg Y.two Y.cm.1 Y.cm.2).size := by
    have := al_size al
    simpa using this.symm
  have q := mach_alike hs (alike_arrays al) 60
  rw [q.eq, seesZ_wt, hs]
  exact shapes_see Y.sg Y.hsg Y.two (by cases Y.two <;> simp) Y.cm Y.hcm

theorem part_some {T : Str} {b e : Int} {l : List Nat} (hb : 0 ≤ b) (he : 0 ≤ e) (h : T.cps.extract b.toNat e.toNat = l.toArray) (t : Tok) : partOf T b e t = optV (some ⟨l.toArray⟩) t := by
  unfold partOf
  rw [if_neg (by omega), h]
  rfl

/-- all that the walk of offset_from_tz_string asks of a text -/
structure Good (T : Str) (v : Int) where
  sp : List Int
  g1 : Option Str
  g3 : Option Str
  H : Str
  hv : Int
  m3 : Int
  hT : T.cps.size ≤ 20
  hm : seesZ (Sre.M.runFor 60 (mach T.cps)) T.cps.size sp = true
  p1 : PartIs T (0 :: (T.cps.size : Int) :: sp) 1 g1
  p2 : PartIs T (0 :: (T.cps.size : Int) :: sp) 2 (some H)
  p3 : PartIs T (0 :: (T.cps.size : Int) :: sp) 3 g3
  hsp : sp.length = 6
  hH : PySem.intText? H = some hv
  hHl : H.length ≤ 640
  h3 : ReadsAs g3 m3
  hZ : (decide (T = { cps := #[71, 77, 84] }) || (decide (T = { cps := #[85, 84, 67] }) || (decide (T = { cps := #[85, 84] }) || (decide (T = { cps := #[90] }) || false)))) = false
  hval : offV g1 g3 hv m3 = v

theorem no_name {T : Str} (h : T.cps.toList.headD 100 < 60) : (decide (T = { cps := #[71, 77, 84] }) || (decide (T = { cps := #[85, 84, 67] }) || (decide (T = { cps := #[85, 84] }) || (decide (T = { cps := #[90] }) || false)))) = false := by
  have ne : ∀ S : Str, 60 ≤ S.cps.toList.headD 100 → decide (T = S) = false := fun S hS => decide_eq_false fun e => by rw [e] at h; omega
  rw [ne _ (by decide), ne _ (by decide), ne _ (by decide), ne _ (by decide)]
  rfl

theorem one_fig {h : Nat} (h1 : h < 10) : PySem.intText? ⟨[48 + h].toArray⟩ = some (h : Int) := by
  have := reads_figs h (by omega)
  unfold figs at this
  rw [if_pos h1] at this
  exact this

theorem is_minus : ((⟨[45].toArray⟩ : Str) == Str.ofString "-") = true := by decide +kernel
theorem is_plus : ((⟨[43].toArray⟩ : Str) == Str.ofString "-") = false := by decide +kernel

theorem lay_good {h m b : Nat} {T : Str} (hh : h < 100) (hm : m < 100) (Y : Lay h m b T) : Nonempty (Good T (if b = 1 then -(3600 * (h : Int) + 60 * m) else 3600 * (h : Int) + 60 * m)) := by
  have see := lay_sees hh hm Y
  obtain ⟨sg, tw, ⟨c1, c2⟩, hsg, hcm, hb, hm0, h1, hc⟩ := Y
  obtain ⟨⟨l⟩⟩ := T
  dsimp only at hc see h1 hm0
  subst hc
  have rm := reads_two m hm
  have lm : (Mine.two m).length = 2 := rfl
  have rh := reads_two h hh
  have d1 : 48 + h / 10 < 60 := by omega
  simp only [List.mem_cons, List.not_mem_nil, or_false, Prod.mk.injEq] at hsg hcm
  rcases hsg with rfl | rfl | rfl <;> rcases hcm with ⟨rfl, rfl⟩ | ⟨rfl, rfl⟩ | ⟨rfl, rfl⟩ <;> cases tw
  · have hb' : b = 0 := by rcases hb with ⟨e, q⟩ | ⟨e, q⟩ <;> first | exact q | cases e | exact absurd rfl e
    have hm1 := hm0 rfl
    have ev : offV (none) (none) (h : Int) (m : Int) = (3600 * (h : Int)) := rfl
    have ev2 : (3600 * (h : Int)) = (if b = 1 then -(3600 * (h : Int) + 60 * m) else 3600 * (h : Int) + 60 * m) := by rw [hb', if_neg (by decide)]; rw [hm1]; simp
    exact ⟨⟨_, none, none, ⟨[48 + h].toArray⟩, (h : Int), (m : Int), (by show (1 : Nat) ≤ 20; decide), see, fun t => rfl, fun t => rfl, fun t => rfl, rfl, (one_fig (h1 rfl)), (by show (1 : Nat) ≤ 640; decide), (fun X e => by cases e), no_name (by have := h1 rfl; show (48 : Nat) + h < 60; omega), ev.trans ev2⟩⟩
  · have hb' : b = 0 := by rcases hb with ⟨e, q⟩ | ⟨e, q⟩ <;> first | exact q | cases e | exact absurd rfl e
    have hm1 := hm0 rfl
    have ev : offV (none) (none) (h : Int) (m : Int) = (3600 * (h : Int)) := rfl
    have ev2 : (3600 * (h : Int)) = (if b = 1 then -(3600 * (h : Int) + 60 * m) else 3600 * (h : Int) + 60 * m) := by rw [hb', if_neg (by decide)]; rw [hm1]; simp
    exact ⟨⟨_, none, none, ⟨(Mine.two h).toArray⟩, (h : Int), (m : Int), (by show (2 : Nat) ≤ 20; decide), see, fun t => rfl, fun t => rfl, fun t => rfl, rfl, rh, (by show (2 : Nat) ≤ 640; decide), (fun X e => by cases e), no_name (by show (48 : Nat) + h / 10 < 60; omega), ev.trans ev2⟩⟩
  · have hb' : b = 0 := by rcases hb with ⟨e, q⟩ | ⟨e, q⟩ <;> first | exact q | cases e | exact absurd rfl e
    have ev : offV (none) (some ⟨(Mine.two m).toArray⟩) (h : Int) (m : Int) = (3600 * (h : Int) + 60 * m) := rfl
    have ev2 : (3600 * (h : Int) + 60 * m) = (if b = 1 then -(3600 * (h : Int) + 60 * m) else 3600 * (h : Int) + 60 * m) := by rw [hb', if_neg (by decide)]
    exact ⟨⟨_, none, some ⟨(Mine.two m).toArray⟩, ⟨[48 + h].toArray⟩, (h : Int), (m : Int), (by show (3 : Nat) ≤ 20; decide), see, fun t => rfl, fun t => rfl, fun t => rfl, rfl, (one_fig (h1 rfl)), (by show (1 : Nat) ≤ 640; decide), (fun X e => by cases e; exact ⟨rm, (by show 2 ≤ 640; decide), (by show 1 ≤ 2; decide)⟩), no_name (by have := h1 rfl; show (48 : Nat) + h < 60; omega), ev.trans ev2⟩⟩
  · have hb' : b = 0 := by rcases hb with ⟨e, q⟩ | ⟨e, q⟩ <;> first | exact q | cases e | exact absurd rfl e
    have ev : offV (none) (some ⟨(Mine.two m).toArray⟩) (h : Int) (m : Int) = (3600 * (h : Int) + 60 * m) := rfl
    have ev2 : (3600 * (h : Int) + 60 * m) = (if b = 1 then -(3600 * (h : Int) + 60 * m) else 3600 * (h : Int) + 60 * m) := by rw [hb', if_neg (by decide)]
    exact ⟨⟨_, none, some ⟨(Mine.two m).toArray⟩, ⟨(Mine.two h).toArray⟩, (h : Int), (m : Int), (by show (4 : Nat) ≤ 20; decide), see, fun t => rfl, fun t => rfl, fun t => rfl, rfl, rh, (by show (2 : Nat) ≤ 640; decide), (fun X e => by cases e; exact ⟨rm, (by show 2 ≤ 640; decide), (by show 1 ≤ 2; decide)⟩), no_name (by show (48 : Nat) + h / 10 < 60; omega), ev.trans ev2⟩⟩
  · have hb' : b = 0 := by rcases hb with ⟨e, q⟩ | ⟨e, q⟩ <;> first | exact q | cases e | exact absurd rfl e
    have ev : offV (none) (some ⟨(Mine.two m).toArray⟩) (h : Int) (m : Int) = (3600 * (h : Int) + 60 * m) := rfl
    have ev2 : (3600 * (h : Int) + 60 * m) = (if b = 1 then -(3600 * (h : Int) + 60 * m) else 3600 * (h : Int) + 60 * m) := by rw [hb', if_neg (by decide)]
    exact ⟨⟨_, none, some ⟨(Mine.two m).toArray⟩, ⟨[48 + h].toArray⟩, (h : Int), (m : Int), (by show (4 : Nat) ≤ 20; decide), see, fun t => rfl, fun t => rfl, fun t => rfl, rfl, (one_fig (h1 rfl)), (by show (1 : Nat) ≤ 640; decide), (fun X e => by cases e; exact ⟨rm, (by show 2 ≤ 640; decide), (by show 1 ≤ 2; decide)⟩), no_name (by have := h1 rfl; show (48 : Nat) + h < 60; omega), ev.trans ev2⟩⟩
  · have hb' : b = 0 := by rcases hb with ⟨e, q⟩ | ⟨e, q⟩ <;> first | exact q | cases e | exact absurd rfl e
    have ev : offV (none) (some ⟨(Mine.two m).toArray⟩) (h : Int) (m : Int) = (3600 * (h : Int) + 60 * m) := rfl
    have ev2 : (3600 * (h : Int) + 60 * m) = (if b = 1 then -(3600 * (h : Int) + 60 * m) else 3600 * (h : Int) + 60 * m) := by rw [hb', if_neg (by decide)]
    exact ⟨⟨_, none, some ⟨(Mine.two m).toArray⟩, ⟨(Mine.two h).toArray⟩, (h : Int), (m : Int), (by show (5 : Nat) ≤ 20; decide), see, fun t => rfl, fun t => rfl, fun t => rfl, rfl, rh, (by show (2 : Nat) ≤ 640; decide), (fun X e => by cases e; exact ⟨rm, (by show 2 ≤ 640; decide), (by show 1 ≤ 2; decide)⟩), no_name (by show (48 : Nat) + h / 10 < 60; omega), ev.trans ev2⟩⟩
  · have hb' : b = 0 := by rcases hb with ⟨e, q⟩ | ⟨e, q⟩ <;> first | exact q | cases e | exact absurd rfl e
    have hm1 := hm0 rfl
    have ev : offV (some ⟨[43].toArray⟩) (none) (h : Int) (m : Int) = (3600 * (h : Int)) := by unfold offV; exact if_neg (by rw [is_plus]; exact Bool.false_ne_true)
    have ev2 : (3600 * (h : Int)) = (if b = 1 then -(3600 * (h : Int) + 60 * m) else 3600 * (h : Int) + 60 * m) := by rw [hb', if_neg (by decide)]; rw [hm1]; simp
    exact ⟨⟨_, some ⟨[43].toArray⟩, none, ⟨[48 + h].toArray⟩, (h : Int), (m : Int), (by show (2 : Nat) ≤ 20; decide), see, fun t => rfl, fun t => rfl, fun t => rfl, rfl, (one_fig (h1 rfl)), (by show (1 : Nat) ≤ 640; decide), (fun X e => by cases e), no_name (by show (43 : Nat) < 60; decide), ev.trans ev2⟩⟩
  · have hb' : b = 0 := by rcases hb with ⟨e, q⟩ | ⟨e, q⟩ <;> first | exact q | cases e | exact absurd rfl e
    have hm1 := hm0 rfl
    have ev : offV (some ⟨[43].toArray⟩) (none) (h : Int) (m : Int) = (3600 * (h : Int)) := by unfold offV; exact if_neg (by rw [is_plus]; exact Bool.false_ne_true)
    have ev2 : (3600 * (h : Int)) = (if b = 1 then -(3600 * (h : Int) + 60 * m) else 3600 * (h : Int) + 60 * m) := by rw [hb', if_neg (by decide)]; rw [hm1]; simp
    exact ⟨⟨_, some ⟨[43].toArray⟩, none, ⟨(Mine.two h).toArray⟩, (h : Int), (m : Int), (by show (3 : Nat) ≤ 20; decide), see, fun t => rfl, fun t => rfl, fun t => rfl, rfl, rh, (by show (2 : Nat) ≤ 640; decide), (fun X e => by cases e), no_name (by show (43 : Nat) < 60; decide), ev.trans ev2⟩⟩
  · have hb' : b = 0 := by rcases hb with ⟨e, q⟩ | ⟨e, q⟩ <;> first | exact q | cases e | exact absurd rfl e
    have ev : offV (some ⟨[43].toArray⟩) (some ⟨(Mine.two m).toArray⟩) (h : Int) (m : Int) = (3600 * (h : Int) + 60 * m) := by unfold offV; exact if_neg (by rw [is_plus]; exact Bool.false_ne_true)
    have ev2 : (3600 * (h : Int) + 60 * m) = (if b = 1 then -(3600 * (h : Int) + 60 * m) else 3600 * (h : Int) + 60 * m) := by rw [hb', if_neg (by decide)]
    exact ⟨⟨_, some ⟨[43].toArray⟩, some ⟨(Mine.two m).toArray⟩, ⟨[48 + h].toArray⟩, (h : Int), (m : Int), (by show (4 : Nat) ≤ 20; decide), see, fun t => rfl, fun t => rfl, fun t => rfl, rfl, (one_fig (h1 rfl)), (by show (1 : Nat) ≤ 640; decide), (fun X e => by cases e; exact ⟨rm, (by show 2 ≤ 640; decide), (by show 1 ≤ 2; decide)⟩), no_name (by show (43 : Nat) < 60; decide), ev.trans ev2⟩⟩
  · have hb' : b = 0 := by rcases hb with ⟨e, q⟩ | ⟨e, q⟩ <;> first | exact q | cases e | exact absurd rfl e
    have ev : offV (some ⟨[43].toArray⟩) (some ⟨(Mine.two m).toArray⟩) (h : Int) (m : Int) = (3600 * (h : Int) + 60 * m) := by unfold offV; exact if_neg (by rw [is_plus]; exact Bool.false_ne_true)
    have ev2 : (3600 * (h : Int) + 60 * m) = (if b = 1 then -(3600 * (h : Int) + 60 * m) else 3600 * (h : Int) + 60 * m) := by rw [hb', if_neg (by decide)]
    exact ⟨⟨_, some ⟨[43].toArray⟩, some ⟨(Mine.two m).toArray⟩, ⟨(Mine.two h).toArray⟩, (h : Int), (m : Int), (by show (5 : Nat) ≤ 20; decide), see, fun t => rfl, fun t => rfl, fun t => rfl, rfl, rh, (by show (2 : Nat) ≤ 640; decide), (fun X e => by cases e; exact ⟨rm, (by show 2 ≤ 640; decide), (by show 1 ≤ 2; decide)⟩), no_name (by show (43 : Nat) < 60; decide), ev.trans ev2⟩⟩
  · have hb' : b = 0 := by rcases hb with ⟨e, q⟩ | ⟨e, q⟩ <;> first | exact q | cases e | exact absurd rfl e
    have ev : offV (some ⟨[43].toArray⟩) (some ⟨(Mine.two m).toArray⟩) (h : Int) (m : Int) = (3600 * (h : Int) + 60 * m) := by unfold offV; exact if_neg (by rw [is_plus]; exact Bool.false_ne_true)
    have ev2 : (3600 * (h : Int) + 60 * m) = (if b = 1 then -(3600 * (h : Int) + 60 * m) else 3600 * (h : Int) + 60 * m) := by rw [hb', if_neg (by decide)]
    exact ⟨⟨_, some ⟨[43].toArray⟩, some ⟨(Mine.two m).toArray⟩, ⟨[48 + h].toArray⟩, (h : Int), (m : Int), (by show (5 : Nat) ≤ 20; decide), see, fun t => rfl, fun t => rfl, fun t => rfl, rfl, (one_fig (h1 rfl)), (by show (1 : Nat) ≤ 640; decide), (fun X e => by cases e; exact ⟨rm, (by show 2 ≤ 640; decide), (by show 1 ≤ 2; decide)⟩), no_name (by show (43 : Nat) < 60; decide), ev.trans ev2⟩⟩
  · have hb' : b = 0 := by rcases hb with ⟨e, q⟩ | ⟨e, q⟩ <;> first | exact q | cases e | exact absurd rfl e
    have ev : offV (some ⟨[43].toArray⟩) (some ⟨(Mine.two m).toArray⟩) (h : Int) (m : Int) = (3600 * (h : Int) + 60 * m) := by unfold offV; exact if_neg (by rw [is_plus]; exact Bool.false_ne_true)
    have ev2 : (3600 * (h : Int) + 60 * m) = (if b = 1 then -(3600 * (h : Int) + 60 * m) else 3600 * (h : Int) + 60 * m) := by rw [hb', if_neg (by decide)]
    exact ⟨⟨_, some ⟨[43].toArray⟩, some ⟨(Mine.two m).toArray⟩, ⟨(Mine.two h).toArray⟩, (h : Int), (m : Int), (by show (6 : Nat) ≤ 20; decide), see, fun t => rfl, fun t => rfl, fun t => rfl, rfl, rh, (by show (2 : Nat) ≤ 640; decide), (fun X e => by cases e; exact ⟨rm, (by show 2 ≤ 640; decide), (by show 1 ≤ 2; decide)⟩), no_name (by show (43 : Nat) < 60; decide), ev.trans ev2⟩⟩
  · have hb' : b = 1 := by rcases hb with ⟨e, q⟩ | ⟨e, q⟩ <;> first | exact q | cases e | exact absurd rfl e
    have hm1 := hm0 rfl
    have ev : offV (some ⟨[45].toArray⟩) (none) (h : Int) (m : Int) = -(3600 * (h : Int)) := by unfold offV; exact if_pos is_minus
    have ev2 : -(3600 * (h : Int)) = (if b = 1 then -(3600 * (h : Int) + 60 * m) else 3600 * (h : Int) + 60 * m) := by rw [hb', if_pos rfl]; rw [hm1]; simp
    exact ⟨⟨_, some ⟨[45].toArray⟩, none, ⟨[48 + h].toArray⟩, (h : Int), (m : Int), (by show (2 : Nat) ≤ 20; decide), see, fun t => rfl, fun t => rfl, fun t => rfl, rfl, (one_fig (h1 rfl)), (by show (1 : Nat) ≤ 640; decide), (fun X e => by cases e), no_name (by show (45 : Nat) < 60; decide), ev.trans ev2⟩⟩
  · have hb' : b = 1 := by rcases hb with ⟨e, q⟩ | ⟨e, q⟩ <;> first | exact q | cases e | exact absurd rfl e
    have hm1 := hm0 rfl
    have ev : offV (some ⟨[45].toArray⟩) (none) (h : Int) (m : Int) = -(3600 * (h : Int)) := by unfold offV; exact if_pos is_minus
    have ev2 : -(3600 * (h : Int)) = (if b = 1 then -(3600 * (h : Int) + 60 * m) else 3600 * (h : Int) + 60 * m) := by rw [hb', if_pos rfl]; rw [hm1]; simp
    exact ⟨⟨_, some ⟨[45].toArray⟩, none, ⟨(Mine.two h).toArray⟩, (h : Int), (m : Int), (by show (3 : Nat) ≤ 20; decide), see, fun t => rfl, fun t => rfl, fun t => rfl, rfl, rh, (by show (2 : Nat) ≤ 640; decide), (fun X e => by cases e), no_name (by show (45 : Nat) < 60; decide), ev.trans ev2⟩⟩
  · have hb' : b = 1 := by rcases hb with ⟨e, q⟩ | ⟨e, q⟩ <;> first | exact q | cases e | exact absurd rfl e
    have ev : offV (some ⟨[45].toArray⟩) (some ⟨(Mine.two m).toArray⟩) (h : Int) (m : Int) = -(3600 * (h : Int) + 60 * m) := by unfold offV; exact if_pos is_minus
    have ev2 : -(3600 * (h : Int) + 60 * m) = (if b = 1 then -(3600 * (h : Int) + 60 * m) else 3600 * (h : Int) + 60 * m) := by rw [hb', if_pos rfl]
    exact ⟨⟨_, some ⟨[45].toArray⟩, some ⟨(Mine.two m).toArray⟩, ⟨[48 + h].toArray⟩, (h : Int), (m : Int), (by show (4 : Nat) ≤ 20; decide), see, fun t => rfl, fun t => rfl, fun t => rfl, rfl, (one_fig (h1 rfl)), (by show (1 : Nat) ≤ 640; decide), (fun X e => by cases e; exact ⟨rm, (by show 2 ≤ 640; decide), (by show 1 ≤ 2; decide)⟩), no_name (by show (45 : Nat) < 60; decide), ev.trans ev2⟩⟩
  · have hb' : b = 1 := by rcases hb with ⟨e, q⟩ | ⟨e, q⟩ <;> first | exact q | cases e | exact absurd rfl e
    have ev : offV (some ⟨[45].toArray⟩) (some ⟨(Mine.two m).toArray⟩) (h : Int) (m : Int) = -(3600 * (h : Int) + 60 * m) := by unfold offV; exact if_pos is_minus
    have ev2 : -(3600 * (h : Int) + 60 * m) = (if b = 1 then -(3600 * (h : Int) + 60 * m) else 3600 * (h : Int) + 60 * m) := by rw [hb', if_pos rfl]
    exact ⟨⟨_, some ⟨[45].toArray⟩, some ⟨(Mine.two m).toArray⟩, ⟨(Mine.two h).toArray⟩, (h : Int), (m : Int), (by show (5 : Nat) ≤ 20; decide), see, fun t => rfl, fun t => rfl, fun t => rfl, rfl, rh, (by show (2 : Nat) ≤ 640; decide), (fun X e => by cases e; exact ⟨rm, (by show 2 ≤ 640; decide), (by show 1 ≤ 2; decide)⟩), no_name (by show (45 : Nat) < 60; decide), ev.trans ev2⟩⟩
  · have hb' : b = 1 := by rcases hb with ⟨e, q⟩ | ⟨e, q⟩ <;> first | exact q | cases e | exact absurd rfl e
    have ev : offV (some ⟨[45].toArray⟩) (some ⟨(Mine.two m).toArray⟩) (h : Int) (m : Int) = -(3600 * (h : Int) + 60 * m) := by unfold offV; exact if_pos is_minus
    have ev2 : -(3600 * (h : Int) + 60 * m) = (if b = 1 then -(3600 * (h : Int) + 60 * m) else 3600 * (h : Int) + 60 * m) := by rw [hb', if_pos rfl]
    exact ⟨⟨_, some ⟨[45].toArray⟩, some ⟨(Mine.two m).toArray⟩, ⟨[48 + h].toArray⟩, (h : Int), (m : Int), (by show (5 : Nat) ≤ 20; decide), see, fun t => rfl, fun t => rfl, fun t => rfl, rfl, (one_fig (h1 rfl)), (by show (1 : Nat) ≤ 640; decide), (fun X e => by cases e; exact ⟨rm, (by show 2 ≤ 640; decide), (by show 1 ≤ 2; decide)⟩), no_name (by show (45 : Nat) < 60; decide), ev.trans ev2⟩⟩
  · have hb' : b = 1 := by rcases hb with ⟨e, q⟩ | ⟨e, q⟩ <;> first | exact q | cases e | exact absurd rfl e
    have ev : offV (some ⟨[45].toArray⟩) (some ⟨(Mine.two m).toArray⟩) (h : Int) (m : Int) = -(3600 * (h : Int) + 60 * m) := by unfold offV; exact if_pos is_minus
    have ev2 : -(3600 * (h : Int) + 60 * m) = (if b = 1 then -(3600 * (h : Int) + 60 * m) else 3600 * (h : Int) + 60 * m) := by rw [hb', if_pos rfl]
    exact ⟨⟨_, some ⟨[45].toArray⟩, some ⟨(Mine.two m).toArray⟩, ⟨(Mine.two h).toArray⟩, (h : Int), (m : Int), (by show (6 : Nat) ≤ 20; decide), see, fun t => rfl, fun t => rfl, fun t => rfl, rfl, rh, (by show (2 : Nat) ≤ 640; decide), (fun X e => by cases e; exact ⟨rm, (by show 2 ≤ 640; decide), (by show 1 ≤ 2; decide)⟩), no_name (by show (45 : Nat) < 60; decide), ev.trans ev2⟩⟩

theorem zone_good {h m b : Int} {T : Str} (h0 : 0 ≤ h ∧ h ≤ 99) (m0 : 0 ≤ m ∧ m ≤ 99) (b0 : b = 0 ∨ b = 1) (Z : IsZone h m b T) : Nonempty (Good T (if b = 1 then -(3600 * h + 60 * m) else 3600 * h + 60 * m)) := by
  obtain ⟨h', rfl⟩ := Int.eq_ofNat_of_zero_le h0.1
  obtain ⟨m', rfl⟩ := Int.eq_ofNat_of_zero_le m0.1
  obtain ⟨b', rfl⟩ := Int.eq_ofNat_of_zero_le (by omega : 0 ≤ b)
  obtain ⟨Y⟩ := lay_of (by omega) (by omega) Z
  have := lay_good (by omega) (by omega) Y
  rcases (by omega : b' = 0 ∨ b' = 1) with rfl | rfl
  · exact this
  · exact this
end Mine
end

section
open PySem PySem.W PyProof.Rows
namespace Mine
local macro_rules | `(tactic| walk_at "getMethod ref") => `(tactic| (k_here; first
  | ((with_reducible show wpAny _ _ (getMethod (Value.ref _) (Str.ofString "search") _) _ _ _); refine' method_search ?k1 ?k2 ?k3 ?_; (case k1 => k_asm); (case k2 => k_asm); (case k3 => k_is))
  | ((with_reducible show wpAny _ _ (getMethod (Value.ref _) (Str.ofString "group") _) _ _ _); refine' method_group ?k1 ?k2 ?_; (case k1 => k_asm); (case k2 => k_mem))))
local macro_rules | `(tactic| walk_at "call builtin:re.Pattern.search") => `(tactic| (k_here; refine' call_search _ _ ?k1 ?k2 ?k3 ?k4 ?k5 ?k6 ?k7 ?k8 ?k9 ?k10 ?k11 ?_; (case k1 => k_asm); (case k2 => k_asm); (case k3 => k_asm); (case k4 => k_is); (case k6 => rfl); (case k7 => rfl); (case k8 => rfl); (case k5 => k_is); (case k9 => decide +kernel); (case k10 => assumption); (case k11 => assumption); intro a' b' li' h' F' N' l1 l2))
local macro_rules | `(tactic| walk_at "truthy ref") => `(tactic| (k_here; refine' truthy_match ?k1 ?k2 ?_; (case k1 => k_asm); (case k2 => k_mem)))
local macro_rules | `(tactic| walk_at "call builtin:re.Match.group") => `(tactic| (k_here; (first
  | ((k_dflt (show wpAny _ _ (call _ [_, Value.int 2 _]) _ _ _)); refine' call_group (k := 2) (some _) ?k1 ?k2 ?k3 ?k4 ?k5 ?k6 ?_; (case k1 => k_asm); (case k2 => k_mem); (case k3 => k_mem); (case k4 => assumption); (case k5 => omega); (case k6 => assumption); intro tk'; dsimp only [optV])
  | ((k_dflt (show wpAny _ _ (call _ [_, Value.int 3 _]) _ _ _)); refine' call_group (k := 3) (some _) ?k1 ?k2 ?k3 ?k4 ?k5 ?k6 ?_; (case k1 => k_asm); (case k2 => k_mem); (case k3 => k_mem); (case k4 => assumption); (case k5 => omega); (case k6 => assumption); intro tk'; dsimp only [optV])
  | ((k_dflt (show wpAny _ _ (call _ [_, Value.int 1 _]) _ _ _)); refine' call_group (k := 1) (some _) ?k1 ?k2 ?k3 ?k4 ?k5 ?k6 ?_; (case k1 => k_asm); (case k2 => k_mem); (case k3 => k_mem); (case k4 => assumption); (case k5 => omega); (case k6 => assumption); intro tk'; dsimp only [optV])
  | ((k_dflt (show wpAny _ _ (call _ [_, Value.int 3 _]) _ _ _)); refine' call_group (k := 3) _ ?k1 ?k2 ?k3 ?k4 ?k5 ?k6 ?_; (case k1 => k_asm); (case k2 => k_mem); (case k3 => k_mem); (case k4 => assumption); (case k5 => omega); (case k6 => assumption); intro tk'; (rename Option Str => gX); (rcases gX with _ | X3) <;> dsimp only [optV] <;> (try (have r3 := ReadsAs.out (by with_reducible assumption); obtain ⟨r31, r32, r33⟩ := r3)))
  | ((k_dflt (show wpAny _ _ (call _ [_, Value.int 1 _]) _ _ _)); refine' call_group (k := 1) _ ?k1 ?k2 ?k3 ?k4 ?k5 ?k6 ?_; (case k1 => k_asm); (case k2 => k_mem); (case k3 => k_mem); (case k4 => assumption); (case k5 => omega); (case k6 => assumption); intro tk'; (rename Option Str => gX); (rcases gX with _ | X3) <;> dsimp only [optV] <;> (try (have r3 := ReadsAs.out (by with_reducible assumption); obtain ⟨r31, r32, r33⟩ := r3))))))

theorem off_c (w : World) (mean : ExcName → Option Value) (mg mb : Str → Option Value) (news : List (Addr × Obj)) (T : Str) (t1 : Tok) 
  (hT : T.cps.size ≤ 20) (sp : List Int) (hm : seesZ (Sre.M.runFor 60 (mach T.cps)) T.cps.size sp = true) (g1 g3 : Option Str) (H : Str) (p1 : PartIs T (0 :: (T.cps.size : Int) :: sp) 1 g1)
  (p2 : PartIs T (0 :: (T.cps.size : Int) :: sp) 2 (some H)) (p3 : PartIs T (0 :: (T.cps.size : Int) :: sp) 3 g3) (hsp : sp.length = 6) (h : Int) (hH : PySem.intText? H = some h) (hHl : H.length ≤ 640) (m3 : Int) (h3 : ReadsAs g3 m3)
  (hZ : (decide (T = { cps := #[71, 77, 84] }) || (decide (T = { cps := #[85, 84, 67] }) || (decide (T = { cps := #[85, 84] }) || (decide (T = { cps := #[90] }) || false)))) = false) :
  CbClaim PySem.Challenge.rw_wb0018_01.row.prog w (hd.heap_39 w.params) hd.view_39 (looseW hd.view_39 [Str.ofString "UTC_ZONES", Str.ofString "TIMEZONE_RE"]) mean mg mb 44 news [] True [.str T t1] (fun t => .int (offV g1 g3 h m3) t) := by
  unfold CbClaim
  k_fill
  dsimp only [CbLists, CbRet]; intros; rename_i hret
  refine wpAny_call ?_
  k_dflt cell_enter
  k_steps
  all_goals (refine cb_retI hret ?e1 ?e2 ?e3; (case e1 => (simp only [offV, if_true, if_false, Bool.false_eq_true, *])); (case e2 => k_asm); (case e3 => (refine' cb_drop ?cbN ?cbS; (case cbN => assumption); (case cbS => kcj_all))))
end Mine
end

section
open PySem PySem.W PyProof.Rows
namespace Mine

theorem zone_c (w : World) (mean : ExcName → Option Value) (mg mb : Str → Option Value) (news : List (Addr × Obj)) (h m b : Int) (t1 t2 t3 : Tok) (ha : 0 ≤ h ∧ h ≤ 99) (hb : 0 ≤ m ∧ m ≤ 99) (hc : b = 0 ∨ b = 1) :
  ∀ (dp un : Nat) (gd : Option (List Code)) (cn : Str) (cs : Scope) (a : Addr) (ccd : Value) (cl : List (Str × Addr)) (outer : List Env) (A₀ : Around) (base h₀ : Heap) (L : Addr) (mm : Str → Option Value) (s : Shared) (Q E : Value → Shared → Prop),
    Below A₀ base outer h₀ → Fr h₀ L s.heap mm → (hd.heap_39 w.params).In h₀ → News h₀ L s.heap news → Top hd.view_39 (looseW hd.view_39 [Str.ofString "UTC_ZONES", Str.ofString "TIMEZONE_RE"]) mean mg mb h₀ → cs.kind = .function →
    dp + 1 < recursionLimit → un + 8 < cLine →
    (∀ (T : Str) (t : Tok) (h' : Heap) (tk' : Nat), IsZone h m b T → Fr h₀ L h' mm → News h₀ L h' news → Q (.str T t) { s with heap := h', toks := tk' }) →
      wpAny (model PySem.Challenge.rw_wb0018_01.row.prog w) (ktrTop dp un gd cn cs L a ccd cl outer) (call (.ref 65) [.int h t1, .int m t2, .int b t3]) Q E s := by
  k_fill
  intros; rename_i hret
  refine wpAny_call ?_
  k_dflt cell_enter
  k_steps
  all_goals first
    | exact hret _ _ _ _ (IsZone.full _ _ _ (by first | exact .inl ⟨by omega, rfl⟩ | exact .inr ⟨by omega, .inl rfl⟩ | exact .inr ⟨by omega, .inr rfl⟩) (by first | exact .inl rfl | exact .inr rfl) (by first | exact .inl rfl | exact .inr rfl)) (by k_asm) (by assumption)
    | exact hret _ _ _ _ (IsZone.bare _ _ (by first | exact .inl ⟨by omega, rfl⟩ | exact .inr ⟨by omega, .inl rfl⟩ | exact .inr ⟨by omega, .inr rfl⟩) (by first | exact .inl rfl | exact .inr rfl) (by omega)) (by k_asm) (by assumption)
end Mine
end

section
open PySem PySem.W PyProof.Rows
namespace Mine

theorem no_pylong {a b : Int} (h : Builtin.Int.intBits b ≤ 9000) : Builtin.divisionGoesByPylong a b = false := by
  unfold Builtin.divisionGoesByPylong
  unfold Builtin.Int.intBits at h
  dsimp only
  rw [Bool.and_eq_false_iff]
  left
  rw [decide_eq_false_iff_not]
  split at h
  · rename_i e; rw [if_pos e]; omega
  · rename_i e; rw [if_neg e]; omega

theorem divmod_K {prog : Program} {w : World} {A : Around} {E : Value → Shared → Prop} {s : Shared} {a b : Int} {t u : Tok} {Q : Value → Shared → Prop} {h₀ : Heap} {L : Addr} {m : Str → Option Value} {news : List (Addr × Obj)} (F : Fr h₀ L s.heap m) (N : News h₀ L s.heap news) (hb : b ≠ 0) (hbl : Builtin.Int.intBits b ≤ 9000)
    (h : ∀ (D : Addr) (u1 u2 : Tok) h' tk', Fr h₀ L h' m → News h₀ L h' ((D, ({ cls := .type "tuple", data := .seq #[.int (a.fdiv b) u1, .int (a.fmod b) u2] } : Obj)) :: news) → AllLt D news → Q (.ref D) { s with heap := h', toks := tk' }) :
    wpAny (model prog w) A (call (.builtin "divmod") [.int a t, .int b u]) Q E s :=
  divmod_N F N hb (fun h' F' N' => h _ _ _ h' _ F' N' (allLt_of fun p hp => Heap.lt_size (N p hp).1)) (Or.inl (no_pylong hbl))

local macro_rules | `(tactic| walk_at "call builtin:divmod") => `(tactic| (k_here; (with_reducible show wpAny _ _ (call (Value.builtin _) [Value.int _ _, Value.int _ _]) _ _ _); refine' divmod_K ?k1 ?k2 ?k3 ?k4 ?_; (case k1 => k_asm); (case k2 => k_asm); (case k3 => omega); (case k4 => assumption); intro D' u1' u2' h' tk' F' N' l1'))

theorem leaf_c (w : World) (mean : ExcName → Option Value) (mg mb : Str → Option Value) (news : List (Addr × Obj)) (a b n : Int) (t1 t2 t3 : Tok) (hb : 0 < b) (hn : (Builtin.Int.intBits a) - n ≤ 4000) (hbl : Builtin.Int.intBits b ≤ 9000) :
  ∀ (dp un : Nat) (gd : Option (List Code)) (cn : Str) (cs : Scope) (ad : Addr) (ccd : Value) (cl : List (Str × Addr)) (outer : List Env) (A₀ : Around) (base h₀ : Heap) (L : Addr) (mm : Str → Option Value) (s : Shared) (Q E : Value → Shared → Prop),
    Below A₀ base outer h₀ → Fr h₀ L s.heap mm → (hd.heap_39 w.params).In h₀ → News h₀ L s.heap news → Top hd.view_39 (looseW hd.view_39 [Str.ofString "UTC_ZONES", Str.ofString "TIMEZONE_RE"]) mean mg mb h₀ → cs.kind = .function →
    dp + 1 < recursionLimit → un + 8 < cLine →
    (∀ (D : Addr) (u1 u2 : Tok) (h' : Heap) (tk' : Nat), Fr h₀ L h' mm → News h₀ L h' ((D, ({ cls := .type "tuple", data := .seq #[.int (a.fdiv b) u1, .int (a.fmod b) u2] } : Obj)) :: news) → AllLt D news → Q (.ref D) { s with heap := h', toks := tk' }) →
      wpAny (model PySem.Challenge.rw_wb0018_01.row.prog w) (ktrTop dp un gd cn cs L ad ccd cl outer) (call (.ref 51) [.int a t1, .int b t2, .int n t3]) Q E s := by
  k_fill
  intros; rename_i hret
  refine wpAny_call ?_
  k_dflt cell_enter
  k_steps
  exact hret _ _ _ _ _ (by k_asm) (by k_asm) (by assumption)
end Mine
end

section
open PySem PySem.W PyProof.Rows
namespace Mine

/-- the leaf's promise, as the walk asks it -/
def LeafSays (w : World) (mean : ExcName → Option Value) (mg mb : Str → Option Value) (a b n : Int) : Prop :=
  ∀ (news : List (Addr × Obj)) (t1 t2 t3 : Tok) (dp un : Nat) (gd : Option (List Code)) (cn : Str) (cs : Scope) (ad : Addr) (ccd : Value) (cl : List (Str × Addr)) (outer : List Env) (A₀ : Around) (base h₀ : Heap) (L : Addr) (mm : Str → Option Value) (s : Shared) (Q E : Value → Shared → Prop),
    Below A₀ base outer h₀ → Fr h₀ L s.heap mm → (hd.heap_39 w.params).In h₀ → News h₀ L s.heap news → Top hd.view_39 (looseW hd.view_39 [Str.ofString "UTC_ZONES", Str.ofString "TIMEZONE_RE"]) mean mg mb h₀ → cs.kind = .function →
    dp + 1 < recursionLimit → un + 8 < cLine →
    (∀ (D : Addr) (u1 u2 : Tok) (h' : Heap) (tk' : Nat), Fr h₀ L h' mm → News h₀ L h' ((D, ({ cls := .type "tuple", data := .seq #[.int (a.fdiv b) u1, .int (a.fmod b) u2] } : Obj)) :: news) → AllLt D news → Q (.ref D) { s with heap := h', toks := tk' }) →
      wpAny (model PySem.Challenge.rw_wb0018_01.row.prog w) (ktrTop dp un gd cn cs L ad ccd cl outer) (call (.ref 51) [.int a t1, .int b t2, .int n t3]) Q E s

def InvQ (b D a₀ d a : Int) : Prop := d < b ∧ a * b + d = a₀ * b + D
theorem InvQ.start {b D a₀ : Int} (h : D < b) : InvQ b D a₀ D a₀ := ⟨h, rfl⟩
theorem InvQ.step {b D a₀ d a : Int} (h : InvQ b D a₀ d a) (hn : d < 0) : InvQ b D a₀ (d + b) (a - 1) := by
  refine ⟨by omega, ?_⟩
  rw [← h.2, Int.sub_mul]; omega
theorem InvQ.start' {b D a₀ X : Int} {P : Prop} (h : P → D < b ∧ a₀ * b + D = X) (p : P) : InvQ b D a₀ D a₀ := ⟨(h p).1, rfl⟩
theorem InvQ.out {b D a₀ d a X : Int} {P : Prop} (h : InvQ b D a₀ d a) (hn : ¬ d < 0) (e : P → D < b ∧ a₀ * b + D = X) (p : P) : X.fdiv b = a ∧ X.fmod b = d := by
  have e' := (e p).2
  rw [← h.2] at e'
  have hb : 0 < b := by have := h.1; omega
  have h1 := h.1
  subst e'
  rw [Int.fdiv_eq_ediv_of_nonneg _ (by omega), Int.fmod_eq_emod_of_nonneg _ (by omega)]
  rw [Int.add_comm, Int.add_mul_ediv_right _ _ (by omega), Int.add_mul_emod_self_right, Int.ediv_eq_zero_of_lt (by omega) h1, Int.emod_eq_of_lt (by omega) h1]
  omega
theorem leaf_use {w : World} {mean : ExcName → Option Value} {mg mb : Str → Option Value} {a b n : Int} {news : List (Addr × Obj)} {t1 t2 t3 : Tok} {dp un : Nat} {gd : Option (List Code)} {cn : Str} {cs : Scope} {ad : Addr} {ccd : Value} {cl : List (Str × Addr)} {outer : List Env} {A₀ : Around} {base h₀ : Heap} {L : Addr} {mm : Str → Option Value} {s : Shared} {Q E : Value → Shared → Prop}
    (h : LeafSays w mean mg mb a b n) (B : Below A₀ base outer h₀) (F : Fr h₀ L s.heap mm) (X : (hd.heap_39 w.params).In h₀) (N : News h₀ L s.heap news) (T : Top hd.view_39 (looseW hd.view_39 [Str.ofString "UTC_ZONES", Str.ofString "TIMEZONE_RE"]) mean mg mb h₀) (hk : cs.kind = .function)
    (hd : dp + 1 < recursionLimit) (hu : un + 8 < cLine)
    (ret : ∀ (D : Addr) (u1 u2 : Tok) (h' : Heap) (tk' : Nat), Fr h₀ L h' mm → News h₀ L h' ((D, ({ cls := .type "tuple", data := .seq #[.int (a.fdiv b) u1, .int (a.fmod b) u2] } : Obj)) :: news) → AllLt D news → Q (.ref D) { s with heap := h', toks := tk' }) :
      wpAny (model PySem.Challenge.rw_wb0018_01.row.prog w) (ktrTop dp un gd cn cs L ad ccd cl outer) (call (.ref 51) [.int a t1, .int b t2, .int n t3]) Q E s :=
  h news t1 t2 t3 dp un gd cn cs ad ccd cl outer A₀ base h₀ L mm s Q E B F X N T hk hd hu ret
inductive IntIs : List (Addr × Obj) → Value → Int → Prop
  | mk (news : List (Addr × Obj)) (i : Int) (t : Tok) : IntIs news (.int i t) i

local macro_rules | `(tactic| walk_at "binaryOp LShift int int") => `(tactic| (k_here; refine' lshift_int ?k1 ?k2 ?_; (case k1 => omega); (case k2 => assumption)))
local macro_rules | `(tactic| walk_at "binaryOp RShift int int") => `(tactic| (k_here; refine' rshift_int ?k1 ?_; (case k1 => omega)))
local macro_rules | `(tactic| walk_at "binaryOp Mult int int") => `(tactic| (k_here; refine' mul_int ?_ ?k1; (case k1 => assumption)))
local macro_rules | `(tactic| kwd_rel) => `(tactic| exact IntIs.mk _ _ _)
local macro_rules | `(tactic| kwd_inv) => `(tactic| first | exact InvQ.start' (by assumption) (by assumption) | exact InvQ.step (by assumption) (by assumption))
local macro_rules | `(tactic| kwd_less) => `(tactic| omega)

local macro_rules | `(tactic| walk_at "call ref") => `(tactic| (k_here; refine' leaf_use ?kL ?k1 ?k2 ?k3 ?k4 ?k5 ?kK ?kd ?ku ?_; (case kL => assumption); (case k1 => k_asm); (case k2 => k_asm); (case k3 => k_asm); (case k4 => k_asm); (case k5 => k_asm); (case kK => first | exact rfl | assumption); (case kd => ktr_room); (case ku => ktr_units); intro D' u1' u2' h' tk' F' N' l1'))

theorem div3_c (w : World) (mean : ExcName → Option Value) (mg mb : Str → Option Value) (news : List (Addr × Obj)) (a12 a3 b b1 b2 n : Int) (t1 t2 t3 t4 t5 t6 : Tok) (hn : 1 ≤ n ∧ n ≤ 4000) (hbp : 0 < b)
  (leaf : LeafSays w mean mg mb a12 b1 n)
  (s0 : (Builtin.Int.intBits 1 : Int) + n ≤ 2 ^ 27)
  (s1 : (Builtin.Int.intBits b1 : Int) + n ≤ 2 ^ 27)
  (s2 : (Builtin.Int.intBits (a12 - b1 * 2 ^ n.toNat + b1) : Int) + n ≤ 2 ^ 27)
  (m1 : IntMulOk (1 * 2 ^ n.toNat - 1) b2)
  (i1 : a12.fdiv (2 ^ n.toNat) = b1 → Builtin.bitOr ((a12 - b1 * 2 ^ n.toNat + b1) * 2 ^ n.toNat) a3 - (1 * 2 ^ n.toNat - 1) * b2 < b ∧ (1 * 2 ^ n.toNat - 1) * b + (Builtin.bitOr ((a12 - b1 * 2 ^ n.toNat + b1) * 2 ^ n.toNat) a3 - (1 * 2 ^ n.toNat - 1) * b2) = a12 * 2 ^ n.toNat + a3)
  (s3 : (Builtin.Int.intBits (a12.fmod b1) : Int) + n ≤ 2 ^ 27)
  (m2 : IntMulOk (a12.fdiv b1) b2)
  (i2 : a12.fdiv (2 ^ n.toNat) ≠ b1 → Builtin.bitOr (a12.fmod b1 * 2 ^ n.toNat) a3 - a12.fdiv b1 * b2 < b ∧ a12.fdiv b1 * b + (Builtin.bitOr (a12.fmod b1 * 2 ^ n.toNat) a3 - a12.fdiv b1 * b2) = a12 * 2 ^ n.toNat + a3) :
  ∀ (dp un : Nat) (gd : Option (List Code)) (cn : Str) (cs : Scope) (ad : Addr) (ccd : Value) (cl : List (Str × Addr)) (outer : List Env) (A₀ : Around) (base h₀ : Heap) (L : Addr) (mm : Str → Option Value) (s : Shared) (Q E : Value → Shared → Prop),
    Below A₀ base outer h₀ → Fr h₀ L s.heap mm → (hd.heap_39 w.params).In h₀ → News h₀ L s.heap news → Top hd.view_39 (looseW hd.view_39 [Str.ofString "UTC_ZONES", Str.ofString "TIMEZONE_RE"]) mean mg mb h₀ → cs.kind = .function →
    dp + 2 < recursionLimit → un + 16 < cLine →
    (∀ (D : Addr) (u1 u2 : Tok) (h' : Heap) (tk' : Nat), Fr h₀ L h' mm → News h₀ L h' ((D, ({ cls := .type "tuple", data := .seq #[.int ((a12 * 2 ^ n.toNat + a3).fdiv b) u1, .int ((a12 * 2 ^ n.toNat + a3).fmod b) u2] } : Obj)) :: news) → AllLt D news → Q (.ref D) { s with heap := h', toks := tk' }) →
      wpAny (model PySem.Challenge.rw_wb0018_01.row.prog w) (ktrTop dp un gd cn cs L ad ccd cl outer) (call (.ref 58) [.int a12 t1, .int a3 t2, .int b t3, .int b1 t4, .int b2 t5, .int n t6]) Q E s := by
  k_fill
  intros; rename_i hret
  refine wpAny_call ?_
  k_dflt cell_enter
  (k_with "exec While Compare cons nil" => k_whileD IntIs (fun r => (-r).toNat) (fun D a₀ d a => InvQ b D a₀ d a) "r" "q")
  k_steps
  all_goals (
    obtain ⟨e1, e2⟩ := InvQ.out (by assumption) (by omega) (by assumption) (by assumption)
    rw [e1, e2] at hret
    exact hret _ _ _ _ _ (by k_asm) (cb_drop (by assumption) (by kcj_all)) (by first | assumption | exact And.right (by assumption)))
end Mine
end

section
open PySem PySem.W PyProof.Rows
namespace Mine

def Div3Says (w : World) (mean : ExcName → Option Value) (mg mb : Str → Option Value) (a12 a3 b b1 b2 n q r : Int) : Prop :=
  ∀ (news : List (Addr × Obj)) (t1 t2 t3 t4 t5 t6 : Tok) (dp un : Nat) (gd : Option (List Code)) (cn : Str) (cs : Scope) (ad : Addr) (ccd : Value) (cl : List (Str × Addr)) (outer : List Env) (A₀ : Around) (base h₀ : Heap) (L : Addr) (mm : Str → Option Value) (s : Shared) (Q E : Value → Shared → Prop),
    Below A₀ base outer h₀ → Fr h₀ L s.heap mm → (hd.heap_39 w.params).In h₀ → News h₀ L s.heap news → Top hd.view_39 (looseW hd.view_39 [Str.ofString "UTC_ZONES", Str.ofString "TIMEZONE_RE"]) mean mg mb h₀ → cs.kind = .function →
    dp + 2 < recursionLimit → un + 16 < cLine →
    (∀ (D : Addr) (u1 u2 : Tok) (h' : Heap) (tk' : Nat), Fr h₀ L h' mm → News h₀ L h' ((D, ({ cls := .type "tuple", data := .seq #[.int q u1, .int r u2] } : Obj)) :: news) → AllLt D news → Q (.ref D) { s with heap := h', toks := tk' }) →
      wpAny (model PySem.Challenge.rw_wb0018_01.row.prog w) (ktrTop dp un gd cn cs L ad ccd cl outer) (call (.ref 58) [.int a12 t1, .int a3 t2, .int b t3, .int b1 t4, .int b2 t5, .int n t6]) Q E s

theorem div3_use {w : World} {mean : ExcName → Option Value} {mg mb : Str → Option Value} {a12 a3 b b1 b2 n q r : Int} {news : List (Addr × Obj)} {t1 t2 t3 t4 t5 t6 : Tok} {dp un : Nat} {gd : Option (List Code)} {cn : Str} {cs : Scope} {ad : Addr} {ccd : Value} {cl : List (Str × Addr)} {outer : List Env} {A₀ : Around} {base h₀ : Heap} {L : Addr} {mm : Str → Option Value} {s : Shared} {Q E : Value → Shared → Prop}
    (h : Div3Says w mean mg mb a12 a3 b b1 b2 n q r) (B : Below A₀ base outer h₀) (F : Fr h₀ L s.heap mm) (X : (hd.heap_39 w.params).In h₀) (N : News h₀ L s.heap news) (T : Top hd.view_39 (looseW hd.view_39 [Str.ofString "UTC_ZONES", Str.ofString "TIMEZONE_RE"]) mean mg mb h₀) (hk : cs.kind = .function)
    (hd : dp + 2 < recursionLimit) (hu : un + 16 < cLine)
    (ret : ∀ (D : Addr) (u1 u2 : Tok) (h' : Heap) (tk' : Nat), Fr h₀ L h' mm → News h₀ L h' ((D, ({ cls := .type "tuple", data := .seq #[.int q u1, .int r u2] } : Obj)) :: news) → AllLt D news → Q (.ref D) { s with heap := h', toks := tk' }) :
      wpAny (model PySem.Challenge.rw_wb0018_01.row.prog w) (ktrTop dp un gd cn cs L ad ccd cl outer) (call (.ref 58) [.int a12 t1, .int a3 t2, .int b t3, .int b1 t4, .int b2 t5, .int n t6]) Q E s :=
  h news t1 t2 t3 t4 t5 t6 dp un gd cn cs ad ccd cl outer A₀ base h₀ L mm s Q E B F X N T hk hd hu ret

section
variable {prog : Program} {w : World} {A : Around} {E : Value → Shared → Prop} {s : Shared} {a n c : Int} {t u : Tok} {Q : Value → Shared → Prop}
theorem lshift_eq (hn : 0 ≤ n) (hsz : (Builtin.Int.intBits a : Int) + n ≤ 2 ^ 27) (e : a * 2 ^ n.toNat = c) (h : Q (.int c s.toks) { s with toks := s.toks + 1 }) : wpAny (model prog w) A (binaryOp .LShift (.int a t) (.int n u)) Q E s := lshift_int hn hsz (by rw [e]; exact h)
theorem ilshift_eq (hn : 0 ≤ n) (hsz : (Builtin.Int.intBits a : Int) + n ≤ 2 ^ 27) (e : a * 2 ^ n.toNat = c) (h : Q (.int c s.toks) { s with toks := s.toks + 1 }) : wpAny (model prog w) A (inplaceOp .LShift (.int a t) (.int n u)) Q E s := ilshift_int hn hsz (by rw [e]; exact h)
theorem rshift_eq (hn : 0 ≤ n) (e : a.fdiv (2 ^ n.toNat) = c) (h : Q (.int c s.toks) { s with toks := s.toks + 1 }) : wpAny (model prog w) A (binaryOp .RShift (.int a t) (.int n u)) Q E s := rshift_int hn (by rw [e]; exact h)
theorem irshift_eq (hn : 0 ≤ n) (e : a.fdiv (2 ^ n.toNat) = c) (h : Q (.int c s.toks) { s with toks := s.toks + 1 }) : wpAny (model prog w) A (inplaceOp .RShift (.int a t) (.int n u)) Q E s := irshift_int hn (by rw [e]; exact h)
theorem and_eq (e : Builtin.bitAnd a n = c) (h : Q (.int c s.toks) { s with toks := s.toks + 1 }) : wpAny (model prog w) A (binaryOp .BitAnd (.int a t) (.int n u)) Q E s := and_int (by rw [e]; exact h)
theorem or_eq (e : Builtin.bitOr a n = c) (h : Q (.int c s.toks) { s with toks := s.toks + 1 }) : wpAny (model prog w) A (binaryOp .BitOr (.int a t) (.int n u)) Q E s := or_int (by rw [e]; exact h)
end

local macro_rules | `(tactic| walk_at "binaryOp LShift int int") => `(tactic| (k_here; refine' lshift_eq ?k1 ?k2 ?k3 ?_; (case k1 => assumption); (case k2 => assumption); (case k3 => assumption)))
local macro_rules | `(tactic| walk_at "inplaceOp LShift int int") => `(tactic| (k_here; refine' ilshift_eq ?k1 ?k2 ?k3 ?_; (case k1 => decide); (case k2 => assumption); (case k3 => assumption)))
local macro_rules | `(tactic| walk_at "binaryOp RShift int int") => `(tactic| (k_here; refine' rshift_eq ?k1 ?k2 ?_; (case k1 => first | decide | assumption); (case k2 => assumption)))
local macro_rules | `(tactic| walk_at "inplaceOp RShift int int") => `(tactic| (k_here; refine' irshift_eq ?k1 ?k2 ?_; (case k1 => decide); (case k2 => assumption)))
local macro_rules | `(tactic| walk_at "binaryOp BitAnd int int") => `(tactic| (k_here; refine' and_eq ?k2 ?_; (case k2 => assumption)))
local macro_rules | `(tactic| walk_at "binaryOp BitOr int int") => `(tactic| (k_here; refine' or_eq ?k2 ?_; (case k2 => assumption)))
local macro_rules | `(tactic| walk_at "call ref") => `(tactic| (k_here; refine' div3_use ?kL ?k1 ?k2 ?k3 ?k4 ?k5 ?kK ?kd ?ku ?_; (case kL => assumption); (case k1 => k_asm); (case k2 => k_asm); (case k3 => k_asm); (case k4 => k_asm); (case k5 => k_asm); (case kK => first | exact rfl | assumption); (case kd => ktr_room); (case ku => ktr_units); intro D' u1' u2' h' tk' F' N' l1'))

/-- the promise of _div2n1n as the law asks it -/
def Div2Says (w : World) (mean : ExcName → Option Value) (mg mb : Str → Option Value) (a b n : Int) : Prop :=
  ∀ (news : List (Addr × Obj)) (t1 t2 t3 : Tok) (dp un : Nat) (gd : Option (List Code)) (cn : Str) (cs : Scope) (ad : Addr) (ccd : Value) (cl : List (Str × Addr)) (outer : List Env) (A₀ : Around) (base h₀ : Heap) (L : Addr) (mm : Str → Option Value) (s : Shared) (Q E : Value → Shared → Prop),
    Below A₀ base outer h₀ → Fr h₀ L s.heap mm → (hd.heap_39 w.params).In h₀ → News h₀ L s.heap news → Top hd.view_39 (looseW hd.view_39 [Str.ofString "UTC_ZONES", Str.ofString "TIMEZONE_RE"]) mean mg mb h₀ → cs.kind = .function →
    dp + 3 < recursionLimit → un + 24 < cLine →
    (∀ (D : Addr) (u1 u2 : Tok) (h' : Heap) (tk' : Nat), Fr h₀ L h' mm → News h₀ L h' ((D, ({ cls := .type "tuple", data := .seq #[.int (a.fdiv b) u1, .int (a.fmod b) u2] } : Obj)) :: news) → AllLt D news → Q (.ref D) { s with heap := h', toks := tk' }) →
      wpAny (model PySem.Challenge.rw_wb0018_01.row.prog w) (ktrTop dp un gd cn cs L ad ccd cl outer) (call (.ref 51) [.int a t1, .int b t2, .int n t3]) Q E s

theorem div2_even (w : World) (mean : ExcName → Option Value) (mg mb : Str → Option Value) (a b n k P b1 b2 A12 A2 A3 A4 q1 r1 q2 Q1 : Int) (hbig : ¬ (Builtin.Int.intBits a - n ≤ 4000))
  (hn0 : 0 ≤ n) (hk0 : 0 ≤ k) (hpad : Builtin.bitAnd n 1 = 0) (hK : n.fdiv (2 ^ (1 : Int).toNat) = k) (hP : 1 * 2 ^ k.toNat = P) (s3 : (Builtin.Int.intBits 1 : Int) + k ≤ 2 ^ 27)
  (hb1 : b.fdiv (2 ^ k.toNat) = b1) (hb2 : Builtin.bitAnd b (P - 1) = b2) (hA12 : a.fdiv (2 ^ n.toNat) = A12) (hA2 : a.fdiv (2 ^ k.toNat) = A2) (hA3 : Builtin.bitAnd A2 (P - 1) = A3)
  (d1 : Div3Says w mean mg mb A12 A3 b b1 b2 k q1 r1) (hA4 : Builtin.bitAnd a (P - 1) = A4) (d2 : Div3Says w mean mg mb r1 A4 b b1 b2 k q2 (a.fmod b))
  (s4 : (Builtin.Int.intBits q1 : Int) + k ≤ 2 ^ 27) (hq1 : q1 * 2 ^ k.toNat = Q1) (hq : Builtin.bitOr Q1 q2 = a.fdiv b) : Div2Says w mean mg mb a b n := by
  unfold Div2Says
  k_fill
  intros; rename_i hret
  refine wpAny_call ?_
  k_dflt cell_enter
  k_steps
  all_goals exact hret _ _ _ _ _ (by k_asm) (cb_drop (by assumption) (by kcj_all)) (by first | assumption | exact And.right (by assumption) | exact And.right (And.right (by assumption)) | exact And.right (And.right (And.right (by assumption))))

theorem div2_odd (w : World) (mean : ExcName → Option Value) (mg mb : Str → Option Value) (a b n a' b' k P b1 b2 A12 A2 A3 A4 q1 r1 q2 r2 Q1 : Int) (hbig : ¬ (Builtin.Int.intBits a - n ≤ 4000))
  (hn0 : 0 ≤ n + 1) (hk0 : 0 ≤ k) (hpad : Builtin.bitAnd n 1 = 1) (sa : (Builtin.Int.intBits a : Int) + 1 ≤ 2 ^ 27) (ha : a * 2 ^ (1 : Int).toNat = a') (sb : (Builtin.Int.intBits b : Int) + 1 ≤ 2 ^ 27) (hb : b * 2 ^ (1 : Int).toNat = b')
  (hK : (n + 1).fdiv (2 ^ (1 : Int).toNat) = k) (hP : 1 * 2 ^ k.toNat = P) (s3 : (Builtin.Int.intBits 1 : Int) + k ≤ 2 ^ 27)
  (hb1 : b'.fdiv (2 ^ k.toNat) = b1) (hb2 : Builtin.bitAnd b' (P - 1) = b2) (hA12 : a'.fdiv (2 ^ (n + 1).toNat) = A12) (hA2 : a'.fdiv (2 ^ k.toNat) = A2) (hA3 : Builtin.bitAnd A2 (P - 1) = A3)
  (d1 : Div3Says w mean mg mb A12 A3 b' b1 b2 k q1 r1) (hA4 : Builtin.bitAnd a' (P - 1) = A4) (d2 : Div3Says w mean mg mb r1 A4 b' b1 b2 k q2 r2)
  (hr : r2.fdiv (2 ^ (1 : Int).toNat) = a.fmod b)
  (s4 : (Builtin.Int.intBits q1 : Int) + k ≤ 2 ^ 27) (hq1 : q1 * 2 ^ k.toNat = Q1) (hq : Builtin.bitOr Q1 q2 = a.fdiv b) : Div2Says w mean mg mb a b n := by
  unfold Div2Says
  k_fill
  intros; rename_i hret
  refine wpAny_call ?_
  k_dflt cell_enter
  k_steps
  all_goals exact hret _ _ _ _ _ (by k_asm) (cb_drop (by assumption) (by kcj_all)) (by first | assumption | exact And.right (by assumption) | exact And.right (And.right (by assumption)) | exact And.right (And.right (And.right (by assumption))))
end Mine
end

section
open PySem
namespace Mine
open Builtin (bitOr bitAnd bitNot)
open Builtin.Int (intBits)

theorem bits_le {x : Int} {m : Nat} (h : x.natAbs < 2 ^ m) : intBits x ≤ m := by
  unfold intBits
  split
  · omega
  · rename_i e
    have hx : x.natAbs ≠ 0 := by simpa using e
    have := (Nat.log2_lt hx).mpr h
    omega

theorem bits_le' {x : Int} {m : Nat} (h0 : 0 ≤ x) (h : x < ((2 ^ m : Nat) : Int)) : intBits x ≤ m := bits_le (by omega)

theorem bits_low {x : Int} {m : Nat} (h : ((2 ^ m : Nat) : Int) ≤ x) : m + 1 ≤ intBits x := by
  have hp : 0 < 2 ^ m := Nat.two_pow_pos m
  unfold intBits
  rw [if_neg (by simp; omega)]
  have hx : x.natAbs ≠ 0 := by omega
  have := (Nat.le_log2 hx).mpr (by omega : 2 ^ m ≤ x.natAbs)
  omega

theorem bits_bounds {x : Int} (h : 0 < x) : ((2 ^ (intBits x - 1) : Nat) : Int) ≤ x ∧ x < ((2 ^ intBits x : Nat) : Int) ∧ 1 ≤ intBits x := by
  unfold intBits
  rw [if_neg (by simp; omega)]
  have hx : x.natAbs ≠ 0 := by omega
  have h1 : 2 ^ x.natAbs.log2 ≤ x.natAbs := Nat.log2_self_le hx
  have h2 : x.natAbs < 2 ^ (x.natAbs.log2 + 1) := Nat.lt_log2_self
  rw [Nat.add_sub_cancel]
  omega

theorem bits_mono {x y : Int} (h0 : 0 ≤ x) (h : x ≤ y) : intBits x ≤ intBits y := by
  by_cases hy : y = 0
  · have : x = 0 := by omega
    subst hy; subst this; exact Nat.le_refl _
  · have := (bits_bounds (x := y) (by omega)).2.1
    exact bits_le' h0 (by omega)

theorem bitOr_nonneg {x y : Int} (hx : 0 ≤ x) (hy : 0 ≤ y) : bitOr x y = ((x.toNat ||| y.toNat : Nat) : Int) := by
  have e1 : decide (0 ≤ bitNot x) = false := decide_eq_false (by unfold bitNot; omega)
  have e2 : decide (0 ≤ bitNot y) = false := decide_eq_false (by unfold bitNot; omega)
  have nn : ∀ z, bitNot (bitNot z) = z := fun z => by unfold bitNot; omega
  unfold bitOr bitAnd
  rw [e1, e2]
  dsimp only
  rw [nn, nn, nn]

theorem bitOr_add {x y : Int} {K : Nat} (hx : 0 ≤ x) (hy : 0 ≤ y) (hl : y < ((2 ^ K : Nat) : Int)) : bitOr (x * ((2 ^ K : Nat) : Int)) y = x * ((2 ^ K : Nat) : Int) + y := by
  obtain ⟨a, rfl⟩ := Int.eq_ofNat_of_zero_le hx
  obtain ⟨b, rfl⟩ := Int.eq_ofNat_of_zero_le hy
  have hb : b < 2 ^ K := by omega
  rw [bitOr_nonneg (by rw [← Int.natCast_mul]; omega) (by omega)]
  have e : ((a : Int) * ((2 ^ K : Nat) : Int)).toNat = 2 ^ K * a := by rw [← Int.natCast_mul, Int.toNat_natCast, Nat.mul_comm]
  rw [e, Int.toNat_natCast, ← Nat.two_pow_add_eq_or_of_lt hb]
  rw [Int.natCast_add, Int.natCast_mul, Int.mul_comm]

theorem bitAnd_mask {x : Int} {K : Nat} (hx : 0 ≤ x) : bitAnd x (((2 ^ K : Nat) : Int) - 1) = x % ((2 ^ K : Nat) : Int) := by
  have hp : 0 < 2 ^ K := Nat.two_pow_pos K
  obtain ⟨a, rfl⟩ := Int.eq_ofNat_of_zero_le hx
  unfold bitAnd
  rw [decide_eq_true (by omega), decide_eq_true (by omega)]
  dsimp only
  rw [show (((2 ^ K : Nat) : Int) - 1).toNat = 2 ^ K - 1 by omega, Int.toNat_natCast, Nat.and_two_pow_sub_one_eq_mod]
  rfl

theorem bitAnd_one (x : Int) (hx : 0 ≤ x) : bitAnd x 1 = x % 2 := by
  have := bitAnd_mask (K := 1) hx
  exact this

theorem pow_cast (K : Nat) : ((2 : Int) ^ ((K : Int)).toNat) = ((2 ^ K : Nat) : Int) := by
  rw [Int.toNat_natCast]; simp

theorem mul_ok {a b : Int} (ha : intBits a ≤ 20000) (hb : intBits b ≤ 20000) : IntMulOk a b := IntMulOk.of_bits (by omega) (by omega)
end Mine
end

section
open PySem
namespace Mine
open Builtin (bitOr bitAnd bitNot)
open Builtin.Int (intBits)

theorem two_mul_pow (m n : Nat) : ((2 ^ (m + n) : Nat) : Int) = ((2 ^ m : Nat) : Int) * ((2 ^ n : Nat) : Int) := by
  rw [Nat.pow_add, Int.natCast_mul]

/-- the numbers of _div3n2n -/
structure D3In (a12 a3 b b1 b2 : Int) (K : Nat) : Prop where
  hK : 1 ≤ K ∧ K ≤ 4000
  hb1 : 0 < b1 ∧ b1 < ((2 ^ K : Nat) : Int)
  hb2 : 0 ≤ b2 ∧ b2 < ((2 ^ K : Nat) : Int)
  hb : b = b1 * ((2 ^ K : Nat) : Int) + b2
  ha3 : 0 ≤ a3 ∧ a3 < ((2 ^ K : Nat) : Int)
  ha12 : 0 ≤ a12 ∧ a12 < b

section
variable {a12 a3 b b1 b2 : Int} {K : Nat} (I : D3In a12 a3 b b1 b2 K)
include I
theorem D3In.b_pos : 0 < b := by
  have h1 := I.hb1; have h2 := I.hb2; have hp : (0 : Int) < ((2 ^ K : Nat) : Int) := by have := Nat.two_pow_pos K; omega
  have : 0 < b1 * ((2 ^ K : Nat) : Int) := Int.mul_pos h1.1 hp
  rw [I.hb]; omega
theorem D3In.b_lt : b < ((2 ^ (K + K) : Nat) : Int) := by
  have h1 := I.hb1; have h2 := I.hb2
  rw [I.hb, two_mul_pow]
  have hp : (0 : Int) < ((2 ^ K : Nat) : Int) := by have := Nat.two_pow_pos K; omega
  have : b1 * ((2 ^ K : Nat) : Int) ≤ (((2 ^ K : Nat) : Int) - 1) * ((2 ^ K : Nat) : Int) := Int.mul_le_mul_of_nonneg_right (by omega) (by omega)
  rw [Int.sub_mul] at this
  omega
theorem D3In.bits_a12 : intBits a12 ≤ K + K := bits_le' I.ha12.1 (by have := I.b_lt; have := I.ha12; omega)
theorem D3In.bits_b1 : intBits b1 ≤ K := bits_le' (by have := I.hb1; omega) I.hb1.2
theorem D3In.bits_b2 : intBits b2 ≤ K := bits_le' I.hb2.1 I.hb2.2
theorem D3In.bits_p : intBits (1 * ((2 ^ K : Nat) : Int) - 1) ≤ K := bits_le' (by have := Nat.two_pow_pos K; omega) (by omega)
/-- the first way -/
theorem D3In.way1 (h : a12 / ((2 ^ K : Nat) : Int) = b1) :
    bitOr ((a12 - b1 * ((2 ^ K : Nat) : Int) + b1) * ((2 ^ K : Nat) : Int)) a3 - (1 * ((2 ^ K : Nat) : Int) - 1) * b2 < b ∧
    (1 * ((2 ^ K : Nat) : Int) - 1) * b + (bitOr ((a12 - b1 * ((2 ^ K : Nat) : Int) + b1) * ((2 ^ K : Nat) : Int)) a3 - (1 * ((2 ^ K : Nat) : Int) - 1) * b2) = a12 * ((2 ^ K : Nat) : Int) + a3 := by
  have h1 := I.hb1; have h2 := I.hb2; have h3 := I.ha3; have h4 := I.ha12; have h5 := I.hb
  have hp : (0 : Int) < ((2 ^ K : Nat) : Int) := by have := Nat.two_pow_pos K; omega
  have e : a12 = b1 * ((2 ^ K : Nat) : Int) + a12 % ((2 ^ K : Nat) : Int) := by rw [← h, Int.mul_comm]; exact (Int.mul_ediv_add_emod _ _).symm
  have c0 := Int.emod_nonneg a12 (by omega : ((2 ^ K : Nat) : Int) ≠ 0)
  rw [bitOr_add (by omega) h3.1 h3.2]
  generalize hP : ((2 ^ K : Nat) : Int) = P at *
  have key : (1 * P - 1) * b + ((a12 - b1 * P + b1) * P + a3 - (1 * P - 1) * b2) = a12 * P + a3 := by rw [h5]; grind
  refine ⟨?_, key⟩
  have : a12 * P ≤ (b - 1) * P := Int.mul_le_mul_of_nonneg_right (by omega) (by omega)
  have e2 : (b - 1) * P = b * P - P := by rw [Int.sub_mul]; omega
  have e3 : (1 * P - 1) * b = b * P - b := by grind
  omega
/-- the second way -/
theorem D3In.way2 : bitOr (a12 % b1 * ((2 ^ K : Nat) : Int)) a3 - a12 / b1 * b2 < b ∧
    a12 / b1 * b + (bitOr (a12 % b1 * ((2 ^ K : Nat) : Int)) a3 - a12 / b1 * b2) = a12 * ((2 ^ K : Nat) : Int) + a3 := by
  have h1 := I.hb1; have h2 := I.hb2; have h3 := I.ha3; have h4 := I.ha12; have h5 := I.hb
  have hp : (0 : Int) < ((2 ^ K : Nat) : Int) := by have := Nat.two_pow_pos K; omega
  have e : b1 * (a12 / b1) + a12 % b1 = a12 := Int.mul_ediv_add_emod _ _
  have c0 := Int.emod_nonneg a12 (by omega : b1 ≠ 0)
  have c1 := Int.emod_lt_of_pos a12 h1.1
  have q0 : 0 ≤ a12 / b1 := Int.ediv_nonneg h4.1 (by omega)
  rw [bitOr_add c0 h3.1 h3.2]
  generalize hP : ((2 ^ K : Nat) : Int) = P at *
  generalize a12 / b1 = q at *
  generalize a12 % b1 = r at *
  refine ⟨?_, by rw [h5, ← e]; grind⟩
  have t1 : r * P ≤ (b1 - 1) * P := Int.mul_le_mul_of_nonneg_right (by omega) (by omega)
  have t2 : (b1 - 1) * P = b1 * P - P := by rw [Int.sub_mul]; omega
  have t3 : 0 ≤ q * b2 := Int.mul_nonneg q0 h2.1
  omega
theorem D3In.bits_way1 (h : a12 / ((2 ^ K : Nat) : Int) = b1 ∨ True) : intBits (a12 - b1 * ((2 ^ K : Nat) : Int) + b1) ≤ K + K + 1 := by
  have h1 := I.hb1; have h2 := I.hb2; have h4 := I.ha12; have h5 := I.hb; have h6 := I.b_lt
  have hp : (0 : Int) < ((2 ^ K : Nat) : Int) := by have := Nat.two_pow_pos K; omega
  have t : 0 ≤ b1 * ((2 ^ K : Nat) : Int) := Int.mul_nonneg (by omega) (by omega)
  have tb : b1 ≤ b1 * ((2 ^ K : Nat) : Int) := by
    have := Int.mul_le_mul_of_nonneg_left (by omega : (1 : Int) ≤ ((2 ^ K : Nat) : Int)) (by omega : 0 ≤ b1)
    omega
  refine bits_le ?_
  have e : (2 ^ (K + K + 1) : Nat) = 2 ^ (K + K) * 2 := Nat.pow_succ _ _
  rw [e]
  omega
theorem D3In.bits_mod : intBits (a12 % b1) ≤ K := bits_le' (Int.emod_nonneg _ (by have := I.hb1; omega)) (by have := I.hb1; have := Int.emod_lt_of_pos a12 I.hb1.1; omega)
theorem D3In.bits_div : intBits (a12 / b1) ≤ K + K := bits_le' (Int.ediv_nonneg I.ha12.1 (by have := I.hb1; omega)) (by
  have := I.b_lt; have := I.ha12; have := Int.ediv_le_self b1 I.ha12.1; omega)
end
end Mine
end

section
open PySem
namespace Mine
open Builtin (bitOr bitAnd bitNot)
open Builtin.Int (intBits)

/-- the numbers of the long way of _div2n1n, at an even width -/
structure D2In (a b : Int) (K : Nat) : Prop where
  hK : 1 ≤ K ∧ K ≤ 4000
  hb : ((2 ^ K : Nat) : Int) ≤ b ∧ b < ((2 ^ (K + K) : Nat) : Int)
  ha : 0 ≤ a ∧ a < ((2 ^ (K + K) : Nat) : Int) * b

section
variable {a b : Int} {K : Nat} (I : D2In a b K)
include I
theorem D2In.pp : (0 : Int) < ((2 ^ K : Nat) : Int) := by have := Nat.two_pow_pos K; omega
theorem D2In.b_pos : 0 < b := by have := I.pp; have := I.hb; omega
theorem D2In.first : D3In (a / ((2 ^ (K + K) : Nat) : Int)) (a / ((2 ^ K : Nat) : Int) % ((2 ^ K : Nat) : Int)) b (b / ((2 ^ K : Nat) : Int)) (b % ((2 ^ K : Nat) : Int)) K := by
  have hp := I.pp
  have hb := I.hb
  have ha := I.ha
  have hp2 : (0 : Int) < ((2 ^ (K + K) : Nat) : Int) := by have := Nat.two_pow_pos (K + K); omega
  have h1 : b / ((2 ^ K : Nat) : Int) < ((2 ^ K : Nat) : Int) := Int.ediv_lt_of_lt_mul hp (by rw [← two_mul_pow]; exact hb.2)
  have h2 : 0 < b / ((2 ^ K : Nat) : Int) := by have := Int.le_ediv_of_mul_le hp (by omega : 1 * ((2 ^ K : Nat) : Int) ≤ b); omega
  exact ⟨I.hK, ⟨h2, h1⟩, ⟨Int.emod_nonneg _ (by omega), Int.emod_lt_of_pos _ hp⟩, by rw [Int.mul_comm]; exact (Int.mul_ediv_add_emod _ _).symm, ⟨Int.emod_nonneg _ (by omega), Int.emod_lt_of_pos _ hp⟩,
    ⟨Int.ediv_nonneg ha.1 (by omega), Int.ediv_lt_of_lt_mul hp2 (by rw [Int.mul_comm]; exact ha.2)⟩⟩
theorem D2In.X1 : a / ((2 ^ (K + K) : Nat) : Int) * ((2 ^ K : Nat) : Int) + a / ((2 ^ K : Nat) : Int) % ((2 ^ K : Nat) : Int) = a / ((2 ^ K : Nat) : Int) := by
  have hp := I.pp
  rw [two_mul_pow, ← Int.ediv_ediv_of_nonneg (by omega), Int.mul_comm]
  exact Int.mul_ediv_add_emod _ _
theorem D2In.second : D3In (a / ((2 ^ K : Nat) : Int) % b) (a % ((2 ^ K : Nat) : Int)) b (b / ((2 ^ K : Nat) : Int)) (b % ((2 ^ K : Nat) : Int)) K := by
  have hp := I.pp
  have f := I.first
  have hb := I.b_pos
  exact ⟨f.hK, f.hb1, f.hb2, f.hb, ⟨Int.emod_nonneg _ (by omega), Int.emod_lt_of_pos _ hp⟩, ⟨Int.emod_nonneg _ (by omega), Int.emod_lt_of_pos _ hb⟩⟩
theorem D2In.whole : a = (a / ((2 ^ K : Nat) : Int) % b * ((2 ^ K : Nat) : Int) + a % ((2 ^ K : Nat) : Int)) + (a / ((2 ^ K : Nat) : Int) / b * ((2 ^ K : Nat) : Int)) * b := by
  have e1 : ((2 ^ K : Nat) : Int) * (a / ((2 ^ K : Nat) : Int)) + a % ((2 ^ K : Nat) : Int) = a := Int.mul_ediv_add_emod _ _
  have e2 : b * (a / ((2 ^ K : Nat) : Int) / b) + a / ((2 ^ K : Nat) : Int) % b = a / ((2 ^ K : Nat) : Int) := Int.mul_ediv_add_emod _ _
  generalize ((2 ^ K : Nat) : Int) = P at *
  generalize hm : a % P = m at *
  generalize hq : a / P = q at *
  generalize q / b = u at *
  generalize q % b = v at *
  grind
theorem D2In.quot : bitOr (a / ((2 ^ K : Nat) : Int) / b * ((2 ^ K : Nat) : Int)) ((a / ((2 ^ K : Nat) : Int) % b * ((2 ^ K : Nat) : Int) + a % ((2 ^ K : Nat) : Int)) / b) = a / b := by
  have hp := I.pp
  have hb := I.b_pos
  have s := I.second
  have w := I.whole
  have q0 : 0 ≤ a / ((2 ^ K : Nat) : Int) / b := Int.ediv_nonneg (Int.ediv_nonneg I.ha.1 (by omega)) (by omega)
  have m0 := s.ha3
  have r0 := s.ha12
  have x0 : 0 ≤ a / ((2 ^ K : Nat) : Int) % b * ((2 ^ K : Nat) : Int) := Int.mul_nonneg r0.1 (by omega)
  have x1 : a / ((2 ^ K : Nat) : Int) % b * ((2 ^ K : Nat) : Int) ≤ (b - 1) * ((2 ^ K : Nat) : Int) := Int.mul_le_mul_of_nonneg_right (by omega) (by omega)
  have x2 : (b - 1) * ((2 ^ K : Nat) : Int) = ((2 ^ K : Nat) : Int) * b - ((2 ^ K : Nat) : Int) := by rw [Int.sub_mul, Int.mul_comm b]; omega
  rw [bitOr_add q0 (Int.ediv_nonneg (by omega) (by omega)) (Int.ediv_lt_of_lt_mul hb (by omega))]
  conv => rhs; rw [w]
  rw [Int.add_mul_ediv_right _ _ (by omega)]
  omega
theorem D2In.rest : (a / ((2 ^ K : Nat) : Int) % b * ((2 ^ K : Nat) : Int) + a % ((2 ^ K : Nat) : Int)) % b = a % b := by
  conv => rhs; rw [I.whole]
  rw [Int.add_mul_emod_self_right]
theorem D2In.bits_a : intBits a ≤ 4 * K := by
  have := I.ha; have := I.hb
  have hp2 : (0 : Int) < ((2 ^ (K + K) : Nat) : Int) := by have := Nat.two_pow_pos (K + K); omega
  refine bits_le' I.ha.1 ?_
  rw [show 4 * K = (K + K) + (K + K) by omega, two_mul_pow]
  have t : ((2 ^ (K + K) : Nat) : Int) * b ≤ ((2 ^ (K + K) : Nat) : Int) * ((2 ^ (K + K) : Nat) : Int) := Int.mul_le_mul_of_nonneg_left (by omega) (by omega)
  omega
theorem D2In.bits_q1 : intBits (a / ((2 ^ K : Nat) : Int) / b) ≤ 4 * K := by
  have h0 := I.ha.1
  have hp := I.pp
  have hb := I.b_pos
  have l1 := Int.ediv_le_self ((2 ^ K : Nat) : Int) h0
  have p1 : 0 ≤ a / ((2 ^ K : Nat) : Int) := Int.ediv_nonneg h0 (by omega)
  have l2 := Int.ediv_le_self b p1
  have p2 : 0 ≤ a / ((2 ^ K : Nat) : Int) / b := Int.ediv_nonneg p1 (by omega)
  refine bits_le' p2 ?_
  have := I.ha; have := I.hb
  have hp2 : (0 : Int) < ((2 ^ (K + K) : Nat) : Int) := by have := Nat.two_pow_pos (K + K); omega
  rw [show 4 * K = (K + K) + (K + K) by omega, two_mul_pow]
  have t : ((2 ^ (K + K) : Nat) : Int) * b ≤ ((2 ^ (K + K) : Nat) : Int) * ((2 ^ (K + K) : Nat) : Int) := Int.mul_le_mul_of_nonneg_left (by omega) (by omega)
  omega
end
end Mine
end

section
open PySem PySem.W PyProof.Rows
namespace Mine
open Builtin (bitOr bitAnd bitNot)
open Builtin.Int (intBits)

theorem leaf_says (w : World) (mean : ExcName → Option Value) (mg mb : Str → Option Value) (a b n : Int) (hb : 0 < b) (hn : (intBits a) - n ≤ 4000) (hbl : intBits b ≤ 9000) : LeafSays w mean mg mb a b n :=
  fun news t1 t2 t3 => leaf_c w mean mg mb news a b n t1 t2 t3 hb hn hbl

theorem fdiv_nn {a b : Int} (h : 0 ≤ b) : a.fdiv b = a / b := Int.fdiv_eq_ediv_of_nonneg _ h
theorem fmod_nn {a b : Int} (h : 0 ≤ b) : a.fmod b = a % b := Int.fmod_eq_emod_of_nonneg _ h

theorem bits_one : intBits 1 = 1 := by decide

theorem div3_says (w : World) (mean : ExcName → Option Value) (mg mb : Str → Option Value) {a12 a3 b b1 b2 : Int} {K : Nat} (I : D3In a12 a3 b b1 b2 K) :
    Div3Says w mean mg mb a12 a3 b b1 b2 (K : Int) ((a12 * ((2 ^ K : Nat) : Int) + a3) / b) ((a12 * ((2 ^ K : Nat) : Int) + a3) % b) := by
  intro news t1 t2 t3 t4 t5 t6
  have hp : (0 : Int) < ((2 ^ K : Nat) : Int) := by have := Nat.two_pow_pos K; omega
  have hK := I.hK
  have hb := I.b_pos
  have c1 := I.bits_a12; have c2 := I.bits_b1; have c3 := I.bits_b2; have c4 := I.bits_p; have c5 := I.bits_way1 (.inr trivial); have c6 := I.bits_mod; have c7 := I.bits_div
  have h1 := I.hb1
  have := div3_c w mean mg mb news a12 a3 b b1 b2 (K : Int) t1 t2 t3 t4 t5 t6 (by omega) hb (leaf_says w mean mg mb a12 b1 K h1.1 (by omega) (by omega))
    (by rw [bits_one]; omega) (by omega) (by rw [pow_cast]; omega) (by rw [pow_cast]; exact mul_ok (by omega) (by omega))
    (by rw [pow_cast, fdiv_nn (by omega)]; exact I.way1)
    (by rw [fmod_nn (by omega)]; omega)
    (by rw [fdiv_nn (by omega)]; exact mul_ok (by omega) (by omega))
    (by rw [pow_cast, fdiv_nn (by omega), fdiv_nn (by omega), fmod_nn (by omega)]; exact fun _ => I.way2)
  rw [pow_cast, fdiv_nn (by omega), fmod_nn (by omega)] at this
  exact this

theorem div2_long_even (w : World) (mean : ExcName → Option Value) (mg mb : Str → Option Value) {a b : Int} {K : Nat} (I : D2In a b K) (hbig : ¬ ((intBits a : Int) - ((2 * K : Nat) : Int) ≤ 4000)) : Div2Says w mean mg mb a b ((2 * K : Nat) : Int) := by
  have hp := I.pp
  have hK := I.hK
  have hb := I.b_pos
  have ha := I.ha.1
  have e1 : ((2 * K : Nat) : Int).fdiv (2 ^ (1 : Int).toNat) = (K : Int) := by
    rw [show ((2 : Int) ^ (1 : Int).toNat) = 2 by decide, fdiv_nn (by omega)]; omega
  have e2 : (2 : Int) ^ (((2 * K : Nat) : Int)).toNat = ((2 ^ (K + K) : Nat) : Int) := by rw [pow_cast, Nat.two_mul]
  have d1 := div3_says w mean mg mb I.first
  have d2 := div3_says w mean mg mb I.second
  rw [I.X1] at d1
  rw [I.rest] at d2
  refine div2_even w mean mg mb a b ((2 * K : Nat) : Int) (K : Int) ((2 ^ K : Nat) : Int) _ _ _ _ _ _ _ _ _ _ hbig (by omega) (by omega) ?_ e1 (by rw [pow_cast]; omega) (by rw [bits_one]; omega)
    (by rw [pow_cast, fdiv_nn (by omega)]) (by rw [bitAnd_mask (by omega)]) (by rw [e2, fdiv_nn (Int.natCast_nonneg _)]) (by rw [pow_cast, fdiv_nn (by omega)]) (by rw [bitAnd_mask (Int.ediv_nonneg ha (by omega))])
    d1 (by rw [bitAnd_mask ha]) (by rw [fmod_nn (by omega)]; exact d2) (by have := I.bits_q1; omega) (by rw [pow_cast]) (by rw [fdiv_nn (by omega)]; exact I.quot)
  rw [bitAnd_one _ (by omega)]; omega

theorem div2_long_odd (w : World) (mean : ExcName → Option Value) (mg mb : Str → Option Value) {a b : Int} {K : Nat} (I : D2In (a * 2) (b * 2) K) (hbig : ¬ ((intBits a : Int) - ((2 * K : Nat) - 1 : Int) ≤ 4000)) : Div2Says w mean mg mb a b ((2 * K : Nat) - 1 : Int) := by
  have hp := I.pp
  have hK := I.hK
  have hb := I.b_pos
  have ha := I.ha.1
  have f2 : ((2 : Int) ^ (1 : Int).toNat) = 2 := by decide
  have e0 : (((2 * K : Nat) : Int) - 1 + 1) = ((2 * K : Nat) : Int) := by omega
  have e1 : (((2 * K : Nat) : Int) - 1 + 1).fdiv (2 ^ (1 : Int).toNat) = (K : Int) := by
    rw [f2, fdiv_nn (by omega)]; omega
  have e2 : (2 : Int) ^ ((((2 * K : Nat) : Int) - 1 + 1)).toNat = ((2 ^ (K + K) : Nat) : Int) := by rw [e0, pow_cast, Nat.two_mul]
  have d1 := div3_says w mean mg mb I.first
  have d2 := div3_says w mean mg mb I.second
  rw [I.X1] at d1
  rw [I.rest] at d2
  have ba : intBits a ≤ 4 * K := Nat.le_trans (bits_mono (by omega) (by omega)) I.bits_a
  have bb : intBits b ≤ 4 * K := by
    have : intBits b ≤ intBits (b * 2) := bits_mono (by omega) (by omega)
    have q : intBits (b * 2) ≤ K + K := bits_le' (by omega) I.hb.2
    omega
  refine div2_odd w mean mg mb a b (((2 * K : Nat) : Int) - 1) (a * 2) (b * 2) (K : Int) ((2 ^ K : Nat) : Int) _ _ _ _ _ _ _ _ _ _ _ hbig (by omega) (by omega) ?_ (by omega) (by rw [f2]) (by omega) (by rw [f2]) e1 (by rw [pow_cast]; omega) (by rw [bits_one]; omega)
    (by rw [pow_cast, fdiv_nn (by omega)]) (by rw [bitAnd_mask (by omega)]) (by rw [e2, fdiv_nn (Int.natCast_nonneg _)]) (by rw [pow_cast, fdiv_nn (by omega)]) (by rw [bitAnd_mask (Int.ediv_nonneg ha (by omega))])
    d1 (by rw [bitAnd_mask ha]) d2 ?_ (by have := I.bits_q1; omega) (by rw [pow_cast]) (by rw [fdiv_nn (by omega)]; exact I.quot.trans (Int.mul_ediv_mul_of_pos_left _ _ (by omega)))
  · rw [bitAnd_one _ (by omega)]; omega
  · rw [f2, fdiv_nn (by omega), fmod_nn (by omega), Int.mul_comm a, Int.mul_comm b, Int.mul_emod_mul_of_pos _ _ (by omega)]; omega

/-- what _div2n1n promises the law -/
theorem div2_says (w : World) (mean : ExcName → Option Value) (mg mb : Str → Option Value) {a b : Int} {n : Nat} (hn : n = intBits b) (hb : 0 < b) (hl : n ≤ 7998) (h0 : 0 ≤ a) (h1 : a < ((2 ^ n : Nat) : Int) * b) : Div2Says w mean mg mb a b (n : Int) := by
  by_cases hs : (intBits a : Int) - (n : Int) ≤ 4000
  · intro news t1 t2 t3 dp un gd cn cs ad ccd cl outer A₀ base h₀ L mm s Q E B F X N T hk hd hu ret
    exact leaf_c w mean mg mb news a b n t1 t2 t3 hb hs (by omega) dp un gd cn cs ad ccd cl outer A₀ base h₀ L mm s Q E B F X N T hk (by omega) (by omega) ret
  · have bb := bits_bounds hb
    rw [← hn] at bb
    obtain ⟨bl, bu, b1⟩ := bb
    have ek : (∃ K, n = 2 * K) ∨ ∃ K, n + 1 = 2 * K := by
      rcases Nat.mod_two_eq_zero_or_one n with q | q
      · exact .inl ⟨n / 2, by omega⟩
      · exact .inr ⟨(n + 1) / 2, by omega⟩
    rcases ek with ⟨K, e⟩ | ⟨K, e⟩
    · have I : D2In a b K := by
        refine ⟨by omega, ⟨?_, by rw [← Nat.two_mul, ← e]; exact bu⟩, h0, by rw [← Nat.two_mul, ← e]; exact h1⟩
        refine Int.le_trans (Int.ofNat_le.mpr (Nat.pow_le_pow_right (by omega) (by omega : K ≤ n - 1))) bl
      rw [e]
      rw [e] at hs
      exact div2_long_even w mean mg mb I hs
    · have p1 : ((2 ^ (K + K) : Nat) : Int) = ((2 ^ n : Nat) : Int) * 2 := by
        rw [← Nat.two_mul, ← e, Nat.pow_succ, Int.natCast_mul]; rfl
      have I : D2In (a * 2) (b * 2) K := by
        refine ⟨by omega, ⟨?_, by rw [p1]; omega⟩, by omega, ?_⟩
        · have : ((2 ^ K : Nat) : Int) ≤ ((2 ^ n : Nat) : Int) := Int.ofNat_le.mpr (Nat.pow_le_pow_right (by omega) (by omega))
          have q : ((2 ^ n : Nat) : Int) = ((2 ^ (n - 1) : Nat) : Int) * 2 := by
            have : n = (n - 1) + 1 := by omega
            conv => lhs; rw [this, Nat.pow_succ, Int.natCast_mul]
            rfl
          omega
        · rw [p1]
          clear p1 bl bu
          generalize ((2 ^ n : Nat) : Int) = P at *
          have : P * 2 * (b * 2) = P * b * 4 := by grind
          rw [this]
          omega
      have e' : (n : Int) = ((2 * K : Nat) - 1 : Int) := by omega
      rw [e']
      rw [e'] at hs
      exact div2_long_odd w mean mg mb I hs
end Mine
end

section
open PySem
namespace Mine

def Up (xs : Array Nat) : Prop := ∀ i j, i < j → j < xs.size → xs.getD i 0 < xs.getD j 0

/-- the binary search finds the first place that is not below -/
theorem below_go (xs : Array Nat) (j : Nat) (hu : Up xs) : ∀ (fuel lo hi : Nat), hi - lo < fuel + 1 → lo ≤ hi → hi ≤ xs.size → (∀ i, i < lo → xs.getD i 0 < j) → (∀ i, hi ≤ i → i < xs.size → j ≤ xs.getD i 0) →
    (∀ i, i < SetTable.below.go xs j fuel lo hi → xs.getD i 0 < j) ∧ (∀ i, SetTable.below.go xs j fuel lo hi ≤ i → i < xs.size → j ≤ xs.getD i 0) ∧ SetTable.below.go xs j fuel lo hi ≤ xs.size
  | 0, lo, hi, h, hl, hs, h1, h2 => by
    have e : lo = hi := by omega
    unfold SetTable.below.go
    exact ⟨h1, by rw [e]; exact h2, by omega⟩
  | fuel + 1, lo, hi, h, hl, hs, h1, h2 => by
    unfold SetTable.below.go
    by_cases hlt : lo < hi
    · rw [if_pos hlt]
      dsimp only
      have m1 : lo ≤ (lo + hi) / 2 := by omega
      have m2 : (lo + hi) / 2 < hi := by omega
      have gd : xs.getD ((lo + hi) / 2) j = xs.getD ((lo + hi) / 2) 0 := by
        have : (lo + hi) / 2 < xs.size := by omega
        simp [Array.getD_eq_getD_getElem?, this]
      rw [gd]
      by_cases hm : xs.getD ((lo + hi) / 2) 0 < j
      · rw [if_pos hm]
        refine below_go xs j hu fuel _ hi (by omega) (by omega) hs (fun i hi' => ?_) h2
        by_cases e : i = (lo + hi) / 2
        · rw [e]; exact hm
        · exact Nat.lt_trans (hu i _ (by omega) (by omega)) hm
      · rw [if_neg hm]
        refine below_go xs j hu fuel lo _ (by omega) (by omega) (by omega) h1 (fun i hi' hs' => ?_)
        by_cases e : i = (lo + hi) / 2
        · rw [e]; omega
        · have := hu ((lo + hi) / 2) i (by omega) hs'; omega
    · rw [if_neg hlt]
      have e : lo = hi := by omega
      exact ⟨h1, by rw [e]; exact h2, by omega⟩

theorem below_spec (xs : Array Nat) (j : Nat) (hu : Up xs) : (∀ i, i < SetTable.below xs j → xs.getD i 0 < j) ∧ (∀ i, SetTable.below xs j ≤ i → i < xs.size → j ≤ xs.getD i 0) ∧ SetTable.below xs j ≤ xs.size := by
  unfold SetTable.below
  exact below_go xs j hu xs.size 0 xs.size (by omega) (by omega) (by omega) (fun i h => absurd h (by omega)) (fun i h h' => absurd h' (by omega))

theorem below_eq (xs : Array Nat) (j k : Nat) (hu : Up xs) (hk : k ≤ xs.size) (h1 : ∀ i, i < k → xs.getD i 0 < j) (h2 : ∀ i, k ≤ i → i < xs.size → j ≤ xs.getD i 0) : SetTable.below xs j = k := by
  obtain ⟨a, b, c⟩ := below_spec xs j hu
  rcases Nat.lt_trichotomy (SetTable.below xs j) k with h | h | h
  · have := h1 _ h
    have := b _ (Nat.le_refl _) (by omega)
    omega
  · exact h
  · have := a _ h
    have := h2 k (Nat.le_refl _) (by omega)
    omega

theorem below_zero (xs : Array Nat) (hu : Up xs) : SetTable.below xs 0 = 0 := below_eq xs 0 0 hu (Nat.zero_le _) (fun i h => absurd h (by omega)) (fun i _ _ => Nat.zero_le _)
theorem below_next (xs : Array Nat) (hu : Up xs) (i : Nat) (hi : i < xs.size) : SetTable.below xs (xs.getD i 0 + 1) = i + 1 :=
  below_eq xs _ (i + 1) hu (by omega) (fun k hk => by
    by_cases e : k = i
    · rw [e]; omega
    · have := hu k i (by omega) hi; omega) (fun k hk hs => by have := hu i k (by omega) hs; omega)

theorem getD_insert (xs : Array Nat) (p x : Nat) (hp : p ≤ xs.size) (i : Nat) : (SetTable.insertAt xs p x).getD i 0 = if i < p then xs.getD i 0 else if i = p then x else xs.getD (i - 1) 0 := by
  have e : (SetTable.insertAt xs p x).toList = xs.toList.take p ++ x :: xs.toList.drop p := SetTable.toList_insertAt xs p x
  have g : ∀ a : Array Nat, ∀ i, a.getD i 0 = a.toList.getD i 0 := by
    intro a i; simp [Array.getD_eq_getD_getElem?, List.getD_eq_getElem?_getD]
  rw [g, e, List.getD_eq_getElem?_getD, List.getElem?_append]
  have hl : (xs.toList.take p).length = p := by simp; omega
  rw [hl]
  by_cases h1 : i < p
  · rw [if_pos h1, if_pos h1, List.getElem?_take_of_lt h1, g, List.getD_eq_getElem?_getD]
  · rw [if_neg h1, if_neg h1]
    by_cases h2 : i = p
    · rw [if_pos h2, h2, Nat.sub_self]; rfl
    · rw [if_neg h2]
      obtain ⟨k, rfl⟩ : ∃ k, i = p + 1 + k := ⟨i - p - 1, by omega⟩
      rw [show p + 1 + k - p = k + 1 by omega, List.getElem?_cons_succ, List.getElem?_drop, g, List.getD_eq_getElem?_getD]
      congr 2
      omega

theorem size_insert (xs : Array Nat) (p x : Nat) : (SetTable.insertAt xs p x).size = xs.size + 1 := by
  rw [← Array.length_toList, SetTable.toList_insertAt]
  simp
  omega

theorem up_insert (xs : Array Nat) (j : Nat) (hu : Up xs) (hj : xs[SetTable.below xs j]? ≠ some j) : Up (SetTable.insertAt xs (SetTable.below xs j) j) := by
  obtain ⟨a, b, c⟩ := below_spec xs j hu
  intro i k hik hk
  rw [size_insert] at hk
  rw [getD_insert xs _ j c, getD_insert xs _ j c]
  generalize hp : SetTable.below xs j = p at *
  have hgt : ∀ i, p ≤ i → i < xs.size → j < xs.getD i 0 := by
    intro i h1 h2
    have h3 := b i h1 h2
    by_cases e : p = i
    · subst e
      have : xs[p]? = some (xs.getD p 0) := by simp [Array.getD_eq_getD_getElem?, h2]
      rw [this] at hj
      have : xs.getD p 0 ≠ j := fun e => hj (by rw [e])
      omega
    · have hpp := b p (Nat.le_refl _) (by omega)
      have := hu p i (by omega) h2
      omega
  by_cases h1 : i < p
  · rw [if_pos h1]
    by_cases h2 : k < p
    · rw [if_pos h2]; exact hu i k hik (by omega)
    · rw [if_neg h2]
      by_cases h3 : k = p
      · rw [if_pos h3]; exact a i h1
      · rw [if_neg h3]; exact hu i (k - 1) (by omega) (by omega)
  · rw [if_neg h1, if_neg (by omega : ¬ k < p), if_neg (by omega : ¬ k = p)]
    by_cases h3 : i = p
    · rw [if_pos h3]; exact hgt (k - 1) (by omega) (by omega)
    · rw [if_neg h3]; exact hu (i - 1) (k - 1) (by omega) (by omega)

theorem up_range (n : Nat) : Up (Array.range n) := by
  intro i j hij hj
  have hs : (Array.range n).size = n := Array.size_range
  rw [hs] at hj
  rw [Array.getD_eq_getD_getElem?, Array.getD_eq_getD_getElem?, Array.getElem?_range, Array.getElem?_range]
  simp [hj, Nat.lt_trans hij hj, hij]

theorem up_of_pairwise {l : List Nat} (h : l.Pairwise (· < ·)) : Up l.toArray := by
  intro i j hij hj
  have hj' : j < l.length := by simpa using hj
  have := List.pairwise_iff_getElem.mp h i j (by omega) hj' hij
  simp [Array.getD_eq_getD_getElem?, hj', (by omega : i < l.length)]
  exact this
end Mine
end

section
open PySem
namespace Mine

structure Tab (t : SetTable) (n : Nat) (l : Bool) : Prop where
  fits : t.fits n = true
  up : Up t.place
  clean : t.dummies = #[]
  led : t.led = l

theorem has_none (j : Nat) : SetTable.has #[] j = false := by
  unfold SetTable.has SetTable.below SetTable.below.go
  rfl

theorem slot_clean {t : SetTable} (hc : t.dummies = #[]) (j : Nat) : t.slot j = if t.place[SetTable.below t.place j]? == some j then .live (SetTable.below t.place j) else .empty := by
  unfold SetTable.slot
  rw [hc, has_none]
  simp

theorem probe_go {t : SetTable} (hc : t.dummies = #[]) (g : Nat → Int) (h : Int) : ∀ (fuel : Nat) (p : SetTable.Probe) (j : Nat) (d : Option Nat), p.dummy = none → SetTable.probe.go t g h fuel p = some (.empty j d) → t.slot j = .empty ∧ d = none
  | 0, p, j, d, hp, e => by unfold SetTable.probe.go at e; cases e
  | fuel + 1, p, j, d, hp, e => by
    unfold SetTable.probe.go at e
    have hs := slot_clean hc p.j
    split at e
    · rename_i q
      cases e
      exact ⟨q, hp⟩
    · rename_i q
      rw [q] at hs
      split at hs <;> cases hs
    · rename_i i q
      split at e
      · cases e
      · refine probe_go hc g h fuel _ j d ?_ e
        unfold SetTable.advance
        split <;> exact hp

theorem freeSlot_clean {t : SetTable} (hc : t.dummies = #[]) {h : Int} {slot : Nat} {wd : Bool} (e : t.freeSlot h = some (slot, wd)) : t.slot slot = .empty ∧ wd = false := by
  unfold SetTable.freeSlot at e
  split at e
  · rename_i j d q
    obtain ⟨a, b⟩ := probe_go hc _ _ _ _ j d rfl q
    subst b
    cases e
    exact ⟨a, rfl⟩
  · cases e

theorem up_put {t : SetTable} (hc : t.dummies = #[]) (hu : Up t.place) {j : Nat} (e : t.slot j = .empty) : Up (t.put j).1.place ∧ (t.put j).1.dummies = #[] ∧ (t.put j).1.led = t.led := by
  rw [slot_clean hc] at e
  unfold SetTable.put
  dsimp only
  refine ⟨up_insert _ _ hu ?_, ?_, rfl⟩
  · intro q
    rw [q] at e
    simp at e
  · rw [hc, has_none]; rfl

theorem standIn_tab (t : SetTable) (n : Nat) (l : Bool) (hl : t.led = l) : Tab (t.standIn n) n l := ⟨SetTable.standIn_fits t n, up_range n, rfl, hl⟩

theorem orStandIn_tab (t : SetTable) (n : Nat) (l : Bool) (hu : Up t.place) (hc : t.dummies = #[]) (hl : t.led = l) : Tab (t.orStandIn n) n l := by
  unfold SetTable.orStandIn
  split
  · exact ⟨by assumption, hu, hc, hl⟩
  · exact standIn_tab t n l hl

theorem layNew_tab {t : SetTable} {es : Array (Int × Value)} {l : Bool} {n : Nat} (T : Tab t n l) (h : Int) (x : Value) : Tab (layNew t es h x).2.1 (layNew t es h x).1.size l := by
  unfold layNew
  split
  · rename_i slot wd q
    obtain ⟨a, b⟩ := freeSlot_clean T.clean q
    obtain ⟨u, c, d⟩ := up_put T.clean T.up a
    exact orStandIn_tab _ _ l u c (d.trans T.led)
  · rw [Array.size_push]
    exact standIn_tab t _ l T.led

theorem live_sublist (f : Nat → Option Nat) : ∀ l : List Nat, ((l.filterMap fun j => (f j).map (j, ·)).map (·.1)).Sublist l
  | [] => .slnil
  | j :: l => by
    rw [List.filterMap_cons]
    cases f j with
    | none => exact (live_sublist f l).cons j
    | some k => exact (live_sublist f l).cons₂ j

theorem relaid_tab {t t' : SetTable} {hs : Array Int} {wanted : Nat} {order : Array Nat} {l : Bool} (hl : t.led = l) (e : t.relaid hs wanted = some (t', order)) : Up t'.place ∧ t'.dummies = #[] ∧ t'.led = l := by
  unfold SetTable.relaid SetTable.laid at e
  cases h : SetTable.layClean (SetTable.sizeAbove wanted - 1) hs with
  | none => rw [h] at e; cases e
  | some owner =>
    rw [h] at e
    cases e
    refine ⟨up_of_pairwise ?_, rfl, hl⟩
    exact List.pairwise_lt_range.sublist (live_sublist (fun j => owner.getD j none) _)

theorem relayAll_tab {t : SetTable} {es : Array (Int × Value)} {l : Bool} (hl : t.led = l) (wanted : Nat) : Tab (relayAll t es wanted).2.1 (relayAll t es wanted).1.size l := by
  have hf := relayAll_fits t es wanted
  unfold relayAll at hf ⊢
  split
  · rename_i t' order q
    obtain ⟨u, c, d⟩ := relaid_tab hl q
    dsimp only
    split
    · rename_i hc
      simp only [Bool.and_eq_true] at hc
      exact ⟨hc.2, u, c, d⟩
    · exact standIn_tab t _ l hl
  · exact standIn_tab t _ l hl

theorem plain_off {t : SetTable} {n : Nat} {l : Bool} (T : Tab t n l) : Tab { t with plain := false } n l := ⟨SetTable.fits_plain_off T.fits, T.up, T.clean, T.led⟩
end Mine
end

section
open PySem PyProof.Rows
namespace Mine

section
variable {prog : Program} {w : World}

/-- a set of ints that has met the list ks -/
def OSet (prog : Program) (w : World) (o : Obj) (ks : List Int) (l : Bool) : Prop :=
  o.ExactSet ∧ ∃ es ep t, o.data = .set es ep t ∧ ElemsOf (intKind prog w) es.toList ∧ (∀ k, k ∈ ks ↔ ∃ e ∈ es.toList, (intKind prog w).is k e.2 = true) ∧ es.size ≤ ks.length ∧ Tab t es.size l

variable {A : Around} {E : Value → Shared → Prop} {s : Shared}

theorem store_tab {a : Addr} {o : Obj} {es es' : Array (Int × Value)} {ep : Nat} {t t' : SetTable} {Q : Unit → Shared → Prop} (ho : s.heap.get? a = some o) (hex : o.ExactSet) (hd : o.data = .set es ep t) (hz : es'.size ≤ sizeLine)
    (h : ∀ h', Heap.SameBut a s.heap h' → h'.get? a = some { o with data := .set es' (ep + 1) t' } → Q () { s with heap := h' }) : wpAny (model prog w) A (storeSet a es' t') Q E s := by
  refine wpAny_storeSet_of ho hd (h _ (Heap.SameBut.update s.heap a _) ?_) hz
  have := Heap.get?_update_self (Obj.putSet es' t') ho (by rw [putSet_of es' t' hd]; rfl)
  rw [putSet_of es' t' hd] at this
  exact this

theorem grow_mem {es es' : Array (Int × Value)} {ks : List Int} {k : Int} {tok : Tok} (hm : ∀ k, k ∈ ks ↔ ∃ e ∈ es.toList, (intKind prog w).is k e.2 = true)
    (hp : List.Perm es'.toList (es.toList ++ [((intKind prog w).hash k, Value.int k tok)])) (k' : Int) : k' ∈ ks ++ [k] ↔ ∃ e ∈ es'.toList, (intKind prog w).is k' e.2 = true := by
  rw [List.mem_append, hm k', List.mem_singleton]
  constructor
  · rintro (⟨e, he, q⟩ | rfl)
    · exact ⟨e, hp.mem_iff.mpr (List.mem_append_left _ he), q⟩
    · exact ⟨_, hp.mem_iff.mpr (List.mem_append_right _ (List.mem_singleton.mpr rfl)), intKind_is _ _ _ _⟩
  · rintro ⟨e, he, q⟩
    rcases List.mem_append.mp (hp.mem_iff.mp he) with he | he
    · exact .inl ⟨e, he, q⟩
    · rw [List.mem_singleton] at he
      subst he
      exact .inr ((intKind prog w).inj _ _ _ q (intKind_is _ _ _ _))

theorem set_add {a : Addr} {o : Obj} {ks : List Int} {l : Bool} {k : Int} {tok : Tok} {Q : Bool → Shared → Prop} (ho : s.heap.get? a = some o) (I : OSet prog w o ks l) (hb : ks.length + 1 < scanBound)
    (h : ∀ b h' o' tk, s.toks ≤ tk → Heap.SameBut a s.heap h' → h'.get? a = some o' → OSet prog w o' (ks ++ [k]) l → Q b { s with heap := h', toks := tk }) :
    wpAny (model prog w) A (setAdd a (.int k tok)) Q E s := by
  obtain ⟨hex, es, ep, t, hd, hel, hm, hsz, T⟩ := I
  have hkey : (intKind prog w).is k (.int k tok) = true := intKind_is _ _ _ _
  have hsc : (Value.int k tok).scannable = true := rfl
  unfold setAdd
  refine wpAny_holding (wpAny_bind ((intKind prog w).pyHash hkey ?_))
  unfold setAddHashed setAddHashedIn
  refine wpAny_holding (wpAny_bind (wpAny_setState_of (o := o) ho hd T.fits ?_))
  dsimp only
  rw [byScan_of hsc (by omega) hel]
  simp only [↓reduceIte]
  unfold setAddByScan
  refine wpAny_bind (wpAny_bind (wpAny_rule (wpAny_bind (wpAny_setScan_of hkey ho hd T.fits hel ?_))))
  have e0 : ({ s with toks := s.toks + 1 } : Shared) = { s with heap := s.heap, toks := s.toks + 1 } := rfl
  cases hr : List.findIdx? (fun e => (intKind prog w).is k e.2) es.toList with
  | some j =>
    dsimp only
    obtain ⟨hj, hpj, _⟩ := List.findIdx?_eq_some_iff_getElem.mp hr
    refine wpAny_pure (wpAny_pure ?_)
    refine h false s.heap o (s.toks + 1) (Nat.le_succ _) (Heap.SameBut.refl a s.heap) ho ⟨hex, es, ep, t, hd, hel, fun k' => ?_, ?_, T⟩
    · rw [List.mem_append, List.mem_singleton]
      constructor
      · rintro (q | rfl)
        · exact (hm k').mp q
        · exact ⟨es.toList[j], List.getElem_mem hj, hpj⟩
      · exact fun q => .inl ((hm k').mpr q)
    · rw [List.length_append]; omega
  | none =>
    dsimp only
    have hgw : ∀ (b : Bool) {s₁ : Shared} {Q' : Unit → Shared → Prop}, Q' () s₁ → wpAny (model prog w) A (match b with | true => rule "set.scan.the-table-gave-way" | false => pure ()) Q' E s₁ :=
      fun b s₁ Q' hq => by cases b <;> first | exact wpAny_pure hq | exact wpAny_rule hq
    have hp := layNew_perm t es ((intKind prog w).hash k) (.int k tok)
    have T1 := layNew_tab (es := es) T ((intKind prog w).hash k) (.int k tok)
    generalize layNew t es ((intKind prog w).hash k) (.int k tok) = L at hp T1 ⊢
    obtain ⟨es1, t1, wd, gave⟩ := L
    dsimp only at hp T1 ⊢
    rw [Array.toList_push] at hp
    have hl1 : es1.size = es.size + 1 := by rw [← Array.length_toList, hp.length_eq]; simp
    have hel1 : ElemsOf (intKind prog w) es1.toList := (hel.push hkey hsc).perm hp
    have hm1 := grow_mem hm hp
    have hz1 : es1.size ≤ sizeLine := fits_of_scanBound (by omega)
    refine wpAny_bind (hgw _ ?_)
    -- what is stored last
    have tail : ∀ (t2 : SetTable), Tab t2 es1.size l → ∀ {s₁ : Shared}, s₁ = { s with toks := s.toks + 1 } → wpAny (model prog w) A (do
        storeSet a es1 t2
        if (!wd && t2.tooFull) = true then do
            (match (relayAll t2 es1 (SetTable.grown es1.size)).2.2 with | true => rule "set.scan.the-table-gave-way" | false => pure ())
            storeSet a (relayAll t2 es1 (SetTable.grown es1.size)).1 (relayAll t2 es1 (SetTable.grown es1.size)).2.1
            pure (some true)
          else pure (some true)) (fun r s' => r = some true ∧ Q true s') E s₁ := by
      intro t2 T2 s₁ es₁
      subst es₁
      refine wpAny_bind (store_tab ho hex hd hz1 fun h1 sb1 g1 => ?_)
      split
      · have hp2 := relayAll_perm t2 es1 (SetTable.grown es1.size)
        have T3 := relayAll_tab (es := es1) T2.led (SetTable.grown es1.size)
        generalize relayAll t2 es1 (SetTable.grown es1.size) = R at hp2 T3 ⊢
        obtain ⟨es2, t3, gave2⟩ := R
        dsimp only at hp2 T3 ⊢
        have hl2 : es2.size = es1.size := by rw [← Array.length_toList, hp2.length_eq, Array.length_toList]
        refine wpAny_bind (hgw _ ?_)
        refine wpAny_bind (store_tab (s := { s with heap := h1, toks := s.toks + 1 }) g1 hex rfl (by omega) fun h2 sb2 g2 => ?_)
        refine wpAny_pure ⟨rfl, h true h2 _ _ (Nat.le_succ _) (sb1.trans sb2) g2 ⟨hex, es2, _, t3, rfl, hel1.perm hp2, fun k' => (hm1 k').trans ⟨fun ⟨e, he, q⟩ => ⟨e, hp2.mem_iff.mpr he, q⟩, fun ⟨e, he, q⟩ => ⟨e, hp2.mem_iff.mp he, q⟩⟩, ?_, T3⟩⟩
        rw [List.length_append]; simp; omega
      · refine wpAny_pure ⟨rfl, h true h1 _ _ (Nat.le_succ _) sb1 g1 ⟨hex, es1, _, t2, rfl, hel1, hm1, ?_, T2⟩⟩
        rw [List.length_append]; simp; omega
    have done : ∀ {r : Option Bool} {s' : Shared}, (r = some true ∧ Q true s') → wpAny (model prog w) A (match r with | some added => pure added | none => setAddHashedIn a (.int k tok) ((intKind prog w).hash k) 99999) Q E s' := by
      rintro r s' ⟨rfl, hq⟩
      exact wpAny_pure hq
    split
    · refine wpAny_bind ?_
      rw [hashByValue_scannable 8 hsc]
      refine wpAny_pure ?_
      exact wpAny_mono (tail t1 T1 rfl) (fun r s' q => done q) fun _ _ x => x
    · refine wpAny_bind (wpAny_pure ?_)
      exact wpAny_mono (tail t1 T1 rfl) (fun r s' q => done q) fun _ _ x => x
end
end Mine
end

section
open PySem PyProof.Rows PySem.Spec
namespace Mine

section
variable {prog : Program} {w : World} {A : Around} {R : Result → Shared → Prop} {I : Addr} {fp wr : List Addr} {G : Array GenState → Array GenState → Prop} {n : Nat} {P : Nat → Value → Prop} {St : Nat → Shared → Prop}

theorem update_loop (W : WalksS prog w A.in1 I fp wr G n P St) (S : Addr) (hSf : S ∉ fp) (val : Nat → Int) (hval : ∀ i v, P i v → ∃ t, v = .int (val i) t) (hb : n + 1 < scanBound) {l : Bool} :
    ∀ (k i : Nat) (s : Shared) (o : Obj), n - i = k → i ≤ n → St i s → s.heap.get? S = some o → OSet prog w o ((List.range i).map val) l →
      (∀ s' o', Moved (S :: wr) G s s' → s'.heap.get? S = some o' → OSet prog w o' ((List.range n).map val) l → R (.ok (.ret .none)) s') →
      codeAny (model prog w) A (.builtin "set.update.loop" ⟨[.ref S, .ref I], []⟩) R s := by
  have hSw : S ∉ wr := fun h => hSf (W.sub _ h)
  have hsub : ∀ b ∈ wr, b ∈ S :: wr := fun b hb => List.mem_cons_of_mem _ hb
  intro k
  induction k with
  | zero =>
    intro i s o hk hi hst ho hS hR
    have hin : i = n := by omega
    subst hin
    refine codeAny_builtin PyProof.Rows.F.entry_set_update_loop ?_
    rw [Around.under_plainId PyProof.Rows.F.plain_set_update_loop _]
    show wpAny _ A.in1 (pyNext (.ref I) >>= _) _ _ s
    refine wpAny_bind (W.done s _ _ hst fun s' hm => ?_)
    show wpAny _ A.in1 (ret Value.none) _ _ s'
    exact wpAny_pure (hR s' o (hm.mono hsub) (hm.heap S _ hSw ho) hS)
  | succ k ih =>
    intro i s o hk hi hst ho hS hR
    have hlt : i < n := by omega
    refine codeAny_builtin PyProof.Rows.F.entry_set_update_loop ?_
    rw [Around.under_plainId PyProof.Rows.F.plain_set_update_loop _]
    show wpAny _ A.in1 (pyNext (.ref I) >>= _) _ _ s
    refine wpAny_bind (W.item i s _ _ hlt hst fun v s' hP hst' hm => ?_)
    obtain ⟨t, rfl⟩ := hval i v hP
    have ho' := hm.heap S _ hSw ho
    show wpAny _ A.in1 (holding [Value.int (val i) t] (setAdd S (.int (val i) t)) >>= _) _ _ s'
    refine wpAny_bind (wpAny_holding (set_add ho' hS (by simp; omega) fun b h' o2 tk htk sb g2 I2 => ?_))
    have e : (List.range i).map val ++ [val i] = (List.range (i + 1)).map val := by rw [List.range_succ, List.map_append]; rfl
    rw [e] at I2
    refine wpAny_pure ⟨plainId_quiet PyProof.Rows.F.plain_set_update_loop _, ih (i + 1) _ o2 (by omega) hlt (W.frame _ s' _ _ hst' htk fun b hb o e => ?_) g2 I2 fun s'' o' hm'' g'' I'' => ?_⟩
    · rw [sb.2 b (fun h : b = S => hSf (by rw [← h]; exact hb))]; exact e
    · refine hR s'' o' (Moved.trans W.gtrans ((hm.mono hsub).then_heap htk fun b o hb e => ?_) hm'') g'' I''
      rw [sb.2 b (fun h : b = S => hb (by rw [h]; exact List.mem_cons_self))]; exact e
end

/-- whether new sets are led by the machine -/
def ledBy (w : World) : Bool := !(w.params.followText "set-order")

section
variable {prog : Program} {w : World} {A : Around} {E : Value → Shared → Prop} {s : Shared}

theorem set_new (a : Value) {Q₁ : Value → Shared → Prop}
    (h : Q₁ (.ref s.heap.objs.size) { s with heap := s.heap.push { cls := .type "set", dict := none, data := .set #[] 0 (.fresh 0 0 (ledBy w)) } }) :
    codeAny (model prog w) A (.call (.builtin "set.__new__") ⟨[.type "set", a], []⟩) (wants Q₁ E) s := by
  refine codeAny_of_tree ?_
  show wpAny _ A.in1 (do checkBuiltinCall "set.__new__" ⟨[.type "set", a], []⟩; again (.builtin "set.__new__" ⟨[.type "set", a], []⟩)) _ _ s
  refine wpAny_bind (wpAny_of_eq (PySem.F.newCall_set_1 a) (wpAny_pure ⟨plainId_quiet F.plain_set_new _, codeAny_builtin F.entry_set_new ?_⟩))
  rw [Around.under_plainId F.plain_set_new _]
  unfold Builtin.«set.__new__» Builtin.Frozenset.newClass
  have hsub := sub_set_self
  obtain ⟨hp, g, d, tk, os⟩ := s
  dsimp only
  wp_walk
  refine wpAny_askSetting (wpAny_pure ?_)
  dsimp only
  simp only [newObj]
  refine wpAny_bind (wpAny_alloc (wpAny_pure ?_))
  exact wpAny_pure h

theorem oset_nil (prog : Program) (w : World) (l : Bool) : OSet prog w { cls := .type "set", dict := none, data := .set #[] 0 (.fresh 0 0 l) } [] l :=
  ⟨⟨rfl, rfl, rfl⟩, #[], 0, _, rfl, fun e he => by simp at he, fun k => by simp, by simp, ⟨by rfl, fun i j _ hj => by exact absurd hj (Nat.not_lt_zero _), rfl, rfl⟩⟩
end
end Mine
end

section
open PySem PyProof.Rows PySem.Spec
namespace Mine
open Builtin

section
variable {prog : Program} {w : World} {A : Around} {E : Value → Shared → Prop} {s : Shared}

theorem vals_of {vs : List Value} {ns : List Int} (hi : IntsAre vs ns) : (List.range vs.length).map (fun i => ns.getD i 0) = ns := by
  rw [IntsAre.length hi]
  apply List.ext_getElem
  · simp
  · intro i h1 h2
    simp at h1
    simp [h1]

/-- what __init__ of a new set does with a list of ints -/
theorem set_fill {l : Addr} {items : Array Value} {ns : List Int} {h₁ : Heap} (S : Addr) (hh : A.handled = none) (hl : h₁.IsList l items) (hS : h₁.get? S = some { cls := .type "set", dict := none, data := .set #[] 0 (.fresh 0 0 (ledBy w)) })
    (hlS : l ≠ S) (hi : IntsAre items.toList ns) (hb : ns.length + 1 < scanBound) {R : Result → Shared → Prop}
    (h : ∀ h' o tk, h'.get? S = some o → OSet prog w o ns (ledBy w) → (∀ b o, b ≠ S → h₁.get? b = some o → h'.get? b = some o) → R (.ok (.ret .none)) { s with heap := h', toks := tk }) :
    wpAny (model prog w) A.in1 (Builtin.«set.__init__» ⟨[.ref S, .ref l], []⟩) (fun fin s' => match fin with | .done f => R (.ok f) s' | .again c' => c'.quiet = true ∧ codeAny (model prog w) A c' R s') (fun e s' => R (.error e) s') { s with heap := h₁ } := by
  have hl1 := hl
  obtain ⟨ol, hol, hcl, nl, hdl⟩ := hl
  obtain ⟨ocls, odict, odata, oslots⟩ := ol
  simp only at hcl hdl
  subst hcl; subst hdl
  have hT : Shared.TypeIs { s with heap := h₁ } (.ref S) "set" := ⟨_, hS, rfl⟩
  have hsls := PySem.F.sub_list_set
  have hslf := PySem.F.sub_list_frozenset
  have hne : (Value.type "list" == Value.type "dict") = false := by decide
  have hlen : items.size = ns.length := by rw [← IntsAre.length hi]; simp
  unfold Builtin.«set.__init__» noKeywords Builtin.Frozenset.updateFrom
  generalize hPI : pyIter = PI
  wp_walk
  subst hPI
  refine wpAny_pyIter_list hl1 ?_
  refine wpAny_bind (wpAny_runValue ?_)
  have hlt : l < h₁.objs.size := Heap.lt_size hol
  have hSlt : S < h₁.objs.size := Heap.lt_size hS
  have hneI : l ≠ h₁.objs.size := Nat.ne_of_lt hlt
  have hSf : S ∉ [h₁.objs.size, l] := by
    simp only [List.mem_cons, List.not_mem_nil, or_false, not_or]
    exact ⟨Nat.ne_of_lt hSlt, fun e => hlS e.symm⟩
  have hh3 : A.in1.in1.handled = none := by simp [hh]
  have hval : ∀ (i : Nat) (v : Value), items[i]? = some v → ∃ t, v = .int ((fun i => ns.getD i 0) i) t := fun i v hv =>
    IntsAre.int_at hi i v (by rw [Array.getElem?_toList]; exact hv)
  refine update_loop ((Walks.list hh3 _ l hneI items).toS) S hSf (fun i => ns.getD i 0) hval (by omega) (l := ledBy w) (items.size - 0) 0 _ { cls := .type "set", dict := none, data := .set #[] 0 (.fresh 0 0 (ledBy w)) } (by omega) (Nat.zero_le _) ?st ?sg (oset_nil prog w (ledBy w)) ?sr
  case st => exact ⟨⟨_, Heap.get?_push_size _ rfl, rfl, rfl⟩, hl1.push _⟩
  case sg => exact Heap.get?_push_of_some _ hS
  case sr =>
  intro s' o' hm g' I'
  obtain ⟨h', gg, d', tk', os'⟩ := s'
  have eg : gg = s.gens := hm.gens
  have ed : d' = s.drawn := hm.drawn
  have eo : os' = s.os := hm.os
  subst eg; subst ed; subst eo
  have ev : (List.range items.size).map (fun i => ns.getD i 0) = ns := by
    have := vals_of hi
    rw [Array.length_toList] at this
    exact this
  rw [ev] at I'
  refine wpAny_pure ?_
  refine wpAny_pure (h h' o' tk' g' I' fun b o hb e => ?_)
  have hb2 : b ≠ h₁.objs.size := Nat.ne_of_lt (Heap.lt_size e)
  exact hm.heap b o (by simp only [List.mem_cons, List.not_mem_nil, or_false, not_or]; exact ⟨hb, hb2⟩) (Heap.get?_push_of_some _ e)

theorem call_set {l : Addr} {items : Array Value} {ns : List Int} {Q : Value → Shared → Prop} (hh : A.handled = none) (hl : s.heap.IsList l items) (hi : IntsAre items.toList ns) (hb : ns.length + 1 < scanBound)
    (h : ∀ (h' : Heap) (o : Obj) (tk : Nat), h'.get? s.heap.objs.size = some o → OSet prog w o ns (ledBy w) → (∀ b o, b < s.heap.objs.size → s.heap.get? b = some o → h'.get? b = some o) → Q (.ref s.heap.objs.size) { s with heap := h', toks := tk }) :
    wpAny (model prog w) A (call (.type "set") [.ref l]) Q E s := by
  obtain ⟨c, tl, hmro⟩ := PySem.F.called_set.mro
  have hmade := PySem.F.called_set.made
  have hsub := PySem.F.called_set.sub
  refine wpAny_call (codeAny_of_tree ?_)
  show wpAny _ _ (callAny (.type "set") _) _ _ _
  refine wpAny_pure ⟨Code.quiet_builtin _ (by decide +kernel), codeAny_builtin PySem.F.entry_type_call ?_⟩
  rw [Around.under_plain (weight_type_call_type "set" [.ref l] []) rfl]
  have h1 := PySem.F.called_set.notType
  have h2 := PySem.F.called_set.canCreate
  have hct := PySem.F.typeCall_set_1 (.ref l)
  repeat (any_goals (first | assumption | wp_step))
  refine codeAny_mono (set_new (.ref l) (E := E) (Q₁ := fun obj s₁ => obj = .ref s.heap.objs.size ∧ s₁ = { s with heap := s.heap.push { cls := .type "set", dict := none, data := .set #[] 0 (.fresh 0 0 (ledBy w)) } }) ⟨rfl, rfl⟩) fun r s₁ hr => ?_
  rcases r with e | fl
  · exact hr
  rcases fl with _ | _ | _ | obj <;> try exact hr.elim
  obtain ⟨rfl, rfl⟩ := hr
  have hS : (s.heap.push { cls := .type "set", dict := none, data := .set #[] 0 (.fresh 0 0 (ledBy w)) }).get? s.heap.objs.size = some { cls := .type "set", dict := none, data := .set #[] 0 (.fresh 0 0 (ledBy w)) } := Heap.get?_push_size _ rfl
  have hT : Shared.TypeIs { s with heap := s.heap.push { cls := .type "set", dict := none, data := .set #[] 0 (.fresh 0 0 (ledBy w)) } } (.ref s.heap.objs.size) "set" := ⟨_, hS, rfl⟩
  have hli := PySem.F.called_set.init.lookup
  have hbi := PySem.F.called_set.init.bind (.ref s.heap.objs.size)
  repeat (any_goals (first | assumption | wp_step))
  have hlt : l < s.heap.objs.size := by obtain ⟨ol, hol, _⟩ := hl; exact Heap.lt_size hol
  refine codeAny_mono (codeAny_call_builtin (R := wants (fun r s₂ => r = .none ∧ ∃ h' o tk, s₂ = { s with heap := h', toks := tk } ∧ h'.get? s.heap.objs.size = some o ∧ OSet prog w o ns (ledBy w) ∧
      (∀ b o, b < s.heap.objs.size → s.heap.get? b = some o → h'.get? b = some o)) E) PySem.F.called_set.init.plain PySem.F.entry_set_init (check_set_init_1 hT ?_)) fun r₂ s₂ hr₂ => ?_
  · refine set_fill (h₁ := s.heap.push { cls := .type "set", dict := none, data := .set #[] 0 (.fresh 0 0 (ledBy w)) }) s.heap.objs.size (by simp [hh]) (hl.push _) hS (Nat.ne_of_lt hlt) hi hb fun h' o tk g I k => ?_
    exact ⟨rfl, h', o, tk, rfl, g, I, fun b o hb e => k b o (Nat.ne_of_lt hb) (Heap.get?_push_of_some _ e)⟩
  · rcases r₂ with e | fl₂
    · exact hr₂
    rcases fl₂ with _ | _ | _ | r <;> try exact hr₂.elim
    obtain ⟨rfl, h', o, tk, rfl, g, I, k⟩ := hr₂
    repeat (any_goals (first | assumption | wp_step))
    exact h _ _ _ g I k
end
end Mine
end

section
open PySem PyProof.Rows PySem.Spec
namespace Mine
open Builtin

theorem slot_set_iter : Slot "set" "__iter__" "set.__iter__" :=
  .of (owner := "set") (n := "__iter__") (by rw [typeLookup_type, builtinLookup_eq_fast]; kernel_rfl) (by decide +kernel) (by decide +kernel) (by decide +kernel)
    (by first | exact .inl (by decide +kernel) | exact .inr (by decide +kernel)) (by rw [isSubtype_type]; kernel_rfl)
theorem entry_set_iter : entryFor table "set.__iter__" = some Builtin.«frozenset.__iter__» := entryFor_alias (id' := "frozenset.__iter__") (by kernel_rfl) rfl (by decide +kernel) (by kernel_rfl)
theorem args_set_iter (a : Value) : argsOk "set.__iter__" ⟨[a], []⟩ := by unfold argsOk; kernel_rfl
theorem slot_setit_next : Slot "set_iterator" "__next__" "set_iterator.__next__" :=
  .of (owner := "set_iterator") (n := "__next__") (by rw [typeLookup_type, builtinLookup_eq_fast]; kernel_rfl) (by decide +kernel) (by decide +kernel) (by decide +kernel)
    (by first | exact .inl (by decide +kernel) | exact .inr (by decide +kernel)) (by rw [isSubtype_type]; kernel_rfl)
theorem entry_setit_next : entryFor table "set_iterator.__next__" = some Builtin.«set_iterator.__next__» := entryFor_of_tree (by kernel_rfl)
theorem args_setit_next (a : Value) : argsOk "set_iterator.__next__" ⟨[a], []⟩ := by unfold argsOk; kernel_rfl
theorem set_len_look : typeLookup (.type "set") "__len__" = pure (some (.builtin "set.__len__")) := by rw [typeLookup_type, builtinLookup_eq_fast]; kernel_rfl

theorem perm_erase {α : Type} : ∀ (l : List α) (i : Nat) (hi : i < l.length), (l[i] :: l.eraseIdx i).Perm l
  | [], i, hi => absurd hi (Nat.not_lt_zero _)
  | x :: xs, 0, hi => .refl _
  | x :: xs, i + 1, hi => (List.Perm.swap _ _ _).trans ((perm_erase xs i (by simpa using hi)).cons x)

section
variable {prog : Program} {w : World} {A : Around} {E : Value → Shared → Prop}

theorem choose_any {n : Nat} {Q : Nat → Shared → Prop} {s : Shared} (hn : n ≠ 0) (h : ∀ i dr, i < n → Q i { s with drawn := dr }) : wpAny (model prog w) A (choose .order n) Q E s := by
  intro Γ p hΓ
  unfold choose
  rw [Sem.wp_choose]
  exact ⟨hn, h _ _ (Nat.mod_lt _ (by omega))⟩

theorem draw_any {α : Type} : ∀ (n : Nat) (xs : List α) (s : Shared) (Q : List α → Shared → Prop), xs.length = n → (∀ ys dr, ys.Perm xs → Q ys { s with drawn := dr }) → wpAny (model prog w) A (drawOrder n xs) Q E s
  | 0, xs, s, Q, hl, h => by
    have : xs = [] := List.length_eq_zero_iff.mp hl
    subst this
    exact wpAny_pure (h [] s.drawn (.refl _))
  | n + 1, [], s, Q, hl, h => by cases hl
  | n + 1, x :: xs, s, Q, hl, h => by
    unfold drawOrder
    refine wpAny_bind (choose_any (by simp) fun i dr hi => ?_)
    have hg : (x :: xs)[i]? = some ((x :: xs)[i]'hi) := List.getElem?_eq_getElem hi
    rw [hg]
    dsimp only
    have hp : List.Perm ((x :: xs)[i]'hi :: (x :: xs).eraseIdx i) (x :: xs) := by
      exact perm_erase _ _ hi
    refine wpAny_bind (draw_any n ((x :: xs).eraseIdx i) _ _ (by rw [List.length_eraseIdx_of_lt hi]; simp at hl ⊢; omega) fun ys dr' hy => ?_)
    exact wpAny_pure (h _ dr' ((hy.cons _).trans hp))
end

theorem pick_go {α : Type} (next : Nat → Nat) : ∀ (fuel k : Nat) (left : List α) (out : Array α), left.length = fuel → (pickOrder.go next fuel k left out).toList.Perm (out.toList ++ left)
  | 0, k, left, out, hl => by
    have : left = [] := List.length_eq_zero_iff.mp hl
    subst this
    unfold pickOrder.go
    simp
  | fuel + 1, k, left, out, hl => by
    unfold pickOrder.go
    have hi : next k % left.length < left.length := Nat.mod_lt _ (by omega)
    rw [List.getElem?_eq_getElem hi]
    dsimp only
    refine (pick_go next fuel (k + 1) _ _ (by rw [List.length_eraseIdx_of_lt hi]; omega)).trans ?_
    rw [Array.toList_push, List.append_assoc]
    exact List.Perm.append_left _ (perm_erase _ _ hi)

theorem pick_perm {α : Type} (next : Nat → Nat) (xs : Array α) : (pickOrder next xs).toList.Perm xs.toList := by
  unfold pickOrder
  have := pick_go next xs.size 0 xs.toList #[] (by simp)
  simpa using this
end Mine
end

section
open PySem PyProof.Rows PySem.Spec
namespace Mine
open Builtin

section
variable {prog : Program} {w : World} {A : Around} {E : Value → Shared → Prop} {s : Shared}

theorem by_text {Q : Bool → Shared → Prop} (h : Q (w.params.followText "set-order") s) : wpAny (model prog w) A setsByText Q E s := by
  unfold setsByText
  exact wpAny_bind (wpAny_askSetting (wpAny_pure h))

/-- the order in which a set is walked by the text -/
def textOrd (w : World) (S : Addr) (ep : Nat) (es : Array (Int × Value)) : Array (Int × Value) := pickOrder (w.params.setOrder S ep) es

theorem next_text {S : Addr} {o : Obj} {es : Array (Int × Value)} {ep : Nat} {t : SetTable} {slot i : Nat} {Q : Option (Value × Nat) → Shared → Prop} (hw : w.params.followText "set-order" = true)
    (ho : s.heap.get? S = some o) (hd : o.data = .set es ep t) (hf : t.fits es.size = true) (h : Q (((textOrd w S ep es)[i]?).map fun e => (e.2, slot)) s) : wpAny (model prog w) A (setNext S slot i ep) Q E s := by
  unfold setNext
  refine wpAny_bind (wpAny_setState_of ho hd hf ?_)
  dsimp only
  refine wpAny_bind (by_text ?_)
  rw [hw, if_pos rfl, if_neg (by simp)]
  refine wpAny_bind ?_
  unfold setWalk
  refine wpAny_bind (wpAny_setState_of ho hd hf ?_)
  dsimp only
  refine wpAny_bind (by_text ?_)
  rw [hw, if_pos rfl]
  refine wpAny_bind (wpAny_askSetting (wpAny_pure ?_))
  exact wpAny_pure h

theorem next_led {S : Addr} {o : Obj} {es : Array (Int × Value)} {ep : Nat} {t : SetTable} {slot i : Nat} {Q : Option (Value × Nat) → Shared → Prop} (hw : w.params.followText "set-order" = false)
    (ho : s.heap.get? S = some o) (hd : o.data = .set es ep t) (T : Tab t es.size true) (hp : (!t.plain && decide (es.size > 1)) = false)
    (h : Q (match es[SetTable.below t.place slot]?, t.place[SetTable.below t.place slot]? with | some (_, x), some j => some (x, j + 1) | _, _ => none) s) : wpAny (model prog w) A (setNext S slot i ep) Q E s := by
  unfold setNext
  refine wpAny_bind (wpAny_setState_of ho hd T.fits ?_)
  dsimp only
  refine wpAny_bind (by_text ?_)
  rw [hw, if_neg (by simp)]
  show wpAny (model prog w) A (if (!t.plain && decide (es.size > 1)) = true then _ else _) Q E s
  rw [hp, if_neg Bool.false_ne_true]
  have hl : (!t.led && !es.isEmpty) = false := by rw [T.led]; rfl
  show wpAny (model prog w) A ((if (!t.led && !es.isEmpty) = true then unsupported "set:maker-not-led" else pure ()) >>= _) Q E s
  rw [hl, if_neg Bool.false_ne_true]
  refine wpAny_bind (wpAny_pure ?_)
  exact wpAny_pure h

theorem next_drawn {S : Addr} {o : Obj} {es : Array (Int × Value)} {ep : Nat} {t : SetTable} {p : Nat} {x : Int × Value} {Q : Value → Shared → Prop}
    (ho : s.heap.get? S = some o) (hd : o.data = .set es ep t) (hf : t.fits es.size = true) (hx : es[p]? = some x) (h : Q x.2 s) : wpAny (model prog w) A (setNextDrawn S p ep) Q E s := by
  unfold setNextDrawn
  refine wpAny_bind (wpAny_setState_of ho hd hf ?_)
  dsimp only
  rw [if_neg (by simp), hx]
  exact wpAny_pure h
end

def itObj (first : Value) (i : Nat) (S : Addr) (n ep : Nat) : Obj := { cls := .type "set_iterator", data := .fields #[first, rawInt i, .ref S, rawInt n, rawInt ep] }

section
variable {prog : Program} {w : World} {A : Around} {E : Value → Shared → Prop} {s : Shared} {I S : Addr} {o : Obj} {es : Array (Int × Value)} {ep i : Nat} {t : SetTable} {Q : Option Value → Shared → Prop}

/-- one field of an iterator is written -/
theorem put_field {M : Model} {h : Heap} {g : Array GenState} {d : Drawn} {tk : Nat} {os : OsState} {vs : Array Value} {k : Nat} {x : Value} {Q : Unit → Shared → Prop} (hI : h.get? I = some { cls := .type "set_iterator", data := .fields vs }) (hk : k < vs.size)
    (hq : ∀ h', h'.get? I = some { cls := .type "set_iterator", data := .fields (vs.setIfInBounds k x) } → Heap.SameBut I h h' → Q () ⟨h', g, d, tk, os⟩) : wpAny M A (setField (.ref I) k x) Q E ⟨h, g, d, tk, os⟩ :=
  wpAny_setField hI rfl hk (hq _ (Heap.get?_update_self _ hI rfl) (Heap.SameBut.update ..))

theorem item_int {slot nx : Nat} {x : Value} (hI : s.heap.get? I = some (itObj (rawInt slot) i S es.size ep)) (ho : s.heap.get? S = some o) (hd : o.data = .set es ep t) (hf : t.fits es.size = true)
    (hn : ∀ {Q' : Option (Value × Nat) → Shared → Prop} {E'}, Q' (some (x, nx)) s → wpAny (model prog w) A.in1 (setNext S slot i ep) Q' E' s)
    (h : ∀ h', h'.get? I = some (itObj (rawInt nx) (i + 1) S es.size ep) → Heap.SameBut I s.heap h' → Q (some x) { s with heap := h' }) : wpAny (model prog w) A (pyNext (.ref I)) Q E s := by
  have hT : s.TypeIs (.ref I) "set_iterator" := ⟨_, hI, rfl⟩
  unfold pyNext
  refine wpAny_bind (wpAny_attempt (wpAny_callSpecial?_slot (name := Str.ofString "__next__") hT slot_setit_next
    (wpAny_call_entry slot_setit_next hT entry_setit_next ?_ (args_setit_next _))))
  unfold Builtin.«set_iterator.__next__»
  refine wpAny_bind (wpAny_pure ?_)
  refine wpAny_bind (wpAny_fieldsOf hI rfl ?_)
  dsimp only [rawInt]
  refine wpAny_bind (wpAny_setEntries_of ho hd hf ?_)
  rw [if_neg (by simp)]
  refine wpAny_bind (hn ?_)
  dsimp only
  obtain ⟨hp, g, d, tk, os⟩ := s
  refine wpAny_bind (put_field hI (by simp) fun h1 g1 b1 => ?_)
  refine wpAny_bind (put_field g1 (by simp) fun h2 g2 b2 => ?_)
  exact wpAny_pure ⟨x, rfl, wpAny_pure (h h2 g2 (b1.trans b2))⟩

theorem end_int {slot : Nat} (hh : A.handled = none) (hI : s.heap.get? I = some (itObj (rawInt slot) i S es.size ep)) (ho : s.heap.get? S = some o) (hd : o.data = .set es ep t) (hf : t.fits es.size = true)
    (hn : ∀ {Q' : Option (Value × Nat) → Shared → Prop} {E'}, Q' none s → wpAny (model prog w) A.in1 (setNext S slot i ep) Q' E' s)
    (h : ∀ h', Heap.ExtBut I s.heap h' → Q none { s with heap := h' }) : wpAny (model prog w) A (pyNext (.ref I)) Q E s := by
  have hT : s.TypeIs (.ref I) "set_iterator" := ⟨_, hI, rfl⟩
  unfold pyNext
  refine wpAny_bind (wpAny_attempt (wpAny_callSpecial?_slot (name := Str.ofString "__next__") hT slot_setit_next
    (wpAny_call_entry slot_setit_next hT entry_setit_next ?_ (args_setit_next _))))
  unfold Builtin.«set_iterator.__next__»
  refine wpAny_bind (wpAny_pure ?_)
  refine wpAny_bind (wpAny_fieldsOf hI rfl ?_)
  dsimp only [rawInt]
  refine wpAny_bind (wpAny_setEntries_of ho hd hf ?_)
  rw [if_neg (by simp)]
  refine wpAny_bind (hn ?_)
  dsimp only
  obtain ⟨hp, g, d, tk, os⟩ := s
  refine wpAny_bind (put_field hI (by simp) fun h1 g1 b1 => ?_)
  show wpAny _ _ (newExc (.type "StopIteration") [] >>= _) _ _ _
  refine wpAny_bind ?_
  simp only [newExc, newTuple]
  refine wpAny_bind (wpAny_newObj_type ?_ (by size_fits))
  refine wpAny_bind (m := firstArgMember _ _) (wpAny_of_eq (a := Value.none) (by first | rfl | (simp only [firstArgMember]; rfl)) ?_)
  refine wpAny_newObj_type ?_ (by size_fits)
  simp only [raiseNew]
  refine wpAny_bind (wpAny_handled ?_)
  rw [show A.in1.handled = none from hh]
  refine wpAny_bind (wpAny_pure (wpAny_throw ?_))
  refine wpAny_bind (wpAny_isInstance (T := "StopIteration") (b := true) ⟨_, Heap.get?_push_size _ rfl, rfl⟩ isSubtype_stop ?_)
  exact wpAny_pure (h _ ((b1.extBut.push _).push _))

theorem item_tup {T p : Nat} {ps : Array Value} {nt : Nat} {u : Tok} {x : Int × Value} (hI : s.heap.get? I = some (itObj (.ref T) i S es.size ep)) (ho : s.heap.get? S = some o) (hd : o.data = .set es ep t) (hf : t.fits es.size = true)
    (hT' : s.heap.get? T = some { cls := .type "tuple", data := .seq ps nt }) (hp : ps[i]? = some (.int (p : Int) u)) (hx : es[p]? = some x)
    (h : ∀ h', h'.get? I = some (itObj (.ref T) (i + 1) S es.size ep) → Heap.SameBut I s.heap h' → Q (some x.2) { s with heap := h' }) : wpAny (model prog w) A (pyNext (.ref I)) Q E s := by
  have hT : s.TypeIs (.ref I) "set_iterator" := ⟨_, hI, rfl⟩
  unfold pyNext
  refine wpAny_bind (wpAny_attempt (wpAny_callSpecial?_slot (name := Str.ofString "__next__") hT slot_setit_next
    (wpAny_call_entry slot_setit_next hT entry_setit_next ?_ (args_setit_next _))))
  unfold Builtin.«set_iterator.__next__»
  refine wpAny_bind (wpAny_pure ?_)
  refine wpAny_bind (wpAny_fieldsOf hI rfl ?_)
  dsimp only [rawInt]
  refine wpAny_bind (wpAny_setEntries_of ho hd hf ?_)
  rw [if_neg (by simp)]
  refine wpAny_bind (wpAny_seqItems hT' rfl ?_)
  dsimp only
  rw [Int.toNat_natCast, hp]
  dsimp only
  rw [Int.toNat_natCast, Int.toNat_natCast]
  refine wpAny_bind (next_drawn ho hd hf hx ?_)
  obtain ⟨hp, g, d, tk, os⟩ := s
  refine wpAny_bind (put_field hI (by simp) fun h1 g1 b1 => ?_)
  exact wpAny_pure ⟨x.2, rfl, wpAny_pure (h h1 g1 b1)⟩

theorem end_tup {T : Nat} {ps : Array Value} {nt : Nat} (hh : A.handled = none) (hI : s.heap.get? I = some (itObj (.ref T) i S es.size ep)) (ho : s.heap.get? S = some o) (hd : o.data = .set es ep t) (hf : t.fits es.size = true)
    (hT' : s.heap.get? T = some { cls := .type "tuple", data := .seq ps nt }) (hp : ps[i]? = none)
    (h : ∀ h', Heap.ExtBut I s.heap h' → Q none { s with heap := h' }) : wpAny (model prog w) A (pyNext (.ref I)) Q E s := by
  have hT : s.TypeIs (.ref I) "set_iterator" := ⟨_, hI, rfl⟩
  unfold pyNext
  refine wpAny_bind (wpAny_attempt (wpAny_callSpecial?_slot (name := Str.ofString "__next__") hT slot_setit_next
    (wpAny_call_entry slot_setit_next hT entry_setit_next ?_ (args_setit_next _))))
  unfold Builtin.«set_iterator.__next__»
  refine wpAny_bind (wpAny_pure ?_)
  refine wpAny_bind (wpAny_fieldsOf hI rfl ?_)
  dsimp only [rawInt]
  refine wpAny_bind (wpAny_setEntries_of ho hd hf ?_)
  rw [if_neg (by simp)]
  refine wpAny_bind (wpAny_seqItems hT' rfl ?_)
  dsimp only
  rw [Int.toNat_natCast, hp]
  dsimp only
  obtain ⟨hp, g, d, tk, os⟩ := s
  refine wpAny_bind (put_field hI (by simp) fun h1 g1 b1 => ?_)
  refine wpAny_bind (put_field g1 (by simp) fun h2 g2 b2 => ?_)
  show wpAny _ _ (newExc (.type "StopIteration") [] >>= _) _ _ _
  refine wpAny_bind ?_
  simp only [newExc, newTuple]
  refine wpAny_bind (wpAny_newObj_type ?_ (by size_fits))
  refine wpAny_bind (m := firstArgMember _ _) (wpAny_of_eq (a := Value.none) (by first | rfl | (simp only [firstArgMember]; rfl)) ?_)
  refine wpAny_newObj_type ?_ (by size_fits)
  simp only [raiseNew]
  refine wpAny_bind (wpAny_handled ?_)
  rw [show A.in1.handled = none from hh]
  refine wpAny_bind (wpAny_pure (wpAny_throw ?_))
  refine wpAny_bind (wpAny_isInstance (T := "StopIteration") (b := true) ⟨_, Heap.get?_push_size _ rfl, rfl⟩ isSubtype_stop ?_)
  exact wpAny_pure (h _ (((b1.trans b2).extBut.push _).push _))
end
end Mine
end

section
open PySem PyProof.Rows PySem.Spec
namespace Mine
open Builtin

theorem slot_setit_iter : Slot "set_iterator" "__iter__" "set_iterator.__iter__" :=
  .of (owner := "set_iterator") (n := "__iter__") (by rw [typeLookup_type, builtinLookup_eq_fast]; kernel_rfl) (by decide +kernel) (by decide +kernel) (by decide +kernel)
    (by first | exact .inl (by decide +kernel) | exact .inr (by decide +kernel)) (by rw [isSubtype_type]; kernel_rfl)
theorem entry_setit_iter : entryFor table "set_iterator.__iter__" = some Builtin.«dict_keyiterator.__iter__» := entryFor_alias (id' := "dict_keyiterator.__iter__") (by kernel_rfl) rfl (by decide +kernel) (by kernel_rfl)
theorem args_setit_iter (a : Value) : argsOk "set_iterator.__iter__" ⟨[a], []⟩ := by unfold argsOk; kernel_rfl

section
variable {prog : Program} {w : World} {A : Around} {E : Value → Shared → Prop} {s : Shared}

theorem it_self {I S : Addr} {f : Value} {i n ep : Nat} {Q : Value → Shared → Prop} (hI : s.heap.get? I = some (itObj f i S n ep)) (h : Q (.ref I) s) : wpAny (model prog w) A (pyIter (.ref I)) Q E s := by
  have hT : s.TypeIs (.ref I) "set_iterator" := ⟨_, hI, rfl⟩
  refine wpAny_pyIter_slot hT slot_setit_iter (wpAny_call_entry slot_setit_iter hT entry_setit_iter ?_ (args_setit_iter _))
  show wpAny _ _ (ret (.ref I)) _ _ s
  exact wpAny_pure ⟨_, rfl, "set_iterator", _, hT, slot_setit_next.lookup, h⟩

/-- the walk of a set whose iterator keeps a slot -/
theorem walk_int (hh : A.handled = none) {I S : Addr} (hne : S ≠ I) {o : Obj} {es : Array (Int × Value)} {ep : Nat} {t : SetTable} (hd : o.data = .set es ep t) (hf : t.fits es.size = true) (vals : Array Value) (hv : vals.size = es.size) (sl : Nat → Nat)
    (hitem : ∀ (i : Nat) (hi : i < vals.size) (s : Shared) (Q' : Option (Value × Nat) → Shared → Prop) (E' : Value → Shared → Prop), s.heap.get? S = some o → Q' (some (vals[i], sl (i + 1))) s → wpAny (model prog w) A.in1 (setNext S (sl i) i ep) Q' E' s)
    (hdone : ∀ (s : Shared) (Q' : Option (Value × Nat) → Shared → Prop) (E' : Value → Shared → Prop), s.heap.get? S = some o → Q' none s → wpAny (model prog w) A.in1 (setNext S (sl vals.size) vals.size ep) Q' E' s) :
    Walks prog w A I [I, S] [I] vals.size (fun i v => vals[i]? = some v) (fun i h => h.get? I = some (itObj (rawInt (sl i)) i S es.size ep) ∧ h.get? S = some o) where
  sub := fun b hb => by simp at hb; simp [hb]
  frame := fun _ _ _ st hk => ⟨hk I (by simp) _ st.1, hk S (by simp) _ st.2⟩
  item := fun i s Q E hi st hQ => by
    refine item_int (nx := sl (i + 1)) (x := vals[i]) st.1 st.2 hd hf (fun {Q' E'} q => hitem i hi s Q' E' st.2 q) fun h' g b => ?_
    exact hQ _ h' s.toks (by simp [hi]) ⟨g, b.extBut S _ hne st.2⟩ fun c oc hc e => b.extBut c oc (fun q => hc (by simp [q])) e
  done := fun s Q E st hQ => by
    refine end_int hh st.1 st.2 hd hf (fun {Q' E'} q => hdone s Q' E' st.2 q) fun h' b => hQ h' s.toks fun c oc hc e => b c oc (fun q => hc (by simp [q])) e
  self := fun _ _ _ _ st hQ => it_self st.1 hQ

theorem walk_tup (hh : A.handled = none) {I S T : Addr} (hne : S ≠ I) (hnT : T ≠ I) {o : Obj} {es : Array (Int × Value)} {ep nt : Nat} {t : SetTable} (hd : o.data = .set es ep t) (hf : t.fits es.size = true) (ys : List Nat) (hy : ∀ y ∈ ys, y < es.size) (vals : Array Value) (hv : vals.size = ys.length)
    (hvals : ∀ i (hi : i < ys.length), vals[i]? = some (es.getD ys[i] (0, .none)).2) :
    Walks prog w A I [I, S, T] [I] vals.size (fun i v => vals[i]? = some v) (fun i h => h.get? I = some (itObj (.ref T) i S es.size ep) ∧ h.get? S = some o ∧ h.get? T = some { cls := .type "tuple", data := .seq (ys.map fun (y : Nat) => rawInt y).toArray nt }) where
  sub := fun b hb => by simp at hb; simp [hb]
  frame := fun _ _ _ st hk => ⟨hk I (by simp) _ st.1, hk S (by simp) _ st.2.1, hk T (by simp) _ st.2.2⟩
  item := fun i s Q E hi st hQ => by
    have hi' : i < ys.length := by omega
    have hyi : ys[i] < es.size := hy _ (List.getElem_mem hi')
    refine item_tup (p := ys[i]) (u := 0) (x := es[ys[i]]) st.1 st.2.1 hd hf st.2.2 (by simp [hi', rawInt]) (by simp [hyi]) fun h' g b => ?_
    refine hQ _ h' s.toks ?_ ⟨g, b.extBut S _ hne st.2.1, b.extBut T _ hnT st.2.2⟩ fun c oc hc e => b.extBut c oc (fun q => hc (by simp [q])) e
    rw [hvals i hi']
    simp [Array.getD_eq_getD_getElem?, hyi]
  done := fun s Q E st hQ => by
    refine end_tup hh st.1 st.2.1 hd hf st.2.2 (by simp [hv]) fun h' b => hQ h' s.toks fun c oc hc e => b c oc (fun q => hc (by simp [q])) e
  self := fun _ _ _ _ st hQ => it_self st.1 hQ
end
end Mine
end

section
open PySem PyProof.Rows PySem.Spec
namespace Mine
open Builtin

theorem ints_list (prog : Program) (w : World) : ∀ l : List Value, (∀ v ∈ l, ∃ k, (intKind prog w).is k v = true) → ∃ ms, IntsAre l ms ∧ (∀ k, k ∈ ms ↔ ∃ v ∈ l, (intKind prog w).is k v = true) ∧ ms.length = l.length
  | [], _ => ⟨[], .nil, fun k => by simp, rfl⟩
  | v :: l, h => by
    obtain ⟨ms, a, b, c⟩ := ints_list prog w l fun v hv => h v (.tail _ hv)
    obtain ⟨k, hk⟩ := h v (.head _)
    obtain ⟨t, rfl⟩ := Value.isInt_shape hk
    refine ⟨k :: ms, .cons k t a, fun k' => ?_, by simp [c]⟩
    rw [List.mem_cons, b k']
    constructor
    · rintro (rfl | ⟨v, hv, q⟩)
      · exact ⟨_, .head _, hk⟩
      · exact ⟨v, .tail _ hv, q⟩
    · rintro ⟨v, hv, q⟩
      rcases List.mem_cons.mp hv with rfl | hv
      · exact .inl ((intKind prog w).inj _ _ _ q hk)
      · exact .inr ⟨v, hv, q⟩

def ValsOf (vals : List Value) (ks : List Int) : Prop := ∃ ms, IntsAre vals ms ∧ (∀ k, k ∈ ms ↔ k ∈ ks) ∧ ms.length ≤ ks.length

theorem vals_perm {prog : Program} {w : World} {es : List (Int × Value)} {ks : List Int} {vals : List Value} (hp : vals.Perm (es.map (·.2))) (hel : ElemsOf (intKind prog w) es) (hm : ∀ k, k ∈ ks ↔ ∃ e ∈ es, (intKind prog w).is k e.2 = true) (hs : es.length ≤ ks.length) : ValsOf vals ks := by
  obtain ⟨ms, a, b, c⟩ := ints_list prog w vals fun v hv => by
    obtain ⟨e, he, rfl⟩ := List.mem_map.mp (hp.mem_iff.mp hv)
    exact hel.keys e he
  refine ⟨ms, a, fun k => ?_, ?_⟩
  · rw [b k, hm k]
    constructor
    · rintro ⟨v, hv, q⟩
      obtain ⟨e, he, rfl⟩ := List.mem_map.mp (hp.mem_iff.mp hv)
      exact ⟨e, he, q⟩
    · rintro ⟨e, he, q⟩
      exact ⟨e.2, hp.mem_iff.mpr (List.mem_map.mpr ⟨e, he, rfl⟩), q⟩
  · rw [c, hp.length_eq, List.length_map]; exact hs

theorem map_range_getD (es : Array (Int × Value)) : (List.range es.size).map (fun i => (es.getD i (0, .none)).2) = es.toList.map (·.2) := by
  apply List.ext_getElem
  · simp
  · intro i h1 h2
    simp at h1
    simp [Array.getD_eq_getD_getElem?, h1]

section
variable {prog : Program} {w : World} {A : Around} {E : Value → Shared → Prop} {s : Shared}

theorem iter_slot {S : Addr} {Q : Value → Shared → Prop} (hT : s.TypeIs (.ref S) "set")
    (h : wpAny (model prog w) A.in1 (Builtin.«frozenset.__iter__» ⟨[.ref S], []⟩) (fun fin s' => ∃ J, fin = .done (.ret (.ref J)) ∧ s'.TypeIs (.ref J) "set_iterator" ∧ Q (.ref J) s') E s) : wpAny (model prog w) A (pyIter (.ref S)) Q E s := by
  refine wpAny_pyIter_slot hT slot_set_iter (wpAny_call_entry slot_set_iter hT entry_set_iter ?_ (args_set_iter _))
  exact wpAny_mono h (fun fin s' ⟨J, e, t, q⟩ => ⟨_, e, "set_iterator", _, t, slot_setit_next.lookup, q⟩) fun _ _ x => x

theorem set_iter {S : Addr} {o : Obj} {ks : List Int} {Q : Value → Shared → Prop} (ho : s.heap.get? S = some o) (I : OSet prog w o ks (ledBy w)) (hks : ks.length < scanBound)
    (h : ∀ (J : Addr) (h' : Heap) (dr : Drawn) (vals : Array Value) (fp : List Addr) (St : Nat → Heap → Prop), (∀ A' : Around, A'.handled = none → Walks prog w A' J fp [J] vals.size (fun i v => vals[i]? = some v) St) → St 0 h' →
      (∀ b ∈ fp, b = S ∨ s.heap.objs.size ≤ b) → J ∈ fp → (∀ b o, s.heap.get? b = some o → h'.get? b = some o) → s.heap.objs.size ≤ J → ValsOf vals.toList ks → Q (.ref J) { s with heap := h', drawn := dr }) :
    wpAny (model prog w) A (pyIter (.ref S)) Q E s := by
  obtain ⟨hex, es, ep, t, hd, hel, hm, hsz, T⟩ := I
  have hT : s.TypeIs (.ref S) "set" := ⟨_, ho, hex.1⟩
  have hlt : S < s.heap.objs.size := Heap.lt_size ho
  refine iter_slot hT ?_
  unfold Builtin.«frozenset.__iter__» Builtin.Frozenset.slot0
  refine wpAny_bind (wpAny_bind (wpAny_pure ?_))
  unfold Builtin.Frozenset.addrOf Builtin.Frozenset.sizeOf
  refine wpAny_pure ?_
  refine wpAny_bind (wpAny_bind (wpAny_setEntries_of ho hd T.fits (wpAny_pure ?_)))
  refine wpAny_bind ?_
  unfold setDrawn
  refine wpAny_bind (wpAny_setState_of ho hd T.fits ?_)
  dsimp only
  refine wpAny_bind (by_text (wpAny_pure ?_))
  have last : ∀ (f : Value) (s₁ : Shared), s₁.heap.get? S = some o → (∀ J h', J = s₁.heap.objs.size → h' = s₁.heap.push (itObj f 0 S es.size ep) → Q (.ref J) { s₁ with heap := h' }) →
      wpAny (model prog w) A.in1 (do ret (← newFields "set_iterator" [f, rawInt 0, .ref S, rawInt es.size, rawInt (← setEpoch S)])) (fun fin s' => ∃ J, fin = .done (.ret (.ref J)) ∧ s'.TypeIs (.ref J) "set_iterator" ∧ Q (.ref J) s') E s₁ := by
    intro f s₁ ho₁ hq
    refine wpAny_bind (wpAny_setEpoch_of ho₁ hd T.fits ?_)
    refine wpAny_bind (wpAny_newObj_type (wpAny_pure ⟨_, rfl, ⟨_, Heap.get?_push_size _ rfl, rfl⟩, hq _ _ rfl rfl⟩))
  show wpAny (model prog w) A.in1 (if (!w.params.followText "set-order" && (!t.plain && decide (es.size > 1))) = true then _ else _) _ E s
  have hneJ : S ≠ s.heap.objs.size := Nat.ne_of_lt hlt
  have gJ : ∀ f, (s.heap.push (itObj f 0 S es.size ep)).get? s.heap.objs.size = some (itObj f 0 S es.size ep) := fun f => Heap.get?_push_size _ rfl
  cases hw : w.params.followText "set-order" with
  | true =>
    rw [if_neg (by simp)]
    refine wpAny_bind (wpAny_pure (last _ s ho fun J h' eJ eh => ?_))
    subst eJ; subst eh
    have hp : (((textOrd w S ep es).map (·.2)).toList).Perm (es.toList.map (·.2)) := by rw [Array.toList_map]; exact (pick_perm _ es).map _
    have hz : ((textOrd w S ep es).map (·.2)).size = es.size := by have := hp.length_eq; simpa using this
    refine h _ _ s.drawn ((textOrd w S ep es).map (·.2)) [s.heap.objs.size, S] _ (fun A' hA => walk_int hA hneJ hd T.fits _ hz (fun _ => 0) (fun i hi s₁ Q' E' g q => ?_) (fun s₁ Q' E' g q => ?_)) ⟨gJ _, Heap.get?_push_of_some _ ho⟩ ?_ (by simp) (fun b o e => Heap.get?_push_of_some _ e) (Nat.le_refl _) (vals_perm hp hel hm (by simpa using hsz))
    · refine next_text hw g hd T.fits ?_
      have hi' : i < (textOrd w S ep es).size := by simpa using hi
      rw [Array.getElem?_eq_getElem hi']
      simpa using q
    · refine next_text hw g hd T.fits ?_
      have : (textOrd w S ep es)[((textOrd w S ep es).map (·.2)).size]? = none := by simp
      rw [this]
      exact q
    · intro b hb
      simp only [List.mem_cons, List.not_mem_nil, or_false] at hb
      rcases hb with hb | hb <;> rw [hb]
      · exact .inr (Nat.le_refl _)
      · exact .inl rfl
  | false =>
    have hl : t.led = true := by rw [T.led]; unfold ledBy; rw [hw]; rfl
    have T' : Tab t es.size true := ⟨T.fits, T.up, T.clean, hl⟩
    have hps : t.place.size = es.size := by have := T.fits; simp only [SetTable.fits, Bool.and_eq_true, beq_iff_eq] at this; exact this.1
    cases hdr : (!t.plain && decide (es.size > 1)) with
    | false =>
      rw [if_neg (by simp)]
      refine wpAny_bind (wpAny_pure (last _ s ho fun J h' eJ eh => ?_))
      subst eJ; subst eh
      have hp : ((es.map (·.2)).toList).Perm (es.toList.map (·.2)) := by rw [Array.toList_map]
      have hbel : ∀ i, i ≤ es.size → SetTable.below t.place (if i = 0 then 0 else t.place.getD (i - 1) 0 + 1) = i := by
        intro i hi
        by_cases h0 : i = 0
        · rw [if_pos h0, h0]; exact below_zero _ T.up
        · rw [if_neg h0, below_next _ T.up _ (by omega)]; omega
      refine h _ _ s.drawn (es.map (·.2)) [s.heap.objs.size, S] _ (fun A' hA => walk_int hA hneJ hd T.fits _ (by simp) (fun i => if i = 0 then 0 else t.place.getD (i - 1) 0 + 1) (fun i hi s₁ Q' E' g q => ?_) (fun s₁ Q' E' g q => ?_)) ⟨gJ _, Heap.get?_push_of_some _ ho⟩ ?_ (by simp) (fun b o e => Heap.get?_push_of_some _ e) (Nat.le_refl _) (vals_perm hp hel hm (by simpa using hsz))
      · have hi' : i < es.size := by simpa using hi
        refine next_led hw g hd T' hdr ?_
        rw [hbel i (by omega), Array.getElem?_eq_getElem hi', Array.getElem?_eq_getElem (by omega)]
        simpa [Array.getD_eq_getD_getElem?, (by omega : i < t.place.size)] using q
      · refine next_led hw g hd T' hdr ?_
        have e1 : (es.map (·.2)).size = es.size := by simp
        rw [e1, hbel _ (Nat.le_refl _), Array.getElem?_eq_none (Nat.le_refl _)]
        exact q
      · intro b hb
        simp only [List.mem_cons, List.not_mem_nil, or_false] at hb
        rcases hb with hb | hb <;> rw [hb]
        · exact .inr (Nat.le_refl _)
        · exact .inl rfl
    | true =>
      rw [if_pos (by simp)]
      refine wpAny_bind (draw_any es.size (List.range es.size) s _ (by simp) fun ys dr hy => ?_)
      have hyl : ys.length = es.size := by rw [hy.length_eq]; simp
      refine wpAny_bind ?_
      refine wpAny_newObj_type ?_ (by show (List.toArray _).size ≤ sizeLine; rw [List.size_toArray, List.length_map, hyl]; exact fits_of_scanBound (by omega))
      refine last _ _ (Heap.get?_push_of_some _ ho) fun J h' eJ eh => ?_
      subst eJ; subst eh
      have hys : ∀ y ∈ ys, y < es.size := fun y q => by simpa using hy.mem_iff.mp q
      have hp : (((ys.map fun y => (es.getD y (0, .none)).2).toArray).toList).Perm (es.toList.map (·.2)) := by
        rw [← map_range_getD]
        exact hy.map _
      have gT : (s.heap.push { cls := .type "tuple", data := .seq (ys.map fun (y : Nat) => rawInt y).toArray }).get? s.heap.objs.size = some { cls := .type "tuple", data := .seq (ys.map fun (y : Nat) => rawInt y).toArray } := Heap.get?_push_size _ rfl
      have hsz1 : (s.heap.push { cls := .type "tuple", data := .seq (ys.map fun (y : Nat) => rawInt y).toArray }).objs.size = s.heap.objs.size + 1 := Heap.size_push _ _
      show Q (.ref (s.heap.push { cls := .type "tuple", data := .seq (ys.map fun (y : Nat) => rawInt y).toArray }).objs.size) _
      rw [hsz1]
      refine h (s.heap.objs.size + 1) _ dr ((ys.map fun y => (es.getD y (0, .none)).2).toArray) [s.heap.objs.size + 1, S, s.heap.objs.size] (fun i h => h.get? (s.heap.objs.size + 1) = some (itObj (.ref s.heap.objs.size) i S es.size ep) ∧ h.get? S = some o ∧ h.get? s.heap.objs.size = some { cls := .type "tuple", data := .seq (ys.map fun (y : Nat) => rawInt y).toArray 0 })
        (fun A' hA => walk_tup hA (Nat.ne_of_lt (Nat.lt_succ_of_lt hlt)) (Nat.ne_of_lt (Nat.lt_succ_self _)) hd T.fits ys hys _ (by simp) (fun i hi => ?_)) ⟨?_, Heap.get?_push_of_some _ (Heap.get?_push_of_some _ ho), Heap.get?_push_of_some _ gT⟩ ?_ (by simp) (fun b o e => Heap.get?_push_of_some _ (Heap.get?_push_of_some _ e)) (Nat.le_succ _) (vals_perm hp hel hm (by simpa using hsz))
      · simp [hi]
      · rw [← hsz1]; exact Heap.get?_push_size _ rfl
      · intro b hb
        simp only [List.mem_cons, List.not_mem_nil, or_false] at hb
        rcases hb with hb | hb | hb <;> rw [hb]
        · exact .inr (Nat.le_succ _)
        · exact .inl rfl
        · exact .inr (Nat.le_refl _)
end
end Mine
end

section
open PySem PyProof.Rows PySem.Spec
namespace Mine
open Builtin

section
variable {prog : Program} {w : World} {A : Around} {E : Value → Shared → Prop} {s : Shared}

theorem wp_if {α : Type} {M : Model} {c : Prop} [Decidable c] {a b : Sem α} {Q : α → Shared → Prop} (hc : c) (h : wpAny M A a Q E s) : wpAny M A (if c then a else b) Q E s := by
  rw [if_pos hc]; exact h

theorem hint_set {S : Addr} {Q : Bool → Shared → Prop} (hT : s.TypeIs (.ref S) "set") (h : Q false s) : wpAny (model prog w) A (Builtin.List.listLengthHint (.ref S)) Q E s := by
  have hsub := sub_set_self
  obtain ⟨hp, g, d, tk, os⟩ := s
  unfold Builtin.List.listLengthHint
  refine wpAny_bind (wpAny_specialOf hT set_len_look ?_)
  have e : splitId "set.__len__" = some ("set", "__len__") := by decide +kernel
  dsimp only
  rw [e]
  dsimp only
  refine wpAny_bind (wpAny_isInstance hT hsub ?_)
  rw [if_neg (by simp)]
  refine wp_if ?_ ?_
  · decide +kernel
  · refine wpAny_bind (wpAny_typeOf hT ?_)
    exact wpAny_pure h

theorem collect_set {S : Addr} {o : Obj} {ks : List Int} {Q : List Value → Shared → Prop} (hh : A.handled = none) (ho : s.heap.get? S = some o) (I : OSet prog w o ks (ledBy w)) (hks : ks.length < scanBound)
    (h : ∀ (vals : List Value) (h' : Heap) (dr : Drawn) (tk : Nat), ValsOf vals ks → (∀ b o, s.heap.get? b = some o → h'.get? b = some o) → s.heap.objs.size < h'.objs.size → Q vals { s with heap := h', drawn := dr, toks := tk }) :
    wpAny (model prog w) A (collect (.ref S)) Q E s := by
  have hex := I.1
  have hlt : S < s.heap.objs.size := Heap.lt_size ho
  unfold collect
  refine wpAny_bind (wpAny_runValue (codeAny_builtin PySem.F.entry_proto_collect ?_))
  rw [Around.under_plainId PySem.F.plain_proto_collect _]
  show wpAny _ A.in1 (newList [] >>= fun l => again (.builtin "list.__iadd__" ⟨[l, .ref S], []⟩)) _ _ s
  refine wpAny_bind (wpAny_newObj_type ?_)
  refine wpAny_pure ⟨plainId_quiet PySem.F.plain_list_iadd _, codeAny_builtin PySem.F.entry_list_iadd ?_⟩
  rw [Around.under_plainId PySem.F.plain_list_iadd _]
  generalize hL : s.heap.objs.size = L
  have hS₁ : (s.heap.push { cls := .type "list", data := .seq ([] : List Value).toArray }).get? L = some { cls := .type "list", data := .seq ([] : List Value).toArray } := by rw [← hL]; exact Heap.get?_push_size _ rfl
  have keep₁ : ∀ b ob, s.heap.get? b = some ob → (s.heap.push { cls := .type "list", data := .seq ([] : List Value).toArray }).get? b = some ob := fun b ob e => Heap.get?_push_of_some _ e
  have hnew : ∀ b ob, s.heap.get? b = some ob → b ≠ L := fun b ob e => by rw [← hL]; exact Nat.ne_of_lt (Heap.lt_size e)
  have hs1 : (s.heap.push { cls := .type "list", data := .seq ([] : List Value).toArray }).objs.size = L + 1 := by rw [Heap.size_push, hL]
  generalize (s.heap.push { cls := .type "list", data := .seq ([] : List Value).toArray }) = h₁ at hS₁ keep₁ hs1
  have ho₁ := keep₁ S o ho
  have hT : Shared.TypeIs { s with heap := h₁ } (.ref S) "set" := ⟨_, ho₁, hex.1⟩
  show wpAny _ A.in1 (Builtin.List.listExtendWith (.ref L) (.ref S) (.ref L)) _ _ _
  unfold Builtin.List.listExtendWith
  refine wpAny_bind (wpAny_typeOf hT ?_)
  have e1 : Builtin.List.listSameRef (.ref L) (.ref S) = false := by
    have : L ≠ S := fun e => hnew S o ho e.symm
    simp [Builtin.List.listSameRef, this]
  have e2 : (Value.type "set" == Value.type "list") = false := by decide
  have e3 : (Value.type "set" == Value.type "tuple") = false := by decide
  simp only [e1, e2, e3, Bool.or_false, Bool.false_eq_true, if_false]
  refine wpAny_bind (set_iter (s := { s with heap := h₁ }) ho₁ I hks fun J h₂ dr vals fp St W st hfp hJ keep₂ hJs hv => ?_)
  have ho₂ := keep₂ S o ho₁
  have hT₂ : Shared.TypeIs { s with heap := h₂, drawn := dr } (.ref S) "set" := ⟨_, ho₂, hex.1⟩
  refine wpAny_bind (wpAny_holding (hint_set hT₂ ?_))
  refine wp_if ?_ ?_
  · decide +kernel
  refine wpAny_bind (wpAny_rule ?_)
  have hS₂ := keep₂ L _ hS₁
  have hJs' : L + 1 ≤ J := by have := hJs; dsimp only at this; rw [hs1] at this; exact this
  have WW := (W A.in1 hh).toS
  have hneL : ∀ b ob, b ≠ L → h₂.get? b = some ob → ((h₂.update L (Obj.mapSeq (·.push Value.none))).update L (Obj.mapSeq (·.pop))).get? b = some ob :=
    fun b ob hb e => (Heap.get?_update_other _ _ (Ne.symm hb)).trans ((Heap.get?_update_other _ _ (Ne.symm hb)).trans e)
  have hLS : L ≠ S := fun e => hnew S o ho e.symm
  have hSf : L ∉ fp := fun q => by
    rcases hfp L q with e | e
    · exact hLS e
    · dsimp only at e; rw [hs1] at e; omega
  refine wpAny_bind ?_
  show wpAny _ A.in1 (updateSeq L (·.push .none) >>= fun _ => updateSeq L (·.pop)) _ _ _
  refine wpAny_bind (wpAny_updateSeq hS₂ rfl ?_)
  have hS₃ := Heap.get?_update_self (Obj.mapSeq (·.push Value.none)) hS₂ rfl
  refine wpAny_updateSeq (hz := by seq_fits) hS₃ rfl ?_
  have hS₄ := Heap.get?_update_self (Obj.mapSeq (·.pop)) hS₃ rfl
  have hvl : vals.size ≤ sizeLine := by
    obtain ⟨ms, a, _, c⟩ := hv
    have := IntsAre.length a
    rw [Array.length_toList] at this
    exact fits_of_scanBound (by omega)
  refine wpAny_pure ⟨plainId_quiet PySem.F.plain_extend_loop _, codeAny_extend_loopS WW hvl _ hSf _ vals.size 0 _ _ _ rfl (Nat.zero_le _) ?st hS₄ (ItemsOf.nil _) ?fin⟩
  case st => exact (W A.in1 hh).frame 0 h₂ _ st fun b hb ob e => hneL b ob (fun q => hSf (q ▸ hb)) e
  case fin =>
    intro s' acc' c' hm hS' hacc
    obtain ⟨h', gg, d', tk', os'⟩ := s'
    have eg : gg = s.gens := hm.gens
    have ed : d' = dr := hm.drawn
    have eo : os' = s.os := hm.os
    subst eg; subst ed; subst eo
    refine wpAny_bind (wpAny_load hS' ?_)
    dsimp only
    have ea : acc' = vals := by
      apply Array.ext
      · exact hacc.1
      · intro i h1 h2
        have : vals[i]? = some acc'[i] := hacc.2 i acc'[i] (by simp [h1])
        rw [Array.getElem?_eq_getElem h2] at this
        exact (Option.some.inj this).symm
    rw [ea]
    refine wpAny_pure (h vals.toList h' d' tk' hv (fun b ob e => ?_) (by rw [hL]; exact Heap.lt_size hS'))
    have hbL := hnew b ob e
    have hbJ : b ≠ J := fun q => by
      have := Heap.lt_size e
      rw [q, hL] at this
      exact absurd (Nat.lt_of_lt_of_le this (Nat.le_of_succ_le hJs')) (Nat.lt_irrefl _)
    exact hm.heap b ob (by simp only [List.mem_cons, List.not_mem_nil, or_false, not_or]; exact ⟨hbL, hbJ⟩) (hneL b ob hbL (keep₂ b ob (keep₁ b ob e)))

theorem sorted_set {S : Addr} {o : Obj} {ks : List Int} {Q : Value → Shared → Prop} (hh : A.handled = none) (ho : s.heap.get? S = some o) (I : OSet prog w o ks (ledBy w)) (hks : ks.length < 64)
    (h : ∀ (D : Addr) (vs : List Value) (ms : List Int) (e : Nat) (h' : Heap) (dr : Drawn) (tk : Nat), IntsAre vs ms → (∀ k, k ∈ ms ↔ k ∈ ks) → ms.length ≤ ks.length → ms.Pairwise (· ≤ ·) →
      h'.get? D = some (seqObj "list" vs.toArray e) → s.heap.objs.size ≤ D → (∀ b o, s.heap.get? b = some o → h'.get? b = some o) → Q (.ref D) { s with heap := h', drawn := dr, toks := tk }) :
    wpAny (model prog w) A (call (.builtin "sorted") [.ref S]) Q E s := by
  refine Calls.call_function_entry kind_sorted plain_sorted entry_sorted (args_sorted1 _) ?_
  unfold Builtin.«sorted»
  refine wpAny_bind (m := checkCount "sorted" 1 1 _) (wpAny_pure ?_)
  refine wpAny_bind (collect_set (A := A.in1) hh ho I (by unfold scanBound; omega) fun vals h₁ dr tk hv keep hge => ?_)
  obtain ⟨ms, a, b, c⟩ := hv
  have hlen : vals.length < 64 := by rw [IntsAre.length a]; omega
  refine wpAny_bind (wpAny_newList ?_ (by rw [sizeLine_eq]; omega))
  have hoL : (h₁.push (seqObj "list" vals.toArray 0)).get? h₁.objs.size = some (seqObj "list" vals.toArray 0) := Heap.get?_push_size _ rfl
  refine wpAny_bind (wpAny_holding (wpAny_call_entry slot_list_sort ⟨_, hoL, rfl⟩ entry_list_sort (list_sort_tree hoL a hlen fun out ns' a1 a2 a3 => ⟨_, rfl, ?_⟩) (args_list_sort _)))
  obtain ⟨e, he⟩ := sortedHeap_at (vs := vals) (out := out) hoL
  refine wpAny_pure ⟨_, rfl, h h₁.objs.size out.toList ns' e _ dr tk a1 (fun k => (a2.mem_iff).trans (b k)) (by rw [a2.length_eq]; exact c) a3 he (Nat.le_of_lt hge) fun b ob e => ?_⟩
  have e1 := keep b ob e
  have hb : b < h₁.objs.size := Heap.lt_size e1
  rw [sortedHeap_old (Nat.ne_of_lt hb) (by rw [Heap.size_push]; exact Nat.lt_succ_of_lt hb)]
  exact Heap.get?_push_of_some _ e1
end
end Mine
end

section
open PySem PySem.W PyProof.Rows
namespace Mine

section
variable {prog : Program} {w : World} {A : Around} {E : Value → Shared → Prop} {s : Shared} {h₀ : Heap} {L : Addr} {m : Str → Option Value} {news : List (Addr × Obj)}

theorem call_set_K {l : Addr} {vs : List Value} {ns : List Int} {Q : Value → Shared → Prop} (F : Fr h₀ L s.heap m) (N : News h₀ L s.heap news) (hh : A.handled = none) (hl : s.heap.IsList l vs.toArray) (hi : IntsAre vs ns) (hb : ns.length < 64)
    (h : ∀ (D : Addr) (o : Obj) (h' : Heap) (tk : Nat), Fr h₀ L h' m → News h₀ L h' ((D, o) :: news) → (∀ p ∈ news, p.1 < D) → OSet prog w o ns (ledBy w) → Q (.ref D) { s with heap := h', toks := tk }) :
    wpAny (model prog w) A (call (.type "set") [.ref l]) Q E s := by
  refine call_set hh hl (by simpa using hi) (by unfold scanBound; omega) fun h' o tk g I k => ?_
  have k' : ∀ b ob, s.heap.get? b = some ob → h'.get? b = some ob := fun b ob e => k b ob (Heap.lt_size e) e
  exact h _ o h' tk (F.kept k') (N.kept_cons F k' (Nat.le_refl _) g) (fun p hp => Heap.lt_size (N p hp).1) I

/-- a sorted list of what a list held -/
structure SortedOf (ms ks : List Int) : Prop where
  mem : ∀ k, k ∈ ms ↔ k ∈ ks
  len : ms.length ≤ ks.length
  up : ms.Pairwise (· ≤ ·)

theorem sorted_set_K {S : Addr} {o : Obj} {ks : List Int} {Q : Value → Shared → Prop} (F : Fr h₀ L s.heap m) (N : News h₀ L s.heap news) (hh : A.handled = none) (hm : (S, o) ∈ news) (I : OSet prog w o ks (ledBy w)) (hks : ks.length < 64)
    (h : ∀ (D : Addr) (vs : List Value) (ms : List Int) (e : Nat) (h' : Heap) (dr : Drawn) (tk : Nat), Fr h₀ L h' m → News h₀ L h' ((D, W.listOf vs.toArray e) :: news) → (∀ p ∈ news, p.1 < D) → IntsAre vs ms → SortedOf ms ks → Q (.ref D) { s with heap := h', drawn := dr, toks := tk }) :
    wpAny (model prog w) A (call (.builtin "sorted") [.ref S]) Q E s := by
  refine sorted_set hh (N _ hm).1 I hks fun D vs ms e h' dr tk a b c d g hge k => ?_
  exact h D vs ms e h' dr tk (F.kept k) (N.kept_cons F k hge g) (fun p hp => Nat.lt_of_lt_of_le (Heap.lt_size (N p hp).1) hge) a ⟨b, c, d⟩
end
end Mine
end

section
namespace Mine
/-- a two to the power of n -/
def pw (n : Int) : Int := 2 ^ n.toNat
def rowA (h : Int) (ms : List Int) : Int := (ms.map fun m => pw (60 * h + m)).sum
def rowB (h : Int) (ms : List Int) : Int := (ms.map fun m => pw (6039 + -(60 * h + m))).sum
def totA (hs ms : List Int) : Int := (hs.map fun h => rowA h ms).sum
def totB (hs ms : List Int) : Int := (hs.map fun h => rowB h ms).sum
def RowInv (a0 b0 h : Int) (pre : List Int) (a b : Int) : Prop := a = a0 + rowA h pre ∧ b = b0 + rowB h pre
def AllInv (ms pre : List Int) (a b : Int) : Prop := a = totA pre ms ∧ b = totB pre ms
theorem RowInv.start (a b h : Int) : RowInv a b h [] a b := ⟨(Int.add_zero _).symm, (Int.add_zero _).symm⟩
theorem RowInv.step {a0 b0 h a b : Int} {pre : List Int} (m : Int) (I : RowInv a0 b0 h pre a b) : RowInv a0 b0 h (pre ++ [m]) (a + pw (60 * h + m)) (b + pw (6039 + -(60 * h + m))) := by
  unfold RowInv rowA rowB at *
  simp only [List.map_append, List.sum_append, List.map_cons, List.map_nil, List.sum_cons, List.sum_nil]
  omega
theorem AllInv.start (ms : List Int) : AllInv ms [] 0 0 := ⟨rfl, rfl⟩
theorem AllInv.step {ms pre : List Int} {h a b a' b' : Int} (I : AllInv ms pre a b) (J : RowInv a b h ms a' b') : AllInv ms (pre ++ [h]) a' b' := by
  unfold AllInv RowInv totA totB at *
  simp only [List.map_append, List.sum_append, List.map_cons, List.map_nil, List.sum_cons, List.sum_nil]
  omega
end Mine
end

section
open PySem PySem.W PyProof.Rows
namespace Mine
open Builtin.Int (intBits)

section
variable {w : World} {mean : ExcName → Option Value} {mg mb : Str → Option Value} {news : List (Addr × Obj)} {dp un : Nat} {gd : Option (List Code)} {cn : Str} {cs : Scope} {ad : Addr} {ccd : Value} {cl : List (Str × Addr)} {outer : List Env} {A₀ : Around} {base h₀ : Heap} {L : Addr} {mm : Str → Option Value} {s : Shared} {Q E : Value → Shared → Prop}

def GoodT (T : Str) (v : Int) : Prop := Nonempty (Good T v)

theorem zone_use {h m b v : Int} {t1 t2 t3 : Tok} (ha : 0 ≤ h ∧ h ≤ 99) (hb : 0 ≤ m ∧ m ≤ 99) (hc : b = 0 ∨ b = 1) (hv : (if b = 1 then -(3600 * h + 60 * m) else 3600 * h + 60 * m) = v)
    (B : Below A₀ base outer h₀) (F : Fr h₀ L s.heap mm) (X : (hd.heap_39 w.params).In h₀) (N : News h₀ L s.heap news) (T : Top hd.view_39 (looseW hd.view_39 [Str.ofString "UTC_ZONES", Str.ofString "TIMEZONE_RE"]) mean mg mb h₀) (hk : cs.kind = .function)
    (hd : dp + 1 < recursionLimit) (hu : un + 8 < cLine)
    (ret : ∀ (T : Str) (t : Tok) (h' : Heap) (tk' : Nat), GoodT T v → Fr h₀ L h' mm → News h₀ L h' news → Q (.str T t) { s with heap := h', toks := tk' }) :
      wpAny (model PySem.Challenge.rw_wb0018_01.row.prog w) (ktrTop dp un gd cn cs L ad ccd cl outer) (call (.ref 65) [.int h t1, .int m t2, .int b t3]) Q E s :=
  zone_c w mean mg mb news h m b t1 t2 t3 ha hb hc dp un gd cn cs ad ccd cl outer A₀ base h₀ L mm s Q E B F X N T hk hd hu fun T' t h' tk' Z F' N' => ret T' t h' tk' (by have := zone_good ha hb hc Z; rw [hv] at this; exact this) F' N'

theorem zone0_use {h m : Int} {t1 t2 t3 : Tok} (ha : 0 ≤ h ∧ h ≤ 99) (hb : 0 ≤ m ∧ m ≤ 99)
    (B : Below A₀ base outer h₀) (F : Fr h₀ L s.heap mm) (X : (hd.heap_39 w.params).In h₀) (N : News h₀ L s.heap news) (T : Top hd.view_39 (looseW hd.view_39 [Str.ofString "UTC_ZONES", Str.ofString "TIMEZONE_RE"]) mean mg mb h₀) (hk : cs.kind = .function)
    (hd : dp + 1 < recursionLimit) (hu : un + 8 < cLine)
    (ret : ∀ (T : Str) (t : Tok) (h' : Heap) (tk' : Nat), GoodT T (60 * (60 * h + m)) → 0 ≤ 60 * h + m ∧ 60 * h + m ≤ 6039 → Fr h₀ L h' mm → News h₀ L h' news → Q (.str T t) { s with heap := h', toks := tk' }) :
      wpAny (model PySem.Challenge.rw_wb0018_01.row.prog w) (ktrTop dp un gd cn cs L ad ccd cl outer) (call (.ref 65) [.int h t1, .int m t2, .int 0 t3]) Q E s :=
  zone_use ha hb (.inl rfl) (by rw [if_neg (by omega)]; omega) B F X N T hk hd hu fun T' t' h' tk' G => ret T' t' h' tk' G (by omega)

theorem zone1_use {h m : Int} {t1 t2 t3 : Tok} (ha : 0 ≤ h ∧ h ≤ 99) (hb : 0 ≤ m ∧ m ≤ 99)
    (B : Below A₀ base outer h₀) (F : Fr h₀ L s.heap mm) (X : (hd.heap_39 w.params).In h₀) (N : News h₀ L s.heap news) (T : Top hd.view_39 (looseW hd.view_39 [Str.ofString "UTC_ZONES", Str.ofString "TIMEZONE_RE"]) mean mg mb h₀) (hk : cs.kind = .function)
    (hd : dp + 1 < recursionLimit) (hu : un + 8 < cLine)
    (ret : ∀ (T : Str) (t : Tok) (h' : Heap) (tk' : Nat), GoodT T (60 * -(60 * h + m)) → 0 ≤ 60 * h + m ∧ 60 * h + m ≤ 6039 → Fr h₀ L h' mm → News h₀ L h' news → Q (.str T t) { s with heap := h', toks := tk' }) :
      wpAny (model PySem.Challenge.rw_wb0018_01.row.prog w) (ktrTop dp un gd cn cs L ad ccd cl outer) (call (.ref 65) [.int h t1, .int m t2, .int 1 t3]) Q E s :=
  zone_use ha hb (.inr rfl) (by rw [if_pos rfl]; omega) B F X N T hk hd hu fun T' t' h' tk' G => ret T' t' h' tk' G (by omega)

theorem off_use {T : Str} {v : Int} {t : Tok} (G : GoodT T v)
    (B : Below A₀ base outer h₀) (F : Fr h₀ L s.heap mm) (X : (hd.heap_39 w.params).In h₀) (N : News h₀ L s.heap news) (Tp : Top hd.view_39 (looseW hd.view_39 [Str.ofString "UTC_ZONES", Str.ofString "TIMEZONE_RE"]) mean mg mb h₀) (hk : cs.kind = .function)
    (hd : dp + 1 < recursionLimit) (hu : un + 8 < cLine)
    (ret : ∀ (t : Tok) (h' : Heap) (tk' : Nat), Fr h₀ L h' mm → News h₀ L h' news → Q (.int v t) { s with heap := h', toks := tk' }) :
      wpAny (model PySem.Challenge.rw_wb0018_01.row.prog w) (ktrTop dp un gd cn cs L ad ccd cl outer) (call (.ref 44) [.str T t]) Q E s := by
  obtain ⟨G⟩ := G
  refine off_c w mean mg mb news T t G.hT G.sp G.hm G.g1 G.g3 G.H G.p1 G.p2 G.p3 G.hsp G.hv G.hH G.hHl G.m3 G.h3 G.hZ dp un gd cn cs ad ccd cl outer A₀ base h₀ L mm s Q E B F X N Tp hk trivial hd hu ?_
  intro t' h' tk' F' N'
  rw [G.hval]
  exact ret _ _ _ F' N'

theorem div2_use {a b n : Int} {t1 t2 t3 : Tok} (h : Div2Says w mean mg mb a b n) (B : Below A₀ base outer h₀) (F : Fr h₀ L s.heap mm) (X : (hd.heap_39 w.params).In h₀) (N : News h₀ L s.heap news) (T : Top hd.view_39 (looseW hd.view_39 [Str.ofString "UTC_ZONES", Str.ofString "TIMEZONE_RE"]) mean mg mb h₀) (hk : cs.kind = .function)
    (hd : dp + 3 < recursionLimit) (hu : un + 24 < cLine)
    (ret : ∀ (D : Addr) (u1 u2 : Tok) (h' : Heap) (tk' : Nat), Fr h₀ L h' mm → News h₀ L h' ((D, ({ cls := .type "tuple", data := .seq #[.int (a.fdiv b) u1, .int (a.fmod b) u2] } : Obj)) :: news) → AllLt D news → Q (.ref D) { s with heap := h', toks := tk' }) :
      wpAny (model PySem.Challenge.rw_wb0018_01.row.prog w) (ktrTop dp un gd cn cs L ad ccd cl outer) (call (.ref 51) [.int a t1, .int b t2, .int n t3]) Q E s :=
  h news t1 t2 t3 dp un gd cn cs ad ccd cl outer A₀ base h₀ L mm s Q E B F X N T hk hd hu ret
end

theorem divmod_60 {prog : Program} {w : World} {A : Around} {E : Value → Shared → Prop} {s : Shared} {c : Int} {t u : Tok} {Q : Value → Shared → Prop} {h₀ : Heap} {L : Addr} {m : Str → Option Value} {news : List (Addr × Obj)} (F : Fr h₀ L s.heap m) (N : News h₀ L s.heap news)
    (h : ∀ (D : Addr) (u1 u2 : Tok) h' tk', Fr h₀ L h' m → News h₀ L h' ((D, ({ cls := .type "tuple", data := .seq #[.int c u1, .int 0 u2] } : Obj)) :: news) → AllLt D news → Q (.ref D) { s with heap := h', toks := tk' }) :
    wpAny (model prog w) A (call (.builtin "divmod") [.int (60 * c) t, .int 60 u]) Q E s :=
  divmod_K F N (by decide) (by decide) (by
    have e1 : (60 * c).fdiv 60 = c := by rw [Int.fdiv_eq_ediv_of_nonneg _ (by omega)]; omega
    have e2 : (60 * c).fmod 60 = 0 := by rw [Int.fmod_eq_emod_of_nonneg _ (by omega)]; omega
    rw [e1, e2]; exact h)

theorem shl_one {prog : Program} {w : World} {A : Around} {E : Value → Shared → Prop} {s : Shared} {n : Int} {t u : Tok} {Q : Value → Shared → Prop} (h0 : 0 ≤ n) (h1 : n ≤ 20000)
    (h : Q (.int (pw n) s.toks) { s with toks := s.toks + 1 }) : wpAny (model prog w) A (binaryOp .LShift (.int 1 t) (.int n u)) Q E s :=
  lshift_eq h0 (by rw [bits_one]; omega) (Int.one_mul _) h
theorem SortedOf.low {ms ks : List Int} {x : Int} (I : SortedOf ms ks) (h : x ∈ ms) : x ∈ ks := (I.mem x).mp h
end Mine
end

section
open PySem PySem.W PyProof.Rows
namespace Mine
theorem hours_bnd {ms : List Int} {p : Int → Bool} {xs : List Int} (I : SortedOf ms ([0, 1, 99] ++ List.map (fun a => a.fmod 100) (List.filter p xs))) {x : Int} (h : x ∈ ms) : 0 ≤ x ∧ x ≤ 99 := by
  have := (I.mem x).mp h
  simp only [List.mem_append, List.mem_cons, List.mem_map, List.not_mem_nil, or_false] at this
  rcases this with (rfl | rfl | rfl) | ⟨a, _, rfl⟩ <;> try omega
  rw [Int.fmod_eq_emod_of_nonneg _ (by omega)]; omega
theorem mins_bnd {ms : List Int} {p : Int → Bool} {xs : List Int} (I : SortedOf ms ([30, 90] ++ List.map (fun a => (a.fdiv 100).fmod 100) (List.filter p xs))) {x : Int} (h : x ∈ ms) : 0 ≤ x ∧ x ≤ 99 := by
  have := (I.mem x).mp h
  simp only [List.mem_append, List.mem_cons, List.mem_map, List.not_mem_nil, or_false] at this
  rcases this with (rfl | rfl) | ⟨a, _, rfl⟩ <;> try omega
  rw [Int.fmod_eq_emod_of_nonneg _ (by omega)]; omega
def Bnd (x : Int) : Prop := 0 ≤ x ∧ x ≤ 99
end Mine
namespace Mine
theorem hours_len {ms : List Int} {p : Int → Bool} {xs : List Int} (I : SortedOf ms ([0, 1, 99] ++ List.map (fun a => a.fmod 100) (List.filter p (List.take 3 xs)))) : ms.length ≤ 6 := by
  refine Nat.le_trans I.len ?_
  simp only [List.length_append, List.length_map, List.length_cons, List.length_nil]
  refine Nat.le_trans (Nat.add_le_add_left (List.length_filter_le _ _) _) ?_
  simp only [List.length_take]; omega
theorem mins_len {ms : List Int} {p : Int → Bool} {xs : List Int} (I : SortedOf ms ([30, 90] ++ List.map (fun a => (a.fdiv 100).fmod 100) (List.filter p (List.take 3 xs)))) : ms.length ≤ 6 := by
  refine Nat.le_trans I.len ?_
  simp only [List.length_append, List.length_map, List.length_cons, List.length_nil]
  refine Nat.le_trans (Nat.add_le_add_left (List.length_filter_le _ _) _) ?_
  simp only [List.length_take]; omega
theorem six_line {n : Nat} (h : n ≤ 6) : n ≤ sizeLine := by rw [sizeLine_eq]; omega
end Mine
namespace Mine
theorem Keeps.rfl' (s : Shared) : Keeps s s := ⟨s.heap, s.toks, rfl, fun _ _ e => e⟩
theorem sum_car {prog : Program} {w : World} {A : Around} {E : Value → Shared → Prop} {s : Shared} {h₀ : Heap} {L l : Addr} {m : Str → Option Value} {news : List (Addr × Obj)} {vs : List Value} {f : Int → Int} {ns : List Int} {Q : Value → Shared → Prop} (F : Fr h₀ L s.heap m) (N : News h₀ L s.heap news) (hh : A.handled = none) (hl : s.heap.IsList l vs.toArray)
    (hC : CarriedAll vs ((ns.filter fun _ => true).map fun a => PyData.int (f a)))
    (h : ∀ h' tk t', Fr h₀ L h' m → News h₀ L h' news → Q (.int (ns.map f).sum t') { s with heap := h', toks := tk }) : wpAny (model prog w) A (call (.builtin "sum") [.ref l]) Q E s := by
  have e : (ns.filter fun _ => true) = ns := List.filter_eq_self.mpr fun _ _ => rfl
  rw [e] at hC
  exact LSm.sum_ints F N hh hl hC.intsOf h
end Mine
namespace Mine
theorem no_ifs {prog : Program} {w : World} {A : Around} {E : Value → Shared → Prop} {s : Shared} {f : Expr → Bool → Sem (ForInStep Bool)} : wpAny (model prog w) A (forIn ([] : List Expr) true f) (fun ok s₃ => ok = true ∧ Keeps s s₃) E s := wpAny_pure ⟨rfl, Keeps.rfl' s⟩
end Mine
end

section
open PySem
namespace Mine
open Builtin.Int (intBits)

theorem pw_nat (k : Nat) : pw (k : Int) = ((2 ^ k : Nat) : Int) := by unfold pw; exact pow_cast k
theorem pw_add {a b : Int} (ha : 0 ≤ a) (hb : 0 ≤ b) : pw (a + b) = pw a * pw b := by
  obtain ⟨m, rfl⟩ := Int.eq_ofNat_of_zero_le ha
  obtain ⟨n, rfl⟩ := Int.eq_ofNat_of_zero_le hb
  rw [← Int.natCast_add, pw_nat, pw_nat, pw_nat, Nat.pow_add, Int.natCast_mul]
theorem pw_pos (a : Int) : 0 < pw a := by unfold pw; exact Int.pow_pos (by decide)
theorem pw_mono {a b : Int} (h : a ≤ b) : pw a ≤ pw b := by
  unfold pw
  have : a.toNat ≤ b.toNat := by omega
  have e : ∀ k : Nat, (2 : Int) ^ k = ((2 ^ k : Nat) : Int) := fun k => by have := pow_cast k; simpa using this
  rw [e, e]
  exact Int.ofNat_le.mpr (Nat.pow_le_pow_right (by decide) this)
theorem pw_bits {x : Int} {k : Nat} (h0 : 0 ≤ x) (h : x < pw (k : Int)) : intBits x ≤ k := bits_le' h0 (by rw [← pw_nat]; exact h)
theorem pw_low {x : Int} {k : Nat} (h : pw (k : Int) ≤ x) : k + 1 ≤ intBits x := bits_low (by rw [← pw_nat]; exact h)

theorem sum_nonneg {f : Int → Int} (hf : ∀ x, 0 ≤ f x) : ∀ xs : List Int, 0 ≤ (xs.map f).sum
  | [] => Int.le_refl 0
  | x :: xs => by have := sum_nonneg hf xs; have := hf x; simp only [List.map_cons, List.sum_cons]; omega
theorem sum_mem {f : Int → Int} (hf : ∀ x, 0 ≤ f x) : ∀ {xs : List Int} {x : Int}, x ∈ xs → f x ≤ (xs.map f).sum
  | y :: xs, x, h => by
    simp only [List.map_cons, List.sum_cons]
    have h1 := sum_nonneg hf xs
    have h2 := hf y
    rcases List.mem_cons.mp h with rfl | h
    · omega
    · have := sum_mem hf h; omega
theorem sum_top {f : Int → Int} {c : Int} : ∀ {xs : List Int}, (∀ x ∈ xs, f x ≤ c) → (xs.map f).sum ≤ xs.length * c
  | [], _ => by simp
  | x :: xs, h => by
    have h1 := sum_top (f := f) (c := c) (xs := xs) fun y hy => h y (List.mem_cons_of_mem _ hy)
    have h2 := h x (List.mem_cons_self ..)
    simp only [List.map_cons, List.sum_cons, List.length_cons, Int.natCast_add, Int.add_mul]
    omega
theorem sum_congr' {f g : Int → Int} : ∀ {xs : List Int}, (∀ x ∈ xs, f x = g x) → (xs.map f).sum = (xs.map g).sum
  | [], _ => rfl
  | x :: xs, h => by
    simp only [List.map_cons, List.sum_cons]
    rw [h x (List.mem_cons_self ..), sum_congr' fun y hy => h y (List.mem_cons_of_mem _ hy)]
theorem sum_mulr {f : Int → Int} (c : Int) : ∀ xs : List Int, (xs.map fun x => f x * c).sum = (xs.map f).sum * c
  | [] => by simp
  | x :: xs => by simp only [List.map_cons, List.sum_cons]; rw [sum_mulr c xs, Int.add_mul]
theorem sum_mull {f : Int → Int} (c : Int) : ∀ xs : List Int, (xs.map fun x => c * f x).sum = c * (xs.map f).sum
  | [] => by simp
  | x :: xs => by simp only [List.map_cons, List.sum_cons]; rw [sum_mull c xs, Int.mul_add]

/-- the twos of a list's things -/
def sumOf (f : Int → Int) (xs : List Int) : Int := (xs.map fun x => pw (f x)).sum
theorem sumOf_mem (f : Int → Int) {xs : List Int} {x : Int} (h : x ∈ xs) : pw (f x) ≤ sumOf f xs := sum_mem (fun x => Int.le_of_lt (pw_pos (f x))) h
theorem sumOf_top (f : Int → Int) {c : Int} {xs : List Int} (h : ∀ x ∈ xs, f x ≤ c) (hl : xs.length ≤ 6) (hc : 0 ≤ c) : sumOf f xs < pw (c + 3) := by
  have h1 : sumOf f xs ≤ xs.length * pw c := sum_top fun x hx => pw_mono (h x hx)
  rw [pw_add hc (by decide), show pw 3 = 8 by decide]
  have h2 : (xs.length : Int) * pw c ≤ 6 * pw c := Int.mul_le_mul_of_nonneg_right (by omega) (Int.le_of_lt (pw_pos c))
  have := pw_pos c
  omega
abbrev loF (m : Int) : Int := m
abbrev hiF (h : Int) : Int := 60 * h
abbrev mloF (m : Int) : Int := 99 - m
abbrev mhiF (h : Int) : Int := 5940 - 60 * h

theorem tot_a {hs ms : List Int} (H : ∀ x ∈ hs, 0 ≤ x ∧ x ≤ 99) (M : ∀ x ∈ ms, 0 ≤ x ∧ x ≤ 99) : totA hs ms = sumOf hiF hs * sumOf loF ms := by
  unfold totA sumOf
  rw [← sum_mulr]
  refine sum_congr' fun h hh => ?_
  unfold rowA
  rw [← sum_mull]
  exact sum_congr' fun m hm => pw_add (by have := H h hh; omega) (M m hm).1
theorem tot_b {hs ms : List Int} (H : ∀ x ∈ hs, 0 ≤ x ∧ x ≤ 99) (M : ∀ x ∈ ms, 0 ≤ x ∧ x ≤ 99) : totB hs ms = sumOf mhiF hs * sumOf mloF ms := by
  unfold totB sumOf
  rw [← sum_mulr]
  refine sum_congr' fun h hh => ?_
  unfold rowB
  rw [← sum_mull]
  refine sum_congr' fun m hm => ?_
  have h1 := H h hh
  have h2 := M m hm
  rw [show pw (6039 + -(60 * h + m)) = pw ((5940 - 60 * h) + (99 - m)) by congr 1; omega]
  exact pw_add (by omega) (by omega)

/-- the numbers of the law -/
structure Nums (hs ms : List Int) : Prop where
  H : ∀ x ∈ hs, 0 ≤ x ∧ x ≤ 99
  M : ∀ x ∈ ms, 0 ≤ x ∧ x ≤ 99
  hl : hs.length ≤ 6
  ml : ms.length ≤ 6
  h0 : (0 : Int) ∈ hs
  h99 : (99 : Int) ∈ hs
  m30 : (30 : Int) ∈ ms
  m90 : (90 : Int) ∈ ms

structure Sizes (lo hi mlo mhi : Int) : Prop where
  l1 : pw (90 : Nat) ≤ lo
  l2 : lo < pw (102 : Nat)
  h1 : pw (5940 : Nat) ≤ hi
  h2 : hi < pw (5943 : Nat)
  k1 : pw (69 : Nat) ≤ mlo
  k2 : mlo < pw (102 : Nat)
  g1 : pw (5940 : Nat) ≤ mhi
  g2 : mhi < pw (5943 : Nat)
theorem Nums.sizes {hs ms : List Int} (I : Nums hs ms) : Sizes (sumOf loF ms) (sumOf hiF hs) (sumOf mloF ms) (sumOf mhiF hs) := by
  refine ⟨sumOf_mem loF I.m90, ?_, sumOf_mem hiF I.h99, ?_, sumOf_mem mloF I.m30, ?_, sumOf_mem mhiF I.h0, ?_⟩
  · exact sumOf_top (c := 99) loF (fun x h => (I.M x h).2) I.ml (by decide)
  · exact sumOf_top (c := 5940) hiF (fun x h => by have := I.H x h; show 60 * x ≤ 5940; omega) I.hl (by decide)
  · exact sumOf_top (c := 99) mloF (fun x h => by have := I.M x h; show 99 - x ≤ 99; omega) I.ml (by decide)
  · exact sumOf_top (c := 5940) mhiF (fun x h => by have := I.H x h; show 5940 - 60 * x ≤ 5940; omega) I.hl (by decide)

theorem mul_lt {a b : Int} {m n : Nat} (ha : 0 ≤ a) (hb : 0 ≤ b) (h1 : a < pw (m : Int)) (h2 : b < pw (n : Int)) : a * b < pw ((m + n : Nat) : Int) := by
  rw [Int.natCast_add, pw_add (Int.natCast_nonneg _) (Int.natCast_nonneg _)]
  have p1 := pw_pos (m : Int)
  calc a * b ≤ a * pw n := Int.mul_le_mul_of_nonneg_left (Int.le_of_lt h2) ha
    _ < pw m * pw n := Int.mul_lt_mul_of_pos_right h1 (pw_pos _)
theorem mul_ge {a b : Int} {m n : Nat} (h1 : pw (m : Int) ≤ a) (h2 : pw (n : Int) ≤ b) : pw ((m + n : Nat) : Int) ≤ a * b := by
  rw [Int.natCast_add, pw_add (Int.natCast_nonneg _) (Int.natCast_nonneg _)]
  have p1 := pw_pos (m : Int)
  have p2 := pw_pos (n : Int)
  exact Int.mul_le_mul h1 h2 (Int.le_of_lt p2) (by omega)

/-- what the law's end wants to know -/
structure Ends (a b lo hi mlo mhi gap short : Int) : Prop where
  okOne : IntMulOk lo b
  okOther : IntMulOk mlo a
  okAll : IntMulOk a b
  okLess : IntMulOk (a - gap) b
  okShort : IntMulOk short lo
  okRest : IntMulOk (short * lo - gap) b
  lo0 : 0 < lo
  loB : intBits lo ≤ 9000
  one0 : 0 < lo * b
  oneB : intBits (lo * b) ≤ 7998
  other0 : 0 < mlo * a
  otherB : intBits (mlo * a) ≤ 7998
  all0 : 0 ≤ a * b
  all1 : a * b < ((2 ^ intBits (lo * b) : Nat) : Int) * (lo * b)
  all2 : a * b < ((2 ^ intBits (mlo * a) : Nat) : Int) * (mlo * a)
  less0 : 0 ≤ (a - gap) * b
  less1 : (a - gap) * b < ((2 ^ intBits (lo * b) : Nat) : Int) * (lo * b)
  q1 : (a * b).fdiv (lo * b) = hi
  r1 : (a * b).fmod (lo * b) = 0
  q2 : (a * b).fdiv (mlo * a) = mhi
  r2 : (a * b).fmod (mlo * a) = 0
  q3 : ((a - gap) * b).fdiv (lo * b) = hi - short
  r3 : ((a - gap) * b).fmod (lo * b) = (short * lo - gap) * b

theorem div_of {x y q r : Int} (h0 : 0 ≤ r) (h1 : r < y) (e : x = q * y + r) : x.fdiv y = q ∧ x.fmod y = r := by
  have hy : 0 < y := by omega
  rw [Int.fdiv_eq_ediv_of_nonneg _ (by omega), Int.fmod_eq_emod_of_nonneg _ (by omega), e]
  rw [Int.add_comm, Int.add_mul_ediv_right _ _ (by omega), Int.add_mul_emod_self_right, Int.ediv_eq_zero_of_lt h0 h1, Int.emod_eq_of_lt h0 h1]
  omega

theorem ends_of {lo hi mlo mhi a b gap short : Int} (Z : Sizes lo hi mlo mhi) (ea : a = hi * lo) (eb : b = mhi * mlo) (g0 : 0 < gap) (g1 : gap ≤ a) (es : short = -((-gap).fdiv lo)) : Ends a b lo hi mlo mhi gap short := by
  have pl : 0 < lo := by have := Z.l1; have := pw_pos (90 : Nat); omega
  have ph : 0 < hi := by have := Z.h1; have := pw_pos (5940 : Nat); omega
  have pk : 0 < mlo := by have := Z.k1; have := pw_pos (69 : Nat); omega
  have pg : 0 < mhi := by have := Z.g1; have := pw_pos (5940 : Nat); omega
  have pa : 0 < a := by rw [ea]; exact Int.mul_pos ph pl
  have pb : 0 < b := by rw [eb]; exact Int.mul_pos pg pk
  have a2 : a < pw (6045 : Nat) := by rw [ea]; exact mul_lt (m := 5943) (n := 102) (by omega) (by omega) Z.h2 Z.l2
  have b2 : b < pw (6045 : Nat) := by rw [eb]; exact mul_lt (m := 5943) (n := 102) (by omega) (by omega) Z.g2 Z.k2
  have a1 : pw (6030 : Nat) ≤ a := by rw [ea]; exact mul_ge (m := 5940) (n := 90) Z.h1 Z.l1
  have b1 : pw (6009 : Nat) ≤ b := by rw [eb]; exact mul_ge (m := 5940) (n := 69) Z.g1 Z.k1
  have o2 : lo * b < pw (6147 : Nat) := mul_lt (m := 102) (n := 6045) (by omega) (by omega) Z.l2 b2
  have o1 : pw (6099 : Nat) ≤ lo * b := mul_ge (m := 90) (n := 6009) Z.l1 b1
  have t2 : mlo * a < pw (6147 : Nat) := mul_lt (m := 102) (n := 6045) (by omega) (by omega) Z.k2 a2
  have t1 : pw (6099 : Nat) ≤ mlo * a := mul_ge (m := 69) (n := 6030) Z.k1 a1
  have po : 0 < lo * b := Int.mul_pos pl pb
  have pt : 0 < mlo * a := Int.mul_pos pk pa
  have e1 : a * b = hi * (lo * b) := by rw [ea]; grind
  have e2 : a * b = mhi * (mlo * a) := by rw [eb]; grind
  have n1 : 6100 ≤ intBits (lo * b) := pw_low o1
  have n2 : 6100 ≤ intBits (mlo * a) := pw_low t1
  have m1 : intBits (lo * b) ≤ 6147 := pw_bits (by omega) o2
  have m2 : intBits (mlo * a) ≤ 6147 := pw_bits (by omega) t2
  have big : ∀ {n : Nat} {x : Int}, 6100 ≤ n → x < pw (5943 : Nat) → x < ((2 ^ n : Nat) : Int) := fun {n x} hn hx => by
    rw [← pw_nat]
    exact Int.lt_of_lt_of_le hx (pw_mono (by omega))
  have w1 : a * b < ((2 ^ intBits (lo * b) : Nat) : Int) * (lo * b) := by
    rw [e1]; exact Int.mul_lt_mul_of_pos_right (big n1 Z.h2) po
  have w2 : a * b < ((2 ^ intBits (mlo * a) : Nat) : Int) * (mlo * a) := by
    rw [e2]; exact Int.mul_lt_mul_of_pos_right (big n2 Z.g2) pt
  have le : (a - gap) * b ≤ a * b := Int.mul_le_mul_of_nonneg_right (by omega) (by omega)
  -- the third division
  have es' : short = -((-gap) / lo) := by rw [es, Int.fdiv_eq_ediv_of_nonneg _ (by omega)]
  have d1 := Int.emod_add_mul_ediv (-gap) lo
  have d2 := Int.emod_nonneg (-gap) (b := lo) (by omega)
  have d3 := Int.emod_lt_of_pos (-gap) pl
  have e3 : short * lo - gap = (-gap) % lo := by
    have : short * lo = -(lo * ((-gap) / lo)) := by rw [es']; grind
    omega
  have s0 : 0 ≤ short := by
    rw [es']
    have : (-gap) / lo ≤ 0 := Int.ediv_nonpos_of_nonpos_of_neg (by omega) (by omega)
    omega
  have s1 : short ≤ gap := by
    have q : short * lo < gap + lo := by omega
    have : short < gap + 1 := by
      apply Int.not_le.mp
      intro h
      have : (gap + 1) * lo ≤ short * lo := Int.mul_le_mul_of_nonneg_right h (by omega)
      have e : (gap + 1) * lo = gap * lo + lo := by grind
      have : gap * 1 ≤ gap * lo := Int.mul_le_mul_of_nonneg_left (by omega) (by omega)
      omega
    omega
  have c3 : (a - gap) * b = (hi - short) * (lo * b) + (short * lo - gap) * b := by rw [ea]; grind
  have dv1 := div_of (x := a * b) (y := lo * b) (q := hi) (r := 0) (by omega) po (by omega)
  have dv2 := div_of (x := a * b) (y := mlo * a) (q := mhi) (r := 0) (by omega) pt (by omega)
  have dv3 := div_of (x := (a - gap) * b) (y := lo * b) (q := hi - short) (r := (short * lo - gap) * b) (Int.mul_nonneg (by omega) (by omega)) (Int.mul_lt_mul_of_pos_right (by omega) pb) c3
  have bl : intBits lo ≤ 102 := pw_bits (by omega) Z.l2
  have bk : intBits mlo ≤ 102 := pw_bits (by omega) Z.k2
  have ba : intBits a ≤ 6045 := pw_bits (by omega) a2
  have bb : intBits b ≤ 6045 := pw_bits (by omega) b2
  have bs : intBits short ≤ 6045 := pw_bits s0 (by omega)
  have bd : intBits (a - gap) ≤ 6045 := pw_bits (by omega) (by omega)
  have br : intBits (short * lo - gap) ≤ 102 := pw_bits (by omega) (by have := Z.l2; omega)
  exact ⟨mul_ok (by omega) (by omega), mul_ok (by omega) (by omega), mul_ok (by omega) (by omega), mul_ok (by omega) (by omega), mul_ok (by omega) (by omega), mul_ok (by omega) (by omega), pl, by omega, po, by omega, pt, by omega, by rw [e1]; exact Int.mul_nonneg (by omega) (by omega), w1, w2, Int.mul_nonneg (by omega) (by omega), by omega, dv1.1, dv1.2, dv2.1, dv2.2, dv3.1, dv3.2⟩
end Mine
end

section
open PySem PySem.W PyProof.Rows
namespace Mine
abbrev HoursOf (hs : List Int) (ns : List Int) : Prop := SortedOf hs ([0, 1, 99] ++ List.map (fun a => a.fmod 100) (List.filter (fun _ => true) (List.take 3 ns)))
abbrev MinsOf (ms : List Int) (ns : List Int) : Prop := SortedOf ms ([30, 90] ++ List.map (fun a => (a.fdiv 100).fmod 100) (List.filter (fun _ => true) (List.take 3 ns)))
theorem nums_of {hs ms ns : List Int} (H : HoursOf hs ns) (M : MinsOf ms ns) : Nums hs ms :=
  ⟨fun _ h => hours_bnd H h, fun _ h => mins_bnd M h, hours_len H, mins_len M, (H.mem 0).mpr (by simp), (H.mem 99).mpr (by simp), (M.mem 30).mpr (by simp), (M.mem 90).mpr (by simp)⟩
theorem law_ends {hs ms ns : List Int} {a b h m : Int} (H : HoursOf hs ns) (M : MinsOf ms ns) (A : AllInv ms hs a b) (hh : h ∈ hs) (hm : m ∈ ms) :
    Ends a b (sumOf loF ms) (sumOf hiF hs) (sumOf mloF ms) (sumOf mhiF hs) (pw (60 * h + m)) (-((-pw (60 * h + m)).fdiv (sumOf loF ms))) := by
  have I := nums_of H M
  have ea : a = sumOf hiF hs * sumOf loF ms := A.1.trans (tot_a I.H I.M)
  refine ends_of I.sizes ea (A.2.trans (tot_b I.H I.M)) (pw_pos _) ?_ rfl
  rw [ea, pw_add (by have := I.H h hh; omega) (I.M m hm).1]
  have h1 : pw (60 * h) ≤ sumOf hiF hs := sumOf_mem hiF hh
  have h2 : pw m ≤ sumOf loF ms := sumOf_mem loF hm
  have := pw_pos m
  have := pw_pos (60 * h)
  exact Int.mul_le_mul h1 h2 (by omega) (by omega)
theorem law_one {hs ms ns : List Int} {a b : Int} (H : HoursOf hs ns) (M : MinsOf ms ns) (A : AllInv ms hs a b) : IntMulOk (List.map (fun a => pw a) ms).sum b :=
  (law_ends H M A (nums_of H M).h0 (nums_of H M).m30).okOne
theorem law_other {hs ms ns : List Int} {a b : Int} (H : HoursOf hs ns) (M : MinsOf ms ns) (A : AllInv ms hs a b) : IntMulOk (List.map (fun a => pw (99 - a)) ms).sum a :=
  (law_ends H M A (nums_of H M).h0 (nums_of H M).m30).okOther
end Mine
end

section
open PySem PySem.W PyProof.Rows
namespace Mine
open Builtin.Int (intBits)
section
variable {prog : Program} {w : World} {A : Around} {E : Value → Shared → Prop} {s : Shared} {l : Addr} {vs : List Value} {hs ms ns : List Int} {u : Tok} {Q : Value → Shared → Prop} {value slice : Expr}
theorem len_hours (hl : s.heap.IsList l vs.toArray) (hi : IntsAre vs hs) (h6 : hs.length ≤ 6) (h : ∀ t tk, Q (.int (hs.length : Int) t) { s with toks := tk }) :
    wpAny (model prog w) A (call (.builtin "len") [.ref l]) Q E s := by
  have e : vs.toArray.size = hs.length := by simp [hi.length]
  refine len_list hl (by rw [e]; omega) ?_
  rw [e]
  exact h _ _
theorem pick_hour {n : Int} (hl : s.heap.IsList l vs.toArray) (hi : IntsAre vs hs) (h0 : 0 < hs.length) (h6 : hs.length ≤ 6) (h : ∀ H t, H ∈ hs → Q (.int H t) s)
    (hss : subscripted slice false (.ref l) (.int (-1 - n.fmod (hs.length : Int)) u) = operate [.ref l, .int (-1 - n.fmod (hs.length : Int)) u] (getItem (.ref l) (.int (-1 - n.fmod (hs.length : Int)) u)) := by with_unfolding_all rfl) (hg : ∀ r, letTemporaryGo value (.ref l) r = pure () := by intro _; with_unfolding_all rfl) :
    wpAny (model prog w) A (subscriptTail value slice (.ref l) (.int (-1 - n.fmod (hs.length : Int)) u)) Q E s := by
  have p : (0 : Int) < (hs.length : Int) := by omega
  have b1 := Int.fmod_nonneg_of_pos n p
  have b2 := Int.fmod_lt_of_pos n p
  refine item_list_ints_neg hl hi (by omega) (by omega) (by omega) (fun t => h _ t ?_) hss hg
  have hk : (-1 - n.fmod (hs.length : Int) + hs.length).toNat < hs.length := by omega
  rw [List.getD_eq_getElem?_getD, List.getElem?_eq_getElem hk]
  exact List.getElem_mem hk
theorem pick_min (hl : s.heap.IsList l vs.toArray) (hi : IntsAre vs ms) (h0 : 0 < ms.length) (h : ∀ H t, H ∈ ms → Q (.int H t) s)
    (hss : subscripted slice false (.ref l) (.int 0 u) = operate [.ref l, .int 0 u] (getItem (.ref l) (.int 0 u)) := by with_unfolding_all rfl) (hg : ∀ r, letTemporaryGo value (.ref l) r = pure () := by intro _; with_unfolding_all rfl) :
    wpAny (model prog w) A (subscriptTail value slice (.ref l) (.int 0 u)) Q E s := by
  refine item_list_ints hl hi (by omega) (by omega) (by omega) (fun t => h _ t ?_) hss hg
  rw [List.getD_eq_getElem?_getD, List.getElem?_eq_getElem (show (0 : Int).toNat < ms.length by omega)]
  exact List.getElem_mem _
theorem fdiv_lo {a b : Int} {t : Tok} (hb : 0 < b) (hbl : intBits b ≤ 9000) (h : Q (.int (a.fdiv b) s.toks) { s with toks := s.toks + 1 }) :
    wpAny (model prog w) A (binaryOp .FloorDiv (.int a t) (.int b u)) Q E s := floordiv_int (by omega) h (Or.inl (no_pylong hbl))
end
theorem hours_pos {hs ns : List Int} (H : HoursOf hs ns) : 0 < hs.length ∧ hs.length ≤ 6 := ⟨List.length_pos_of_mem ((H.mem 0).mpr (by simp)), hours_len H⟩
theorem mins_pos {ms ns : List Int} (M : MinsOf ms ns) : 0 < ms.length := List.length_pos_of_mem ((M.mem 30).mpr (by simp))

abbrev EndsOf (a b : Int) (hs ms : List Int) (g : Int) : Prop :=
  Ends a b (List.map (fun a => pw a) ms).sum (List.map (fun a => pw (60 * a)) hs).sum (List.map (fun a => pw (99 - a)) ms).sum (List.map (fun a => pw (5940 - 60 * a)) hs).sum (pw g) (-((-pw g).fdiv (List.map (fun a => pw a) ms).sum))
theorem ends_law {hs ms ns : List Int} {a b h m : Int} (H : HoursOf hs ns) (M : MinsOf ms ns) (A : AllInv ms hs a b) (hh : h ∈ hs) (hm : m ∈ ms) : EndsOf a b hs ms (60 * h + m) := law_ends H M A hh hm

section
variable {w : World} {mean : ExcName → Option Value} {mg mb : Str → Option Value} {news : List (Addr × Obj)} {dp un : Nat} {gd : Option (List Code)} {cn : Str} {cs : Scope} {ad : Addr} {ccd : Value} {cl : List (Str × Addr)} {outer : List Env} {A₀ : Around} {base h₀ : Heap} {L : Addr} {mm : Str → Option Value} {s : Shared} {Q E : Value → Shared → Prop}
theorem div_gives {a b q r : Int} {t1 t2 t3 : Tok} (hb : 0 < b) (hl : intBits b ≤ 7998) (h0 : 0 ≤ a) (h1 : a < ((2 ^ intBits b : Nat) : Int) * b) (hq : a.fdiv b = q) (hr : a.fmod b = r)
    (B : Below A₀ base outer h₀) (F : Fr h₀ L s.heap mm) (X : (hd.heap_39 w.params).In h₀) (N : News h₀ L s.heap news) (T : Top hd.view_39 (looseW hd.view_39 [Str.ofString "UTC_ZONES", Str.ofString "TIMEZONE_RE"]) mean mg mb h₀) (hk : cs.kind = .function)
    (hd : dp + 3 < recursionLimit) (hu : un + 24 < cLine)
    (ret : ∀ (D : Addr) (u1 u2 : Tok) (h' : Heap) (tk' : Nat), Fr h₀ L h' mm → News h₀ L h' ((D, ({ cls := .type "tuple", data := .seq #[.int q u1, .int r u2] } : Obj)) :: news) → AllLt D news → Q (.ref D) { s with heap := h', toks := tk' }) :
      wpAny (model PySem.Challenge.rw_wb0018_01.row.prog w) (ktrTop dp un gd cn cs L ad ccd cl outer) (call (.ref 51) [.int a t1, .int b t2, .int (intBits b : Int) t3]) Q E s := by
  subst hq hr
  exact div2_use (div2_says w mean mg mb rfl hb hl h0 h1) B F X N T hk hd hu ret
variable {a b lo hi mlo mhi gap short : Int}
theorem div_one {t1 t2 t3 : Tok} (I : Ends a b lo hi mlo mhi gap short)
    (B : Below A₀ base outer h₀) (F : Fr h₀ L s.heap mm) (X : (hd.heap_39 w.params).In h₀) (N : News h₀ L s.heap news) (T : Top hd.view_39 (looseW hd.view_39 [Str.ofString "UTC_ZONES", Str.ofString "TIMEZONE_RE"]) mean mg mb h₀) (hk : cs.kind = .function)
    (hd : dp + 3 < recursionLimit) (hu : un + 24 < cLine)
    (ret : ∀ (D : Addr) (u1 u2 : Tok) (h' : Heap) (tk' : Nat), Fr h₀ L h' mm → News h₀ L h' ((D, ({ cls := .type "tuple", data := .seq #[.int hi u1, .int 0 u2] } : Obj)) :: news) → AllLt D news → Q (.ref D) { s with heap := h', toks := tk' }) :
      wpAny (model PySem.Challenge.rw_wb0018_01.row.prog w) (ktrTop dp un gd cn cs L ad ccd cl outer) (call (.ref 51) [.int (a * b) t1, .int (lo * b) t2, .int (intBits (lo * b) : Int) t3]) Q E s :=
  div_gives I.one0 I.oneB I.all0 I.all1 I.q1 I.r1 B F X N T hk hd hu ret
theorem div_other {t1 t2 t3 : Tok} (I : Ends a b lo hi mlo mhi gap short)
    (B : Below A₀ base outer h₀) (F : Fr h₀ L s.heap mm) (X : (hd.heap_39 w.params).In h₀) (N : News h₀ L s.heap news) (T : Top hd.view_39 (looseW hd.view_39 [Str.ofString "UTC_ZONES", Str.ofString "TIMEZONE_RE"]) mean mg mb h₀) (hk : cs.kind = .function)
    (hd : dp + 3 < recursionLimit) (hu : un + 24 < cLine)
    (ret : ∀ (D : Addr) (u1 u2 : Tok) (h' : Heap) (tk' : Nat), Fr h₀ L h' mm → News h₀ L h' ((D, ({ cls := .type "tuple", data := .seq #[.int mhi u1, .int 0 u2] } : Obj)) :: news) → AllLt D news → Q (.ref D) { s with heap := h', toks := tk' }) :
      wpAny (model PySem.Challenge.rw_wb0018_01.row.prog w) (ktrTop dp un gd cn cs L ad ccd cl outer) (call (.ref 51) [.int (a * b) t1, .int (mlo * a) t2, .int (intBits (mlo * a) : Int) t3]) Q E s :=
  div_gives I.other0 I.otherB I.all0 I.all2 I.q2 I.r2 B F X N T hk hd hu ret
theorem div_less {t1 t2 t3 : Tok} (I : Ends a b lo hi mlo mhi gap short)
    (B : Below A₀ base outer h₀) (F : Fr h₀ L s.heap mm) (X : (hd.heap_39 w.params).In h₀) (N : News h₀ L s.heap news) (T : Top hd.view_39 (looseW hd.view_39 [Str.ofString "UTC_ZONES", Str.ofString "TIMEZONE_RE"]) mean mg mb h₀) (hk : cs.kind = .function)
    (hd : dp + 3 < recursionLimit) (hu : un + 24 < cLine)
    (ret : ∀ (D : Addr) (u1 u2 : Tok) (h' : Heap) (tk' : Nat), Fr h₀ L h' mm → News h₀ L h' ((D, ({ cls := .type "tuple", data := .seq #[.int (hi - short) u1, .int ((short * lo - gap) * b) u2] } : Obj)) :: news) → AllLt D news → Q (.ref D) { s with heap := h', toks := tk' }) :
      wpAny (model PySem.Challenge.rw_wb0018_01.row.prog w) (ktrTop dp un gd cn cs L ad ccd cl outer) (call (.ref 51) [.int ((a - gap) * b) t1, .int (lo * b) t2, .int (intBits (lo * b) : Int) t3]) Q E s :=
  div_gives I.one0 I.oneB I.less0 I.less1 I.q3 I.r3 B F X N T hk hd hu ret
end
theorem lo_ok {hs ms ns : List Int} {a b : Int} (H : HoursOf hs ns) (M : MinsOf ms ns) (A : AllInv ms hs a b) : 0 < (List.map (fun a => pw a) ms).sum ∧ intBits (List.map (fun a => pw a) ms).sum ≤ 9000 :=
  have I := law_ends H M A (nums_of H M).h0 (nums_of H M).m30
  ⟨I.lo0, I.loB⟩
end Mine
end

section
open PySem PySem.W PyProof.Rows
namespace Mine
local macro_rules | `(tactic| walk_at "binaryOp Add ref ref") => `(tactic| (k_here; (with_reducible show wpAny _ _ (binaryOp _ (Value.ref _) (Value.ref _)) _ _ _); k_dflt (refine' kmk_add_ints ?F ?N ?a ?b ?i ?j ?_ ?z; (case F => k_asm); (case N => k_asm); (case a => kmk_list); (case b => kmk_list); (case i => l_ints); (case j => exact CarriedAll.intsOf (by assumption)); (case z => (simp only [sizeLine_eq, List.length_map, List.length_cons, List.length_nil]; (refine Nat.le_trans (Nat.add_le_add_left (List.length_filter_le _ _) _) ?_); (simp only [List.length_take]); omega))); intro D' ws' h' F' N' l1 hI'; (try k_lt l1); (try k_sweep)))
local macro_rules | `(tactic| walk_at "call type:set cons nil") => `(tactic| (k_here; (with_reducible show wpAny _ _ (call (Value.type "set") [Value.ref _]) _ _ _); refine' call_set_K ?k1 ?k2 ?k3 ?k4 ?k5 ?k6 ?_; (case k1 => k_asm); (case k2 => k_asm); (case k3 => exact rfl); (case k4 => kmk_list); (case k5 => l_ints); (case k6 => (simp only [List.length_append, List.length_map, List.length_cons, List.length_nil]; (refine Nat.lt_of_le_of_lt (Nat.add_le_add_left (List.length_filter_le _ _) _) ?_); (simp only [List.length_take]); omega)); intro D' o' h' tk' F' N' l1 hO'; (try k_lt l1)))
local macro_rules | `(tactic| walk_at "call builtin:sorted") => `(tactic| (k_here; (with_reducible show wpAny _ _ (call (Value.builtin _) [Value.ref _]) _ _ _); refine' sorted_set_K ?k1 ?k2 ?k3 ?k4 ?k5 ?k6 ?_; (case k1 => k_asm); (case k2 => k_asm); (case k3 => exact rfl); (case k4 => k_mem); (case k5 => assumption); (case k6 => (simp only [List.length_append, List.length_map, List.length_cons, List.length_nil]; (refine Nat.lt_of_le_of_lt (Nat.add_le_add_left (List.length_filter_le _ _) _) ?_); (simp only [List.length_take]); omega)); intro D' ws' ms' e' h' dr' tk' F' N' l1 hI' hS'; (try k_lt l1)))

local macro_rules | `(tactic| walk_at "call ref") => `(tactic| (k_here; first
  | ((with_reducible show wpAny _ _ (call _ [Value.int _ _, Value.int _ _, Value.int 0 _]) _ _ _); k_dflt (refine' zone0_use ?kA ?kB ?k1 ?k2 ?k3 ?k4 ?k5 ?kK ?kd ?ku ?_; (case kA => first | exact hours_bnd (by assumption) (by assumption)); (case kB => exact mins_bnd (by assumption) (by assumption)); (case k2 => k_asm); (case k1 => k_asm); (case k3 => k_asm); (case k4 => k_asm); (case k5 => k_asm); (case kK => first | exact rfl | assumption); (case kd => ktr_room); (case ku => ktr_units)); intro T' t' h' tk' G' r' F' N')
  | ((with_reducible show wpAny _ _ (call _ [Value.int _ _, Value.int _ _, Value.int 1 _]) _ _ _); k_dflt (refine' zone1_use ?kA ?kB ?k1 ?k2 ?k3 ?k4 ?k5 ?kK ?kd ?ku ?_; (case kA => first | exact hours_bnd (by assumption) (by assumption)); (case kB => exact mins_bnd (by assumption) (by assumption)); (case k2 => k_asm); (case k1 => k_asm); (case k3 => k_asm); (case k4 => k_asm); (case k5 => k_asm); (case kK => first | exact rfl | assumption); (case kd => ktr_room); (case ku => ktr_units)); intro T' t' h' tk' G' r' F' N')
  | ((with_reducible show wpAny _ _ (call _ [Value.str _ _]) _ _ _); k_dflt (refine' off_use ?kG ?k1 ?k2 ?k3 ?k4 ?k5 ?kK ?kd ?ku ?_; (case kG => assumption); (case k2 => k_asm); (case k1 => k_asm); (case k3 => k_asm); (case k4 => k_asm); (case k5 => k_asm); (case kK => first | exact rfl | assumption); (case kd => ktr_room); (case ku => ktr_units)); intro t' h' tk' F' N')
  | ((with_reducible show wpAny _ _ (call _ [Value.int _ _, Value.int _ _, Value.int _ _]) _ _ _); k_dflt (refine' div_one ?kL ?k1 ?k2 ?k3 ?k4 ?k5 ?kK ?kd ?ku ?_; (case kL => assumption); (case k2 => k_asm); (case k1 => k_asm); (case k3 => k_asm); (case k4 => k_asm); (case k5 => k_asm); (case kK => first | exact rfl | assumption); (case kd => ktr_room); (case ku => ktr_units)); intro D' u1' u2' h' tk' F' N' l1')
  | ((with_reducible show wpAny _ _ (call _ [Value.int _ _, Value.int _ _, Value.int _ _]) _ _ _); k_dflt (refine' div_other ?kL ?k1 ?k2 ?k3 ?k4 ?k5 ?kK ?kd ?ku ?_; (case kL => assumption); (case k2 => k_asm); (case k1 => k_asm); (case k3 => k_asm); (case k4 => k_asm); (case k5 => k_asm); (case kK => first | exact rfl | assumption); (case kd => ktr_room); (case ku => ktr_units)); intro D' u1' u2' h' tk' F' N' l1')
  | ((with_reducible show wpAny _ _ (call _ [Value.int _ _, Value.int _ _, Value.int _ _]) _ _ _); k_dflt (refine' div_less ?kL ?k1 ?k2 ?k3 ?k4 ?k5 ?kK ?kd ?ku ?_; (case kL => assumption); (case k2 => k_asm); (case k1 => k_asm); (case k3 => k_asm); (case k4 => k_asm); (case k5 => k_asm); (case kK => first | exact rfl | assumption); (case kd => ktr_room); (case ku => ktr_units)); intro D' u1' u2' h' tk' F' N' l1')))
local macro_rules | `(tactic| walk_at "call builtin:divmod") => `(tactic| (k_here; refine' divmod_60 ?k1 ?k2 ?_; (case k1 => k_asm); (case k2 => k_asm); intro D' u1' u2' h' tk' F' N' l1'))
local macro_rules | `(tactic| walk_at "binaryOp LShift int int") => `(tactic| (k_here; refine' shl_one ?k1 ?k2 ?_; (case k1 => omega); (case k2 => omega)))
local macro_rules | `(tactic| walk_at "eval ListComp") => `(tactic| ((with_reducible show wpAny _ _ (eval (Expr.ListComp (Expr.BinOp _ Operator.LShift _ _) [⟨_, Expr.Name _ _, _, _⟩] _ _) _) _ _ _); k_here; (k_iter_made; (with_reducible apply ListComp_rowsP); (case hfree => decide); (case hcell => decide); (case hkind => with_unfolding_all rfl); (case hnames => decide); (case hx => with_unfolding_all rfl); (case hs => intro _; with_unfolding_all rfl))))
local macro_rules | `(tactic| walk_at "pyIter ref") => `(tactic| ((with_reducible show wpAny _ _ (pyIter (Value.ref _)) (CompPost _ _ _ _ _ _ _ (Expr.BinOp _ Operator.LShift _ _) _) _ _); ((with_reducible apply srcC_listDW); (case hh => with_unfolding_all rfl); (case hl => with_unfolding_all assumption); (case hi => with_unfolding_all exact IntsAre.areOf (by assumption)); (case hsz => first | exact six_line (hours_len (by assumption)) | exact six_line (mins_len (by assumption))); (case F => k_asm); (case N => k_asm); (case g1 => (intros; exact no_ifs)); (case' g3 => intros); (case' g2 => (intros; (rename ItemKind.is _ _ _ => i'); (obtain ⟨_, e'⟩ := ItemKind.int_is i'; subst e'); (rename _ ∈ _ => m'); (first | (have b' := hours_bnd (by assumption) m') | (have b' := mins_bnd (by assumption) m')); (try (((with_reducible refine wpAny_leafK ?_); (try (first | ((with_reducible refine markB ?_); intro _) | ((with_reducible refine markD ?_); intro _))))))))) ))
local macro_rules | `(tactic| walk_at "call builtin:sum") => `(tactic| (k_here; (with_reducible show wpAny _ _ (call (Value.builtin "sum") [Value.ref _]) _ _ _); (k_dflt (refine' sum_car ?k1 ?k2 ?k0 ?k3 ?k4 ?_; (case k4 => assumption); (case k0 => exact rfl); (case k1 => k_asm); (case k2 => k_asm); (case k3 => assumption)); intro h' tk' t' F' N')))
local macro_rules | `(tactic| walk_at "binaryOp Mult int int") => `(tactic| (k_here; refine' mul_int ?_ ?k1; (case k1 => first | exact IntMulOk.of_left (by decide) | (first | exact law_one (by assumption) (by assumption) (by assumption) | exact law_other (by assumption) (by assumption) (by assumption) | exact Ends.okAll (by assumption) | exact Ends.okLess (by assumption) | exact Ends.okShort (by assumption) | exact Ends.okRest (by assumption)))))
local macro_rules | `(tactic| walk_at "call builtin:len") => `(tactic| (k_here; (with_reducible show wpAny _ _ (call (Value.builtin "len") [Value.ref _]) _ _ _); k_dflt (refine' len_hours ?k1 ?k2 ?k3 ?_; (case k1 => kmk_list); (case k2 => l_ints); (case k3 => exact hours_len (by assumption))); intro t' tk'; have p9 := hours_pos (by assumption)))
local macro_rules | `(tactic| walk_at "subscriptTail Name BinOp ref int") => `(tactic| (k_here; (k_dflt (refine' pick_hour ?k1 ?k2 ?k3 ?k4 ?_; (case k1 => kmk_list); (case k2 => l_ints); (case k3 => omega); (case k4 => omega)); intro H' t' mH'; have b9 := hours_bnd (by assumption) mH')))
local macro_rules | `(tactic| walk_at "subscriptTail Name Constant ref int") => `(tactic| (k_here; (k_dflt (refine' pick_min ?k1 ?k2 ?k3 ?_; (case k1 => kmk_list); (case k2 => l_ints); (case k3 => exact mins_pos (by assumption))); intro H' t' mH'; have b9 := mins_bnd (by assumption) mH')))
local macro_rules | `(tactic| walk_at "binaryOp FloorDiv int int") => `(tactic| (k_here; refine' fdiv_lo ?k1 ?k2 ?_; (case k1 => exact (lo_ok (by assumption) (by assumption) (by assumption)).1); (case k2 => exact (lo_ok (by assumption) (by assumption) (by assumption)).2); (have e9 := ends_law (by assumption) (by assumption) (by assumption) (by assumption) (by assumption))))
theorem main : PySem.Challenge.rw_wb0018_01.Holds := hd (by
  k_go0
  all_goals try k_fold
  (k_with "state" => first | exact RowInv.start _ _ _ | exact AllInv.start _ | exact RowInv.step _ (by assumption) | exact AllInv.step (by assumption) (by assumption))
  (k_with "pyIter ref" => first
    | (k_of "hour" => k_state_given ["minutes"] (fun ms pre a b => AllInv ms pre a b) "ahead" "behind")
    | (k_of "minute" => k_state_given ["ahead!", "behind!", "hour"] (fun a0 b0 h pre a b => RowInv a0 b0 h pre a b) "ahead" "behind"))
  k_steps)
end Mine
end

theorem PySem.Challenge.cw_wb0018_01_holds : PySem.Challenge.rw_wb0018_01.Holds := by
  exact Mine.main
