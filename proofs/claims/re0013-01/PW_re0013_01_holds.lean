import PyProof.Rows.All
import Wide.All
import OpenK.AllK
import Wide.FinOn
import KE.BitLaws
import KE.IntBitsLaws
import PySem.Challenge.RW_re0013_01
set_option Elab.async false
section
open PySem PySem.W PyProof.Rows
set_option maxRecDepth 100000
set_option maxHeartbeats 8000000
namespace Mine
open_top hd for PySem.Challenge.rw_re0013_01
end Mine
end
section
open PySem PySem.W PyProof.Rows
set_option maxRecDepth 100000
set_option maxHeartbeats 8000000
noncomputable section
namespace Mine
abbrev prg : Program := PySem.Challenge.rw_re0013_01.row.prog
def topAt (i : Nat) : Stmt := PySem.Challenge.pw_re0013_01.main.body.getD i (.Pass ⟨0, 0, 0, 0⟩)
def bodyOf : Stmt → List Stmt
  | .FunctionDef _ _ b _ _ _ _ _ _ _ => b
  | .For _ _ b _ _ => b
  | .While _ b _ _ => b
  | .If _ b _ _ => b
  | _ => []
def scopeOf : Stmt → Scope
  | .FunctionDef _ _ _ _ _ _ sc _ _ _ => sc
  | _ => default
def law : Stmt := topAt 13
def st (i : Nat) : Stmt := (bodyOf law).getD i (.Pass ⟨0, 0, 0, 0⟩)
abbrev lawEnv (L fa : Addr) (cd : Value) : Env := envOf (Str.ofString "law") (scopeOf law) L fa cd
end Mine
end
end
section
open PySem PySem.Sre
namespace Mine
def code2 : Array Nat := #[14,9,4,1,2,16,10,16,13,0,7,7,16,13,16,10,15,18,5,16,10,15,13,11,16,13,5,5,0,16,10,1,15,2,0,1]
def code1 : Array Nat := #[14,4,0,1,1,6,1,16,46,1]

theorem runFor_add (a b : Nat) (m : M) : M.runFor (a + b) m = M.runFor b (M.runFor a m) := by
  induction a generalizing m with
  | zero => simp [M.runFor]
  | succ n ih =>
    rw [Nat.succ_add]
    show (if m.outcome.isSome then m else M.runFor (n + b) m.step) = M.runFor b (if m.outcome.isSome then m else M.runFor n m.step)
    split
    · rename_i h
      cases b with
      | zero => rfl
      | succ b => simp [M.runFor, h]
    · exact ih _

theorem runFor_done (n : Nat) (m : M) (h : m.outcome.isSome = true) : M.runFor n m = m := by
  cases n with
  | zero => rfl
  | succ n => simp [M.runFor, h]

theorem runFor_step (n : Nat) (m : M) (h : m.outcome = none) : M.runFor (n + 1) m = M.runFor n m.step := by
  simp [M.runFor, h]

def base1 (text : Array Nat) (lim : Nat) (q : Nat) (first : Bool) (sn : Seen) : M :=
  { code := code1, text := text, lim := lim, start := q, lastStart := lim, pc := 5, pos := q, handed := q, outermost := first, marks := #[], frames := [{ wait := .nextStart, pc := 5, pos := q, outermost := first }], weight := 1, seen := sn }

end Mine
end
section
open PySem PySem.Sre
set_option linter.unusedSimpArgs false
namespace Mine
variable {text : Array Nat} {lim q : Nat} {first : Bool} {sn : Seen}
theorem ops6 : ops[6]? = some .AT := by rfl
theorem ops16 : ops[16]? = some .LITERAL := by rfl
theorem ops1 : ops[1]? = some .SUCCESS := by rfl
theorem ops14 : ops[14]? = some .INFO := by rfl
theorem r1_no (hq : q < lim) (hb : q ≠ 0) (hc : text[q-1]?.getD 0 ≠ 10) :
    ∃ sn', M.runFor 2 (base1 text lim q first sn) = base1 text lim (q+1) false sn' := by
  refine ⟨(sn.add 6).add 44, ?_⟩
  simp [M.runFor, base1, M.step, M.exec, M.word, code1, ops6, M.isAt, hb, hc, M.say, M.resume, hq, M.attemptFrom, M.hasFirstSet, ops14, M.attemptAt, M.attempt, M.putBack]
/-- a row's beginning, another letter -/
theorem r1_other (hq : q < lim) (hb : q = 0 ∨ text[q-1]?.getD 0 = 10) (hc : text[q]?.getD 0 ≠ 46) :
    ∃ sn', M.runFor 3 (base1 text lim q first sn) = base1 text lim (q+1) false sn' := by
  refine ⟨((sn.add 6).add 44).add 16, ?_⟩
  have hc' : (text[q]?.getD 0 == 46) = false := by simpa using hc
  simp [hc', M.runFor, base1, M.step, M.exec, M.word, code1, ops6, ops16, M.isAt, hb, hc, M.say, M.resume, hq, M.attemptFrom, M.hasFirstSet, ops14, M.attemptAt, M.attempt, M.putBack, accepts, Nat.not_le.mpr hq]
theorem r1_dot (hq : q < lim) (hb : q = 0 ∨ text[q-1]?.getD 0 = 10) (hc : text[q]?.getD 0 = 46) :
    ∃ m', M.runFor 5 (base1 text lim q first sn) = m' ∧ m'.outcome = some .matched ∧ m'.start = q ∧ m'.handed = q + 1 := by
  refine ⟨_, rfl, ?_⟩
  simp [M.runFor, base1, M.step, M.exec, M.word, code1, ops6, ops16, ops1, M.isAt, hb, hc, M.say, M.resume, hq, M.attemptFrom, M.hasFirstSet, ops14, M.attemptAt, M.attempt, M.putBack, accepts, Nat.not_le.mpr hq, itemWidth]
theorem r1_end (hq : q = lim) :
    ∃ m', M.runFor 4 (base1 text lim q first sn) = m' ∧ m'.outcome = some .failed := by
  refine ⟨_, rfl, ?_⟩
  subst hq
  by_cases hb : q = 0 ∨ text[q-1]?.getD 0 = 10
  · simp [M.runFor, base1, M.step, M.exec, M.word, code1, ops6, ops16, ops1, M.isAt, hb, M.say, M.resume, M.attemptFrom, M.hasFirstSet, ops14, M.attemptAt, M.attempt, M.putBack, accepts, itemWidth]
  · have h1 : q ≠ 0 := fun e => hb (.inl e)
    have h2 : text[q-1]?.getD 0 ≠ 10 := fun e => hb (.inr e)
    simp [M.runFor, base1, M.step, M.exec, M.word, code1, ops6, ops16, ops1, M.isAt, h1, h2, M.say, M.resume, M.attemptFrom, M.hasFirstSet, ops14, M.attemptAt, M.attempt, M.putBack, accepts, itemWidth]
def fresh1 (text : Array Nat) (lim q : Nat) : M :=
  { code := code1, text := text, lim := lim, start := q, pc := 5, pos := q, handed := q, marks := Array.replicate (2 * 0) none, seen := ({} : Seen).add 14 }
theorem search1_eq (text : Array Nat) (lim q : Nat) : forSearch code1 text 0 q lim false = (if q > lim || lim - q < 1 then (fresh1 text lim q).say false else ({ fresh1 text lim q with lastStart := lim } : M).attemptFrom q true) := by rfl
theorem search1 (text : Array Nat) (lim q : Nat) : q < lim → ∃ sn, forSearch code1 text 0 q lim false = base1 text lim q true sn := by
  intro hq
  refine ⟨({} : Seen).add 14, ?_⟩
  have h1 : ¬ (lim < q) := by omega
  have h2 : ¬ (lim - q < 1) := by omega
  rw [search1_eq]
  simp [fresh1, code1, ops14, M.attemptFrom, M.hasFirstSet, M.attemptAt, M.attempt, base1, h1, h2]
theorem search1_end (text : Array Nat) (lim q : Nat) (hq : lim ≤ q) : ∃ m', M.runFor 1 (forSearch code1 text 0 q lim false) = m' ∧ m'.outcome = some .failed := by
  refine ⟨_, rfl, ?_⟩
  rw [search1_eq]
  have h2 : (lim - q < 1) := by omega
  simp [fresh1, h2, M.say, M.runFor, M.step]
end Mine
end
section
open PySem PySem.Sre
set_option linter.unusedSimpArgs false
namespace Mine
variable {text : Array Nat} {lim q : Nat} {first : Bool} {sn : Seen}
theorem ops7 : ops[7]? = some .BRANCH := by rfl
theorem ops15 : ops[15]? = some .JUMP := by rfl
theorem ops5 : ops[5]? = some .ASSERT_NOT := by rfl
theorem ops0 : ops[0]? = some .FAILURE := by rfl
def base2 (text : Array Nat) (lim : Nat) (q : Nat) (first : Bool) (sn : Seen) : M :=
  { code := code2, text := text, lim := lim, start := q, lastStart := lim, pc := 10, pos := q, handed := q, outermost := first, marks := #[], frames := [{ wait := .nextStart, pc := 10, pos := q, outermost := first }], weight := 1, seen := sn }
theorem c2 : code2.size = 36 := rfl
/-- a feed -/
theorem r2_feed (hq : q < lim) (hc : text[q]?.getD 0 = 10) :
    ∃ m', M.runFor 9 (base2 text lim q first sn) = m' ∧ m'.outcome = some .matched ∧ m'.start = q ∧ m'.handed = q + 1 := by
  refine ⟨_, rfl, ?_⟩
  simp [M.runFor, base2, M.step, M.exec, M.word, code2, ops7, ops15, ops5, ops0, ops16, ops1, hc, M.say, M.resume, hq, M.attempt, M.putBack, accepts, Nat.not_le.mpr hq, itemWidth, M.alternative, M.frame, M.keep]
/-- both -/
theorem r2_both (hq : q + 1 < lim) (hc : text[q]?.getD 0 = 13) (hd : text[q+1]?.getD 0 = 10) :
    ∃ m', M.runFor 8 (base2 text lim q first sn) = m' ∧ m'.outcome = some .matched ∧ m'.start = q ∧ m'.handed = q + 2 := by
  refine ⟨_, rfl, ?_⟩
  have h0 : q < lim := by omega
  have h1 : ¬ (lim ≤ q) := by omega
  have h2 : ¬ (lim ≤ q + 1) := by omega
  simp [M.runFor, base2, M.step, M.exec, M.word, code2, ops7, ops15, ops5, ops0, ops16, ops1, hc, hd, M.say, M.resume, h0, h1, h2, M.attempt, M.putBack, accepts, itemWidth, M.alternative, M.frame, M.keep]
/-- a return alone -/
theorem r2_ret (hq : q < lim) (hc : text[q]?.getD 0 = 13) (hd : lim ≤ q + 1 ∨ text[q+1]?.getD 0 ≠ 10) :
    ∃ m', M.runFor 20 (base2 text lim q first sn) = m' ∧ m'.outcome = some .matched ∧ m'.start = q ∧ m'.handed = q + 1 := by
  refine ⟨_, rfl, ?_⟩
  have h1 : ¬ (lim ≤ q) := by omega
  by_cases h2 : lim ≤ q + 1
  · simp [M.runFor, base2, M.step, M.exec, M.word, code2, ops7, ops15, ops5, ops0, ops16, ops1, hc, M.say, M.resume, hq, h1, h2, M.attempt, M.putBack, accepts, itemWidth, M.alternative, M.frame, M.keep]
  · have hd' : (text[q+1]?.getD 0 == 10) = false := by simpa using hd.resolve_left h2
    simp [M.runFor, base2, M.step, M.exec, M.word, code2, ops7, ops15, ops5, ops0, ops16, ops1, hc, hd', M.say, M.resume, hq, h1, h2, M.attempt, M.putBack, accepts, itemWidth, M.alternative, M.frame, M.keep]
def fresh2 (text : Array Nat) (lim q : Nat) : M :=
  { code := code2, text := text, lim := lim, start := q, pc := 10, pos := q, handed := q, marks := Array.replicate (2 * 0) none, seen := ({} : Seen).add 14 }
theorem search2_eq (text : Array Nat) (lim q : Nat) : forSearch code2 text 0 q lim false = (if q > lim || lim - q < 1 then (fresh2 text lim q).say false else ({ fresh2 text lim q with lastStart := lim } : M).attemptFrom q true) := by rfl
theorem inSet2 (c : Nat) (sn : Seen) (h1 : c ≠ 10) (h2 : c ≠ 13) : ∃ sn', inSet code2 c 36 5 true sn = .ok (false, sn') := by
  refine ⟨((sn.add 16).add 16).add 0, ?_⟩
  simp [inSet, code2, ops16, ops0, h1, h2]
theorem inSet2' (c : Nat) (sn : Seen) (h : c = 10 ∨ c = 13) : ∃ sn', inSet code2 c 36 5 true sn = .ok (true, sn') := by
  rcases h with rfl | rfl
  · exact ⟨sn.add 16, by simp [inSet, code2, ops16]⟩
  · exact ⟨(sn.add 16).add 16, by simp [inSet, code2, ops16]⟩
theorem search2 (text : Array Nat) (lim q : Nat) (hq : q + 1 < lim) (h1 : text[q]?.getD 0 ≠ 10) (h2 : text[q]?.getD 0 ≠ 13) (h3 : text[q+1]?.getD 0 = 10 ∨ text[q+1]?.getD 0 = 13) :
    ∃ sn, forSearch code2 text 0 q lim false = base2 text lim (q + 1) true sn := by
  obtain ⟨s1, e1⟩ := inSet2 _ (({} : Seen).add 14) h1 h2
  obtain ⟨s2, e2⟩ := inSet2' _ s1 h3
  refine ⟨s2, ?_⟩
  have a1 : ¬ (lim < q) := by omega
  have a2 : ¬ (lim - q < 1) := by omega
  have a3 : ¬ (lim ≤ q) := by omega
  have a4 : ¬ (lim ≤ q + 1) := by omega
  have ha : M.admitted ({ fresh2 text lim q with lastStart := lim } : M) (lim + 1 - q) q (({} : Seen).add 14) = .ok (some (q + 1), s2) := by
    obtain ⟨k, hk⟩ : ∃ k, lim + 1 - q = k + 2 := ⟨lim + 1 - q - 2, by omega⟩
    rw [hk]
    show (if q ≥ lim then Except.ok (none, ({} : Seen).add 14) else match inSet code2 (text.getD q 0) 36 5 true (({} : Seen).add 14) with
      | .ok (true, seen) => (Except.ok (some q, seen) : Except String (Option Nat × Seen))
      | .ok (false, seen) => M.admitted _ (k + 1) (q + 1) seen
      | .error why => Except.error why) = _
    rw [if_neg a3, show text.getD q 0 = text[q]?.getD 0 by simp, e1]
    show (if q + 1 ≥ lim then Except.ok (none, s1) else match inSet code2 (text.getD (q + 1) 0) 36 5 true s1 with
      | .ok (true, seen) => (Except.ok (some (q + 1), seen) : Except String (Option Nat × Seen))
      | .ok (false, seen) => M.admitted _ k (q + 1 + 1) seen
      | .error why => Except.error why) = _
    rw [if_neg a4, show text.getD (q + 1) 0 = text[q + 1]?.getD 0 by simp, e2]
  rw [search2_eq, if_neg (by simp [a1, a2])]
  have hs : (({ fresh2 text lim q with lastStart := lim } : M)).hasFirstSet = true := rfl
  unfold M.attemptFrom
  rw [hs]
  show (match M.admitted ({ fresh2 text lim q with lastStart := lim } : M) (lim + 1 - q) q (({} : Seen).add 14) with
    | .ok (some s, seen) => ({ ({ fresh2 text lim q with lastStart := lim } : M) with mustAdvance := false, seen } : M).attemptAt s true
    | .ok (none, seen) => ({ ({ fresh2 text lim q with lastStart := lim } : M) with seen } : M).say false
    | .error why => ({ fresh2 text lim q with lastStart := lim } : M).stick why) = _
  rw [ha]
  rfl
theorem search2_end (text : Array Nat) (lim q : Nat) (hq : lim ≤ q) : ∃ m', M.runFor 1 (forSearch code2 text 0 q lim false) = m' ∧ m'.outcome = some .failed := by
  refine ⟨_, rfl, ?_⟩
  rw [search2_eq]
  have h2 : (lim - q < 1) := by omega
  simp [fresh2, h2, M.say, M.runFor, M.step]
end Mine
end
section
open PySem PySem.Calls PySem.Builtin PySem.Builtin.Re
set_option maxRecDepth 100000
namespace Mine
theorem slot_pat_sub : Slot "re.Pattern" "sub" "re.Pattern.sub" :=
  .of (owner := "re.Pattern") (n := "sub") (by rw [typeLookup_type, builtinLookup_eq_fast]; kernel_rfl) (by decide +kernel) (by decide +kernel) (by decide +kernel)
    (by first | exact .inl (by decide +kernel) | exact .inr (by decide +kernel)) (by rw [isSubtype_type]; kernel_rfl)
theorem entry_pat_sub : entryFor table "re.Pattern.sub" = some Builtin.«re.Pattern.sub» := entryFor_of_tree (by kernel_rfl)
theorem entry_pat_loop : entryFor table "re.Pattern.sub.loop" = some Builtin.«re.Pattern.sub.loop» := entryFor_of_tree (by kernel_rfl)
theorem pat_getattribute : typeLookup (.type "re.Pattern") "__getattribute__" = pure (some (.builtin "object.__getattribute__")) := by rw [typeLookup_type, builtinLookup_eq_fast]; kernel_rfl
theorem canon_pat_getattribute : (Manifest.canonical "object.__getattribute__" != "object.__getattribute__") = false := by decide +kernel
theorem pat_getattr_none : typeLookup (.type "re.Pattern") "__getattr__" = pure none := by rw [typeLookup_type, builtinLookup_eq_fast]; kernel_rfl
theorem type_pat_sub : typeOf (.builtin "re.Pattern.sub") = pure (.type "method_descriptor") := by show builtinType _ = _; rw [builtinType_eq_fast]; kernel_rfl
theorem args_pat_sub (a b c : Value) : argsOk "re.Pattern.sub" ⟨[a, b, c], []⟩ := by unfold argsOk; kernel_rfl
theorem str_call_none : typeLookup (.type "str") "__call__" = pure none := by rw [typeLookup_type, builtinLookup_eq_fast]; kernel_rfl
theorem plain_loop : plainId "re.Pattern.sub.loop" = true := by decide +kernel
end Mine
end
section
open PySem PySem.Calls PySem.Builtin PySem.Builtin.Re PySem.Sre
set_option maxRecDepth 100000
namespace Mine
section
variable {prog : Program} {w : World} {A : Around} {E : Value → Shared → Prop} {s : Shared}

theorem getMethod_pat {p : Addr} {o : Obj} {pl : Sem Bool} {Q : Value × List Value → Shared → Prop} (ho : s.heap.get? p = some o) (hc : o.cls = .type "re.Pattern") (hd : o.dict = none)
    (h : Q (.builtin "re.Pattern.sub", [.ref p]) s) : wpAny (model prog w) A (getMethod (.ref p) "sub" pl) Q E s := by
  have hT : s.TypeIs (.ref p) "re.Pattern" := ⟨o, ho, hc⟩
  unfold getMethod
  refine wpAny_bind (wpAny_specialOf hT pat_getattribute ?_)
  show wpAny _ A (if (Manifest.canonical "object.__getattribute__" != "object.__getattribute__") = true then _ else _) Q E s
  rw [canon_pat_getattribute, if_neg Bool.false_ne_true]
  refine wpAny_bind (wpAny_specialOf hT pat_getattr_none ?_)
  refine wpAny_bind (wpAny_specialOf hT slot_pat_sub.lookup ?_)
  refine wpAny_bind (wpAny_of_eq type_pat_sub ?_)
  refine wpAny_bind (wpAny_load ho ?_)
  rw [hd]
  exact wpAny_bind (wpAny_rule (wpAny_pure h))

/-- the drive of the machine -/
theorem wpAny_reDrive : ∀ (n t : Nat) (m : M) (Q : M → Shared → Prop), (M.runFor n m).outcome.isSome = true → n < 4 * t → Q (M.runFor n m) s → wpAny (model prog w) A (reDrive t m) Q E s := by
  intro n
  induction n using Nat.strongRecOn with
  | ind n ih =>
    intro t m Q ho ht hQ
    obtain ⟨t, rfl⟩ : ∃ t', t = t' + 1 := ⟨t - 1, by omega⟩
    show wpAny _ A (if (M.runFor 4 m).outcome.isSome then pure (M.runFor 4 m) else do rule "sre.turn"; reDrive t (M.runFor 4 m)) Q E s
    by_cases h4 : (M.runFor 4 m).outcome.isSome = true
    · rw [if_pos h4]
      have e : M.runFor n m = M.runFor 4 m := by
        by_cases hn : n ≤ 4
        · rw [show (4 : Nat) = n + (4 - n) by omega, runFor_add, runFor_done _ _ ho]
        · obtain ⟨k, rfl⟩ : ∃ k, n = 4 + k := ⟨n - 4, by omega⟩
          rw [runFor_add, runFor_done _ _ h4]
      rw [← e]; exact wpAny_pure hQ
    · rw [if_neg h4]
      have hn : 4 < n := by
        apply Nat.lt_of_not_le
        intro hn
        apply h4
        rw [show (4 : Nat) = n + (4 - n) by omega, runFor_add, runFor_done _ _ ho]; exact ho
      obtain ⟨k, rfl⟩ : ∃ k, n = 4 + k := ⟨n - 4, by omega⟩
      rw [runFor_add] at ho hQ
      exact wpAny_bind (wpAny_rule (ih k (by omega) t _ Q ho (by omega) hQ))

theorem wpAny_rules (f : Nat → Bool) (nm : Nat → String) (l : List Nat) (Q : PUnit → Shared → Prop) (h : Q PUnit.unit s) :
    wpAny (model prog w) A (forIn l PUnit.unit (fun i _ => if f i = true then (do rule (nm i); pure (ForInStep.yield PUnit.unit)) else pure (ForInStep.yield PUnit.unit)) : Sem PUnit) Q E s := by
  induction l generalizing s with
  | nil => exact wpAny_pure h
  | cons x l ih =>
    rw [List.forIn_cons]
    refine wpAny_bind ?_
    refine wpAny_ite ?_
    split
    · exact wpAny_bind (wpAny_rule (wpAny_pure (ih h)))
    · exact wpAny_pure (ih h)

theorem wpAny_reRunToEnd {m m' : M} {n : Nat} {Q : Option M → Shared → Prop} (hr : M.runFor n m = m') (hn : n < 4 * 2 ^ 64)
    (h : (m'.outcome = some .matched ∧ Q (some m') s) ∨ (m'.outcome = some .failed ∧ Q none s)) : wpAny (model prog w) A (reRunToEnd m) Q E s := by
  unfold reRunToEnd
  have ho : (M.runFor n m).outcome.isSome = true := by rw [hr]; rcases h with h | h <;> rw [h.1] <;> rfl
  refine wpAny_bind (wpAny_reDrive n (2 ^ 64) m _ ho hn ?_)
  rw [hr]
  refine wpAny_bind ?_
  refine wpAny_mono (Q := fun _ s' => s' = s) (E := E) ?_ ?_ (fun _ _ x => x)
  · exact wpAny_rules _ _ _ _ rfl
  · rintro _ _ rfl
    rcases h with ⟨h1, h2⟩ | ⟨h1, h2⟩
    · rw [h1]; exact wpAny_pure h2
    · rw [h1]; exact wpAny_pure h2

def patObj (src : Str) (t0 : Tok) (fl : Int) (t1 : Tok) (c : Addr) : Obj := { cls := .type "re.Pattern", data := .fields #[.str src t0, .int fl t1, .int 0 0, .none, .none, .ref c, .int 0 0] }
def codeObj (code : Array Nat) : Obj := { cls := .type "tuple", data := .seq (code.toList.map fun (n : Nat) => Value.int (n : Int) 0).toArray }

theorem rawItems_code {c : Addr} {code : Array Nat} {Q : Array Int → Shared → Prop} (hc : s.heap.get? c = some (codeObj code)) (h : Q (code.map fun (n : Nat) => (n : Int)) s) : wpAny (model prog w) A (reRawItems (.ref c)) Q E s := by
  unfold reRawItems
  refine wpAny_bind (wpAny_seqItems hc rfl (wpAny_pure ?_))
  show Q (((code.toList.map fun (n : Nat) => Value.int (n : Int) 0).toArray).map reRawOf) s
  have e : ((code.toList.map fun (n : Nat) => Value.int (n : Int) 0).toArray).map reRawOf = code.map fun (n : Nat) => (n : Int) := by
    apply Array.ext'
    simp only [Array.toList_map, List.map_map]
    rfl
  rw [e]; exact h

theorem wpAny_wholeTarget {p c : Addr} {src : Str} {t0 t1 : Tok} {fl : Int} {code : Array Nat} {x : Str} {t : Tok} {Q : ReTarget → Shared → Prop}
    (hp : s.heap.get? p = some (patObj src t0 fl t1 c)) (hc : s.heap.get? c = some (codeObj code))
    (h : Q { pattern := .ref p, string := .str x t, code := code, text := x.cps, kind := 0, groups := 0, pos := 0, lim := x.cps.size } s) :
    wpAny (model prog w) A (reWholeTarget (.ref p) (.str x t)) Q E s := by
  unfold reWholeTarget
  refine wpAny_bind (wpAny_fieldsOf hp rfl ?_)
  refine wpAny_bind (m := reTextOf (.str x t)) (wpAny_pure (a := (x.cps, 0)) ?_)
  show wpAny _ A (do
    if (0 : Nat) == 0 && (0 : Nat) == 1 then raiseError "TypeError" "cannot use a string pattern on a bytes-like object"
    if (0 : Nat) == 1 && (0 : Nat) == 0 then raiseError "TypeError" "cannot use a bytes pattern on a string-like object"
    reNoCollectionInside (.str x t) 0
    pure { pattern := .ref p, string := .str x t, code := (← reRawItems (.ref c)).map (·.toNat), text := x.cps, kind := 0, groups := 0, pos := 0, lim := x.cps.size }) Q E s
  refine wpAny_bind (m := reNoCollectionInside (.str x t) 0) (wpAny_pure ?_)
  refine wpAny_bind (rawItems_code hc (wpAny_pure ?_))
  have e : (code.map fun (n : Nat) => (n : Int)).map (·.toNat) = code := by
    rw [Array.map_map]
    have : ((fun (x : Int) => x.toNat) ∘ fun (n : Nat) => (n : Int)) = _root_.id := by funext n; simp
    rw [this, Array.map_id]
  rw [e]; exact h
end
end Mine
end
section
open PySem PySem.Calls PySem.Builtin PySem.Builtin.Re PySem.Sre
set_option maxRecDepth 100000
namespace Mine
section
variable {prog : Program} {w : World} {A : Around} {s : Shared} {R : Result → Shared → Prop}

def loopArgs (p : Addr) (x : Str) (t : Tok) (r : Str) (u : Tok) (n d : Int) (D : Addr) : Args :=
  ⟨[.ref p, .str x t, .str r u, rawInt 0, rawInt 0, rawInt n, rawInt d, rawInt d, .bool false, .ref D, .bool false], []⟩

theorem push_list {E : Value → Shared → Prop} {D : Addr} {items : Array Value} {v : Value} {Q : Unit → Shared → Prop} (hl : s.heap.IsList D items) (hz : items.size ≤ 1000)
    (h : ∀ h', h'.IsList D (items.push v) → (∀ b o, b ≠ D → s.heap.get? b = some o → h'.get? b = some o) → Q () { s with heap := h' }) : wpAny (model prog w) A (updateSeq D (·.push v)) Q E s := by
  obtain ⟨o, ho, hc, n, hd⟩ := id hl
  refine wpAny_updateSeq ho hd (h _ ?_ ?_) (by have : sizeLine = 16777216 := rfl; omega) (by simp only [Array.size_push]; have : sizeLine = 16777216 := rfl; omega)
  · obtain ⟨n', hn'⟩ := Obj.data_mapSeq hd (·.push v)
    exact ⟨_, Heap.get?_update_self _ ho (Obj.isFreed_of_seq hn'), (Obj.cls_mapSeq o _).trans hc, n', hn'⟩
  · intro b ob hb e
    exact (Heap.get?_update_ne _ _ _ _ hb).trans e

theorem turn_hit {p c D : Addr} {src : Str} {t0 t1 : Tok} {fl : Int} {code : Array Nat} {x r : Str} {t u : Tok} {n : Int} {d k a b : Nat} {l : List (Str × Tok)} {m' : M}
    (hp : s.heap.get? p = some (patObj src t0 fl t1 c)) (hc : s.heap.get? c = some (codeObj code)) 
    (hr : M.runFor k (forSearch code x.cps 0 d x.cps.size false) = m') (hk : k < 4 * 2 ^ 64) (ho : m'.outcome = some .matched) (ha : m'.start = a) (hb : m'.handed = b) (hab : a ≠ b)
    (hl : s.heap.IsList D (strValues l).toArray) (hz : l.length ≤ 900) (hx : x.cps.size ≤ 1000)
    (next : ∀ h' tk' w', h'.IsList D (strValues (l ++ (if d < a then [(⟨x.cps.extract d a⟩, w')] else []) ++ [(r, u)])).toArray → (∀ b o, b ≠ D → s.heap.get? b = some o → h'.get? b = some o) →
      codeAny (model prog w) A (.builtin "re.Pattern.sub.loop" (loopArgs p x t r u (n + 1) b D)) R { s with heap := h', toks := tk' }) :
    codeAny (model prog w) A (.builtin "re.Pattern.sub.loop" (loopArgs p x t r u n d D)) R s := by
  refine codeAny_builtin entry_pat_loop ?_
  rw [Around.under_plainId plain_loop]
  unfold «re.Pattern.sub.loop» loopArgs
  refine wpAny_bind (wpAny_wholeTarget hp hc ?_)
  refine wpAny_bind (m := reLiteralCannotBeTurned (.str r u)) (wpAny_pure ?_)
  refine wpAny_bind ?_
  show wpAny _ _ (reRunToEnd (forSearch code x.cps 0 ((d : Int)).toNat x.cps.size false)) _ _ s
  rw [show ((d : Int)).toNat = d by omega]
  refine wpAny_reRunToEnd hr hk (.inl ⟨ho, ?_⟩)
  have hst : ∀ l : List (Str × Tok), (strValues l).toArray.size = l.length := fun l => by simp [strValues]
  have hpush : ∀ (l : List (Str × Tok)) (y : Str) (v : Tok), (strValues l).toArray.push (.str y v) = (strValues (l ++ [(y, v)])).toArray := fun l y v => by simp [strValues]
  have tail : ∀ (h₁ : Heap) (tk : Nat) (w' : Tok), h₁.IsList D (strValues (l ++ (if d < a then [(⟨x.cps.extract d a⟩, w')] else []))).toArray → (∀ b o, b ≠ D → s.heap.get? b = some o → h₁.get? b = some o) →
      wpAny (model prog w) A.in1 (do updateSeq D (fun xs => xs.push (Value.str r u)); again (.builtin "re.Pattern.sub.loop" ⟨[.ref p, .str x t, .str r u, rawInt 0, rawInt 0, rawInt (n + 1), rawInt m'.handed, rawInt m'.handed, .bool (m'.handed == m'.start), .ref D, .bool false], []⟩))
        (fun fin s' => match fin with | .done f => R (.ok f) s' | .again c' => c'.quiet = true ∧ codeAny (model prog w) A c' R s') (fun e s' => R (.error e) s') { s with heap := h₁, toks := tk } := by
    intro h₁ tk w' hl₁ hk₁
    refine wpAny_bind (push_list hl₁ (by rw [hst, List.length_append]; split <;> simp <;> omega) fun h₂ hl₂ hk₂ => wpAny_pure ?_)
    rw [ha, hb, show ((b == a) = false) by simpa using Ne.symm hab]
    refine ⟨plainId_quiet plain_loop _, next h₂ tk w' ?_ fun b o hb e => hk₂ b o hb (hk₁ b o hb e)⟩
    rw [hpush] at hl₂; exact hl₂
  dsimp only
  rw [ha]
  by_cases hda : d < a
  · rw [if_pos hda]
    refine wpAny_bind (wpAny_mkStr ?_ ?_)
    · refine wpAny_bind (push_list hl (by rw [hst]; omega) fun h₁ hl₁ hk₁ => ?_)
      have := tail h₁ (s.toks + 1) s.toks (by rw [if_pos hda, ← hpush]; exact hl₁) hk₁
      rw [← ha]; exact this
    · show (x.cps.extract d a).size ≤ sizeLine
      rw [Array.size_extract]; have : sizeLine = 16777216 := rfl; omega
  · rw [if_neg hda]
    have := tail s.heap s.toks 0 (by rw [if_neg hda, List.append_nil]; exact hl) fun _ _ _ e => e
    rw [← ha]; exact this

theorem turn_end {p c D : Addr} {src : Str} {t0 t1 : Tok} {fl : Int} {code : Array Nat} {x r : Str} {t u : Tok} {n : Int} {d k : Nat} {l : List (Str × Tok)} {m' : M}
    (hp : s.heap.get? p = some (patObj src t0 fl t1 c)) (hc : s.heap.get? c = some (codeObj code))
    (hr : M.runFor k (forSearch code x.cps 0 d x.cps.size false) = m') (hk : k < 4 * 2 ^ 64) (ho : m'.outcome = some .failed)
    (hl : s.heap.IsList D (strValues l).toArray) (hz : l.length ≤ 900) (hx : x.cps.size ≤ 1000) (hlen : ∀ y ∈ l, y.1.length ≤ 1000)
    (next : ∀ h' tk' w' w'', (∀ b o, b ≠ D → s.heap.get? b = some o → h'.get? b = some o) →
      R (.ok (.ret (.str (Txt.join ⟨#[]⟩ ((l ++ (if d < x.cps.size then [((⟨x.cps.extract d x.cps.size⟩ : Str), w')] else [])).map (fun y : Str × Tok => y.1))) w''))) { s with heap := h', toks := tk' }) :
    codeAny (model prog w) A (.builtin "re.Pattern.sub.loop" (loopArgs p x t r u n d D)) R s := by
  refine codeAny_builtin entry_pat_loop ?_
  rw [Around.under_plainId plain_loop]
  unfold «re.Pattern.sub.loop» loopArgs
  refine wpAny_bind (wpAny_wholeTarget hp hc ?_)
  refine wpAny_bind (m := reLiteralCannotBeTurned (.str r u)) (wpAny_pure ?_)
  refine wpAny_bind ?_
  show wpAny _ _ (reRunToEnd (forSearch code x.cps 0 ((d : Int)).toNat x.cps.size false)) _ _ s
  rw [show ((d : Int)).toNat = d by omega]
  refine wpAny_reRunToEnd hr hk (.inr ⟨ho, ?_⟩)
  have hst : ∀ l : List (Str × Tok), (strValues l).toArray.size = l.length := fun l => by simp [strValues]
  have hpush : ∀ (l : List (Str × Tok)) (y : Str) (v : Tok), (strValues l).toArray.push (.str y v) = (strValues (l ++ [(y, v)])).toArray := fun l y v => by simp [strValues]
  dsimp only
  have tail : ∀ (h₁ : Heap) (tk : Nat) (l' : List (Str × Tok)), h₁.IsList D (strValues l').toArray → l'.length ≤ 901 → (∀ y ∈ l', y.1.length ≤ 1000) → (∀ tk' w'', R (.ok (.ret (.str (Txt.join ⟨#[]⟩ (l'.map (·.1))) w''))) { s with heap := h₁, toks := tk' }) →
      wpAny (model prog w) A.in1 (do
        let joiner ← reSlice x.cps 0 0 0
        let its ← seqItems? (Value.ref D)
        if ((its.getD #[]).isEmpty) = true then do
            let text ← pure joiner
            if false = true then do ret (← holding [text] do newTuple [text, ← mkInt n]) else ret text
          else do
            let text ← call (Value.builtin (if ((0 : Nat) == 0) = true then "str.join" else "bytes.join")) [joiner, Value.ref D]
            if false = true then do ret (← holding [text] do newTuple [text, ← mkInt n]) else ret text)
        (fun fin s' => match fin with | .done f => R (.ok f) s' | .again c' => c'.quiet = true ∧ codeAny (model prog w) A c' R s') (fun e s' => R (.error e) s') { s with heap := h₁, toks := tk } := by
    intro h₁ tk l' hl₁ hz₁ hy₁ hR
    have e0 : (⟨x.cps.extract 0 0⟩ : Str) = ⟨#[]⟩ := by simp
    refine wpAny_bind (m := reSlice x.cps 0 0 0) (wpAny_mkStr ?_ (by rw [e0]; decide))
    rw [e0]
    obtain ⟨o, ho', hc', n', hd'⟩ := id hl₁
    refine wpAny_bind (wpAny_seqItems ho' hd' ?_)
    show wpAny _ _ (if (strValues l').toArray.isEmpty = true then _ else _) _ _ _
    cases l' with
    | nil =>
      rw [if_pos (by simp [strValues])]
      exact wpAny_pure (hR (tk + 1) tk)
    | cons q r' =>
      rw [if_neg (by simp [strValues])]
      refine wpAny_bind (SC.join hl₁ rfl ?_ fun t' k => wpAny_pure (hR k t'))
      unfold JoinOk
      rw [StrLaws.joinFits (B := 1000) (fun y hy => by
        obtain ⟨q', hq', rfl⟩ := List.mem_map.mp hy
        exact hy₁ q' hq') (by
        rw [List.length_map]
        have : (⟨#[]⟩ : Str).length = 0 := rfl
        rw [this]; omega)]
      rfl
  by_cases hda : d < x.cps.size
  · rw [if_pos hda]
    refine wpAny_bind (wpAny_mkStr ?_ ?_)
    · refine wpAny_bind (push_list hl (by rw [hst]; omega) fun h₁ hl₁ hk₁ => ?_)
      rw [hpush] at hl₁
      refine tail h₁ (s.toks + 1) _ hl₁ (by simp; omega) ?_ ?_
      · intro y hy
        rcases List.mem_append.mp hy with hy | hy
        · exact hlen y hy
        · rw [List.mem_singleton.mp hy]
          show (x.cps.extract d x.cps.size).size ≤ 1000
          rw [Array.size_extract]; omega
      · intro tk' w''
        have := next h₁ tk' s.toks w'' hk₁
        rw [if_pos hda] at this
        exact this
    · show (x.cps.extract d x.cps.size).size ≤ sizeLine
      rw [Array.size_extract]; have : sizeLine = 16777216 := rfl; omega
  · rw [if_neg hda]
    refine tail s.heap s.toks l hl (by omega) hlen fun tk' w'' => ?_
    have := next s.heap tk' 0 w'' fun _ _ _ e => e
    rw [if_neg hda, List.append_nil] at this
    exact this
end
end Mine
end
section
open PySem PySem.Calls PySem.Builtin PySem.Builtin.Re PySem.Sre
set_option maxRecDepth 100000
namespace Mine
/-- a text of signs -/
abbrev tx (l : List Nat) : Str := ⟨l.toArray⟩
theorem tx_ext {x : Str} {l : List Nat} (h : x.cps.toList = l) : x = tx l := by
  obtain ⟨a⟩ := x
  show (⟨a⟩ : Str) = ⟨l.toArray⟩
  rw [← h]
theorem str_append (a b : Str) : (a ++ b).cps = a.cps ++ b.cps := rfl
theorem join_toList : ∀ l : List Str, (Str.join ⟨#[]⟩ l).cps.toList = l.flatMap (·.cps.toList)
  | [] => rfl
  | [x] => by simp [Str.join]
  | x :: y :: r => by
    show ((x ++ (⟨#[]⟩ : Str) ++ Str.join ⟨#[]⟩ (y :: r)).cps).toList = _
    rw [str_append, str_append, Array.toList_append, Array.toList_append, join_toList (y :: r)]
    simp
theorem txtJoin_toList (l : List Str) : (Txt.join ⟨#[]⟩ l).cps.toList = l.flatMap (·.cps.toList) := by
  unfold Txt.join
  rw [StrLaws.glued_eq_join, join_toList]

/-- rows: a letter and its ending -/
def Row.ok (r : Nat × List Nat) : Prop := r.1 ≠ 10 ∧ r.1 ≠ 13 ∧ (r.2 = [10] ∨ r.2 = [13] ∨ r.2 = [13, 10])
def mailL (rows : List (Nat × List Nat)) : List Nat := rows.flatMap fun r => r.1 :: r.2
def crlfL (rows : List (Nat × List Nat)) : List Nat := rows.flatMap fun r => [r.1, 13, 10]
theorem mailL_append (a b : List (Nat × List Nat)) : mailL (a ++ b) = mailL a ++ mailL b := List.flatMap_append
theorem mailL_len {rows : List (Nat × List Nat)} (h : ∀ r ∈ rows, Row.ok r) : (mailL rows).length ≤ 3 * rows.length := by
  induction rows with
  | nil => simp [mailL]
  | cons r l ih =>
    have h1 := ih fun q hq => h q (List.mem_cons_of_mem _ hq)
    have h2 := (h r (List.mem_cons_self ..)).2.2
    have h3 : mailL (r :: l) = (r.1 :: r.2) ++ mailL l := rfl
    rw [h3, List.length_append, List.length_cons, List.length_cons]
    rcases h2 with e | e | e <;> rw [e] <;> simp <;> omega

theorem at_list {x : Str} {L : List Nat} (h : x.cps.toList = L) (i : Nat) : x.cps[i]?.getD 0 = L[i]?.getD 0 := by rw [← h]; simp

theorem search_row {x : Str} {done rest : List (Nat × List Nat)} {r : Nat × List Nat} (hx : x.cps.toList = mailL (done ++ r :: rest)) (hr : Row.ok r) (hrest : ∀ q ∈ rest, Row.ok q) :
    ∃ m', M.runFor 20 (forSearch code2 x.cps 0 (mailL done).length x.cps.size false) = m' ∧ m'.outcome = some .matched ∧ m'.start = (mailL done).length + 1 ∧ m'.handed = (mailL (done ++ [r])).length := by
  have hL : mailL (done ++ r :: rest) = mailL done ++ (r.1 :: (r.2 ++ mailL rest)) := by rw [mailL_append]; simp [mailL]
  have hsz : x.cps.size = (mailL done).length + (1 + (r.2.length + (mailL rest).length)) := by
    have := congrArg List.length hx
    rw [Array.length_toList, hL, List.length_append, List.length_cons, List.length_append] at this
    omega
  have hlen : (mailL (done ++ [r])).length = (mailL done).length + (1 + r.2.length) := by rw [mailL_append]; simp [mailL]; omega
  obtain ⟨c, e⟩ := r
  obtain ⟨h1, h2, h3⟩ := hr
  dsimp only at *
  have g0 : x.cps[(mailL done).length]?.getD 0 = c := by rw [at_list hx, hL]; simp
  have hh : ∀ q t, mailL rest = q :: t → q ≠ 10 := by
    intro q t e'
    cases rest with
    | nil => simp [mailL] at e'
    | cons r' l =>
      have : mailL (r' :: l) = r'.1 :: (r'.2 ++ mailL l) := rfl
      rw [this] at e'
      cases e'
      exact (hrest r' (List.mem_cons_self ..)).1
  rw [hlen]
  rcases h3 with rfl | rfl | rfl
  · have g1 : x.cps[(mailL done).length + 1]?.getD 0 = 10 := by rw [at_list hx, hL]; simp
    obtain ⟨sn, es⟩ := search2 x.cps x.cps.size (mailL done).length (by rw [hsz]; simp; omega) (by rw [g0]; exact h1) (by rw [g0]; exact h2) (.inl g1)
    obtain ⟨m', e1, e2, e3, e4⟩ := r2_feed (first := true) (sn := sn) (text := x.cps) (lim := x.cps.size) (q := (mailL done).length + 1) (by rw [hsz]; simp; omega) g1
    refine ⟨m', ?_, e2, e3, by rw [e4]; rfl⟩
    rw [es, show 20 = 9 + 11 from rfl, runFor_add, e1, runFor_done _ _ (by rw [e2]; rfl)]
  · have g1 : x.cps[(mailL done).length + 1]?.getD 0 = 13 := by rw [at_list hx, hL]; simp
    obtain ⟨sn, es⟩ := search2 x.cps x.cps.size (mailL done).length (by rw [hsz]; simp; omega) (by rw [g0]; exact h1) (by rw [g0]; exact h2) (.inr g1)
    have g2 : x.cps.size ≤ (mailL done).length + 1 + 1 ∨ x.cps[(mailL done).length + 1 + 1]?.getD 0 ≠ 10 := by
      cases hm : mailL rest with
      | nil => left; rw [hsz, hm]; simp
      | cons q t => right; rw [at_list hx, hL, hm, Nat.add_assoc, List.getElem?_append_right (by omega)]; simp; exact hh q t hm
    obtain ⟨m', e1, e2, e3, e4⟩ := r2_ret (first := true) (sn := sn) (text := x.cps) (lim := x.cps.size) (q := (mailL done).length + 1) (by rw [hsz]; simp; omega) g1 g2
    exact ⟨m', by rw [es, e1], e2, e3, by rw [e4]; rfl⟩
  · have g1 : x.cps[(mailL done).length + 1]?.getD 0 = 13 := by rw [at_list hx, hL]; simp
    have g2 : x.cps[(mailL done).length + 1 + 1]?.getD 0 = 10 := by rw [at_list hx, hL, Nat.add_assoc, List.getElem?_append_right (by omega)]; simp
    obtain ⟨sn, es⟩ := search2 x.cps x.cps.size (mailL done).length (by rw [hsz]; simp; omega) (by rw [g0]; exact h1) (by rw [g0]; exact h2) (.inr g1)
    obtain ⟨m', e1, e2, e3, e4⟩ := r2_both (first := true) (sn := sn) (text := x.cps) (lim := x.cps.size) (q := (mailL done).length + 1) (by rw [hsz]; simp; omega) g1 g2
    refine ⟨m', ?_, e2, e3, by rw [e4]; rfl⟩
    rw [es, show 20 = 8 + 12 from rfl, runFor_add, e1, runFor_done _ _ (by rw [e2]; rfl)]
end Mine
end
section
open PySem PySem.Calls PySem.Builtin PySem.Builtin.Re PySem.Sre
set_option maxRecDepth 100000
namespace Mine
section
variable {prog : Program} {w : World} {A : Around} {R : Result → Shared → Prop}

theorem loop2 {p c D : Addr} {src : Str} {t0 t1 : Tok} {fl : Int} {x r : Str} {t u : Tok} {s₀ : Shared} (hr : r = tx [13, 10]) (all : List (Nat × List Nat)) (hx : x.cps.toList = mailL all) (hok : ∀ q ∈ all, Row.ok q) (hall : all.length ≤ 100)
    (hp : s₀.heap.get? p = some (patObj src t0 fl t1 c)) (hc : s₀.heap.get? c = some (codeObj code2)) (hD : s₀.heap.get? D = none)
    (hR : ∀ h' tk' v, (∀ b o, s₀.heap.get? b = some o → h'.get? b = some o) → R (.ok (.ret (.str (tx (crlfL all)) v))) { s₀ with heap := h', toks := tk' }) :
    ∀ (rest done : List (Nat × List Nat)) (n : Int) (l : List (Str × Tok)) (h : Heap) (tk : Nat), all = done ++ rest → h.IsList D (strValues l).toArray → l.length ≤ 2 * done.length → (∀ y ∈ l, y.1.length ≤ 1000) →
      (l.map (·.1)).flatMap (·.cps.toList) = crlfL done → (∀ b o, s₀.heap.get? b = some o → h.get? b = some o) →
      codeAny (model prog w) A (.builtin "re.Pattern.sub.loop" (loopArgs p x t r u n ((mailL done).length : Nat) D)) R { s₀ with heap := h, toks := tk } := by
  have hxs : x.cps.size ≤ 300 := by
    have := congrArg List.length hx
    rw [Array.length_toList] at this
    have h3 := mailL_len hok
    omega
  have ne : ∀ b o, s₀.heap.get? b = some o → b ≠ D := fun b o e q => by rw [q, hD] at e; cases e
  intro rest
  induction rest with
  | nil =>
    intro done n l h tk hall' hl hz hy hcat hk
    rw [List.append_nil] at hall'
    subst hall'
    have hsz : x.cps.size = (mailL all).length := by rw [← hx]; simp
    obtain ⟨m', e1, e2⟩ := search2_end x.cps x.cps.size (mailL all).length (by omega)
    refine turn_end (s := { s₀ with heap := h, toks := tk }) (hk p _ hp) (hk c _ hc) e1 (by decide) e2 hl (by omega) (by omega) hy fun h' tk' w' w'' hk' => ?_
    rw [if_neg (by omega), List.append_nil, show (Txt.join ⟨#[]⟩ (l.map fun y : Str × Tok => y.1)) = tx (crlfL all) from tx_ext (by rw [txtJoin_toList, hcat])]
    exact hR h' tk' w'' fun b o e => hk' b o (ne b o e) (hk b o e)
  | cons q rest ih =>
    intro done n l h tk hall' hl hz hy hcat hk
    have hq := hok q (by rw [hall']; simp)
    obtain ⟨m', e1, e2, e3, e4⟩ := search_row (x := x) (done := done) (rest := rest) (r := q) (by rw [hx, hall']) hq fun q' hq' => hok q' (by rw [hall']; simp [hq'])
    have hdl : done.length ≤ 100 := by have := congrArg List.length hall'; simp at this; omega
    have hlt : (mailL done).length < (mailL done).length + 1 := Nat.lt_succ_self _
    have hml : (mailL (done ++ [q])).length = (mailL done).length + (1 + q.2.length) := by rw [mailL_append]; simp [mailL]; omega
    refine turn_hit (s := { s₀ with heap := h, toks := tk }) (hk p _ hp) (hk c _ hc) e1 (by decide) e2 e3 e4 ?_ hl (by omega) (by omega) fun h' tk' w' hl' hk' => ?_
    · rw [hml]; rcases hq.2.2 with e | e | e <;> rw [e] <;> simp
    · rw [if_pos hlt] at hl'
      have ex : x.cps.extract (mailL done).length ((mailL done).length + 1) = #[q.1] := by
        apply Array.ext'
        rw [Array.toList_extract, hx, hall', mailL_append, show mailL (q :: rest) = q.1 :: (q.2 ++ mailL rest) from rfl, List.extract_eq_take_drop]
        simp
      refine ih (done ++ [q]) (n + 1) _ h' tk' (by rw [hall']; simp) hl' (by simp; omega) ?_ ?_ fun b o e => hk' b o (ne b o e) (hk b o e)
      · intro y hy'
        rcases List.mem_append.mp hy' with hy' | hy'
        · rcases List.mem_append.mp hy' with hy' | hy'
          · exact hy y hy'
          · rw [List.mem_singleton.mp hy']
            show (x.cps.extract _ _).size ≤ 1000
            rw [ex]; show 1 ≤ 1000; omega
        · rw [List.mem_singleton.mp hy', hr]; show 2 ≤ 1000; omega
      · rw [List.map_append, List.map_append, List.flatMap_append, List.flatMap_append, hcat, hr]
        simp only [List.map_cons, List.map_nil, List.flatMap_cons, List.flatMap_nil, List.append_nil]
        rw [ex]
        simp [crlfL]

theorem sub_call {E : Value → Shared → Prop} {p c : Addr} {src : Str} {t0 t1 : Tok} {fl : Int} {code : Array Nat} {x r : Str} {t u : Tok} {s : Shared} {Q : Value → Shared → Prop}
    (hp : s.heap.get? p = some (patObj src t0 fl t1 c)) (hc : s.heap.get? c = some (codeObj code)) (hr : r.cps.contains 92 = false)
    (h : codeAny (model prog w) A (.builtin "re.Pattern.sub.loop" (loopArgs p x t r u 0 0 s.heap.objs.size)) (fun r s' => match r with | .ok (.ret v) => Q v s' | .ok _ => False | .error e => E e s')
      { s with heap := s.heap.push { cls := .type "list", data := .seq #[] } }) :
    wpAny (model prog w) A (call (.builtin "re.Pattern.sub") [.ref p, .str r u, .str x t]) Q E s := by
  have hT : s.TypeIs (.ref p) "re.Pattern" := ⟨_, hp, rfl⟩
  refine wpAny_call (codeAny_call_builtin slot_pat_sub.plain entry_pat_sub (slot_pat_sub.check _ _ _ _ _ _ _ _ hT (args_pat_sub _ _ _) ?_))
  unfold «re.Pattern.sub» reSubstitute
  refine wpAny_bind (m := reNamed _ _ _ _ _ _) (wpAny_of_eq (a := [some (.str r u), some (.str x t), none]) (by rfl) ?_)
  dsimp only
  refine wpAny_bind (wpAny_pure ?_)
  refine wpAny_bind (wpAny_specialOf (typeIs_str _ _ _) str_call_none ?_)
  simp only [Option.isSome_none, Bool.false_eq_true, if_false]
  refine wpAny_bind (m := asStr? (.str r u)) (wpAny_pure ?_)
  dsimp only
  refine wpAny_bind (wpAny_pure ?_)
  rw [hr]
  refine wpAny_bind (m := pure (Value.str r u, 0)) (wpAny_pure ?_)
  refine wpAny_bind (wpAny_holding (wpAny_wholeTarget hp hc ?_))
  refine wpAny_bind (wpAny_newList (wpAny_pure ⟨plainId_quiet plain_loop _, h⟩))

theorem sub2 {E : Value → Shared → Prop} {p c : Addr} {src : Str} {t0 t1 : Tok} {fl : Int} {t u : Tok} {s : Shared} {Q : Value → Shared → Prop} (all : List (Nat × List Nat)) (hok : ∀ q ∈ all, Row.ok q) (hall : all.length ≤ 100)
    (hp : s.heap.get? p = some (patObj src t0 fl t1 c)) (hc : s.heap.get? c = some (codeObj code2))
    (h : ∀ h' tk v, (∀ b o, s.heap.get? b = some o → h'.get? b = some o) → Q (.str (tx (crlfL all)) v) { s with heap := h', toks := tk }) :
    wpAny (model prog w) A (call (.builtin "re.Pattern.sub") [.ref p, .str (tx [13, 10]) u, .str (tx (mailL all)) t]) Q E s := by
  refine sub_call hp hc (by decide +kernel) ?_
  have hD : s.heap.get? s.heap.objs.size = none := by
    cases q : s.heap.get? s.heap.objs.size with
    | none => rfl
    | some o => exact absurd (Heap.lt_size q) (Nat.lt_irrefl _)
  exact loop2 (s₀ := s) rfl all (by simp) hok hall hp hc hD (fun h' tk' v hk => h h' tk' v hk) all [] 0 [] _ s.toks rfl ⟨_, Heap.get?_push_size _ rfl, rfl, _, rfl⟩ (by simp) (by simp) rfl
    fun b o e => Heap.get?_push_of_some _ e
end
end Mine
end
section
open PySem PySem.Calls PySem.Builtin PySem.Builtin.Re PySem.Sre
set_option maxRecDepth 100000
set_option linter.unusedSimpArgs false
namespace Mine
/-- what ^\. by .. makes of a text; b: at a line's start -/
noncomputable def dots : Bool → List Nat → List Nat
  | _, [] => []
  | b, c :: t => (if b = true ∧ c = 46 then [46, 46] else [c]) ++ dots (c == 10) t
def atB (x : Array Nat) (d : Nat) : Bool := d == 0 || x[d-1]?.getD 0 == 10

theorem drop_cons {l : List Nat} {q : Nat} (h : q < l.length) : l.drop q = l[q]?.getD 0 :: l.drop (q + 1) := by
  rw [List.drop_eq_getElem_cons h]; simp [h]
theorem atB_succ (x : Array Nat) (q : Nat) : atB x (q + 1) = (x[q]?.getD 0 == 10) := by simp [atB]

theorem search1_spec (x : Array Nat) : ∀ (k q : Nat) (first : Bool) (sn : Seen), x.size - q = k → q ≤ x.size →
    ∃ n m', n ≤ 3 * k + 5 ∧ M.runFor n (base1 x x.size q first sn) = m' ∧
      ((m'.outcome = some .matched ∧ ∃ a, m'.start = a ∧ m'.handed = a + 1 ∧ q ≤ a ∧ a < x.size ∧ x[a]?.getD 0 = 46 ∧
          dots (atB x q) (x.toList.drop q) = (x.extract q a).toList ++ [46, 46] ++ dots false (x.toList.drop (a + 1)))
       ∨ (m'.outcome = some .failed ∧ dots (atB x q) (x.toList.drop q) = x.toList.drop q)) := by
  intro k
  induction k with
  | zero =>
    intro q first sn hk hq
    obtain ⟨m', e1, e2⟩ := r1_end (text := x) (lim := x.size) (q := q) (first := first) (sn := sn) (by omega)
    refine ⟨4, m', by omega, e1, .inr ⟨e2, ?_⟩⟩
    rw [List.drop_eq_nil_of_le (by simp; omega)]; rfl
  | succ k ih =>
    intro q first sn hk hq
    have hlt : q < x.size := by omega
    have hd := drop_cons (l := x.toList) (q := q) (by simpa using hlt)
    have hg : x.toList[q]?.getD 0 = x[q]?.getD 0 := by simp
    rw [hg] at hd
    -- going on
    have go : ∀ (j : Nat) (sn' : Seen), j ≤ 3 → M.runFor j (base1 x x.size q first sn) = base1 x x.size (q + 1) false sn' → ¬ (atB x q = true ∧ x[q]?.getD 0 = 46) →
        ∃ n m', n ≤ 3 * (k + 1) + 5 ∧ M.runFor n (base1 x x.size q first sn) = m' ∧
      ((m'.outcome = some .matched ∧ ∃ a, m'.start = a ∧ m'.handed = a + 1 ∧ q ≤ a ∧ a < x.size ∧ x[a]?.getD 0 = 46 ∧
          dots (atB x q) (x.toList.drop q) = (x.extract q a).toList ++ [46, 46] ++ dots false (x.toList.drop (a + 1)))
       ∨ (m'.outcome = some .failed ∧ dots (atB x q) (x.toList.drop q) = x.toList.drop q)) := by
      intro j sn' hj ej hno
      obtain ⟨n, m', hn, er, hh⟩ := ih (q + 1) false sn' (by omega) (by omega)
      have hs : dots (atB x q) (x.toList.drop q) = x[q]?.getD 0 :: dots (atB x (q + 1)) (x.toList.drop (q + 1)) := by
        rw [hd]
        show (if _ then _ else _) ++ _ = _
        rw [if_neg hno, atB_succ]; rfl
      refine ⟨j + n, m', by omega, by rw [runFor_add, ej, er], ?_⟩
      rcases hh with ⟨h1, a, h2, h3, h4, h5, h7, h6⟩ | ⟨h1, h2⟩
      · refine .inl ⟨h1, a, h2, h3, by omega, h5, h7, ?_⟩
        rw [hs, h6]
        have : (x.extract q a).toList = x[q]?.getD 0 :: (x.extract (q + 1) a).toList := by
          rw [Array.toList_extract, Array.toList_extract, List.extract_eq_take_drop, List.extract_eq_take_drop, hd, show a - q = (a - (q + 1)) + 1 by omega, List.take_succ_cons]
        rw [this]; simp
      · refine .inr ⟨h1, ?_⟩
        rw [hs, h2, hd]
    by_cases hb : q = 0 ∨ x[q-1]?.getD 0 = 10
    · have hB : atB x q = true := by unfold atB; rcases hb with h | h <;> simp [h]
      by_cases hc : x[q]?.getD 0 = 46
      · obtain ⟨m', e1, e2, e3, e4⟩ := r1_dot (text := x) (lim := x.size) (q := q) (first := first) (sn := sn) hlt hb hc
        refine ⟨5, m', by omega, e1, .inl ⟨e2, q, e3, e4, Nat.le_refl _, hlt, hc, ?_⟩⟩
        rw [hd, hB]
        show (if _ then _ else _) ++ _ = _
        rw [if_pos ⟨rfl, hc⟩, hc]
        simp
      · obtain ⟨sn', e⟩ := r1_other (text := x) (lim := x.size) (q := q) (first := first) (sn := sn) hlt hb hc
        exact go 3 sn' (by omega) e fun h => hc h.2
    · have h1 : q ≠ 0 := fun e => hb (.inl e)
      have h2 : x[q-1]?.getD 0 ≠ 10 := fun e => hb (.inr e)
      obtain ⟨sn', e⟩ := r1_no (text := x) (lim := x.size) (q := q) (first := first) (sn := sn) hlt h1 h2
      refine go 2 sn' (by omega) e fun h => ?_
      have : atB x q = false := by simp [atB, h1, h2]
      rw [this] at h; exact Bool.noConfusion h.1

section
variable {prog : Program} {w : World} {A : Around} {R : Result → Shared → Prop}
theorem loop1 {p c D : Addr} {src : Str} {t0 t1 : Tok} {fl : Int} {x r : Str} {t u : Tok} {s₀ : Shared} (hr : r = tx [46, 46]) (hxs : x.cps.size ≤ 300)
    (hp : s₀.heap.get? p = some (patObj src t0 fl t1 c)) (hc : s₀.heap.get? c = some (codeObj code1)) (hD : s₀.heap.get? D = none)
    (hR : ∀ h' tk' v, (∀ b o, s₀.heap.get? b = some o → h'.get? b = some o) → R (.ok (.ret (.str (tx (dots true x.cps.toList)) v))) { s₀ with heap := h', toks := tk' }) :
    ∀ (k d : Nat) (n : Int) (l : List (Str × Tok)) (h : Heap) (tk : Nat), x.cps.size - d = k → d ≤ x.cps.size → h.IsList D (strValues l).toArray → l.length ≤ 2 * d → (∀ y ∈ l, y.1.length ≤ 1000) →
      (l.map (·.1)).flatMap (·.cps.toList) ++ dots (atB x.cps d) (x.cps.toList.drop d) = dots true x.cps.toList → (∀ b o, s₀.heap.get? b = some o → h.get? b = some o) →
      codeAny (model prog w) A (.builtin "re.Pattern.sub.loop" (loopArgs p x t r u n (d : Nat) D)) R { s₀ with heap := h, toks := tk } := by
  have ne : ∀ b o, s₀.heap.get? b = some o → b ≠ D := fun b o e q => by rw [q, hD] at e; cases e
  intro k
  induction k using Nat.strongRecOn with
  | ind k ih =>
    intro d n l h tk hk0 hd hl hz hy hcat hk
    -- the end
    have fin : ∀ (j : Nat) (m' : M), j < 4 * 2 ^ 64 → M.runFor j (forSearch code1 x.cps 0 d x.cps.size false) = m' → m'.outcome = some .failed → dots (atB x.cps d) (x.cps.toList.drop d) = x.cps.toList.drop d →
        codeAny (model prog w) A (.builtin "re.Pattern.sub.loop" (loopArgs p x t r u n (d : Nat) D)) R { s₀ with heap := h, toks := tk } := by
      intro j m' hj e1 e2 e3
      refine turn_end (s := { s₀ with heap := h, toks := tk }) (hk p _ hp) (hk c _ hc) e1 hj e2 hl (by omega) (by omega) hy fun h' tk' w' w'' hk' => ?_
      have : Txt.join ⟨#[]⟩ ((l ++ (if d < x.cps.size then [((⟨x.cps.extract d x.cps.size⟩ : Str), w')] else [])).map (fun y : Str × Tok => y.1)) = tx (dots true x.cps.toList) := by
        apply tx_ext
        rw [txtJoin_toList, List.map_append, List.flatMap_append, ← hcat, e3]
        congr 1
        split
        · simp [List.take_of_length_le]
        · rw [List.drop_eq_nil_of_le (by simp; omega)]; rfl
      rw [this]
      exact hR h' tk' w'' fun b o e => hk' b o (ne b o e) (hk b o e)
    by_cases hlt : d < x.cps.size
    · obtain ⟨sn, es⟩ := search1 x.cps x.cps.size d hlt
      obtain ⟨j, m', hj, er, hh⟩ := search1_spec x.cps (x.cps.size - d) d true sn rfl hd
      have hj4 : j < 4 * 2 ^ 64 := by
        have : (4 : Nat) * 2 ^ 64 > 10000 := by decide
        omega
      rcases hh with ⟨h1, a, h2, h3, h4, h5, h7, h6⟩ | ⟨h1, h2⟩
      · refine turn_hit (s := { s₀ with heap := h, toks := tk }) (hk p _ hp) (hk c _ hc) (by rw [es]; exact er) hj4 h1 h2 h3 (by omega) hl (by omega) (by omega) fun h' tk' w' hl' hk' => ?_
        refine ih (x.cps.size - (a + 1)) (by omega) (a + 1) (n + 1) _ h' tk' rfl (by omega) hl' ?_ ?_ ?_ fun b o e => hk' b o (ne b o e) (hk b o e)
        · simp only [List.length_append]; split <;> simp <;> omega
        · intro y hy'
          rcases List.mem_append.mp hy' with hy' | hy'
          · rcases List.mem_append.mp hy' with hy' | hy'
            · exact hy y hy'
            · split at hy'
              · rw [List.mem_singleton.mp hy']
                show (x.cps.extract _ _).size ≤ 1000
                rw [Array.size_extract]; omega
              · cases hy'
          · rw [List.mem_singleton.mp hy', hr]; show 2 ≤ 1000; omega
        · have hf : atB x.cps (a + 1) = false := by
            rw [atB_succ, h7]; rfl
          rw [hf, ← hcat, h6, List.map_append, List.map_append, List.flatMap_append, List.flatMap_append, hr]
          simp only [List.map_cons, List.map_nil, List.flatMap_cons, List.flatMap_nil, List.append_nil, List.append_assoc]
          congr 1
          split
          · simp
          · rw [show a = d by omega]; simp
      · exact fin j m' hj4 (by rw [es]; exact er) h1 h2
    · obtain ⟨m', e1, e2⟩ := search1_end x.cps x.cps.size d (by omega)
      refine fin 1 m' (by decide) e1 e2 ?_
      rw [List.drop_eq_nil_of_le (by simp; omega)]; rfl
theorem sub1 {E : Value → Shared → Prop} {p c : Addr} {src : Str} {t0 t1 : Tok} {fl : Int} {t u : Tok} {s : Shared} {Q : Value → Shared → Prop} (x : List Nat) (hx : x.length ≤ 300)
    (hp : s.heap.get? p = some (patObj src t0 fl t1 c)) (hc : s.heap.get? c = some (codeObj code1))
    (h : ∀ h' tk v, (∀ b o, s.heap.get? b = some o → h'.get? b = some o) → Q (.str (tx (dots true x)) v) { s with heap := h', toks := tk }) :
    wpAny (model prog w) A (call (.builtin "re.Pattern.sub") [.ref p, .str (tx [46, 46]) u, .str (tx x) t]) Q E s := by
  refine sub_call hp hc (by decide +kernel) ?_
  have hD : s.heap.get? s.heap.objs.size = none := by
    cases q : s.heap.get? s.heap.objs.size with
    | none => rfl
    | some o => exact absurd (Heap.lt_size q) (Nat.lt_irrefl _)
  exact loop1 (s₀ := s) (x := tx x) rfl (by simpa using hx) hp hc hD (fun h' tk' v hk => h h' tk' v hk) _ 0 0 [] _ s.toks rfl (Nat.zero_le _) ⟨_, Heap.get?_push_size _ rfl, rfl, _, rfl⟩ (by simp) (by simp) (by simp [atB])
    fun b o e => Heap.get?_push_of_some _ e
end
/-- the sent rows -/
def sentL (rows : List (Nat × List Nat)) : List Nat := rows.flatMap fun r => (if r.1 = 46 then [46, 46] else [r.1]) ++ [13, 10]
theorem dots_crlf : ∀ rows : List (Nat × List Nat), (∀ r ∈ rows, Row.ok r) → dots true (crlfL rows) = sentL rows
  | [], _ => rfl
  | r :: l, h => by
    have h1 := (h r (List.mem_cons_self ..)).1
    have ih := dots_crlf l fun q hq => h q (List.mem_cons_of_mem _ hq)
    show dots true (r.1 :: 13 :: 10 :: crlfL l) = _
    simp only [dots]
    have e : (r.1 == 10) = false := by simpa using h1
    rw [show ((10 : Nat) == 10) = true from rfl, ih]
    simp [sentL]
end Mine
end
section
open PySem PySem.W PySem.Calls PyProof.Rows
namespace Mine
local macro_rules | `(tactic| walk_at "look") => `(tactic| first | assumption | exact if_pos rfl | ((refine (if_neg ?hne).trans ?hrest); (case hne => decide +kernel); (case hrest => walk_at "look")) | rfl)
local macro_rules | `(tactic| walk_at "m") => `(tactic| ((first
  | with_reducible refine wpAny_execs_cons ?_
  | with_reducible refine wpAny_execs_nil ?_
  | with_reducible refine wpAny_Return_some ?_
  | ((with_reducible show wpAny _ _ (exec (Stmt.Assign [Expr.Name _ _] _ _) _) _ _ _); refine wpAny_Assign_Name ?_)
  | ((with_reducible show wpAny _ _ (eval (Expr.Call (Expr.Attribute _ _ _) _ [] _) _) _ _ _); refine MethodCall_ ?_)
  | ((with_reducible show wpAny _ _ (eval (Expr.Call (Expr.Name _ _) _ [] _) _) _ _ _); refine Call_ ?_)
  | with_reducible refine wpAny_BinOp ?_
  | with_reducible refine Subscript_ ?_
  | with_reducible refine Calls.Constant_str ?_
  | with_reducible refine wpAny_Constant_int ?_
  | ((with_reducible show wpAny _ _ (spliced (backTo _ (starEach (_ :: _) _))) _ _ _); refine spliced_more ?_)
  | with_reducible refine spliced_none ?_
  | ((with_reducible show wpAny _ _ (callWith _ (Value.builtin _) [] (backTo _ (starEach (_ :: _) _)) []) _ _ _); refine PyProof.Rows.callWith_builtin1 ?_)
  | ((with_reducible show wpAny _ _ (callWith _ (Value.builtin _) _ (backTo _ (starEach (_ :: _) _)) []) _ _ _); refine callWith_method1 ?_)
  | with_reducible refine callWith_method0 ?_
  | ((with_reducible show wpAny _ _ (callWith _ (Value.type _) [] (backTo _ (starEach (_ :: _) _)) []) _ _ _); refine PyProof.Rows.callWith_type1 ?_)
  | with_reducible refine wpAny_If ?_
  | with_reducible refine wpAny_isTrue_Compare1 ?_
  | with_reducible refine wpAny_Compare1 ?_
  | with_reducible refine Tuple_ ?_
  | with_reducible refine List_ ?_
  | with_reducible refine wpAny_Expr ?_
  | ((with_reducible show wpAny _ _ (eval (Expr.Name _ _) (envOf _ _ _ _ _)) _ _ _); refine ld (by assumption) (by walk_at "look") ?_)
  | ((with_reducible show wpAny _ _ (loadName (envOf _ _ _ _ _) _) _ _ _); refine ldn (by assumption) (by walk_at "look") ?_)
  | ((with_reducible show wpAny _ _ (storeName (envOf _ _ _ _ _) _ _) _ _ _); refine stN (by assumption) (by assumption) ?_; intro h' F' N')
  | with_reducible refine wpAny_AugAssign_Name ?_
  | with_reducible refine and_int ?_
  | with_reducible refine wpAny_Constant_bool ?_
  | with_reducible refine wpAny_UnaryOp ?_
  | with_reducible refine PyProof.Rows.neg_int ?_
  | with_reducible refine PyProof.Rows.lt_int ?_
  | with_reducible refine PyProof.Rows.gt_int ?_
  | with_reducible refine PyProof.Rows.ge_int ?_
  | with_reducible refine PyProof.Rows.le_int ?_
  | with_reducible refine PyProof.Rows.eq_int ?_
  | with_reducible refine PyProof.Rows.ne_int ?_
  | with_reducible refine PyProof.Rows.add_int ?_
  | with_reducible refine PyProof.Rows.sub_int ?_
  | with_reducible refine mod_int' (by decide) ?_
  | ((with_reducible show wpAny _ _ (exec (Stmt.Assign [Expr.Subscript _ _ _] _ _) _) _ _ _); refine wpAny_Assign_Subscript ?_)
  | with_reducible refine wpAny_Slice ?_
  | ((with_reducible show wpAny _ _ (evalPart none _) _ _ _); refine wpAny_pure ?_)
  | ((with_reducible show wpAny _ _ (evalPart (some _) _) _ _ _); rw [evalPart_some])
  | with_reducible refine isTrue_and_nil ?_
  | with_reducible refine isTrue_or_nil ?_
  | with_reducible refine isTrue_and ?_
  | with_reducible refine isTrue_or ?_
  | with_reducible refine wpAny_Continue ?_
  | with_reducible refine wpAny_truthy_bool ?_) <;> try dsimp only))
section
open PySem PySem.W PySem.Calls PyProof.Rows
set_option maxRecDepth 100000
set_option maxHeartbeats 8000000
set_option rowWalk.seconds 0
structure Wd (w : World) (mg mb : Str → Option Value) (h : Heap) : Prop where
  k : (hd.heap_39 w.params).In h
  t : TopRead hd.view_39 (looseW hd.view_39 [Str.ofString "_twin_re_1", Str.ofString "_twin_re_2"]) mg mb h
theorem Wd.keeps {w : World} {mg mb : Str → Option Value} {h h' : Heap} (W : Wd w mg mb h) (hk : ∀ b o, h.get? b = some o → h'.get? b = some o) : Wd w mg mb h' :=
  ⟨W.k.keeps hk, W.t.keeps hk⟩
section
variable {w : World} {mg mb : Str → Option Value} {h₀ : Heap} {A : Around} {E : Value → Shared → Prop} {s : Shared} {L a : Addr} {m : Str → Option Value} {cn : Str} {cs : Scope} {ccd : Value} {x : Str} {pos : Pos} {v : Value} {Q : Value → Shared → Prop}
theorem gK (W : Wd w mg mb h₀) (F : Fr h₀ L s.heap m) (e : nsIn (hd.heap_39 w.params) mainGlobals x = some (some v)) (h : Q v s)
    (hk : cs.kind = .function := by rfl) (hx : (envOf cn cs L a ccd).kindOf x = some .globalImplicit := by rfl) (hd : (x == ("__debug__" : Str)) = false := by decide) :
    wpAny (model prg w) A (eval (.Name x pos) (envOf cn cs L a ccd)) Q E s := name_K F W.k W.t e h hk hx hd
theorem gB (W : Wd w mg mb h₀) (F : Fr h₀ L s.heap m) (e : nsIn (hd.heap_39 w.params) mainGlobals x = some none) (hv : bootBuiltins x = some v) (h : Q v s)
    (hn : x ≠ "__name__" := by decide) (hk : cs.kind = .function := by rfl) (hx : (envOf cn cs L a ccd).kindOf x = some .globalImplicit := by rfl) (hd : (x == ("__debug__" : Str)) = false := by decide) :
    wpAny (model prg w) A (eval (.Name x pos) (envOf cn cs L a ccd)) Q E s := name_B F W.k W.t e hv hn h hk hx hd
end
theorem g_twin1 (P : Params) : nsIn (hd.heap_39 P) mainGlobals (Str.ofString "_twin_re_1") = some (some (.ref 50)) := by rfl
theorem g_twin2 (P : Params) : nsIn (hd.heap_39 P) mainGlobals (Str.ofString "_twin_re_2") = some (some (.ref 55)) := by rfl
theorem g_CRLF (P : Params) : nsIn (hd.heap_39 P) mainGlobals (Str.ofString "CRLF") = some (some (.str (Str.ofString "\x0d\n") 369)) := by rfl
theorem s_dots : Str.ofString ".." = tx [46, 46] := by decide +kernel
theorem s_crlf : Str.ofString "\x0d\n" = tx [13, 10] := by decide +kernel

theorem crlfL_len : ∀ rows : List (Nat × List Nat), (crlfL rows).length = 3 * rows.length
  | [] => rfl
  | r :: l => by
    show (r.1 :: 13 :: 10 :: crlfL l).length = _
    have := crlfL_len l
    simp only [List.length_cons, this]; omega
theorem quotedata_call {w : World} {A : Around} {Q : Value → Shared → Prop} {E : Value → Shared → Prop} {s : Shared} {mg mb : Str → Option Value} {t : Tok} (W : Wd w mg mb s.heap) (hroom : A.depth < recursionLimit)
    (rows : List (Nat × List Nat)) (hok : ∀ q ∈ rows, Row.ok q) (hlen : rows.length ≤ 100)
    (h : ∀ h' tk v, (∀ b o, s.heap.get? b = some o → h'.get? b = some o) → Q (.str (tx (sentL rows)) v) { s with heap := h', toks := tk }) :
    wpAny (model prg w) A (call (.ref 62) [.str (tx (mailL rows)) t]) Q E s := by
  refine wpAny_call (call_plain_ret (binds := [(Str.ofString "data", .str (tx (mailL rows)) t)]) hroom (W.k 62 _ rfl) rfl W.t.nolimit (codeRec_of W.k (by rfl)) rfl (locs rfl) fun h₁ F => ?_)
  have k50 := F.keep _ _ (W.k 50 _ rfl)
  have k49 := F.keep _ _ (W.k 49 _ rfl)
  have k54 := F.keep _ _ (W.k 54 _ rfl)
  have k55 := F.keep _ _ (W.k 55 _ rfl)
  repeat walk_at "m"
  refine gK W F (g_twin1 _) ?_
  refine getMethod_pat k50 rfl rfl ?_
  repeat walk_at "m"
  refine gK W F (g_twin2 _) ?_
  refine getMethod_pat k55 rfl rfl ?_
  walk_at "m"
  walk_at "m"
  refine gK W F (g_CRLF _) ?_
  repeat walk_at "m"
  rw [s_crlf, s_dots]
  refine sub2 rows hok hlen k55 k54 fun h₂ tk₂ v₂ hk₂ => ?_
  repeat walk_at "m"
  refine sub1 _ ?_ (hk₂ _ _ k50) (hk₂ _ _ k49) fun h₃ tk₃ v₃ hk₃ => ?_
  · rw [crlfL_len]; omega
  · rw [dots_crlf rows hok]
    exact h h₃ tk₃ v₃ fun b o e => hk₃ b o (hk₂ b o (F.keep b o e))
end
section
open PySem
/-- the base-64 number of a row of digits -/
def val64 (ds : List Int) : Int := ds.foldl (fun v d => v * 64 + d) 0
def Dig (ds : List Int) : Prop := ∀ d ∈ ds, 0 ≤ d ∧ d < 64
theorem val64_append (a : List Int) (d : Int) : val64 (a ++ [d]) = val64 a * 64 + d := by simp [val64]
theorem val64_bound : ∀ (n : Nat) (ds : List Int), ds.length = n → Dig ds → 0 ≤ val64 ds ∧ val64 ds < 64 ^ n := by
  intro n
  induction n with
  | zero => intro ds h _; rw [List.length_eq_zero_iff.mp h]; decide
  | succ n ih =>
    intro ds h hd
    have hne : ds ≠ [] := by intro e; rw [e] at h; simp at h
    rw [← List.dropLast_concat_getLast hne, val64_append]
    have h1 := ih ds.dropLast (by simp [h]) fun d hd' => hd d (List.dropLast_subset _ hd')
    have h2 := hd _ (List.getLast_mem hne)
    have : (64 : Int) ^ (n + 1) = 64 ^ n * 64 := Int.pow_succ ..
    omega
def dg (ns : List Nat) : Bool := ns.all fun n => Builtin.bitAnd (192 + n : Nat) 63 == (n : Nat) && Builtin.bitAnd (192 + n : Nat) 64 == 64 && Builtin.bitAnd (n : Nat) 64 == 0 && Builtin.bitAnd (n : Nat) 63 == (n : Nat)
theorem dg_ok : dg (List.range 64) = true := by decide +kernel
theorem and_facts {d : Int} (h : 0 ≤ d ∧ d < 64) : Builtin.bitAnd (192 + d) 63 = d ∧ Builtin.bitAnd (192 + d) 64 = 64 ∧ Builtin.bitAnd d 64 = 0 ∧ Builtin.bitAnd d 63 = d := by
  obtain ⟨k, rfl⟩ := Int.eq_ofNat_of_zero_le h.1
  have := List.all_eq_true.mp dg_ok k (by simp; omega)
  simp only [Bool.and_eq_true, beq_iff_eq] at this
  obtain ⟨⟨⟨a, b⟩, c⟩, e⟩ := this
  refine ⟨?_, ?_, c, e⟩
  · have : (192 + (k : Int)) = ((192 + k : Nat) : Int) := by omega
    rw [this]; exact a
  · have : (192 + (k : Int)) = ((192 + k : Nat) : Int) := by omega
    rw [this]; exact b
theorem or_fact {v d : Int} (hv : 0 ≤ v) (h : 0 ≤ d ∧ d < 64) : Builtin.bitOr (v * 64) d = v * 64 + d := by
  obtain ⟨k, rfl⟩ := Int.eq_ofNat_of_zero_le h.1
  obtain ⟨n, rfl⟩ := Int.eq_ofNat_of_zero_le hv
  have e1 : ((n : Int) * 64) = ((2 ^ 6 * n : Nat) : Int) := by push_cast; omega
  rw [e1]
  have h2 := Nat.two_pow_add_eq_or_of_lt (i := 6) (b := k) (by omega) n
  unfold Builtin.bitOr Builtin.bitAnd
  have n1 : decide (0 ≤ Builtin.bitNot ((2 ^ 6 * n : Nat) : Int)) = false := by unfold Builtin.bitNot; apply decide_eq_false; omega
  have n2 : decide (0 ≤ Builtin.bitNot ((k : Nat) : Int)) = false := by unfold Builtin.bitNot; apply decide_eq_false; omega
  rw [n1, n2]
  have nn : ∀ a : Nat, (Builtin.bitNot (Builtin.bitNot (a : Int))).toNat = a := by intro a; unfold Builtin.bitNot; omega
  show Builtin.bitNot (Builtin.bitNot (((Builtin.bitNot (Builtin.bitNot ((2 ^ 6 * n : Nat) : Int))).toNat ||| (Builtin.bitNot (Builtin.bitNot ((k : Nat) : Int))).toNat : Nat) : Int)) = _
  rw [nn, nn, ← h2]
  unfold Builtin.bitNot
  omega
/-- the tape: 192 more on all but the last -/
def tape (ds : List Int) : List Int := ds.dropLast.map (fun d => 192 + d) ++ ds.drop (ds.length - 1)
theorem tape_length {ds : List Int} (h : ds ≠ []) : (tape ds).length = ds.length := by
  have : 0 < ds.length := List.length_pos_iff.mpr h
  simp [tape]
theorem tape_get {ds : List Int} {i : Nat} {d : Int} (hd : ds[i]? = some d) : (tape ds)[i]? = some (if i + 1 = ds.length then d else 192 + d) := by
  have hi : i < ds.length := (List.getElem?_eq_some_iff.mp hd).1
  unfold tape
  split
  · rename_i h
    rw [List.getElem?_append_right (by simp; omega)]
    simp only [List.length_map, List.length_dropLast]
    rw [show i - (ds.length - 1) = 0 by omega, List.getElem?_drop, show ds.length - 1 + 0 = i by omega, hd]
  · rw [List.getElem?_append_left (by simp; omega), List.getElem?_map, List.getElem?_dropLast, if_pos (by omega), hd]; rfl
end
section
open PySem PySem.W PySem.Calls PyProof.Rows
set_option maxRecDepth 100000
set_option maxHeartbeats 8000000
set_option rowWalk.seconds 0
section
variable {w : World} {A : Around} {E : Value → Shared → Prop} {s : Shared}
theorem next_list {it l : Addr} {i : Nat} {items : Array Value} {x : Value} {Q : Value → Shared → Prop} (hit : s.heap.IsListIter it l i) (hl : s.heap.IsList l items) (hx : items[i]? = some x)
    (hQ : ∀ h', h'.IsListIter it l (i + 1) → Heap.SameBut it s.heap h' → Q x { s with heap := h' }) : wpAny (model prg w) A (call (.builtin "next") [.ref it]) Q E s := by
  refine call_function_entry (by decide +kernel) (by decide +kernel) kdk_entry_next (kdk_args_next _) ?_
  unfold Builtin.«next»
  refine wpAny_bind (m := someArgs "next" 1 2 _) (wpAny_of_eq (a := [Value.ref it]) (by first | rfl | kernel_rfl!) ?_)
  dsimp only
  refine wpAny_bind (wpAny_specialOf (name := Str.ofString "__next__") hit.typeIs slot_listiter_next.lookup ?_)
  refine wpAny_ite_split (fun hab => absurd hab (by decide)) (fun _ => ?_)
  obtain ⟨o, ho, hc, hd⟩ := id hit
  obtain ⟨ol, hol, _, nl, hdl⟩ := hl
  refine wpAny_bind (wpAny_callSpecial?_slot (name := Str.ofString "__next__") hit.typeIs slot_listiter_next
    (wpAny_call_entry slot_listiter_next hit.typeIs entry_listiter_next ?_ (args_listiter_next _)))
  show wpAny _ _ (field (.ref it) 0 >>= _) _ _ s
  refine wpAny_bind (wpAny_field ho hd (x := .ref l) rfl ?_)
  show wpAny _ _ (if (Value.ref l == Value.none) = true then _ else _) _ _ s
  rw [if_neg (show ¬ ((Value.ref l == Value.none) = true) from Bool.false_ne_true)]
  show wpAny _ _ (field (.ref it) 1 >>= _) _ _ s
  refine wpAny_bind (wpAny_field ho hd (x := .int i 0) rfl ?_)
  show wpAny _ _ (seqItems? (.ref l) >>= _) _ _ s
  refine wpAny_bind (wpAny_seqItems hol hdl ?_)
  simp only [Int.toNat_natCast, hx]
  refine wpAny_bind (wpAny_setField ho hd (by simp) (wpAny_pure ⟨x, rfl, wpAny_pure ⟨_, rfl, hQ _ ?_ (Heap.SameBut.update ..)⟩⟩))
  exact ⟨_, Heap.get?_update_self _ ho (Obj.isFreed_of_fields (Obj.data_mapFields hd _)), (Obj.cls_mapFields ..).trans hc, by
    rw [Obj.data_mapFields hd]; simp [rawInt]⟩
theorem iter_list {l : Addr} {items : Array Value} {Q : Value → Shared → Prop} (hl : s.heap.IsList l items)
    (hQ : Q (.ref s.heap.objs.size) { s with heap := s.heap.push { cls := .type "list_iterator", data := .fields #[.ref l, .int 0 0] } }) : wpAny (model prg w) A (call (.builtin "iter") [.ref l]) Q E s := by
  refine call_function_entry (by decide +kernel) (by decide +kernel) kdk_entry_iter (kdk_args_iter _) ?_
  unfold Builtin.«iter»
  refine wpAny_bind (m := someArgs "iter" 1 2 _) (wpAny_of_eq (a := [Value.ref l]) (by first | rfl | kernel_rfl!) ?_)
  show wpAny _ _ (pyIter (.ref l) >>= _) _ _ _
  exact wpAny_bind (wpAny_pyIter_list hl (wpAny_pure ⟨_, rfl, hQ⟩))
end
theorem g_next (P : Params) : nsIn (hd.heap_39 P) mainGlobals (Str.ofString "next") = some none := by rfl
theorem g_iter (P : Params) : nsIn (hd.heap_39 P) mainGlobals (Str.ofString "iter") = some none := by rfl
theorem g_varint (P : Params) : nsIn (hd.heap_39 P) mainGlobals (Str.ofString "_parse_varint") = some (some (.ref 38)) := by rfl
theorem b_next : bootBuiltins (Str.ofString "next") = some (.builtin "next") := by decide +kernel
theorem b_iter : bootBuiltins (Str.ofString "iter") = some (.builtin "iter") := by decide +kernel

theorem varint_call {w : World} {A : Around} {Q : Value → Shared → Prop} {E : Value → Shared → Prop} {s : Shared} {mg mb : Str → Option Value} {I l : Addr} {vs : List Value} {ds : List Int} (W : Wd w mg mb (s.heap.hide I)) (hroom : A.depth < recursionLimit)
    (hit : s.heap.IsListIter I l 0) (hl : (s.heap.hide I).IsList l vs.toArray) (hv : IntsAre vs (tape ds)) (hne : ds ≠ []) (hd : Dig ds) (hlen : ds.length ≤ 8)
    (h : ∀ h' tk v, (∀ b o, (s.heap.hide I).get? b = some o → h'.get? b = some o) → Q (.int (val64 ds) v) { s with heap := h', toks := tk }) :
    wpAny (model prg w) A (call (.ref 38) [.ref I]) Q E s := by
  have Ws : Wd w mg mb s.heap := W.keeps fun b o e => Heap.of_hide e
  refine wpAny_call (call_plain_ret (binds := [(Str.ofString "iterator", .ref I)]) hroom (Ws.k 38 _ rfl) rfl Ws.t.nolimit (codeRec_of Ws.k (by rfl)) rfl (locs rfl) fun h₁ F₀ => ?_)
  have F : Fr (s.heap.hide I) s.heap.objs.size h₁ _ := ⟨F₀.ns, fun b o e => F₀.keep b o (Heap.of_hide e), by rw [Heap.hide_size]; exact F₀.above⟩
  have hIL : I ≠ s.heap.objs.size := by
    obtain ⟨o, ho, _⟩ := hit
    exact Nat.ne_of_lt (Heap.lt_size ho)
  have hIn : (s.heap.hide I).get? I = none := Heap.hide_self ..
  have hit₁ : h₁.IsListIter I l 0 := by
    obtain ⟨o, ho, r⟩ := hit
    exact ⟨o, F₀.keep _ _ ho, r⟩
  have hLl : ∀ {h : Heap} {m : Str → Option Value}, Fr (s.heap.hide I) s.heap.objs.size h m → h.IsList l vs.toArray := fun F => hl.at fun o e => F.keep l o e
  have hget : ∀ (i : Nat) (d : Int), ds[i]? = some d → ∃ t, vs.toArray[i]? = some (.int (if i + 1 = ds.length then d else 192 + d) t) := by
    intro i d hi
    obtain ⟨t, ht⟩ := hv.get i _ (tape_get hi)
    exact ⟨t, by simpa using ht⟩
  obtain ⟨d0, hd0⟩ : ∃ d, ds[0]? = some d := ⟨ds[0]'(List.length_pos_iff.mpr hne), by simp⟩
  obtain ⟨t0, ht0⟩ := hget 0 d0 hd0
  have N₁ : News (s.heap.hide I) s.heap.objs.size h₁ [] := News.nil
  repeat walk_at "m"
  refine gB W F (g_next _) b_next ?_
  repeat walk_at "m"
  refine next_list hit₁ (hLl F) ht0 fun h₂ hit₂ hs₂ => ?_
  have F₂ := F.change hs₂ hIL hIn
  obtain ⟨o₂, ho₂, hc₂, hdd₂⟩ := id hit₂
  have N₂ : News (s.heap.hide I) s.heap.objs.size h₂ [(I, o₂)] := fun p hp => by
    rw [List.mem_singleton.mp hp]; exact ⟨ho₂, hIL, hIn⟩
  repeat walk_at "m"
  rename_i h₃ F₃ N₃ h₄ F₄ N₄
  have hV : ∀ i, i ≤ ds.length → 0 ≤ val64 (ds.take i) ∧ val64 (ds.take i) < 64 ^ 8 := by
    intro i hi
    have h1 := val64_bound i (ds.take i) (by simp; omega) fun d hd' => hd d (List.take_subset _ _ hd')
    have : (64 : Int) ^ i ≤ 64 ^ 8 := by exact_mod_cast Nat.pow_le_pow_right (by omega) (by omega : i ≤ 8)
    omega
  have hA : ∀ (i : Nat) (d : Int), ds[i]? = some d → Builtin.bitAnd (if i + 1 = ds.length then d else 192 + d) 63 = d := by
    intro i d hi
    have := and_facts (hd d (List.mem_of_getElem? hi))
    split
    · exact this.2.2.2
    · exact this.1
  have hB : ∀ (i : Nat) (d : Int), ds[i]? = some d → Builtin.bitAnd (if i + 1 = ds.length then d else 192 + d) 64 = if i + 1 = ds.length then 0 else 64 := by
    intro i d hi
    have := and_facts (hd d (List.mem_of_getElem? hi))
    split
    · exact this.2.2.1
    · exact this.2.1
  have hv0 : Builtin.bitAnd (if 0 + 1 = ds.length then d0 else 192 + d0) 63 = val64 (ds.take (0 + 1)) := by
    rw [hA _ _ hd0]
    cases ds with
    | nil => cases hd0
    | cons x r => simp at hd0; simp [hd0, val64]
  rw [hv0] at F₄
  refine While_inv (n₀ := ds.length - 0) (fun n m₁ news₁ => ∃ i d o t t', i + 1 ≤ ds.length ∧ n = ds.length - i ∧ ds[i]? = some d ∧ m₁ (Str.ofString "b") = some (.int (if i + 1 = ds.length then d else 192 + d) t) ∧ m₁ (Str.ofString "val") = some (.int (val64 (ds.take (i + 1))) t')
    ∧ m₁ (Str.ofString "iterator") = some (.ref I) ∧ news₁ = [(I, o)] ∧ o.cls = .type "list_iterator" ∧ o.data = .fields #[.ref l, .int ((i + 1 : Nat) : Int) 0]) F₄ N₄ ?start ?turn
  case start =>
    exact ⟨0, d0, o₂, t0, _, List.length_pos_iff.mpr hne, rfl, hd0, by walk_at "look", by walk_at "look", by walk_at "look", rfl, hc₂, hdd₂⟩
  case turn =>
    rintro n m₁ news₁ h₅ tk₅ F₅ N₅ ⟨i, d, o, t, t', hi, rfl, hdi, hb, hval, hiter, rfl, hoc, hod⟩
    refine isTrue_plain ?_
    repeat walk_at "m"
    refine truthy_int ?_
    rw [hB _ _ hdi]
    by_cases hlast : i + 1 = ds.length
    · rw [if_pos hlast, if_neg (by decide)]
      repeat walk_at "m"
      rw [hlast, List.take_length]
      exact h _ _ _ F₅.keep
    · rw [if_neg hlast, if_pos (by decide)]
      obtain ⟨d', hd'⟩ : ∃ d', ds[i + 1]? = some d' := ⟨ds[i + 1]'(by omega), by simp⟩
      obtain ⟨t2, ht2⟩ := hget (i + 1) d' hd'
      repeat walk_at "m"
      refine ilshift_int_small (by decide) (by decide) ?_ ?_
      · have := hV (i + 1) hi
        have e : (64 : Int) ^ 8 = 281474976710656 := by decide
        omega
      repeat walk_at "m"
      refine gB W (by assumption) (g_next _) b_next ?_
      repeat walk_at "m"
      rename_i h₆ F₆ N₆
      have hI₆ := (N₆ _ (List.mem_singleton.mpr rfl)).1
      refine next_list (i := i + 1) (s := { s with heap := h₆, toks := _ }) ⟨o, hI₆, hoc, hod⟩ (hLl F₆) ht2 fun h₇ hit₇ hs₇ => ?_
      have F₇ := F₆.change hs₇ hIL hIn
      obtain ⟨o₇, ho₇, hc₇, hdd₇⟩ := id hit₇
      have N₇ : News (s.heap.hide I) s.heap.objs.size h₇ [(I, o₇)] := fun p hp => by
        rw [List.mem_singleton.mp hp]; exact ⟨ho₇, hIL, hIn⟩
      repeat walk_at "m"
      refine ior_int ?_
      repeat walk_at "m"
      rename_i h₈ F₈ N₈ h₉ F₉ N₉
      rw [hA _ _ hd', show (2 : Int) ^ (6 : Int).toNat = 64 from rfl, or_fact (hV (i + 1) hi).1 (hd d' (List.mem_of_getElem? hd')),
        show val64 (ds.take (i + 1)) * 64 + d' = val64 (ds.take (i + 1 + 1)) by rw [List.take_add_one (i := i + 1), hd', Option.toList_some, val64_append]] at F₉
      exact WhileStep.intro F₉ N₉ (n' := ds.length - (i + 1)) (by omega) ⟨i + 1, d', o₇, t2, _, by omega, rfl, hd', by walk_at "look", by walk_at "look", by walk_at "look", rfl, hc₇, hdd₇⟩
end
section
open PySem PySem.Calls PySem.Builtin PySem.Builtin.Str PySem.StrLaws
set_option maxRecDepth 100000
def occF (s sub : Str) (hi limit : Nat) (st : Array Nat × Nat) (i : Nat) : Array Nat × Nat :=
  if ((st.fst.size < limit ∧ st.snd ≤ i) ∧ i + sub.length ≤ hi) ∧ subAt s sub i = true then (st.fst.push i, i + sub.length) else st
theorem occ_fold (s sub : Str) (lo hi limit : Nat) : occurrences s sub lo hi limit = ((List.range' lo (hi + 1 - lo)).foldl (occF s sub hi limit) (#[], lo)).fst.toList := by
  rw [occ_eq]
  have e : occBody s sub hi limit = fun i st => pure (ForInStep.yield (occF s sub hi limit st i)) := by
    funext i st
    unfold occBody occF
    split <;> rfl
  rw [e, List.forIn_pure_yield_eq_foldl]
  rfl
theorem occF_skip {s sub : Str} {hi limit : Nat} : ∀ {l : List Nat} {st : Array Nat × Nat}, (∀ i ∈ l, st.snd ≤ i → ¬ At s sub hi i) → l.foldl (occF s sub hi limit) st = st
  | [], _, _ => rfl
  | a :: l, st, h => by
    have e : occF s sub hi limit st a = st := by
      unfold occF
      rw [if_neg]
      rintro ⟨⟨⟨_, h1⟩, h2⟩, h3⟩
      exact h a (List.mem_cons_self ..) h1 ⟨h2, h3⟩
    rw [List.foldl_cons, e]
    exact occF_skip fun i hi => h i (List.mem_cons_of_mem _ hi)
/-- the cuts: stretches of lengths ns, each ended by sub -/
noncomputable def cutsOf (w : Nat) : Nat → List Nat → List Nat
  | _, [] => []
  | a, n :: ns => (a + n) :: cutsOf w (a + n + w) ns
noncomputable def Clean (s sub : Str) : Nat → List Nat → Prop
  | a, [] => ∀ i, a ≤ i → ¬ At s sub s.length i
  | a, n :: ns => (∀ i, a ≤ i → i < a + n → ¬ At s sub s.length i) ∧ At s sub s.length (a + n) ∧ Clean s sub (a + n + sub.length) ns
theorem occ_clean {s sub : Str} (hs : 1 ≤ sub.length) (limit : Nat) : ∀ (ns : List Nat) (a : Nat) (found : Array Nat), Clean s sub a ns → found.size + ns.length ≤ limit →
    ((List.range' a (s.length + 1 - a)).foldl (occF s sub s.length limit) (found, a)).fst.toList = found.toList ++ cutsOf sub.length a ns := by
  intro ns
  induction ns with
  | nil =>
    intro a found hc _
    rw [occF_skip (fun i hi h => hc i h)]
    simp [cutsOf]
  | cons n ns ih =>
    rintro a found ⟨h1, h2, h3⟩ hl
    simp only [List.length_cons] at hl
    have hle := h2.1
    have e1 : List.range' a (s.length + 1 - a) = List.range' a n ++ ((a + n) :: (List.range' (a + n + 1) (sub.length - 1) ++ List.range' (a + n + sub.length) (s.length + 1 - (a + n + sub.length)))) := by
      have f1 : List.range' (a + n + 1) (sub.length - 1) ++ List.range' (a + n + sub.length) (s.length + 1 - (a + n + sub.length)) = List.range' (a + n + 1) (s.length + 1 - (a + n + 1)) := by
        have := List.range'_append_1 (s := a + n + 1) (m := sub.length - 1) (n := s.length + 1 - (a + n + sub.length))
        rw [show a + n + 1 + (sub.length - 1) = a + n + sub.length by omega] at this
        rw [this]; congr 1; omega
      rw [f1]
      have f2 : (a + n) :: List.range' (a + n + 1) (s.length + 1 - (a + n + 1)) = List.range' (a + n) (s.length + 1 - (a + n)) := by
        rw [show s.length + 1 - (a + n) = (s.length + 1 - (a + n + 1)) + 1 by omega, List.range'_succ]
      rw [f2]
      have := List.range'_append_1 (s := a) (m := n) (n := s.length + 1 - (a + n))
      rw [this]; congr 1; omega
    rw [e1, List.foldl_append, occF_skip (l := List.range' a n) (fun i hi h => by
      have := List.mem_range'_1.mp hi
      exact h1 i (by omega) (by omega)), List.foldl_cons]
    have e2 : occF s sub s.length limit (found, a) (a + n) = (found.push (a + n), a + n + sub.length) := by
      unfold occF
      rw [if_pos ⟨⟨⟨by show found.size < limit; omega, by show a ≤ a + n; omega⟩, h2.1⟩, h2.2⟩]
    rw [e2, List.foldl_append, occF_skip (l := List.range' (a + n + 1) (sub.length - 1)) (fun i hi h => by
      have := List.mem_range'_1.mp hi
      dsimp only at h
      omega), ih _ _ h3 (by simp; omega)]
    simp [cutsOf]
theorem occ_of_clean {s sub : Str} (hs : 1 ≤ sub.length) {ns : List Nat} (hc : Clean s sub 0 ns) (hn : ns.length ≤ s.length + 1) : occurrences s sub 0 s.length (s.length + 1) = cutsOf sub.length 0 ns := by
  rw [occ_fold, occ_clean hs _ ns 0 #[] hc (by simpa using hn)]
  simp
/-- At, by lists -/
theorem at_iff {L S : List Nat} {i : Nat} : At (tx L) (tx S) (tx L).length i ↔ i + S.length ≤ L.length ∧ (L.drop i).take S.length = S := by
  unfold At
  rw [subAt_eq]
  simp [Str.length]
theorem strSub_tx (L : List Nat) (i j : Nat) : strSub (tx L) i j = tx ((L.drop i).take (j - i)) := tx_ext (by rw [strSub_toList])
theorem kind_tx {L : List Nat} (h : ∀ c ∈ L, c < 256) : Builtin.Str.strKind (tx L) = 1 := by
  unfold Builtin.Str.strKind
  rw [if_pos]
  simpa using h
theorem split_of_clean {L S : List Nat} (hL : ∀ c ∈ L, c < 256) (hS : ∀ c ∈ S, c < 256) (hs : 1 ≤ S.length) {ns : List Nat} (hc : Clean (tx L) (tx S) 0 ns) (hn : ns.length ≤ L.length + 1) (h0 : ns ≠ []) (hlen : S.length ≤ L.length) :
    Txt.split (tx L) (tx S) = partsFrom (tx L) S.length 0 (cutsOf S.length 0 ns) := by
  have e := occ_of_clean (s := tx L) (sub := tx S) (by simpa [Str.length] using hs) hc (by simpa [Str.length] using hn)
  have el : (tx S).length = S.length := by simp [Str.length]
  have eL : (tx L).length = L.length := by simp [Str.length]
  rw [el] at e
  unfold Txt.split
  rw [if_neg, e, if_neg, partsBetween_eq, el]
  · cases ns with
    | nil => exact absurd rfl h0
    | cons n r => simp [cutsOf]
  · rw [kind_tx hL, kind_tx hS, el, eL]; simp; omega

/-- rows, each ended by 13 10 -/
def flatR (ps : List (List Nat)) : List Nat := ps.flatMap fun p => p ++ [13, 10]
theorem flatR_cons (p : List Nat) (ps : List (List Nat)) : flatR (p :: ps) = p ++ (13 :: 10 :: flatR ps) := by simp [flatR]
theorem drop_len (A B : List Nat) (k : Nat) : (A ++ B).drop (A.length + k) = B.drop k := by rw [List.drop_append]; simp
theorem clean_rows : ∀ (ps : List (List Nat)) (A : List Nat), (∀ p ∈ ps, 13 ∉ p) → Clean (tx (A ++ flatR ps)) (tx [13, 10]) A.length (ps.map (·.length)) := by
  intro ps
  induction ps with
  | nil =>
    intro A _ i hi hat
    have := (at_iff.mp hat).1
    simp [flatR] at this
    omega
  | cons p ps ih =>
    intro A hp
    refine ⟨?_, ?_, ?_⟩
    · intro i h1 h2 hat
      dsimp only at h2
      obtain ⟨k, rfl⟩ : ∃ k, i = A.length + k := ⟨i - A.length, by omega⟩
      have h3 := (at_iff.mp hat).2
      rw [drop_len, flatR_cons, List.drop_append_of_le_length (by omega)] at h3
      have hk : k < p.length := by omega
      rw [List.drop_eq_getElem_cons hk] at h3
      simp only [List.cons_append, List.length_cons, List.length_nil, List.take_succ_cons] at h3
      have h4 := (List.cons.inj h3).1
      exact hp p (List.mem_cons_self ..) (h4 ▸ List.getElem_mem hk)
    · refine at_iff.mpr ⟨?_, ?_⟩
      · rw [flatR_cons]; simp; omega
      · rw [drop_len, flatR_cons]; simp
    · have := ih (A ++ p ++ [13, 10]) fun q hq => hp q (List.mem_cons_of_mem _ hq)
      have e1 : A ++ p ++ [13, 10] ++ flatR ps = A ++ flatR (p :: ps) := by rw [flatR_cons]; simp
      have e2 : (A ++ p ++ [13, 10]).length = A.length + p.length + (tx [13, 10]).length := by simp [Str.length]; omega
      rw [e1, e2] at this
      exact this
theorem parts_rows : ∀ (ps : List (List Nat)) (A : List Nat), partsFrom (tx (A ++ flatR ps)) 2 A.length (cutsOf 2 A.length (ps.map (·.length))) = ps.map tx ++ [tx []] := by
  intro ps
  induction ps with
  | nil => intro A; simp [cutsOf, partsFrom, strSub_tx, flatR, Str.length]
  | cons p ps ih =>
    intro A
    show strSub _ _ _ :: partsFrom _ 2 _ _ = _
    have := ih (A ++ p ++ [13, 10])
    have e1 : A ++ p ++ [13, 10] ++ flatR ps = A ++ flatR (p :: ps) := by rw [flatR_cons]; simp
    have e2 : (A ++ p ++ [13, 10]).length = A.length + p.length + 2 := by simp; omega
    rw [e1, e2] at this
    dsimp only
    rw [this, strSub_tx]
    rw [show A.length + p.length - A.length = p.length by omega, show A.length = A.length + 0 by omega, drop_len, flatR_cons]
    simp
theorem split_rows (ps : List (List Nat)) (hps : ps ≠ []) (h13 : ∀ p ∈ ps, 13 ∉ p) (h256 : ∀ p ∈ ps, ∀ c ∈ p, c < 256) : Txt.split (tx (flatR ps)) (tx [13, 10]) = ps.map tx ++ [tx []] := by
  have hl : ∀ ps : List (List Nat), 2 * ps.length ≤ (flatR ps).length := by
    intro ps
    induction ps with
    | nil => simp
    | cons p ps ih => rw [flatR_cons]; simp; omega
  have hlen := hl ps
  have h1 : 0 < ps.length := List.length_pos_iff.mpr hps
  rw [split_of_clean (ns := ps.map (·.length)) ?_ (by decide) (by decide) (show Clean (tx (flatR ps)) (tx [13, 10]) 0 (ps.map (·.length)) from clean_rows ps [] h13) (by rw [List.length_map]; omega) (by simpa using hps) (by show 2 ≤ _; omega)]
  · exact parts_rows ps []
  · intro c hc
    obtain ⟨p, hp, hc⟩ := List.mem_flatMap.mp hc
    rcases List.mem_append.mp hc with hc | hc
    · exact h256 p hp c hc
    · simp at hc; omega
/-- no three dots begin in X, though three follow it -/
def NoTri (X : List Nat) : Prop := ∀ i, i < X.length → ((X ++ [46, 46, 46]).drop i).take 3 ≠ [46, 46, 46]
theorem split_tri {X : List Nat} (hX : NoTri X) (h256 : ∀ c ∈ X, c < 256) : Txt.split (tx ([46, 46, 46] ++ X ++ [46, 46, 46])) (tx [46, 46, 46]) = [tx [], tx X, tx []] := by
  have e3 : (tx [46, 46, 46]).length = 3 := rfl
  have hc : Clean (tx ([46, 46, 46] ++ X ++ [46, 46, 46])) (tx [46, 46, 46]) 0 [0, X.length] := by
    refine ⟨fun i _ h => absurd h (by omega), at_iff.mpr ⟨by simp, by simp⟩, ?_, at_iff.mpr ⟨?_, ?_⟩, ?_⟩
    · intro i h1 h2 hat
      rw [e3] at h1 h2
      obtain ⟨k, rfl⟩ : ∃ k, i = [46, 46, 46].length + k := ⟨i - 3, by show i = 3 + (i - 3); omega⟩
      have h3 := (at_iff.mp hat).2
      rw [List.append_assoc, drop_len] at h3
      refine hX k ?_ h3
      have : [46, 46, 46].length = 3 := rfl
      omega
    · rw [e3]; simp; omega
    · rw [e3, show 0 + 0 + 3 + X.length = ([46, 46, 46] ++ X).length + 0 by simp; omega, drop_len]; rfl
    · intro i hi hat
      have := (at_iff.mp hat).1
      rw [e3] at hi
      simp at this
      omega
  rw [split_of_clean ?_ (by decide) (by decide) hc (by simp) (by simp) (by simp)]
  · simp only [cutsOf, partsFrom, strSub_tx, Str.length]
    simp
    omega
  · intro c hc
    simp at hc
    rcases hc with rfl | hc | rfl
    · decide
    · exact h256 c hc
    · decide
theorem noTri_rows : ∀ ps : List (List Nat), (∀ p ∈ ps, p = [97] ∨ p = [98] ∨ p = [46, 46]) → NoTri (flatR ps)
  | [], _ => fun i h => by simp [flatR] at h
  | p :: ps, h => by
    have ih := noTri_rows ps fun q hq => h q (List.mem_cons_of_mem _ hq)
    intro i hi
    rw [flatR_cons] at hi ⊢
    rcases h p (List.mem_cons_self ..) with rfl | rfl | rfl
    · match i with
      | 0 => simp
      | 1 => simp
      | 2 => simp
      | j + 3 => exact ih j (by simpa using hi)
    · match i with
      | 0 => simp
      | 1 => simp
      | 2 => simp
      | j + 3 => exact ih j (by simpa using hi)
    · match i with
      | 0 => simp
      | 1 => simp
      | 2 => simp
      | 3 => simp
      | j + 4 => exact ih j (by simpa using hi)
/-- found -/
noncomputable def infixB (X : List Nat) : List Nat → Bool
  | [] => X.isPrefixOf []
  | c :: t => X.isPrefixOf (c :: t) || infixB X t
theorem infixB_iff (X : List Nat) : ∀ L : List Nat, infixB X L = true ↔ ∃ i, i + X.length ≤ L.length ∧ (L.drop i).take X.length = X
  | [] => by
    unfold infixB
    constructor
    · intro h
      have h' := List.isPrefixOf_iff_prefix.mp h
      rw [List.prefix_nil] at h'
      exact ⟨0, by simp [h'], by simp [h']⟩
    · rintro ⟨i, h1, _⟩
      have : X = [] := (by simpa using h1 : i = 0 ∧ X = []).2
      rw [this]; rfl
  | c :: t => by
    unfold infixB
    rw [Bool.or_eq_true, infixB_iff X t, List.isPrefixOf_iff_prefix]
    constructor
    · rintro (h | ⟨i, h1, h2⟩)
      · exact ⟨0, by simpa using h.length_le, (List.prefix_iff_eq_take.mp h).symm⟩
      · exact ⟨i + 1, by simp; omega, by simpa using h2⟩
    · rintro ⟨i, h1, h2⟩
      cases i with
      | zero => exact .inl (List.prefix_iff_eq_take.mpr h2.symm)
      | succ i => exact .inr ⟨i, by simp at h1; omega, by simpa using h2⟩
theorem occ_infix (L X : List Nat) : (!(occurrences (tx L) (tx X) 0 (tx L).length 1).isEmpty) = infixB X L := by
  rw [Bool.eq_iff_iff, found_iff, infixB_iff]
  constructor
  · rintro ⟨i, h1, h2⟩; exact ⟨i, at_iff.mp ⟨h1, h2⟩⟩
  · rintro ⟨i, h⟩
    have := at_iff.mpr h
    exact ⟨i, this.1, this.2⟩
theorem occ_empty (L : List Nat) (b : Nat) (hb : b ≤ L.length) : occurrences (tx L) (tx []) b (tx L).length 1 = [b] := by
  have eL : (tx L).length = L.length := by simp [Str.length]
  rw [occ_fold, eL, show L.length + 1 - b = (L.length - b) + 1 by omega, List.range'_succ, List.foldl_cons]
  have e : occF (tx L) (tx []) L.length 1 (#[], b) b = (#[b], b) := by
    unfold occF
    rw [if_pos]
    · rfl
    · refine ⟨⟨⟨Nat.zero_lt_one, Nat.le_refl _⟩, hb⟩, ?_⟩
      rw [subAt_eq]; rfl
  rw [e]
  have : ∀ l : List Nat, l.foldl (occF (tx L) (tx []) L.length 1) (#[b], b) = (#[b], b) := by
    intro l
    induction l with
    | nil => rfl
    | cons x l ih =>
      rw [List.foldl_cons, show occF (tx L) (tx []) L.length 1 (#[b], b) x = (#[b], b) by
        unfold occF
        rw [if_neg]
        rintro ⟨⟨⟨h, _⟩, _⟩, _⟩
        exact absurd h (Nat.lt_irrefl 1), ih]
  rw [this]
end
section
open PySem PySem.W PySem.Calls PyProof.Rows
set_option maxRecDepth 100000
section
variable {prog : Program} {w : World} {A : Around} {E : Value → Shared → Prop} {s : Shared} {env : Env} {h₀ : Heap} {x : Str} {body : List Stmt} {Q : Flow → Shared → Prop}

/-- the end of a turn -/
def TurnEnd (h₀ : Heap) (L : Addr) (own : List (Addr × Obj)) (wr : List Addr) (J : (Str → Option Value) → List (Addr × Obj) → Prop) (s : Shared) (Q : Flow → Shared → Prop) (f : Flow) (s₂ : Shared) : Prop :=
  match f with
  | .ret v => Q (.ret v) s₂
  | .brk => Q .next s₂
  | _ => ∃ h' tk' m' news', s₂ = { s with heap := h', toks := tk' } ∧ Fr h₀ L h' m' ∧ News h₀ L h' (own ++ news') ∧ (∀ p ∈ news', p.1 ∉ wr) ∧ J m' news'

theorem TurnEnd.stepV {L : Addr} {own : List (Addr × Obj)} {wr : List Addr} {J : (Str → Option Value) → List (Addr × Obj) → Prop} {f : Flow} {h : Heap} {tk : Nat} {s₂ : Shared} (p : TurnEnd h₀ L own wr J { s with heap := h, toks := tk } Q f s₂) :
    LoopStepV h₀ L wr own J { s with heap := h, toks := tk } (fun v s' => Q (.ret v) s') (fun s' => Q .next s') f s₂ := by
  cases f with
  | ret v => exact .ret p
  | brk => exact .brk p
  | next =>
    obtain ⟨h', tk', m', news', e, F, N, hw, hJ⟩ := p
    exact .next ⟨rfl, h', tk', m', news', e, F, N, hw, hJ⟩
  | cont =>
    obtain ⟨h', tk', m', news', e, F, N, hw, hJ⟩ := p
    exact .cont ⟨rfl, h', tk', m', news', e, F, N, hw, hJ⟩

theorem loop_list {l : Addr} {lo : Obj} {items : Array Value} {n : Nat} {m₀ : Str → Option Value} {news : List (Addr × Obj)} (J : Nat → (Str → Option Value) → Prop)
    (hh : A.handled = none) (F : Fr h₀ env.locals s.heap m₀) (N : News h₀ env.locals s.heap news) (hl : (l, lo) ∈ news) (hc : lo.cls = .type "list") (hd : lo.data = .seq items n) (h0 : J 0 m₀)
    (turn : ∀ i v m₁ h tk own, items[i]? = some v → J i m₁ → Fr h₀ env.locals h (fun y => if y = x then some v else m₁ y) → News h₀ env.locals h (own ++ news) →
      wpAny (model prog w) A (execs body env) (TurnEnd h₀ env.locals own [s.heap.objs.size] (fun m' news' => news' = news ∧ J (i + 1) m') { s with heap := h, toks := tk } Q) E { s with heap := h, toks := tk })
    (done : ∀ m₁ h tk, J items.size m₁ → Fr h₀ env.locals h m₁ → News h₀ env.locals h news → Q .next { s with heap := h, toks := tk }) :
    wpAny (model prog w) A (pyIter (.ref l)) (fun it s₂ => LoopAtV prog w A h₀ env x body Q E it s₂) E s := by
  have hN := N _ hl
  have hls : s.heap.IsList l items := ⟨lo, hN.1, hc, n, hd⟩
  have hlt : l < s.heap.objs.size := Heap.lt_size hN.1
  refine wpAny_pyIter_list hls ?_
  have W := Walks.list (prog := prog) (w := w) hh s.heap.objs.size l (Nat.ne_of_lt hlt) items
  refine ⟨_, _, _, items.size, _, _, m₀, news, fun i m₁ news₁ => news₁ = news ∧ J i m₁, rfl, W, ?_, ?_, ?_, ⟨⟨_, Heap.get?_push_size _ rfl, rfl, rfl⟩, hls.at fun o e => Heap.get?_push_of_some _ e⟩, F.push _, (fun p hp => ⟨Heap.get?_push_of_some _ (N p hp).1, (N p hp).2⟩), ⟨rfl, h0⟩, ?_, ?_⟩
  · intro hm
    rcases List.mem_cons.mp hm with e | hm
    · exact absurd F.ns.lt (e ▸ Nat.lt_irrefl _)
    · exact hN.2.1 (List.mem_singleton.mp hm).symm
  · intro b hb
    rw [List.mem_singleton.mp hb]
    exact next_is_new F
  · intro p hp hI
    exact absurd (Heap.lt_size (N p hp).1) ((List.mem_singleton.mp hI) ▸ Nat.lt_irrefl _)
  · rintro i v m₁ news₁ s₁ own ⟨hh', tk', rfl⟩ _ hP ⟨rfl, hJ⟩ _ _ _ _ _ F₁ N₁
    exact wpAny_mono (turn i v m₁ hh' tk' own hP hJ F₁ N₁) (fun f s₂ p => p.stepV (s := s)) fun _ _ e => e
  · rintro h' tk m' news' F' N' _ ⟨rfl, hJ⟩
    exact done m' h' tk hJ F' N'

theorem loop_range {r : Addr} {a b c : Int} {t u v : Tok} {n : Nat} {m₀ : Str → Option Value} {news : List (Addr × Obj)} (J : Nat → (Str → Option Value) → List (Addr × Obj) → Prop)
    (hh : A.handled = none) (F : Fr h₀ env.locals s.heap m₀) (N : News h₀ env.locals s.heap news) (hr : IsRange s.heap r a b c t u v) (hsmall : Builtin.Range.small a b c = true) (hn : Builtin.Range.rangeSize a b c = (n : Int)) (h0 : J 0 m₀ news)
    (turn : ∀ i t m₁ news₁ h tk own, i < n → J i m₁ news₁ → (∀ p ∈ news₁, p.1 ≠ s.heap.objs.size) → (∀ q ∈ own, q.1 = s.heap.objs.size) → Fr h₀ env.locals h (fun y => if y = x then some (.int (a + i * c) t) else m₁ y) → News h₀ env.locals h (own ++ news₁) →
      wpAny (model prog w) A (execs body env) (TurnEnd h₀ env.locals own [s.heap.objs.size] (J (i + 1)) { s with heap := h, toks := tk } Q) E { s with heap := h, toks := tk })
    (done : ∀ m₁ news₁ h tk, J n m₁ news₁ → Fr h₀ env.locals h m₁ → News h₀ env.locals h news₁ → Q .next { s with heap := h, toks := tk }) :
    wpAny (model prog w) A (pyIter (.ref r)) (fun it s₂ => LoopAtV prog w A h₀ env x body Q E it s₂) E s := by
  refine wpAny_pyIter_range hr hsmall ?_
  have W := Walks.range (prog := prog) (w := w) hh s.heap.objs.size a c n
  refine ⟨_, _, _, n, _, _, m₀, news, J, rfl, W, ?_, ?_, ?_, ?_, F.push _, (fun p hp => ⟨Heap.get?_push_of_some _ (N p hp).1, (N p hp).2⟩), h0, ?_, ?_⟩
  · intro hm
    exact absurd F.ns.lt ((List.mem_singleton.mp hm) ▸ Nat.lt_irrefl _)
  · intro b hb
    rw [List.mem_singleton.mp hb]
    exact next_is_new F
  · intro p hp hI
    exact absurd (Heap.lt_size (N p hp).1) ((List.mem_singleton.mp hI) ▸ Nat.lt_irrefl _)
  · show IsRangeIter _ _ _ _ _
    rw [hn]; simpa using Heap.get?_push_size _ rfl
  · rintro i v m₁ news₁ s₁ own ⟨hh', tk', rfl⟩ hi ⟨t, rfl⟩ hJ hoff hsub _ _ _ F₁ N₁
    exact wpAny_mono (turn i t m₁ news₁ hh' tk' own hi hJ (fun p hp e => hoff p hp (by rw [e]; exact List.mem_singleton.mpr rfl)) (fun q hq => List.mem_singleton.mp (hsub q hq)) F₁ N₁) (fun f s₂ p => p.stepV (s := s)) fun _ _ e => e
  · intro h' tk m' news' F' N' _ hJ
    exact done m' news' h' tk hJ F' N'
end
end
section
open PySem PySem.W PySem.Calls PyProof.Rows
set_option maxRecDepth 100000
set_option maxHeartbeats 8000000
set_option rowWalk.seconds 0
section
variable {prog : Program} {w : World} {A : Around} {E : Value → Shared → Prop} {s : Shared}
theorem item_list {value slice : Expr} {l : Addr} {items : Array Value} {k : Int} {u : Tok} {v : Value} {Q : Value → Shared → Prop} (hl : s.heap.IsList l items) (h0 : 0 ≤ k) (hhi : k < 2 ^ 63) (hx : items[k.toNat]? = some v) (h : Q v s)
    (hs : subscripted slice false (.ref l) (.int k u) = operate [.ref l, .int k u] (getItem (.ref l) (.int k u)) := by with_unfolding_all rfl) :
    wpAny (model prog w) A (subscriptTail value slice (.ref l) (.int k u)) Q E s := tail_any hl.typeIs slot_list_getitem.lookup (wpAny_getItem_list hl h0 hhi hx h) hs
theorem item_list_neg {value slice : Expr} {l : Addr} {items : Array Value} {k : Int} {u : Tok} {v : Value} {Q : Value → Shared → Prop} (hl : s.heap.IsList l items) (h0 : k < 0) (h1 : -(items.size : Int) ≤ k) (hfit : -(2 ^ 63) ≤ k) (hx : items[(k + items.size).toNat]? = some v) (h : Q v s)
    (hs : subscripted slice false (.ref l) (.int k u) = operate [.ref l, .int k u] (getItem (.ref l) (.int k u)) := by with_unfolding_all rfl) :
    wpAny (model prog w) A (subscriptTail value slice (.ref l) (.int k u)) Q E s := tail_any hl.typeIs slot_list_getitem.lookup (wpAny_getItem_list_neg hl h0 h1 hfit hx h) hs
end
open Builtin Builtin.Str in
theorem gives_find4 (x y : Str) (i j : Int) (t u v z : Tok) : Gives («str.find» ⟨[.str x t, .str y u, .int i v, .int j z], []⟩) (.int (match occurrences x y (fromIndex x.length i) (min (fromIndex x.length j) x.length) 1 with | k :: _ => (k : Int) | [] => -1)) := by
  show Gives (match occurrences x y (fromIndex x.length i) (min (fromIndex x.length j) x.length) 1 with | k :: _ => retInt k | [] => (do rule "str.find.not-found"; retInt (-1))) _
  cases occurrences x y (fromIndex x.length i) (min (fromIndex x.length j) x.length) 1 with
  | nil => exact .rule (.of_eq rfl)
  | cons k _ => exact .of_eq rfl
open Builtin Builtin.Str in
theorem find4 {prog : Program} {w : World} {A : Around} {E : Value → Shared → Prop} {s : Shared} {x y : Str} {t u v z : Tok} {a : Nat} {Q : Value → Shared → Prop}
    (hq : Q (.int (match occurrences x y a x.length 1 with | k :: _ => (k : Int) | [] => -1) s.toks) { s with toks := s.toks + 1 }) :
    wpAny (model prog w) A (call (.builtin "str.find") [.str x t, .str y u, .int (a : Nat) v, .int (x.length : Nat) z]) Q E s := by
  have e1 : fromIndex x.length ((a : Nat) : Int) = a := by unfold fromIndex; rw [if_neg (by omega)]; omega
  have e2 : min (fromIndex x.length ((x.length : Nat) : Int)) x.length = x.length := by unfold fromIndex; rw [if_neg (by omega)]; omega
  refine call_gives F.slot_str_find (typeIs_str _ _ _) F.entry_str_find (F.args_str_find_4 _ _ _ _) (gives_find4 x y a x.length t u v z) ?_
  rw [e1, e2]; exact hq
theorem g_ellip (P : Params) : nsIn (hd.heap_39 P) mainGlobals (Str.ofString "_ellipsis_match") = some (some (.ref 45)) := by rfl
theorem g_len (P : Params) : nsIn (hd.heap_39 P) mainGlobals (Str.ofString "len") = some none := by rfl
theorem b_len : bootBuiltins (Str.ofString "len") = some (.builtin "len") := by decide +kernel
theorem g_mark (P : Params) : ∃ t, nsIn (hd.heap_39 P) mainGlobals (Str.ofString "ELLIPSIS_MARKER") = some (some (.str (Str.ofString "...") t)) := ⟨_, by rfl⟩
theorem s_tri : Str.ofString "..." = tx [46, 46, 46] := by decide +kernel

theorem contains_tri (X : List Nat) : Txt.contains (tx ([46, 46, 46] ++ X ++ [46, 46, 46])) (tx [46, 46, 46]) = true := by
  unfold Txt.contains
  rw [occ_infix, infixB_iff]
  exact ⟨0, by simp, by simp⟩

theorem ellip_call {w : World} {A : Around} {Q : Value → Shared → Prop} {E : Value → Shared → Prop} {s : Shared} {mg mb : Str → Option Value} {t u : Tok} (W : Wd w mg mb s.heap) (hroom : A.depth < recursionLimit) (hh : A.handled = none)
    (X G : List Nat) (hX : NoTri X) (h256 : ∀ c ∈ X, c < 256) (hXl : X.length ≤ 1000) (hG : G.length ≤ 1000)
    (h : ∀ h' tk, (∀ b o, s.heap.get? b = some o → h'.get? b = some o) → Q (.bool (infixB X G)) { s with heap := h', toks := tk }) :
    wpAny (model prg w) A (call (.ref 45) [.str (tx ([46, 46, 46] ++ X ++ [46, 46, 46])) t, .str (tx G) u]) Q E s := by
  generalize hwant : [46, 46, 46] ++ X ++ [46, 46, 46] = want
  have hspl : Txt.split (tx want) (tx [46, 46, 46]) = [tx [], tx X, tx []] := by rw [← hwant]; exact split_tri hX h256
  have hcont : Txt.contains (tx want) (tx [46, 46, 46]) = true := by rw [← hwant]; exact contains_tri X
  have hwl : want.length ≤ 1006 := by rw [← hwant]; simp; omega
  clear hwant
  refine wpAny_call (call_plain_ret (binds := [(Str.ofString "want", .str (tx want) t), (Str.ofString "got", .str (tx G) u)]) hroom (W.k 45 _ rfl) rfl W.t.nolimit (codeRec_of W.k (by rfl)) rfl (locs rfl) fun h₁ F => ?_)
  have N₁ : News s.heap s.heap.objs.size h₁ [] := News.nil
  obtain ⟨tm, gm⟩ := g_mark w.params
  repeat walk_at "m"
  refine gK W F gm ?_
  repeat walk_at "m"
  rw [s_tri]
  refine SB.notContains ?_
  repeat walk_at "m"
  rw [hcont, if_neg (by decide)]
  repeat walk_at "m"
  refine GM.split ?_
  repeat walk_at "m"
  refine gK W F gm ?_
  repeat walk_at "m"
  rw [s_tri]
  refine KSpl.split1 F N₁ (by decide) (fun D l h₂ k₂ hl hstr F₂ N₂ _ => ?_) (by have : (tx want).length = want.length := by simp [Str.length]
                                                                                have : sizeLine = 16777216 := rfl
                                                                                omega)
  rw [hspl] at hl
  obtain ⟨ta, l1, rfl, hl1⟩ := KSpl.cons_of hl
  obtain ⟨tb, l2, rfl, hl2⟩ := KSpl.cons_of hl1
  obtain ⟨tc, l3, rfl, hl3⟩ := KSpl.cons_of hl2
  have hl4 := KSpl.nil_of hl3
  subst hl4
  clear hstr
  have hls : ∀ {h : Heap} {m : Str → Option Value}, Fr s.heap s.heap.objs.size h m → News s.heap s.heap.objs.size h [(D, PySem.W.listOf (strValues [(tx [], ta), (tx X, tb), (tx [], tc)]).toArray 0)] → h.IsList D #[.str (tx []) ta, .str (tx X) tb, .str (tx []) tc] := fun F N => ⟨_, (N _ (List.mem_singleton.mpr rfl)).1, rfl, 0, rfl⟩
  repeat walk_at "m"
  rename_i h₃ F₃ N₃
  refine wpAny_Assert_holds ?_
  repeat walk_at "m"
  refine gB W F₃ (g_len _) b_len ?_
  repeat walk_at "m"
  refine call_len_list (hls F₃ N₃) (by show (3 : Int) < 2 ^ 63; decide) ?_
  repeat walk_at "m"
  refine ⟨by rfl, ?_⟩
  repeat walk_at "m"
  refine Assign_Tuple_swapped (names := [Str.ofString "startpos", Str.ofString "endpos"]) ?_
  repeat walk_at "m"
  refine gB W F₃ (g_len _) b_len ?_
  repeat walk_at "m"
  refine P.len_str (by show ¬ (((tx G).length : Int) ≥ _); simp [Str.length]; omega) ?_
  repeat walk_at "m"
  refine newTuple_N F₃ N₃ fun h₄ F₄ N₄ => ?_
  have ht₄ := (N₄ _ (List.mem_cons_self ..)).1
  refine unpackItemsN_ F₄ (fun p hp => N₄ p (List.mem_cons_of_mem _ hp)) ⟨_, ht₄, rfl, 0, rfl⟩ hh rfl fun h₅ F₅ N₅ => ?_
  refine assignInOrder_cons (bindName_ ?_)
  repeat walk_at "m"
  refine assignInOrder_cons (bindName_ ?_)
  repeat walk_at "m"
  refine assignInOrder_nil ?_
  repeat walk_at "m"
  rename_i h₆ F₆ N₆ h₇ F₇ N₇
  refine item_list (hls F₇ N₇) (by decide) (by decide) rfl ?_
  repeat walk_at "m"
  refine isTrue_plain ?_
  repeat walk_at "m"
  refine P.truthy_str (by decide) ?_
  rw [if_neg (by decide)]
  repeat walk_at "m"
  rename_i h₈ F₈ N₈
  refine item_list_neg (hls F₈ N₈) (by decide) (by show (-3 : Int) ≤ -1; decide) (by decide) rfl ?_
  repeat walk_at "m"
  refine isTrue_plain ?_
  repeat walk_at "m"
  refine P.truthy_str (by decide) ?_
  rw [if_neg (by decide)]
  repeat walk_at "m"
  rename_i h₉ F₉ N₉
  rw [if_neg (by simp)]
  repeat walk_at "m"
  refine For_invVF F₉ (by rfl) (by rfl) ?_
  repeat walk_at "m"
  refine loop_list (fun i m₁ => m₁ (Str.ofString "got") = some (.str (tx G) u) ∧ (∃ t, m₁ (Str.ofString "endpos") = some (.int ((tx G).length : Nat) t)) ∧ ∃ a : Nat, (∃ t, m₁ (Str.ofString "startpos") = some (.int (a : Nat) t)) ∧ a ≤ (tx G).length ∧ (i ≤ 1 → a = 0) ∧ (2 ≤ i → infixB X G = true))
    hh F₉ N₉ (List.mem_singleton.mpr rfl) rfl rfl ⟨by walk_at "look", ⟨_, by walk_at "look"⟩, 0, ⟨_, by walk_at "look"⟩, Nat.zero_le _, fun _ => rfl, fun h => absurd h (by decide)⟩ ?turn ?done
  case done =>
    rintro m₁ h₁₀ tk₁₀ ⟨_, _, a, _, _, _, hf⟩ F₁₀ N₁₀
    repeat walk_at "m"
    have := h h₁₀ tk₁₀ F₁₀.keep
    rw [hf (by show 2 ≤ 3; omega)] at this
    exact this
  case turn =>
    rintro i v m₁ h₁₀ tk₁₀ own hv ⟨hgot, ⟨te, hend⟩, a, ⟨ts, hst⟩, ha, h01, h2⟩ F₁₀ N₁₀
    have eG : (tx G).length = G.length := by simp [Str.length]
    have hwr : ∀ p ∈ [(D, PySem.W.listOf (strValues [(tx [], ta), (tx X, tb), (tx [], tc)]).toArray 0)], p.1 ∉ [h₉.objs.size] := by
      intro p hp hq
      have := Heap.lt_size (N₉ p hp).1
      rw [List.mem_singleton.mp hq] at this
      exact Nat.lt_irrefl _ this
    -- the item
    have hcase : (∃ tv, v = .str (tx []) tv ∧ i ≠ 1) ∨ (∃ tv, v = .str (tx X) tv ∧ i = 1) := by
      match i, hv with
      | 0, hv => left; cases hv; exact ⟨_, rfl, by omega⟩
      | 1, hv => right; cases hv; exact ⟨_, rfl, rfl⟩
      | 2, hv => left; cases hv; exact ⟨_, rfl, by omega⟩
      | k + 3, hv => cases hv
    rcases hcase with ⟨tv, rfl, hi⟩ | ⟨tv, rfl, rfl⟩
    · repeat walk_at "m"
      refine GM.find ?_
      repeat walk_at "m"
      refine find4 ?_
      rw [occ_empty G a (by omega)]
      repeat walk_at "m"
      rw [if_neg (by simp)]
      repeat walk_at "m"
      refine gB W (by assumption) (g_len _) b_len ?_
      repeat walk_at "m"
      refine P.len_str (by decide) ?_
      repeat walk_at "m"
      refine iadd_int ?_
      repeat walk_at "m"
      refine ⟨_, _, _, _, rfl, by assumption, by assumption, hwr, rfl, by walk_at "look", ⟨_, by walk_at "look"⟩, a, ⟨_, by walk_at "look"⟩, ha, fun h => h01 (by omega), fun h => h2 (by omega)⟩
    · obtain rfl := h01 (Nat.le_refl _)
      repeat walk_at "m"
      refine GM.find ?_
      repeat walk_at "m"
      refine find4 ?_
      have hinf := occ_infix G X
      rcases StrLaws.occ_head (tx G) (tx X) 1 (Nat.le_refl _) with ⟨e, _⟩ | ⟨k, r, e, hat, _⟩
      · rw [e]
        rw [e] at hinf
        repeat walk_at "m"
        rw [if_pos (by decide)]
        repeat walk_at "m"
        rw [← hinf] at h
        exact h _ _ (Fr.keep (by assumption))
      · rw [e]
        rw [e] at hinf
        have hk := (at_iff.mp hat).1
        have eX : (tx X).length = X.length := by simp [Str.length]
        repeat walk_at "m"
        rw [if_neg (by simp)]
        repeat walk_at "m"
        refine gB W (by assumption) (g_len _) b_len ?_
        repeat walk_at "m"
        refine P.len_str (by show ¬ (((tx X).length : Int) ≥ _); rw [eX]; omega) ?_
        repeat walk_at "m"
        refine iadd_int ?_
        rw [show ((k : Nat) : Int) + ((tx X).length : Nat) = ((k + (tx X).length : Nat) : Int) by omega]
        repeat walk_at "m"
        refine ⟨_, _, _, _, rfl, by assumption, by assumption, hwr, rfl, by walk_at "look", ⟨_, by walk_at "look"⟩, _, ⟨_, by walk_at "look"⟩, by omega, fun h => absurd h (by omega), fun _ => hinf.symm⟩
end
section
def pySl (w : List Int) (x y : Nat) : List Int := (w.drop x).take (min y w.length - x)
noncomputable def kEnd (w piece : List Int) (size : Nat) : Nat → Nat → Nat
  | 0, k => k
  | f + 1, k => if k + size ≤ w.length ∧ pySl w k (k + size) ≠ piece then kEnd w piece size f (k + 1) else k
noncomputable def turnOk (w : List Int) (i j : Nat) : Bool :=
  let piece := pySl w i j
  if piece = piece.reverse then
    let k := kEnd w piece (j - i) (w.length - i) (i + 1)
    let way := pySl w i (k + (j - i))
    !(decide (k + (j - i) ≤ w.length) && !decide (way = way.reverse))
  else true
noncomputable def retPure (w : List Int) : Bool := (List.range w.length).all fun i => (List.range (w.length - i)).all fun d => turnOk w i (i + 1 + d)
end
section
open PySem PySem.W PySem.Calls PyProof.Rows
set_option maxRecDepth 100000
section
variable {prog : Program} {w : World} {A : Around} {E : Value → Shared → Prop} {h₀ h : Heap} {g : Array GenState} {d : Drawn} {tk : Nat} {os : OsState} {L l : Addr} {m : Str → Option Value} {news : List (Addr × Obj)} {value slice : PySem.Expr} {vs : List Value} {ns ms : List Int} {Q : Value → Shared → Prop}
theorem sl_ints {vl vu : Value} {lo hi : Option Int} (F : Fr h₀ L h m) (N : News h₀ L h news) (hl : h.IsList l vs.toArray) (pl : IsPart vl lo) (pu : IsPart vu hi) (hi' : IntsAre vs ns) (hm : IntsAre (slicePick vs.toArray lo hi none).toList ms) (hz : ns.length ≤ 1000)
    (hq : ∀ D ws h', Fr h₀ L h' m → News h₀ L h' ((D, listOf (List.toArray ws) 0) :: news) → (∀ p ∈ news, p.1 < D) → IntsAre ws ms → ms.length ≤ ns.length → Q (.ref D) ⟨h', g, d, tk, os⟩)
    (hs : subscripted slice false (.ref l) (.ref h.objs.size) = operate [.ref h.objs.size, .ref l] (getItem (.ref l) (.ref h.objs.size)) := by with_unfolding_all rfl) (ht : ∀ r, letTemporaryGo value (.ref l) r = pure () := by intro _; with_unfolding_all rfl) :
    wpAny (model prog w) A (subscriptTail value slice (.ref l) (.ref h.objs.size)) Q E ⟨h.push { cls := .type "slice", data := .fields #[vl, vu, .none] }, g, d, tk, os⟩ :=
  kmk_slice_ints (s := ⟨h, g, d, tk, os⟩) F N hl pl pu hi' hm rfl (fun D ws h' F' N' lt hI _ hle => hq D ws h' F' N' lt hI hle) hs ht (by
    have := hi'.length
    have e : sizeLine = 16777216 := rfl
    simp; omega)
theorem sl_rev {u : Tok} (F : Fr h₀ L h m) (N : News h₀ L h news) (hl : h.IsList l vs.toArray) (hi : IntsAre vs ns) (hz : ns.length ≤ 1000)
    (hq : ∀ D ws h', Fr h₀ L h' m → News h₀ L h' ((D, listOf (List.toArray ws) 0) :: news) → (∀ p ∈ news, p.1 < D) → IntsAre ws ns.reverse → Q (.ref D) ⟨h', g, d, tk, os⟩)
    {ops : List Value} (hs : subscripted slice false (.ref l) (.ref h.objs.size) = operate ops (getItem (.ref l) (.ref h.objs.size)) := by with_unfolding_all rfl) (ht : ∀ r, letTemporaryGo value (.ref l) r = pure () := by intro _; with_unfolding_all rfl) :
    wpAny (model prog w) A (subscriptTail value slice (.ref l) (.ref h.objs.size)) Q E ⟨h.push { cls := .type "slice", data := .fields #[.none, .none, .int (-1) u] }, g, d, tk, os⟩ :=
  krv_ints (s := ⟨h, g, d, tk, os⟩) F N hl (.int _ _) hi (fun D ws h' F' N' lt hI _ => hq D ws h' F' N' lt hI) hs ht (by
    have := hi.length
    have e : sizeLine = 16777216 := rfl
    simp; omega)
theorem sl_run (hi' : IntsAre vs ns) (x y : Nat) : IntsAre (slicePick vs.toArray (some (x : Int)) (some (y : Int)) none).toList (pySl ns x y) := kmk_run hi' (by omega) (by omega)
end
end
section
open PySem PySem.W PySem.Calls PyProof.Rows
set_option maxRecDepth 100000
set_option maxHeartbeats 8000000
set_option rowWalk.seconds 0
theorem g_mirror (P : Params) : nsIn (hd.heap_39 P) mainGlobals (Str.ofString "_law_every_return_a_mirror") = some (some (.ref 69)) := by rfl
theorem g_range (P : Params) : nsIn (hd.heap_39 P) mainGlobals (Str.ofString "range") = some none := by rfl
theorem b_range : bootBuiltins (Str.ofString "range") = some (.type "range") := by decide +kernel
theorem small_ok {a b c : Int} (hc : c = 1 ∨ c = -1) (ha : -1000 ≤ a ∧ a ≤ 1000) (hb : -1000 ≤ b ∧ b ≤ 1000) : Builtin.Range.small a b c = true := by
  have e1 : ∀ x : Int, -5000 ≤ x → x ≤ 5000 → Builtin.Range.rangeFitsLong x = true := by
    intro x h1 h2
    unfold Builtin.Range.rangeFitsLong
    simp
    omega
  have hr : -5000 ≤ Builtin.Range.rangeSize a b c ∧ Builtin.Range.rangeSize a b c ≤ 5000 := by
    unfold Builtin.Range.rangeSize
    rcases hc with rfl | rfl
    · rw [if_pos (by decide)]; split <;> omega
    · rw [if_neg (by decide), show (- -1 : Int) = 1 from rfl]; split <;> omega
  unfold Builtin.Range.small
  rw [e1 a (by omega) (by omega), e1 b (by omega) (by omega), e1 c (by omega) (by omega), e1 _ hr.1 hr.2]
  rcases hc with rfl | rfl
  · rw [if_pos (by decide), e1 _ (by omega) (by omega)]; simp
  · rw [if_neg (by decide), e1 _ (by omega) (by omega)]; simp

theorem mirror_call {w : World} {A : Around} {Q : Value → Shared → Prop} {E : Value → Shared → Prop} {s : Shared} {mg mb : Str → Option Value} {wd : Addr} {vs : List Value} {ws : List Int} (W : Wd w mg mb s.heap) (hroom : A.depth < recursionLimit) (hh : A.handled = none) (hu : A.units + 100 < cLine)
    (hl : s.heap.IsList wd vs.toArray) (hv : IntsAre vs ws) (hlen : ws.length ≤ 100)
    (h : ∀ h' tk, (∀ b o, s.heap.get? b = some o → h'.get? b = some o) → Q (.bool (retPure ws)) { s with heap := h', toks := tk }) :
    wpAny (model prg w) A (call (.ref 69) [.ref wd]) Q E s := by
  refine wpAny_call (call_plain_ret (binds := [(Str.ofString "word", .ref wd)]) hroom (W.k 69 _ rfl) rfl W.t.nolimit (codeRec_of W.k (by rfl)) rfl (locs rfl) fun h₁ F => ?_)
  have N : News s.heap s.heap.objs.size h₁ [] := News.nil
  have hvl : vs.toArray.size = ws.length := by simp [hv.length]
  have hL : ∀ {h : Heap} {m : Str → Option Value}, Fr s.heap s.heap.objs.size h m → h.IsList wd vs.toArray := fun F => hl.at fun o e => F.keep wd o e
  repeat walk_at "m"
  refine For_invVF F (by rfl) (by rfl) ?_
  repeat walk_at "m"
  refine gB W F (g_range _) b_range ?_
  repeat walk_at "m"
  refine gB W F (g_len _) b_len ?_
  repeat walk_at "m"
  refine call_len_list (hL F) (by rw [hvl]; omega) ?_
  repeat walk_at "m"
  rw [hvl]
  refine range1_rows F N fun h₂ tk₂ t₁ u₁ v₁ R₂ F₂ N₂ _ => ?_
  refine loop_range (n := ws.length) (fun i m₁ news₁ => news₁ = [] ∧ m₁ (Str.ofString "word") = some (.ref wd) ∧ ∀ i', i' < i → ((List.range (ws.length - i')).all fun d => turnOk ws i' (i' + 1 + d)) = true)
    hh F₂ N₂ R₂ (small_ok (.inl rfl) (by omega) (by omega)) ?hsize ⟨rfl, by walk_at "look", fun i' h => absurd h (Nat.not_lt_zero _)⟩ ?turn ?done
  case hsize => 
    unfold Builtin.Range.rangeSize
    rw [if_pos (by decide)]; split <;> omega
  case done =>
    rintro m₁ news₁ h₃ tk₃ ⟨rfl, _, hall⟩ F₃ N₃
    repeat walk_at "m"
    have e : retPure ws = true := List.all_eq_true.mpr fun i hi => hall i (List.mem_range.mp hi)
    rw [e] at h
    exact h _ _ F₃.keep
  case turn =>
    rintro i t m₁ news₁ h₃ tk₃ own hi ⟨rfl, hword, hall⟩ _ hown F₃ N₃
    repeat walk_at "m"
    refine For_invVF F₃ (by rfl) (by rfl) ?_
    repeat walk_at "m"
    refine gB W F₃ (g_range _) b_range ?_
    repeat walk_at "m"
    refine gB W F₃ (g_len _) b_len ?_
    repeat walk_at "m"
    refine call_len_list (hL F₃) (by rw [hvl]; omega) ?_
    repeat walk_at "m"
    rw [hvl]
    refine range2_rows F₃ N₃ fun h₄ tk₄ t₂ u₂ v₂ R₄ F₄ N₄ _ => ?_
    refine loop_range (n := ws.length - i) (fun d m₁ news₁ => news₁ = own ∧ m₁ (Str.ofString "word") = some (.ref wd) ∧ (∃ t, m₁ (Str.ofString "i") = some (.int (i : Nat) t)) ∧ ∀ d', d' < d → turnOk ws i (i + 1 + d') = true)
      hh F₄ (by rw [List.append_nil] at N₄; exact N₄) R₄ (small_ok (.inl rfl) (by omega) (by omega)) ?hsize ⟨rfl, by walk_at "look", ⟨t, ?hi0⟩, fun i' h => absurd h (Nat.not_lt_zero _)⟩ ?turn ?done
    case hsize =>
      unfold Builtin.Range.rangeSize
      rw [if_pos (by decide)]; split <;> omega
    case hi0 =>
      refine (if_pos rfl).trans ?_
      rw [show (0 + (i : Int) * 1) = (i : Nat) by omega]
    case done =>
      rintro m₅ news₅ h₅ tk₅ ⟨rfl, hw5, _, hall5⟩ F₅ N₅
      repeat walk_at "m"
      refine ⟨h₅, tk₅, m₅, [], rfl, F₅, by rw [List.append_nil]; exact N₅, fun _ hp => absurd hp (by simp), rfl, hw5, fun i' hi' => ?_⟩
      by_cases e : i' = i
      · subst e
        exact List.all_eq_true.mpr fun d hd => hall5 d (List.mem_range.mp hd)
      · exact hall i' (by omega)
    case turn =>
      rintro d t5 m₅ news₅ h₅ tk₅ own5 hd ⟨rfl, hw5, ⟨ti, hi5⟩, hall5⟩ hoff5 hown5 F₅ N₅
      have ej : ((i : Int) + 1 + (d : Int) * 1) = ((i + 1 + d : Nat) : Int) := by omega
      rw [show (0 + (i : Int) * 1 + 1 + (d : Int) * 1) = ((i + 1 + d : Nat) : Int) by omega] at F₅
      generalize hj : i + 1 + d = j at F₅
      have hjw : j ≤ ws.length := by omega
      change Fr s.heap s.heap.objs.size h₅ _ at F₅
      change News s.heap s.heap.objs.size h₅ _ at N₅
      repeat walk_at "m"
      refine sl_ints F₅ N₅ (hL F₅) (.int _ _) (.int _ _) hv (sl_run hv i j) (by omega) fun D₁ us₁ h₆ F₆ N₆ _ hI₁ hle₁ => ?_
      repeat walk_at "m"
      rename_i h₇ F₇ N₇
      have hP : ∀ {h : Heap} {own' : List (Addr × Obj)}, News s.heap s.heap.objs.size h ((D₁, PySem.W.listOf us₁.toArray 0) :: own') → h.IsList D₁ us₁.toArray := fun N => ⟨_, (N _ (List.mem_cons_self ..)).1, rfl, 0, rfl⟩
      refine sl_rev F₇ N₇ (hP N₇) hI₁ (by omega) fun D₂ us₂ h₈ F₈ N₈ _ hI₂ => ?_
      refine ne_intsK (hP fun p hp => N₈ p (List.mem_cons_of_mem _ hp)) hI₁ ⟨_, (N₈ _ (List.mem_cons_self ..)).1, rfl, 0, rfl⟩ hI₂ (by show A.units + 3 + 64 < cLine; omega) ?_
      repeat walk_at "m"
      have hwr : ∀ p ∈ news₅, p.1 ∉ [h₄.objs.size] := fun p hp hq => hoff5 p hp (List.mem_singleton.mp hq)
      have hsub : ∀ {h : Heap} {pre : List (Addr × Obj)}, News s.heap s.heap.objs.size h (pre ++ (own5 ++ news₅)) → News s.heap s.heap.objs.size h (own5 ++ news₅) := fun N p hp => N p (List.mem_append_right _ hp)
      have hnext : turnOk ws i j = true → ∀ d', d' < d + 1 → turnOk ws i (i + 1 + d') = true := fun ht d' hd' => by
        by_cases e : d' = d
        · rw [e, hj]; exact ht
        · exact hall5 d' (by omega)
      by_cases hp : pySl ws i j = (pySl ws i j).reverse
      case neg =>
        have ht : turnOk ws i j = true := by unfold turnOk; simp only [if_neg hp]
        rw [decide_eq_false hp, if_pos (by decide)]
        repeat walk_at "m"
        exact ⟨_, _, _, news₅, rfl, F₈, hsub (pre := [_, _]) N₈, hwr, rfl, by walk_at "look", ⟨_, by walk_at "look"⟩, hnext ht⟩
      case pos =>
        rw [decide_eq_true hp, if_neg (by decide)]
        have N₉ : News s.heap s.heap.objs.size h₈ ((D₁, PySem.W.listOf us₁.toArray 0) :: (own5 ++ news₅)) := fun p hp => N₈ p (List.mem_cons_of_mem _ hp)
        clear N₈
        repeat walk_at "m"
        rename_i h₉ F₉ N₉' h₁₀ F₁₀ N₁₀
        rw [show ((j : Int) - (i : Int)) = ((j - i : Nat) : Int) by omega, show ((i : Nat) : Int) + 1 = ((i + 1 : Nat) : Int) by omega] at F₁₀
        refine While_inv2 (n₀ := ws.length - i) (fun n m₁ news₁ => ∃ k : Nat, n = ws.length + 1 - k ∧ i + 1 ≤ k ∧ kEnd ws (pySl ws i j) (j - i) n k = kEnd ws (pySl ws i j) (j - i) (ws.length - i) (i + 1) ∧ news₁ = (D₁, PySem.W.listOf us₁.toArray 0) :: (own5 ++ news₅)
          ∧ m₁ (Str.ofString "word") = some (.ref wd) ∧ (∃ t, m₁ (Str.ofString "i") = some (.int (i : Nat) t)) ∧ m₁ (Str.ofString "piece") = some (.ref D₁) ∧ (∃ t, m₁ (Str.ofString "size") = some (.int ((j - i : Nat) : Int) t)) ∧ ∃ t, m₁ (Str.ofString "k") = some (.int (k : Nat) t))
          F₁₀ N₁₀ ⟨i + 1, by omega, Nat.le_refl _, rfl, rfl, by walk_at "look", ⟨_, by walk_at "look"⟩, by walk_at "look", ⟨_, by walk_at "look"⟩, ⟨_, by walk_at "look"⟩⟩ ?wturn
        rintro n m₁₁ news₁₁ h₁₁ tk₁₁ F₁₁ N₁₁ ⟨k, rfl, hik, hke, rfl, hw11, ⟨tii, hi11⟩, hp11, ⟨tsz, hs11⟩, tkk, hk11⟩
        refine wpAny_mono (Q := fun b s₂ => b = decide (k + (j - i) ≤ ws.length ∧ pySl ws k (k + (j - i)) ≠ pySl ws i j) ∧ ∃ h' tk', s₂ = { s with heap := h', toks := tk' } ∧ Fr s.heap s.heap.objs.size h' m₁₁ ∧ News s.heap s.heap.objs.size h' ((D₁, PySem.W.listOf us₁.toArray 0) :: (own5 ++ news₅))) ?test ?cont (fun _ _ x => x)
        case test =>
          repeat walk_at "m"
          refine gB W F₁₁ (g_len _) b_len ?_
          repeat walk_at "m"
          refine call_len_list (hL F₁₁) (by rw [hvl]; omega) ?_
          repeat walk_at "m"
          rw [hvl, show ((k : Nat) : Int) + ((j - i : Nat) : Int) = ((k + (j - i) : Nat) : Int) by omega]
          by_cases hc : k + (j - i) ≤ ws.length
          · rw [if_pos (decide_eq_true (by omega))]
            repeat walk_at "m"
            rw [show ((k : Nat) : Int) + ((j - i : Nat) : Int) = ((k + (j - i) : Nat) : Int) by omega]
            refine sl_ints F₁₁ N₁₁ (hL F₁₁) (.int _ _) (.int _ _) hv (sl_run hv k (k + (j - i))) (by omega) fun D₃ us₃ h₁₂ F₁₂ N₁₂ _ hI₃ hle₃ => ?_
            repeat walk_at "m"
            refine ne_intsK ⟨_, (N₁₂ _ (List.mem_cons_self ..)).1, rfl, 0, rfl⟩ hI₃ (hP fun p hp => N₁₂ p (List.mem_cons_of_mem _ hp)) hI₁ (by show A.units + 3 + 64 < cLine; omega) ?_
            repeat walk_at "m"
            have N₁₃ : News s.heap s.heap.objs.size h₁₂ ((D₁, PySem.W.listOf us₁.toArray 0) :: (own5 ++ news₅)) := fun p hp => N₁₂ p (List.mem_cons_of_mem _ hp)
            by_cases he : pySl ws k (k + (j - i)) = pySl ws i j
            · rw [decide_eq_true he, if_neg (by decide)]
              exact ⟨(decide_eq_false fun x => x.2 he).symm, _, _, rfl, F₁₂, N₁₃⟩
            · rw [decide_eq_false he, if_pos (by decide)]
              repeat walk_at "m"
              exact ⟨(decide_eq_true ⟨hc, he⟩).symm, _, _, rfl, F₁₂, N₁₃⟩
          · rw [if_neg (by simp only [decide_eq_true_eq]; omega)]
            exact ⟨(decide_eq_false fun x => hc x.1).symm, _, _, rfl, F₁₁, N₁₁⟩
        case cont =>
          rintro b s₂ ⟨rfl, h₁₂, tk₁₂, rfl, F₁₂, N₁₂⟩
          by_cases hc : k + (j - i) ≤ ws.length ∧ pySl ws k (k + (j - i)) ≠ pySl ws i j
          · rw [if_pos (decide_eq_true hc)]
            repeat walk_at "m"
            rename_i h₁₃ F₁₃ N₁₃
            rw [show ((k : Nat) : Int) + 1 = ((k + 1 : Nat) : Int) by omega] at F₁₃
            have hstep : kEnd ws (pySl ws i j) (j - i) (ws.length + 1 - k) k = kEnd ws (pySl ws i j) (j - i) (ws.length + 1 - (k + 1)) (k + 1) := by
              rw [show ws.length + 1 - k = (ws.length + 1 - (k + 1)) + 1 by omega]
              show (if _ then _ else _) = _
              rw [if_pos hc]
            exact ⟨_, _, _, _, ws.length + 1 - (k + 1), rfl, F₁₃, N₁₃, by omega, k + 1, rfl, by omega, hstep.symm.trans hke, rfl, by walk_at "look", ⟨_, by walk_at "look"⟩, by walk_at "look", ⟨_, by walk_at "look"⟩, ⟨_, by walk_at "look"⟩⟩
          · rw [if_neg (by simp only [decide_eq_true_eq]; exact hc)]
            have hstop : kEnd ws (pySl ws i j) (j - i) (ws.length - i) (i + 1) = k := by
              rw [← hke]
              cases ws.length + 1 - k with
              | zero => rfl
              | succ f => show (if _ then _ else _) = _; rw [if_neg hc]
            repeat walk_at "m"
            rw [show ((k : Nat) : Int) + ((j - i : Nat) : Int) = ((k + (j - i) : Nat) : Int) by omega]
            refine sl_ints F₁₂ N₁₂ (hL F₁₂) (.int _ _) (.int _ _) hv (sl_run hv i (k + (j - i))) (by omega) fun D₄ us₄ h₁₄ F₁₄ N₁₄ _ hI₄ hle₄ => ?_
            repeat walk_at "m"
            rename_i h₁₅ F₁₅ N₁₅
            refine gB W F₁₅ (g_len _) b_len ?_
            repeat walk_at "m"
            refine call_len_list (hL F₁₅) (by rw [hvl]; omega) ?_
            repeat walk_at "m"
            rw [hvl, show ((k : Nat) : Int) + ((j - i : Nat) : Int) = ((k + (j - i) : Nat) : Int) by omega]
            have hok : turnOk ws i j = !(decide (k + (j - i) ≤ ws.length) && !decide (pySl ws i (k + (j - i)) = (pySl ws i (k + (j - i))).reverse)) := by
              unfold turnOk
              simp only [if_pos hp, hstop]
            by_cases hc2 : k + (j - i) ≤ ws.length
            · rw [if_pos (decide_eq_true (by omega))]
              repeat walk_at "m"
              refine sl_rev F₁₅ N₁₅ ⟨_, (N₁₅ _ (List.mem_cons_self ..)).1, rfl, 0, rfl⟩ hI₄ (by omega) fun D₅ us₅ h₁₆ F₁₆ N₁₆ _ hI₅ => ?_
              refine ne_intsK ⟨_, (N₁₆ _ (List.mem_cons_of_mem _ (List.mem_cons_self ..))).1, rfl, 0, rfl⟩ hI₄ ⟨_, (N₁₆ _ (List.mem_cons_self ..)).1, rfl, 0, rfl⟩ hI₅ (by show A.units + 3 + 64 < cLine; omega) ?_
              repeat walk_at "m"
              by_cases he : pySl ws i (k + (j - i)) = (pySl ws i (k + (j - i))).reverse
              · rw [decide_eq_true he, if_neg (by decide), if_neg (by decide)]
                have ht : turnOk ws i j = true := by rw [hok, decide_eq_true he]; simp
                repeat walk_at "m"
                exact ⟨_, _, _, news₅, rfl, F₁₆, hsub (pre := [_, _, _]) N₁₆, hwr, rfl, by walk_at "look", ⟨_, by walk_at "look"⟩, hnext ht⟩
              · rw [decide_eq_false he, if_pos (by decide)]
                repeat walk_at "m"
                rw [if_pos (by decide)]
                repeat walk_at "m"
                have ht : turnOk ws i j = false := by rw [hok, decide_eq_false he, decide_eq_true hc2]; rfl
                have er : retPure ws = false := by
                  cases q : retPure ws with
                  | false => rfl
                  | true =>
                    have q1 := List.all_eq_true.mp q i (List.mem_range.mpr hi)
                    have q2 := List.all_eq_true.mp q1 d (List.mem_range.mpr hd)
                    rw [hj, ht] at q2; cases q2
                rw [er] at h
                exact h _ _ F₁₆.keep
            · rw [if_neg (by simp only [decide_eq_true_eq]; omega), if_neg (by decide)]
              have ht : turnOk ws i j = true := by rw [hok, decide_eq_false hc2]; rfl
              repeat walk_at "m"
              exact ⟨_, _, _, news₅, rfl, F₁₅, hsub (pre := [_, _]) N₁₅, hwr, rfl, by walk_at "look", ⟨_, by walk_at "look"⟩, hnext ht⟩
end
section
open PySem PySem.W PySem.Calls PyProof.Rows
set_option maxRecDepth 100000
section
variable {prog : Program} {w : World} {A : Around} {E : Value → Shared → Prop} {env : Env} {h₀ : Heap} {s : Shared}
/-- what an element's evaluation must show -/
def EltOk (prog : Program) (w : World) (A : Around) (env : Env) (scope : Scope) (x : Str) (elt : Expr) (G : Value → Value → Prop) (items : Array Value) (s₁ : Shared) : Prop :=
  ∀ C v s₂ m₂ E', v ∈ items → s₂.heap.Ns C m₂ → m₂ x = some v → (∀ b o, s₁.heap.get? b = some o → s₂.heap.get? b = some o) → wpAny (model prog w) A (eval elt (compEnv scope C env)) (fun y s₃ => G v y ∧ Keeps s₂ s₃) E' s₂

theorem comp_eval {elt iter : Expr} {x : Str} {px : Pos} {scope : Scope} {pos : Pos} {Q : Value → Shared → Prop} (G : Value → Value → Prop)
    (hh : A.handled = none)
    (h : wpAny (model prog w) A (eval iter env) (fun xv s₁ => ∃ ax items m news, xv = .ref ax ∧ s₁.heap.IsList ax items ∧ items.size ≤ 1000 ∧ Fr h₀ env.locals s₁.heap m ∧ News h₀ env.locals s₁.heap news ∧ EltOk prog w A env scope x elt G items s₁ ∧
      (∀ D o ys n h' tk, Fr h₀ env.locals h' m → News h₀ env.locals h' ((D, o) :: news) → o.cls = .type "list" → o.data = .seq ys n → Paired G items.toList ys.toList → (∀ p ∈ news, p.1 ≠ D) → (∀ b o, s₁.heap.get? b = some o → h'.get? b = some o) → Q (.ref D) { s₁ with heap := h', toks := tk })) E s)
    (hfree : ∀ y ∈ scope.names, y.2 ≠ .free := by decide) (hcell : ∀ y ∈ scope.names, y.2 ≠ .cell := by decide) (hkind : scope.kind = .function := by rfl)
    (hnames : ∀ y ∈ scope.names, y.2 = .local → scope.names.lookup y.1 = some .local := by decide) (hx : scope.names.lookup x = some .local := by decide)
    (hs : ∀ x, foldedSetIterable iter env x = pure x := by intro _; rfl) :
    wpAny (model prog w) A (eval (.ListComp elt [⟨.Name x px, iter, [], 0⟩] scope pos) env) Q E s := by
  refine wpAny_ListComp_map (fun _ => true) G hh hfree hcell hkind hnames hx (wpAny_mono h (fun xv s₁ h₁ => ?_) fun _ _ e => e) hs
  obtain ⟨ax, items, m, news, rfl, hl, hsz, F, N, helt, hq⟩ := h₁
  have e : sizeLine = 16777216 := rfl
  refine ⟨ax, items, rfl, hl, by omega, fun C v s₂ m₂ E' _ _ _ _ => wpAny_tests_nil ⟨rfl, _, _, rfl, fun _ _ e => e⟩, fun C v s₂ m₂ E' hv _ hn hm hk => helt C v s₂ m₂ E' hv hn hm hk, fun D h' tk ys hD hlD hP hk => ?_⟩
  obtain ⟨o, ho, hc, n, hd⟩ := hlD
  have hDL : D ≠ env.locals := by
    rintro rfl
    obtain ⟨oL, _, _, hL, _⟩ := F.ns
    rw [hD] at hL; cases hL
  have hDn : h₀.get? D = none := by
    cases q : h₀.get? D with
    | none => rfl
    | some o' => rw [F.keep D o' q] at hD; cases hD
  refine hq D o ys n h' tk ⟨F.ns.keeps hk, fun b o e => hk b o (F.keep b o e), F.above⟩ ?_ hc hd (by rw [show items.toList.filter (fun _ => true) = items.toList from List.filter_eq_self.mpr fun _ _ => rfl] at hP; exact hP) (fun p hp e => ?_) hk
  · intro p hp
    rcases List.mem_cons.mp hp with rfl | hp
    · exact ⟨ho, hDL, hDn⟩
    · exact ⟨hk _ _ (N p hp).1, (N p hp).2⟩
  · have := (N p hp).1
    rw [e, hD] at this; cases this

theorem comp_assign {elt iter : Expr} {x y : Str} {px py : Pos} {scope : Scope} {pos spos : Pos} {Q : Flow → Shared → Prop} (G : Value → Value → Prop)
    (hh : A.handled = none)
    (h : wpAny (model prog w) A (eval iter env) (fun xv s₁ => ∃ ax items m news, xv = .ref ax ∧ s₁.heap.IsList ax items ∧ items.size ≤ 1000 ∧ Fr h₀ env.locals s₁.heap m ∧ News h₀ env.locals s₁.heap news ∧ EltOk prog w A env scope x elt G items s₁ ∧
      (∀ D o ys n h' tk, Fr h₀ env.locals h' (fun z => if z = y then some (.ref D) else m z) → News h₀ env.locals h' ((D, o) :: news) → o.cls = .type "list" → o.data = .seq ys n → Paired G items.toList ys.toList → (∀ p ∈ news, p.1 ≠ D) → Q .next { s₁ with heap := h', toks := tk })) E s)
    (hsw : swapsWith (.ListComp elt [⟨.Name x px, iter, [], 0⟩] scope pos) (some (.Name y py)) spos.line env = pure true := by rfl)
    (hfree : ∀ y ∈ scope.names, y.2 ≠ .free := by decide) (hcell : ∀ y ∈ scope.names, y.2 ≠ .cell := by decide) (hkind : scope.kind = .function := by rfl)
    (hnames : ∀ y ∈ scope.names, y.2 = .local → scope.names.lookup y.1 = some .local := by decide) (hx : scope.names.lookup x = some .local := by decide)
    (hy : env.kindOf y = some .local := by rfl) (hp : (env.scope.kind == .class || (env.scope.kind == .module && env.locals != env.globals)) = false := by rfl)
    (hs : ∀ x, foldedSetIterable iter env x = pure x := by intro _; rfl) :
    wpAny (model prog w) A (exec (.Assign [.Name y py] (.ListComp elt [⟨.Name x px, iter, [], 0⟩] scope pos) spos) env) Q E s := by
  refine wpAny_Assign_ListComp_map (fun _ => true) G hsw hh hfree hcell hkind hnames hx hy hp (wpAny_mono h (fun xv s₁ h₁ => ?_) fun _ _ e => e) hs
  obtain ⟨ax, items, m, news, rfl, hl, hsz, F, N, helt, hq⟩ := h₁
  have e : sizeLine = 16777216 := rfl
  refine ⟨ax, items, m, rfl, hl, by omega, F.ns, fun C v s₂ m₂ E' _ _ _ _ => wpAny_tests_nil ⟨rfl, _, _, rfl, fun _ _ e => e⟩, fun C v s₂ m₂ E' hv _ hn hm hk => helt C v s₂ m₂ E' hv hn hm hk, fun D h' tk ys hD hlD hP hns hk => ?_⟩
  obtain ⟨o, ho, hc, n, hd⟩ := hlD
  have hDL : D ≠ env.locals := by
    rintro rfl
    obtain ⟨oL, _, _, hL, _⟩ := F.ns
    rw [hD] at hL; cases hL
  have hDn : h₀.get? D = none := by
    cases q : h₀.get? D with
    | none => rfl
    | some o' => rw [F.keep D o' q] at hD; cases hD
  refine hq D o ys n h' tk ⟨hns, fun b o e => hk b o (fun q => ?_) (F.keep b o e), F.above⟩ ?_ hc hd (by rw [show items.toList.filter (fun _ => true) = items.toList from List.filter_eq_self.mpr fun _ _ => rfl] at hP; exact hP) (fun p hp e => ?_)
  · have := Heap.lt_size e
    rw [q] at this
    exact absurd this (Nat.not_lt.mpr F.above)
  · intro p hp
    rcases List.mem_cons.mp hp with rfl | hp
    · exact ⟨ho, hDL, hDn⟩
    · exact ⟨hk _ _ (N p hp).2.1 (N p hp).1, (N p hp).2⟩
  · have := (N p hp).1
    rw [e, hD] at this; cases this

/-- names within the block -/
theorem ldC {scope : Scope} {C : Addr} {x : Str} {pos : Pos} {v : Value} {m₂ : Str → Option Value} {Q : Value → Shared → Prop} (hn : s.heap.Ns C m₂) (hv : m₂ x = some v) (h : Q v s)
    (hk : scope.kind = .function := by rfl) (hl : (compEnv scope C env).kindOf x = some .local := by rfl) (hd : (x == ("__debug__" : Str)) = false := by decide) :
    wpAny (model prog w) A (eval (.Name x pos) (compEnv scope C env)) Q E s := wpAny_Name (wpAny_loadName_local hk hl hn hv h) hd
theorem gBC {mg mb : Str → Option Value} {h : Heap} {scope : Scope} {C : Addr} {x : Str} {pos : Pos} {v : Value} {Q : Value → Shared → Prop} (W : Wd w mg mb h) (hkp : ∀ b o, h.get? b = some o → s.heap.get? b = some o) (e : nsIn (hd.heap_39 w.params) mainGlobals x = some none) (hv : bootBuiltins x = some v)
    (hq : Q v s) (hg : env.globals = mainGlobals := by rfl) (hb : env.builtins = builtinsNs := by rfl)
    (hn : x ≠ "__name__" := by decide) (hk : scope.kind = .function := by rfl) (hx : (compEnv scope C env).kindOf x = some .globalImplicit := by rfl) (hd : (x == ("__debug__" : Str)) = false := by decide) :
    wpAny (model prog w) A (eval (.Name x pos) (compEnv scope C env)) Q E s := by
  have W' := W.keeps hkp
  refine Name_function_global hk hx (loadGlobal_builtin (mg := mg) (mb := mb) ?_ (mg_none_of W'.k W'.t.g e) ?_ ((W'.t.builtins x hn).trans hv) hq) hd
  · show s.heap.Ns env.globals mg
    rw [hg]; exact W'.t.g
  · show s.heap.Ns env.builtins mb
    rw [hb]; exact W'.t.b
end
end
section
open PySem PySem.W PySem.Calls PyProof.Rows
set_option maxRecDepth 100000
set_option maxHeartbeats 8000000
set_option rowWalk.seconds 0
abbrev lawA (L fa : Addr) (cd : Value) : Around := callerA.deeper (lawEnv L fa cd)
theorem isl {h₀ h : Heap} {L D : Addr} {xs : Array Value} {n : Nat} {news : List (Addr × Obj)} (N : News h₀ L h news) (hm : (D, PySem.W.listOf xs n) ∈ news) : h.IsList D xs := ⟨_, (N _ hm).1, rfl, n, rfl⟩
theorem upd_app {d : Addr} {o o' : Obj} {post : List (Addr × Obj)} (hp : ∀ p ∈ post, p.1 ≠ d) : ∀ {pre : List (Addr × Obj)}, (∀ q ∈ pre, q.1 ≠ d) → Upd d o o' (pre ++ (d, o) :: post) (pre ++ (d, o') :: post)
  | [], _ => .head hp
  | _ :: _, h => .tail (h _ (List.mem_cons_self ..)) (upd_app hp fun q hq => h q (List.mem_cons_of_mem _ hq))
def Nine (ns : List Int) : Prop := ns.length = 7 ∧ ∀ x ∈ ns, 0 ≤ x ∧ x < 9

theorem law_s1 {w : World} {h₀ : Heap} {fa L : Addr} {cd : Value} {mg mb : Str → Option Value} {sc : Addr} {vs : List Value} {ns : List Int} {Q : Flow → Shared → Prop} {s : Shared}
    (W : Wd w mg mb h₀) (hl : h₀.IsList sc vs.toArray) (hv : IntsAre vs ns) (hlen : ns.length ≤ 1000) (F : Fr h₀ L s.heap (fun x => List.lookup x [(Str.ofString "script", Value.ref sc)]))
    (hQ : ∀ nb us n m h' tk, Nine n → IntsAre us n → (∃ c, News h₀ L h' [(nb, PySem.W.listOf us.toArray c)]) → Fr h₀ L h' m → m (Str.ofString "numbers") = some (.ref nb) →
      wpAny (model prg w) (lawA L fa cd) (execs ((bodyOf law).drop 2) (lawEnv L fa cd)) Q (fun _ _ => False) { s with heap := h', toks := tk }) :
    wpAny (model prg w) (lawA L fa cd) (execs (bodyOf law) (lawEnv L fa cd)) Q (fun _ _ => False) s := by
  have N : News h₀ L s.heap [] := News.nil
  rw [show bodyOf law = st 0 :: st 1 :: (bodyOf law).drop 2 from rfl]
  generalize (bodyOf law).drop 2 = rest at hQ
  refine wpAny_execs_cons ?_
  conv => arg 3; arg 1; whnf
  dsimp only [lawEnv]
  conv => arg 3; arg 2; arg 2; whnf
  repeat walk_at "m"
  refine newList_N F N fun h₁ F₁ N₁ => ?_
  have hnb : h₀.get? s.heap.objs.size = none ∧ True := ⟨(N₁ _ (List.mem_singleton.mpr rfl)).2.2, trivial⟩
  generalize hnbe : s.heap.objs.size = nb at N₁
  have I₁ : IntsAre [Value.int 0 s.toks, Value.int 4 (s.toks + 1), Value.int 8 (s.toks + 1 + 1), Value.int 3 (s.toks + 1 + 1 + 1), Value.int 1 (s.toks + 1 + 1 + 1 + 1), Value.int 7 (s.toks + 1 + 1 + 1 + 1 + 1), Value.int 6 (s.toks + 1 + 1 + 1 + 1 + 1 + 1)] [0, 4, 8, 3, 1, 7, 6] :=
    .cons _ _ (.cons _ _ (.cons _ _ (.cons _ _ (.cons _ _ (.cons _ _ (.cons _ _ .nil))))))
  generalize [Value.int 0 s.toks, Value.int 4 (s.toks + 1), Value.int 8 (s.toks + 1 + 1), Value.int 3 (s.toks + 1 + 1 + 1), Value.int 1 (s.toks + 1 + 1 + 1 + 1), Value.int 7 (s.toks + 1 + 1 + 1 + 1 + 1), Value.int 6 (s.toks + 1 + 1 + 1 + 1 + 1 + 1)] = us₁ at N₁ I₁
  repeat walk_at "m"
  rename_i h₂ F₂ N₂
  conv => arg 3; arg 1; whnf
  have hL : ∀ {h : Heap} {m : Str → Option Value}, Fr h₀ L h m → h.IsList sc vs.toArray := fun F => hl.at fun o e => F.keep sc o e
  refine For_invVF F₂ (by rfl) (by rfl) ?_
  repeat walk_at "m"
  refine gB W F₂ (g_range _) b_range ?_
  repeat walk_at "m"
  refine gB W F₂ (g_len _) b_len ?_
  repeat walk_at "m"
  refine sl_ints F₂ N₂ (hL F₂) .none (.int _ _) hv (kmk_upto hv (by decide)) hlen fun D₃ us₃ h₃ F₃ N₃ _ hI₃ hle₃ => ?_
  have hus₃ : us₃.toArray.size = (ns.take 14).length := by have := hI₃.length; simpa using this
  repeat walk_at "m"
  refine call_len_list (isl N₃ (List.mem_cons_self ..)) (by rw [hus₃]; simp; omega) ?_
  repeat walk_at "m"
  rw [hus₃]
  have N₃' : News h₀ L h₃ [(nb, PySem.W.listOf us₁.toArray 0)] := fun p hp => N₃ p (List.mem_cons_of_mem _ hp)
  refine range1_rows F₃ N₃' fun h₄ tk₄ t₁ u₁ v₁ R₄ F₄ N₄ _ => ?_
  have h14 : (ns.take 14).length ≤ 14 ∧ (ns.take 14).length ≤ ns.length := by simp; omega
  refine loop_range (n := (ns.take 14).length) (fun i m₁ news₁ => ∃ us n c, Nine n ∧ IntsAre us n ∧ news₁ = [(nb, PySem.W.listOf us.toArray c)] ∧ m₁ (Str.ofString "numbers") = some (.ref nb) ∧ m₁ (Str.ofString "script") = some (.ref sc))
    rfl F₄ N₄ R₄ (small_ok (.inl rfl) (by omega) (by omega)) ?hsize ⟨us₁, _, 0, ⟨rfl, by decide⟩, I₁, rfl, by walk_at "look", by walk_at "look"⟩ ?turn ?done
  case hsize =>
    unfold Builtin.Range.rangeSize
    rw [if_pos (by decide)]; split <;> omega
  case done =>
    rintro m₅ news₅ h₅ tk₅ ⟨us, n, c, hn, hI, rfl, hm, _⟩ F₅ N₅
    exact hQ nb us n m₅ h₅ tk₅ hn hI ⟨c, N₅⟩ F₅ hm
  case turn =>
    rintro i t m₅ news₅ h₅ tk₅ own hi ⟨us, n, c, hn, hI, rfl, hm, hsc⟩ hoff hown F₅ N₅
    change Fr h₀ L h₅ _ at F₅
    change News h₀ L h₅ _ at N₅
    rw [show (0 + (i : Int) * 1) = ((i : Nat) : Int) by omega] at F₅
    have hmod : ((i : Nat) : Int).fmod 7 = ((i % 7 : Nat) : Int) := by rw [Int.fmod_eq_emod_of_nonneg _ (by decide)]; omega
    have h7 : i % 7 < 7 := Nat.mod_lt _ (by decide)
    have hmem : (nb, PySem.W.listOf us.toArray c) ∈ own ++ [(nb, PySem.W.listOf us.toArray c)] := List.mem_append_right _ (List.mem_singleton.mpr rfl)
    obtain ⟨tv, htv⟩ := hv.get i (ns[i]'(by omega)) (by simp)
    repeat walk_at "m"
    rw [hmod]
    refine ksa_sub N₅ hmem hI (by omega) (by rw [hn.1]; omega) (by omega) fun tx => ?_
    repeat walk_at "m"
    refine item_list (hL F₅) (by omega) (by omega) (by simpa using htv) ?_
    repeat walk_at "m"
    rw [hmod]
    have hoff' : nb ≠ h₄.objs.size := hoff _ (List.mem_singleton.mpr rfl)
    refine ksa_set F₅ N₅ (upd_app (fun _ h => absurd h (by simp)) fun q hq e => hoff' (e.symm.trans (hown q hq))) hI (by omega) (by rw [hn.1]; omega) (by omega) fun h₆ F₆ N₆ hI₆ hl₆ _ => ?_
    repeat walk_at "m"
    refine ⟨_, _, _, _, rfl, F₆, N₆, fun p hp hq => ?_, _, _, _, ⟨hl₆.trans hn.1, fun x hx => ?_⟩, hI₆, rfl, by walk_at "look", by walk_at "look"⟩
    · rw [List.mem_singleton.mp hp] at hq
      exact hoff' (List.mem_singleton.mp hq)
    · rcases List.mem_or_eq_of_mem_set hx with hx | rfl
      · exact hn.2 x hx
      · rw [Int.fmod_eq_emod_of_nonneg _ (by decide)]
        omega
end
section
open PySem PySem.W PySem.Calls PyProof.Rows PySem.SeqAt
set_option maxRecDepth 100000
theorem canLayAll0_strs : ∀ ns : List Str, (∀ x ∈ ns, PyData.strOk x = true) → PyData.canLayAll0 (ns.map PyData.str) = true
  | [], _ => by simp [PyData.canLayAll0]
  | n :: r, h => by simp [PyData.canLayAll0, PyData.canLay0, h n (List.mem_cons_self ..), canLayAll0_strs r fun x hx => h x (List.mem_cons_of_mem _ hx)]
theorem depthAll_strs : ∀ ns : List Str, PyData.depthAll (ns.map PyData.str) ≤ 1
  | [] => by simp [PyData.depthAll]
  | n :: r => by
    have := depthAll_strs r
    simp only [List.map_cons, PyData.depthAll, PyData.depth]
    omega
theorem shaped_strs (ns : List Str) (hok : ∀ x ∈ ns, PyData.strOk x = true) : shaped (.list (ns.map PyData.str)) = true := by
  have h1 := depthAll_strs ns
  have h2 : PyData.depth (.list (ns.map PyData.str)) ≤ 64 := by simp only [PyData.depth]; omega
  show (PyData.canLay0 (.list (ns.map PyData.str)) && decide (PyData.depth (.list (ns.map PyData.str)) ≤ 64)) = true
  rw [Bool.and_eq_true]
  exact ⟨by simp only [PyData.canLay0]; exact canLayAll0_strs ns hok, decide_eq_true h2⟩
theorem noMix_strs : ∀ ns ms : List Str, noMixAll (ns.map PyData.str) (ms.map PyData.str) = true
  | [], [] => by simp [noMixAll]
  | [], _ :: _ => by simp [noMixAll]
  | _ :: _, [] => by simp [noMixAll]
  | _ :: r, _ :: q => by simp [noMixAll, noMix, noMix_strs r q]
theorem same_strs : ∀ ns : List Str, PySem.Spec.sameAll (ns.map PyData.str) (ns.map PyData.str) = true
  | [] => by simp [PySem.Spec.sameAll]
  | _ :: r => by simp [PySem.Spec.sameAll, PySem.Spec.same, same_strs r]
theorem ne_strs_same {prog : Program} {w : World} {A : Around} {E : Value → Shared → Prop} {s : Shared} {a b : Addr} {l l' : List (Str × Tok)} {Q : Value → Shared → Prop} (hl : s.heap.IsList a (strValues l).toArray) (hl' : s.heap.IsList b (strValues l').toArray) (he : l.map (·.1) = l'.map (·.1)) (hok : ∀ x ∈ l'.map (·.1), PyData.strOk x = true) (hu : A.units + 64 < cLine)
    (h : Q (.bool false) s) : wpAny (model prog w) A (compareOp .NotEq (.ref a) (.ref b)) Q E s := by
  have r1 : Reads s.heap (.ref a) (.list ((l.map (·.1)).map PyData.str)) [a] := by
    obtain ⟨o, ho, hc, n, hd⟩ := hl
    exact Reads.list ho hc hd (by simpa using readsAll_strValues s.heap l)
  have r2 : Reads s.heap (.ref b) (.list ((l'.map (·.1)).map PyData.str)) [b] := by
    obtain ⟨o, ho, hc, n, hd⟩ := hl'
    exact Reads.list ho hc hd (by simpa using readsAll_strValues s.heap l')
  rw [he] at r1
  refine ne_dataH_same r1 r2 (shaped_strs _ hok) (shaped_strs _ hok) hu (by simp only [noMix]; exact noMix_strs _ _) ?_
  simp only [PySem.Spec.same]
  rw [same_strs]; exact h
/-- pairs -/
theorem paired_int {f : Int → Int} : ∀ {vs ys : List Value} {ns : List Int}, IntsAre vs ns → Paired (fun v y => ∃ a t t', v = .int a t ∧ y = .int (f a) t') vs ys → IntsAre ys (ns.map f)
  | _, _, _, .nil, .nil => .nil
  | _, _, _, .cons n t r, .cons ⟨a, t1, t2, e, e'⟩ q => by
    cases e; subst e'
    exact .cons _ _ (paired_int r q)
theorem paired_str {f : Int → List Nat} : ∀ {vs ys : List Value} {ns : List Int}, IntsAre vs ns → Paired (fun v y => ∃ a t t', v = .int a t ∧ y = .str (tx (f a)) t') vs ys → ∃ l : List (Str × Tok), ys = strValues l ∧ l.map (·.1) = ns.map fun a => tx (f a)
  | _, _, _, .nil, .nil => ⟨[], rfl, rfl⟩
  | _, _, _, .cons n t r, .cons ⟨a, t1, t2, e, e'⟩ q => by
    cases e; subst e'
    obtain ⟨l, h1, h2⟩ := paired_str r q
    exact ⟨(tx (f n), t2) :: l, by rw [h1]; rfl, by simp [h2]⟩
theorem ints_mem : ∀ {vs : List Value} {ns : List Int}, IntsAre vs ns → ∀ v ∈ vs, ∃ a t, v = .int a t ∧ a ∈ ns
  | _, _, .cons n t r, v, h => by
    rcases List.mem_cons.mp h with rfl | h
    · exact ⟨n, t, rfl, List.mem_cons_self ..⟩
    · obtain ⟨a, t, e, ha⟩ := ints_mem r v h
      exact ⟨a, t, e, List.mem_cons_of_mem _ ha⟩
end
section
open PySem PySem.W PySem.Calls PyProof.Rows
set_option maxRecDepth 100000
set_option maxHeartbeats 8000000
set_option rowWalk.seconds 0
/-- a number's letter and ending -/
def letN (k : Nat) : Nat := if k = 0 then 97 else if k = 1 then 98 else 46
def endN (k : Nat) : List Nat := if k = 0 then [10] else if k = 1 then [13] else [13, 10]
def rowN (a : Int) : Nat × List Nat := (letN (a.toNat % 3), endN (a.toNat / 3))
def sentN (k : Nat) : List Nat := if k = 0 then [97] else if k = 1 then [98] else [46, 46]
theorem rowN_ok (a : Int) : Row.ok (rowN a) := by
  unfold rowN letN endN Row.ok
  refine ⟨?_, ?_, ?_⟩
  · dsimp only; split <;> (try split) <;> decide
  · dsimp only; split <;> (try split) <;> decide
  · dsimp only; split
    · exact .inl rfl
    · split
      · exact .inr (.inl rfl)
      · exact .inr (.inr rfl)
theorem nine_mod {a : Int} (h : 0 ≤ a ∧ a < 9) : a.fmod 3 = ((a.toNat % 3 : Nat) : Int) ∧ a.fdiv 3 = ((a.toNat / 3 : Nat) : Int) ∧ a.toNat % 3 < 3 ∧ a.toNat / 3 < 3 := by
  rw [Int.fmod_eq_emod_of_nonneg _ (by decide), Int.fdiv_eq_ediv_of_nonneg _ (by decide)]
  omega
theorem tx_append (a b : List Nat) : tx a ++ tx b = tx (a ++ b) := tx_ext (by rw [str_append]; simp)
theorem keeps_refl (s : Shared) (tk : Nat) : Keeps s { s with toks := tk } := ⟨s.heap, tk, rfl, fun _ _ e => e⟩
theorem s_a : Str.ofString "a" = tx [97] := by decide +kernel
theorem s_b : Str.ofString "b" = tx [98] := by decide +kernel
theorem s_dot : Str.ofString "." = tx [46] := by decide +kernel
theorem s_nl : Str.ofString "\n" = tx [10] := by decide +kernel
theorem s_cr : Str.ofString "\x0d" = tx [13] := by decide +kernel
theorem s_nil : Str.ofString "" = tx [] := by decide +kernel

theorem law_s3 {w : World} {h₀ : Heap} {fa L : Addr} {cd : Value} {nb : Addr} {us : List Value} {n : List Int} {c : Nat} {m : Str → Option Value} {Q : Flow → Shared → Prop} {s : Shared}
    (hn : Nine n) (hI : IntsAre us n) (N : News h₀ L s.heap [(nb, PySem.W.listOf us.toArray c)]) (F : Fr h₀ L s.heap m) (hm : m (Str.ofString "numbers") = some (.ref nb))
    (hQ : ∀ wd wo ws c' m' h' tk, wo.cls = .type "list" → wo.data = .seq ws c' → IntsAre ws.toList (n.map fun a => a.fmod 3) → News h₀ L h' [(wd, wo), (nb, PySem.W.listOf us.toArray c)] → Fr h₀ L h' m' → m' (Str.ofString "numbers") = some (.ref nb) → m' (Str.ofString "word") = some (.ref wd) →
      wpAny (model prg w) (lawA L fa cd) (execs ((bodyOf law).drop 3) (lawEnv L fa cd)) Q (fun _ _ => False) { s with heap := h', toks := tk }) :
    wpAny (model prg w) (lawA L fa cd) (execs ((bodyOf law).drop 2) (lawEnv L fa cd)) Q (fun _ _ => False) s := by
  rw [show (bodyOf law).drop 2 = st 2 :: (bodyOf law).drop 3 from rfl]
  generalize (bodyOf law).drop 3 = rest at hQ
  refine wpAny_execs_cons ?_
  conv => arg 3; arg 1; whnf
  dsimp only [lawEnv]
  refine comp_assign (h₀ := h₀) (fun v y => ∃ a t t', v = .int a t ∧ y = .int (a.fmod 3) t') rfl ?_
  repeat walk_at "m"
  refine ⟨nb, us.toArray, m, _, rfl, isl N (List.mem_singleton.mpr rfl), by simp [hI.length, hn.1], F, N, ?elt, ?cont⟩
  case elt =>
    intro C v s₂ m₂ E' hv hns hmx hk
    obtain ⟨a, t, rfl, _⟩ := ints_mem hI v (by simpa using hv)
    refine wpAny_BinOp (ldC hns hmx ?_)
    repeat walk_at "m"
    exact ⟨⟨a, t, _, rfl, rfl⟩, keeps_refl _ _⟩
  case cont =>
    intro D o ys k h' tk F' N' hc hd hP hne
    exact hQ D o ys k _ h' tk hc hd (paired_int hI hP) N' F' (by walk_at "look") (by walk_at "look")

theorem tup_item {prog : Program} {w : World} {A : Around} {E : Value → Shared → Prop} {s : Shared} {value slice : Expr} {t : Addr} {l : List Value} {k : Nat} {u : Tok} {x : Value} {Q : Value → Shared → Prop} (ht : s.heap.get? t = some { cls := .type "tuple", data := .seq l.toArray })
    (hk : k < l.length) (hk' : k < 1000) (hx : l[k]? = some x) (h : Q x s)
    (hs : subscripted slice false (.ref t) (.int (k : Nat) u) = operate [.ref t, .int (k : Nat) u] (getItem (.ref t) (.int (k : Nat) u)) := by with_unfolding_all rfl) :
    wpAny (model prog w) A (subscriptTail value slice (.ref t) (.int (k : Nat) u)) Q E s :=
  item_tupleT (j := k) ⟨_, ht, rfl, 0, rfl⟩ (by omega) (by omega) (by unfold seqIndex?; simp; omega) hx h hs

theorem pick3 {x y z : Str} {t0 t1 t2 : Tok} (k : Nat) (hk : k < 3) : ∃ t', [Value.str x t0, Value.str y t1, Value.str z t2][k]? = some (.str (if k = 0 then x else if k = 1 then y else z) t') := by
  match k, hk with
  | 0, _ => exact ⟨_, rfl⟩
  | 1, _ => exact ⟨_, rfl⟩
  | 2, _ => exact ⟨_, rfl⟩
theorem tup_pick {prog : Program} {w : World} {A : Around} {E : Value → Shared → Prop} {s : Shared} {value slice : Expr} {t : Addr} {x y z r : Str} {t0 t1 t2 : Tok} {k : Nat} {u : Tok} {Q : Value → Shared → Prop} (ht : s.heap.get? t = some { cls := .type "tuple", data := .seq [Value.str x t0, Value.str y t1, Value.str z t2].toArray })
    (hk : k < 3) (hp : (if k = 0 then x else if k = 1 then y else z) = r) (h : ∀ t', Q (.str r t') s)
    (hs : subscripted slice false (.ref t) (.int (k : Nat) u) = operate [.ref t, .int (k : Nat) u] (getItem (.ref t) (.int (k : Nat) u)) := by with_unfolding_all rfl) :
    wpAny (model prog w) A (subscriptTail value slice (.ref t) (.int (k : Nat) u)) Q E s := by
  obtain ⟨t', ht'⟩ := pick3 (x := x) (y := y) (z := z) (t0 := t0) (t1 := t1) (t2 := t2) k hk
  rw [hp] at ht'
  exact tup_item ht hk (by omega) ht' (h t') hs
theorem pickLet (k : Nat) : (if k = 0 then Str.ofString "a" else if k = 1 then Str.ofString "b" else Str.ofString ".") = tx [letN k] := by
  unfold letN
  split
  · exact s_a
  · split
    · exact s_b
    · exact s_dot
theorem pickEnd (k : Nat) : (if k = 0 then Str.ofString "\n" else if k = 1 then Str.ofString "\x0d" else Str.ofString "\x0d\n") = tx (endN k) := by
  unfold endN
  split
  · exact s_nl
  · split
    · exact s_cr
    · exact s_crlf
theorem pickSent (k : Nat) : (if k = 0 then Str.ofString "a" else if k = 1 then Str.ofString "b" else Str.ofString "..") = tx (sentN k) := by
  unfold sentN
  split
  · exact s_a
  · split
    · exact s_b
    · exact s_dots

theorem law_s4 {w : World} {h₀ : Heap} {fa L : Addr} {cd : Value} {nb : Addr} {us : List Value} {n : List Int} {c : Nat} {m : Str → Option Value} {wd : Addr} {wo : Obj} {Q : Flow → Shared → Prop} {s : Shared}
    (hn : Nine n) (hI : IntsAre us n) (N : News h₀ L s.heap [(wd, wo), (nb, PySem.W.listOf us.toArray c)]) (F : Fr h₀ L s.heap m) (hm : m (Str.ofString "numbers") = some (.ref nb)) (hw : m (Str.ofString "word") = some (.ref wd))
    (hQ : ∀ m' h' tk t, News h₀ L h' [(wd, wo)] → Fr h₀ L h' m' → m' (Str.ofString "word") = some (.ref wd) → m' (Str.ofString "mail") = some (.str (tx (mailL (n.map rowN))) t) →
      wpAny (model prg w) (lawA L fa cd) (execs ((bodyOf law).drop 4) (lawEnv L fa cd)) Q (fun _ _ => False) { s with heap := h', toks := tk }) :
    wpAny (model prg w) (lawA L fa cd) (execs ((bodyOf law).drop 3) (lawEnv L fa cd)) Q (fun _ _ => False) s := by
  rw [show (bodyOf law).drop 3 = st 3 :: (bodyOf law).drop 4 from rfl]
  generalize (bodyOf law).drop 4 = rest at hQ
  refine wpAny_execs_cons ?_
  conv => arg 3; arg 1; whnf
  dsimp only [lawEnv]
  repeat walk_at "m"
  refine GM.join ?_
  repeat walk_at "m"
  refine comp_eval (h₀ := h₀) (fun v y => ∃ a t t', v = .int a t ∧ y = .str (tx ((rowN a).1 :: (rowN a).2)) t') rfl ?_
  repeat walk_at "m"
  refine ⟨nb, us.toArray, m, _, rfl, isl N (List.mem_cons_of_mem _ (List.mem_singleton.mpr rfl)), by simp [hI.length, hn.1], F, N, ?elt, ?cont⟩
  case elt =>
    intro C v s₂ m₂ E' hv hns hmx hk
    obtain ⟨a, t, rfl, ha⟩ := ints_mem hI v (by simpa using hv)
    have h9 := hn.2 a ha
    obtain ⟨e1, e2, l1, l2⟩ := nine_mod h9
    refine wpAny_BinOp (Subscript_ ?_)
    repeat walk_at "m"
    refine wpAny_newTuple ?_
    refine wpAny_BinOp (ldC (hns.keeps fun b o e => Heap.get?_push_of_some _ e) hmx ?_)
    repeat walk_at "m"
    rw [e1]
    refine tup_pick (Heap.get?_push_size _ rfl) l1 (pickLet _) fun t1 => ?_
    refine Subscript_ ?_
    repeat walk_at "m"
    refine wpAny_newTuple ?_
    refine wpAny_BinOp (ldC (hns.keeps fun b o e => Heap.get?_push_of_some _ (Heap.get?_push_of_some _ e)) hmx ?_)
    repeat walk_at "m"
    refine floordiv_int (by decide) ?_ (.inl (PyProof.noPylong_small (by omega)))
    rw [e2]
    refine tup_pick (Heap.get?_push_size _ rfl) l2 (pickEnd _) fun t2 => ?_
    refine SB.add (fun t' k => ?_) (by
      have e : sizeLine = 16777216 := rfl
      have h1 : (tx [letN (a.toNat % 3)]).length = 1 := rfl
      have h2 : (tx (endN (a.toNat / 3))).length ≤ 2 := by
        unfold endN
        split
        · decide
        · split <;> decide
      omega)
    refine ⟨⟨a, t, t', rfl, ?_⟩, _, _, rfl, fun b o e => Heap.get?_push_of_some _ (Heap.get?_push_of_some _ e)⟩
    rw [tx_append]
    rfl
  case cont =>
    intro D o ys k h' tk F' N' hc hd hP hne hk
    obtain ⟨l, hl, hl2⟩ := paired_str (f := fun a => (rowN a).1 :: (rowN a).2) hI hP
    repeat walk_at "m"
    rw [s_nil]
    have hlD : h'.IsList D (strValues l).toArray := ⟨o, (N' _ (List.mem_cons_self ..)).1, hc, k, by rw [hd, ← hl]⟩
    refine SC.join hlD rfl ?_ fun t' k' => ?_
    · unfold JoinOk
      rw [StrLaws.joinFits (B := 1000) (fun y hy => by
        rw [hl2] at hy
        obtain ⟨a, _, rfl⟩ := List.mem_map.mp hy
        show ((rowN a).1 :: (rowN a).2).toArray.size ≤ 1000
        have := (rowN_ok a).2.2
        rcases this with e | e | e <;> rw [e] <;> simp) (by
        rw [hl2, List.length_map, hn.1]; decide)]
      rfl
    · have ej : Txt.join (tx []) (l.map (·.1)) = tx (mailL (n.map rowN)) := by
        apply tx_ext
        rw [txtJoin_toList, hl2]
        simp [mailL, List.flatMap_map]
      rw [ej]
      repeat walk_at "m"
      rename_i h₂ F₂ N₂
      exact hQ _ h₂ _ _ (fun p hp => N₂ p (by rw [List.mem_singleton.mp hp]; simp)) F₂ (by walk_at "look") (by walk_at "look")

theorem cw_def {M : Model} {A : Around} {E : Value → Shared → Prop} {s : Shared} {env : Env} {h₀ : Heap} {pos : Pos} {f : Addr} {o : Obj} {fd : FuncData} {e : Expr} {rest : List Expr} {Q : Value → Shared → Prop} (ho : h₀.get? f = some o) (hdat : o.data = .func fd)
    (h : wpAny M A (spliced (backTo pos (starEach (e :: rest) env))) (fun vs s₁ => (∀ b o, h₀.get? b = some o → s₁.heap.get? b = some o) ∧ wpAny M A (call (.ref f) vs) Q E s₁) E s)
    (he : starEach (e :: rest) env = (false, eval e env) :: starEach rest env := by rfl) :
    wpAny M A (callWith pos (.ref f) [] (backTo pos (starEach (e :: rest) env)) []) Q E s :=
  callWith_def hdat (wpAny_mono h (fun _ _ h₁ => ⟨h₁.1 _ _ ho, h₁.2⟩) fun _ _ x => x) he
theorem law_room (L fa : Addr) (cd : Value) : (lawA L fa cd).depth < recursionLimit := by show callerA.depth + 1 < recursionLimit; decide
theorem g_quote (P : Params) : nsIn (hd.heap_39 P) mainGlobals (Str.ofString "quotedata") = some (some (.ref 62)) := by rfl
theorem sentL_rows (n : List Int) : sentL (n.map rowN) = flatR (n.map fun a => sentN (a.toNat % 3)) := by
  unfold sentL flatR
  rw [List.flatMap_map, List.flatMap_map]
  congr 1
  funext a
  unfold rowN letN sentN
  dsimp only
  split
  · rfl
  · split <;> rfl
theorem sentN_cases (k : Nat) : sentN k = [97] ∨ sentN k = [98] ∨ sentN k = [46, 46] := by
  unfold sentN
  split
  · exact .inl rfl
  · split
    · exact .inr (.inl rfl)
    · exact .inr (.inr rfl)
theorem split_sent {n : List Int} (hn : n.length = 7) : Txt.split (tx (sentL (n.map rowN))) (tx [13, 10]) = (n.map fun a => tx (sentN (a.toNat % 3))) ++ [tx []] := by
  rw [sentL_rows, split_rows _ (by intro e; have := congrArg List.length e; simp at this; rw [this] at hn; simp at hn) ?_ ?_, List.map_map]
  · rfl
  · intro p hp
    obtain ⟨a, _, rfl⟩ := List.mem_map.mp hp
    rcases sentN_cases (a.toNat % 3) with e | e | e <;> rw [e] <;> decide
  · intro p hp
    obtain ⟨a, _, rfl⟩ := List.mem_map.mp hp
    rcases sentN_cases (a.toNat % 3) with e | e | e <;> rw [e] <;> decide

theorem law_s5 {w : World} {h₀ : Heap} {fa L : Addr} {cd : Value} {mg mb : Str → Option Value} {n : List Int} {m : Str → Option Value} {wd : Addr} {wo : Obj} {Q : Flow → Shared → Prop} {s : Shared} {t : Tok} (W : Wd w mg mb h₀)
    (hn : Nine n) (N : News h₀ L s.heap [(wd, wo)]) (F : Fr h₀ L s.heap m) (hw : m (Str.ofString "word") = some (.ref wd)) (hm : m (Str.ofString "mail") = some (.str (tx (mailL (n.map rowN))) t))
    (hQ : ∀ m' h' tk rw l, l.map (·.1) = (n.map fun a => tx (sentN (a.toNat % 3))) ++ [tx []] → News h₀ L h' [(rw, PySem.W.listOf (strValues l).toArray 0), (wd, wo)] → wd ≠ rw → Fr h₀ L h' m' → m' (Str.ofString "word") = some (.ref wd) → m' (Str.ofString "rows") = some (.ref rw) →
      wpAny (model prg w) (lawA L fa cd) (execs ((bodyOf law).drop 5) (lawEnv L fa cd)) Q (fun _ _ => False) { s with heap := h', toks := tk }) :
    wpAny (model prg w) (lawA L fa cd) (execs ((bodyOf law).drop 4) (lawEnv L fa cd)) Q (fun _ _ => False) s := by
  rw [show (bodyOf law).drop 4 = st 4 :: (bodyOf law).drop 5 from rfl]
  generalize (bodyOf law).drop 5 = rest at hQ
  refine wpAny_execs_cons ?_
  conv => arg 3; arg 1; whnf
  dsimp only [lawEnv]
  repeat walk_at "m"
  refine gK W F (g_quote _) ?_
  refine cw_def (W.k 62 _ rfl) rfl ?_
  repeat walk_at "m"
  refine ⟨F.keep, ?_⟩
  refine quotedata_call (W.keeps F.keep) (law_room _ _ _) (n.map rowN) (fun q hq => by obtain ⟨a, _, rfl⟩ := List.mem_map.mp hq; exact rowN_ok a) (by simp [hn.1]) fun h₁ tk₁ v₁ hk₁ => ?_
  have F₁ : Fr h₀ L h₁ m := ⟨F.ns.keeps hk₁, fun b o e => hk₁ b o (F.keep b o e), F.above⟩
  have N₁ : News h₀ L h₁ [(wd, wo)] := fun p hp => ⟨hk₁ _ _ (N p hp).1, (N p hp).2⟩
  refine GM.split ?_
  repeat walk_at "m"
  rw [s_crlf]
  refine KSpl.split1 F₁ N₁ (by decide) (fun D l h₂ k₂ hl _ F₂ N₂ hlt => ?_) ?_
  · rw [split_sent hn.1] at hl
    repeat walk_at "m"
    rename_i h₃ F₃ N₃
    exact hQ _ h₃ _ D l hl N₃ (Nat.ne_of_lt (hlt _ (List.mem_singleton.mpr rfl))) F₃ (by walk_at "look") (by walk_at "look")
  · have e : sizeLine = 16777216 := rfl
    have : (sentL (n.map rowN)).length ≤ 4 * n.length := by
      rw [sentL_rows]
      clear hn hm hQ
      induction n with
      | nil => simp [flatR]
      | cons a r ih =>
        rw [List.map_cons, flatR_cons]
        rcases sentN_cases (a.toNat % 3) with e | e | e <;> rw [e] <;> simp <;> omega
    have e2 : (tx (sentL (n.map rowN))).length = (sentL (n.map rowN)).length := by simp [Str.length]
    have := hn.1
    omega

theorem law_s6 {w : World} {h₀ : Heap} {fa L : Addr} {cd : Value} {n : List Int} {m : Str → Option Value} {wd rws : Addr} {wo : Obj} {ws : Array Value} {c' : Nat} {l : List (Str × Tok)} {Q : Flow → Shared → Prop} {s : Shared}
    (hn : Nine n) (hwc : wo.cls = .type "list") (hwd : wo.data = .seq ws c') (hwI : IntsAre ws.toList (n.map fun a => a.fmod 3)) (hl : l.map (·.1) = (n.map fun a => tx (sentN (a.toNat % 3))) ++ [tx []])
    (N : News h₀ L s.heap [(rws, PySem.W.listOf (strValues l).toArray 0), (wd, wo)]) (F : Fr h₀ L s.heap m) (hw : m (Str.ofString "word") = some (.ref wd)) (hr : m (Str.ofString "rows") = some (.ref rws))
    (hQ : ∀ h' tk, News h₀ L h' [(rws, PySem.W.listOf (strValues l).toArray 0), (wd, wo)] → Fr h₀ L h' m →
      wpAny (model prg w) (lawA L fa cd) (execs ((bodyOf law).drop 6) (lawEnv L fa cd)) Q (fun _ _ => False) { s with heap := h', toks := tk }) :
    wpAny (model prg w) (lawA L fa cd) (execs ((bodyOf law).drop 5) (lawEnv L fa cd)) Q (fun _ _ => False) s := by
  rw [show (bodyOf law).drop 5 = st 5 :: (bodyOf law).drop 6 from rfl]
  generalize (bodyOf law).drop 6 = rest at hQ
  refine wpAny_execs_cons ?_
  conv => arg 3; arg 1; whnf
  dsimp only [lawEnv]
  have hwl : s.heap.IsList wd ws.toList.toArray := ⟨wo, (N _ (List.mem_cons_of_mem _ (List.mem_singleton.mpr rfl))).1, hwc, c', by rw [hwd]⟩
  repeat walk_at "m"
  refine comp_eval (h₀ := h₀) (fun v y => ∃ a t t', v = .int a t ∧ y = .str (tx (sentN a.toNat)) t') rfl ?_
  repeat walk_at "m"
  refine ⟨wd, ws.toList.toArray, m, _, rfl, hwl, by have := hwI.length; simp [hn.1] at this; simp; omega, F, N, ?elt, ?cont⟩
  case elt =>
    intro C v s₂ m₂ E' hv hns hmx hk
    obtain ⟨a, t, rfl, ha⟩ := ints_mem hwI v (by simpa using hv)
    obtain ⟨b, hb, rfl⟩ := List.mem_map.mp ha
    obtain ⟨e1, _, l1, _⟩ := nine_mod (hn.2 b hb)
    refine Subscript_ ?_
    repeat walk_at "m"
    refine wpAny_newTuple ?_
    refine ldC (hns.keeps fun b o e => Heap.get?_push_of_some _ e) hmx ?_
    rw [e1]
    refine tup_pick (Heap.get?_push_size _ rfl) l1 (pickSent _) fun t1 => ?_
    exact ⟨⟨_, _, t1, rfl, by rw [show (((b.toNat % 3 : Nat) : Int)).toNat = b.toNat % 3 by omega]⟩, _, _, rfl, fun b o e => Heap.get?_push_of_some _ e⟩
  case cont =>
    intro D o ys k h' tk F' N' hc hd hP hne hk
    obtain ⟨l₂, hl₂, hl2⟩ := paired_str (f := fun a => sentN a.toNat) hwI (by simpa using hP)
    repeat walk_at "m"
    refine newList_N F' N' fun h₃ F₃ N₃ => ?_
    have hb : h₃.IsList h'.objs.size [Value.str (Str.ofString "") tk].toArray := ⟨_, (N₃ _ (List.mem_cons_self ..)).1, rfl, 0, rfl⟩
    have hD : h₃.IsList D (strValues l₂).toArray := ⟨o, (N₃ _ (List.mem_cons_of_mem _ (List.mem_cons_self ..))).1, hc, k, by rw [hd, ← hl₂]⟩
    have hlen2 : l₂.length = 7 := by have := congrArg List.length hl2; simpa [hn.1] using this
    refine add_lists F₃ N₃ hD hb (fun h₄ F₄ N₄ => ?_) (by have e : sizeLine = 16777216 := rfl; simp [strValues, hlen2]; omega)
    refine ne_strs_same (l := l) (l' := l₂ ++ [(Str.ofString "", tk)]) (isl N₄ (List.mem_cons_of_mem _ (List.mem_cons_of_mem _ (List.mem_cons_of_mem _ (List.mem_cons_self ..))))) ⟨_, (N₄ _ (List.mem_cons_self ..)).1, rfl, 0, by simp [strValues]⟩ ?_ ?_ (by show callerA.units + 3 + 64 < cLine; decide) ?_
    · rw [hl, List.map_append, hl2, List.map_map, s_nil]
      congr 1
      apply List.map_congr_left
      intro a ha
      obtain ⟨e1, _, _, _⟩ := nine_mod (hn.2 a ha)
      show _ = tx (sentN (a.fmod 3).toNat)
      rw [e1]; congr 2
    · intro x hx
      rw [List.map_append, hl2] at hx
      rcases List.mem_append.mp hx with hx | hx
      · obtain ⟨a, _, rfl⟩ := List.mem_map.mp hx
        rcases sentN_cases a.toNat with e | e | e <;> rw [e] <;> decide +kernel
      · rw [show x = Str.ofString "" by simpa using hx]; decide +kernel
    repeat walk_at "m"
    rw [if_neg (by decide)]
    repeat walk_at "m"
    exact hQ h₄ _ (fun p hp => N₄ p (List.mem_cons_of_mem _ (List.mem_cons_of_mem _ (List.mem_cons_of_mem _ hp)))) F₄
end
section
open PySem PySem.W PySem.Calls PyProof.Rows
set_option maxRecDepth 100000
set_option maxHeartbeats 8000000
set_option rowWalk.seconds 0
section
variable {prog : Program} {w : World} {A : Around} {E : Value → Shared → Prop} {h₀ h : Heap} {g : Array GenState} {d : Drawn} {tk : Nat} {os : OsState} {L l : Addr} {m : Str → Option Value} {news : List (Addr × Obj)} {value slice : PySem.Expr} {vs : List Value} {Q : Value → Shared → Prop}
theorem sl_any {vl vu : Value} {lo hi : Option Int} {zs : List Value} (F : Fr h₀ L h m) (N : News h₀ L h news) (hl : h.IsList l vs.toArray) (pl : IsPart vl lo) (pu : IsPart vu hi) (hz : vs.length ≤ 1000) (he : kms_pick vs lo hi = zs)
    (hq : ∀ D h', Fr h₀ L h' m → News h₀ L h' ((D, listOf zs.toArray 0) :: news) → (∀ p ∈ news, p.1 < D) → Q (.ref D) ⟨h', g, d, tk, os⟩)
    (hs : subscripted slice false (.ref l) (.ref h.objs.size) = operate [.ref h.objs.size, .ref l] (getItem (.ref l) (.ref h.objs.size)) := by with_unfolding_all rfl) (ht : ∀ r, letTemporaryGo value (.ref l) r = pure () := by intro _; with_unfolding_all rfl) :
    wpAny (model prog w) A (subscriptTail value slice (.ref l) (.ref h.objs.size)) Q E ⟨h.push { cls := .type "slice", data := .fields #[vl, vu, .none] }, g, d, tk, os⟩ := by
  refine kmk_slice (s := ⟨h, g, d, tk, os⟩) F N hl pl pu (fun D h' F' N' lt => hq D h' F' ?_ lt) hs ht (by have e : sizeLine = 16777216 := rfl; simp; omega)
  rw [kms_pick_eq, List.toList_toArray, he] at N'
  exact N'
theorem str_item0 {x : Nat} {r : List Nat} {t u : Tok} {s : Shared} (h : Q (.str ⟨#[x]⟩ s.toks) { s with toks := s.toks + 1 })
    (hs : subscripted slice false (.str (tx (x :: r)) t) (.int 0 u) = operate [.str (tx (x :: r)) t, .int 0 u] (getItem (.str (tx (x :: r)) t) (.int 0 u)) := by with_unfolding_all rfl) :
    wpAny (model prog w) A (subscriptTail value slice (.str (tx (x :: r)) t) (.int 0 u)) Q E s :=
  tail_any (typeIs_str _ _ _) slot_str_getitem.lookup (P.getItem_str (c := x) (by decide) (by
    have : seqIndex? 0 (tx (x :: r)).length = some 0 := by unfold seqIndex?; simp [Str.length]
    rw [this]; simp) h) hs
end
/-- a letter's digit -/
def digN (k : Nat) : Int := if k = 0 then 33 else if k = 1 then 34 else 46
theorem paired_dig : ∀ {l : List (Str × Tok)} {ys : List Value} {ks : List Nat}, l.map (·.1) = ks.map (fun k => tx (sentN k)) → Paired (fun v y => ∃ x t t', v = .str (tx x) t ∧ ∀ k, x = sentN k → y = .int (digN k) t') (strValues l) ys → IntsAre ys (ks.map digN)
  | [], _, [], _, .nil => .nil
  | [], _, _ :: _, h, _ => by simp at h
  | _ :: _, _, [], h, _ => by simp at h
  | (x, t) :: l, _, k :: ks, h, .cons ⟨x', t1, t2, e, e'⟩ q => by
    simp only [List.map_cons, List.cons.injEq] at h
    have hx : x' = sentN k := by
      cases e
      have := congrArg (fun z => z.cps.toList) h.1
      simpa using this
    rw [e' k hx]
    exact .cons _ _ (paired_dig h.2 q)
theorem paired_end : ∀ {l : List (Str × Tok)} {ys : List Value} {ks : List Nat}, l.map (·.1) = ks.map (fun k => tx (sentN k)) → Paired (fun v y => ∃ x t t', v = .str (tx x) t ∧ y = .str (tx (x ++ [13, 10])) t') (strValues l) ys →
    ∃ l' : List (Str × Tok), ys = strValues l' ∧ l'.map (·.1) = ks.map fun k => tx (sentN k ++ [13, 10])
  | [], _, [], _, .nil => ⟨[], rfl, rfl⟩
  | [], _, _ :: _, h, _ => by simp at h
  | _ :: _, _, [], h, _ => by simp at h
  | (x, t) :: l, _, k :: ks, h, .cons ⟨x', t1, t2, e, e'⟩ q => by
    simp only [List.map_cons, List.cons.injEq] at h
    have hx : x' = sentN k := by
      cases e
      have := congrArg (fun z => z.cps.toList) h.1
      simpa using this
    obtain ⟨l', h1, h2⟩ := paired_end h.2 q
    exact ⟨(tx (x' ++ [13, 10]), t2) :: l', by rw [e', h1]; rfl, by simp [h2, hx]⟩
theorem sentN_cons (k : Nat) : ∃ c r, sentN k = c :: r := by rcases sentN_cases k with e | e | e <;> exact ⟨_, _, e⟩
theorem head_dig {k c : Nat} {r : List Nat} (h : sentN k = c :: r) : ((c : Nat) : Int).fmod 64 = digN k := by
  unfold sentN at h
  unfold digN
  split at h
  · rename_i h0; cases h; rw [if_pos h0]; decide
  · rename_i h0
    split at h
    · rename_i h1; cases h; rw [if_neg h0, if_pos h1]; decide
    · rename_i h1; cases h; rw [if_neg h0, if_neg h1]; decide
theorem g_ord (P : Params) : nsIn (hd.heap_39 P) mainGlobals (Str.ofString "ord") = some none := by rfl
theorem strs_mem {l : List (Str × Tok)} {v : Value} (h : v ∈ strValues l) : ∃ x t, v = .str x t ∧ x ∈ l.map (·.1) := by
  obtain ⟨p, hp, rfl⟩ := List.mem_map.mp h
  exact ⟨p.1, p.2, rfl, List.mem_map_of_mem hp⟩

theorem law_s7 {w : World} {h₀ : Heap} {fa L : Addr} {cd : Value} {mg mb : Str → Option Value} {ks : List Nat} {m : Str → Option Value} {wd rws : Addr} {wo : Obj} {l : List (Str × Tok)} {Q : Flow → Shared → Prop} {s : Shared} (W : Wd w mg mb h₀)
    (hks : ks.length = 7) (hl : l.map (·.1) = (ks.map fun k => tx (sentN k)) ++ [tx []])
    (N : News h₀ L s.heap [(rws, PySem.W.listOf (strValues l).toArray 0), (wd, wo)]) (F : Fr h₀ L s.heap m) (hw : m (Str.ofString "word") = some (.ref wd)) (hr : m (Str.ofString "rows") = some (.ref rws))
    (hQ : ∀ dg dgo ds c m' h' tk, dgo.cls = .type "list" → dgo.data = .seq ds c → IntsAre ds.toList (ks.map digN) → News h₀ L h' [(dg, dgo), (rws, PySem.W.listOf (strValues l).toArray 0), (wd, wo)] → Fr h₀ L h' m' → m' (Str.ofString "word") = some (.ref wd) → m' (Str.ofString "rows") = some (.ref rws) → m' (Str.ofString "digits") = some (.ref dg) →
      wpAny (model prg w) (lawA L fa cd) (execs ((bodyOf law).drop 7) (lawEnv L fa cd)) Q (fun _ _ => False) { s with heap := h', toks := tk }) :
    wpAny (model prg w) (lawA L fa cd) (execs ((bodyOf law).drop 6) (lawEnv L fa cd)) Q (fun _ _ => False) s := by
  rw [show (bodyOf law).drop 6 = st 6 :: (bodyOf law).drop 7 from rfl]
  generalize (bodyOf law).drop 7 = rest at hQ
  refine wpAny_execs_cons ?_
  conv => arg 3; arg 1; whnf
  dsimp only [lawEnv]
  have hll : l.length = 8 := by have := congrArg List.length hl; simpa [hks] using this
  have ht7 : (l.take 7).map (·.1) = ks.map fun k => tx (sentN k) := by
    rw [List.map_take, hl, List.take_append_of_le_length (by simp [hks]), List.take_of_length_le (by simp [hks])]
  have hpick : kms_pick (strValues l) none (some 7) = strValues (l.take 7) := by
    unfold kms_pick kms_lo kms_hi
    simp [strValues, hll, List.map_take]
  refine comp_assign (h₀ := h₀) (fun v y => ∃ x t t', v = .str (tx x) t ∧ ∀ k, x = sentN k → y = .int (digN k) t') rfl ?_
  repeat walk_at "m"
  refine sl_any F N (isl N (List.mem_cons_self ..)) .none (.int _ _) (by simp [strValues, hll]) hpick fun D h₁ F₁ N₁ hlt => ?_
  refine ⟨D, (strValues (l.take 7)).toArray, m, _, rfl, isl N₁ (List.mem_cons_self ..), by simp [strValues]; omega, F₁, N₁, ?elt, ?cont⟩
  case elt =>
    intro C v s₂ m₂ E' hv hns hmx hk
    obtain ⟨x, t, rfl, hx⟩ := strs_mem (by simpa using hv)
    rw [ht7] at hx
    obtain ⟨k, _, rfl⟩ := List.mem_map.mp hx
    refine wpAny_BinOp (Call_ (gBC W (fun b o e => hk b o (F₁.keep b o e)) (g_ord _) boot_ord ?_))
    repeat walk_at "m"
    refine ldC hns hmx ?_
    repeat walk_at "m"
    obtain ⟨c, r, hc⟩ := sentN_cons k
    rw [hc]
    refine str_item0 ?_
    repeat walk_at "m"
    refine P.ord_of_char ?_
    repeat walk_at "m"
    exact ⟨⟨c :: r, t, _, rfl, fun k' hk' => by rw [head_dig hk'.symm]⟩, keeps_refl _ _⟩
  case cont =>
    intro D' o ys k h' tk F' N' hc hd hP hne
    refine hQ D' o ys k _ h' tk hc hd (paired_dig ht7 (by simpa using hP)) (fun p hp => N' p ?_) F' (by walk_at "look") (by walk_at "look") (by walk_at "look")
    rcases List.mem_cons.mp hp with rfl | hp
    · exact List.mem_cons_self ..
    · exact List.mem_cons_of_mem _ (List.mem_cons_of_mem _ hp)

theorem law_s8 {w : World} {h₀ : Heap} {fa L : Addr} {cd : Value} {ks : List Nat} {m : Str → Option Value} {wd rws dg : Addr} {wo dgo : Obj} {l : List (Str × Tok)} {Q : Flow → Shared → Prop} {s : Shared}
    (hks : ks.length = 7) (hl : l.map (·.1) = (ks.map fun k => tx (sentN k)) ++ [tx []])
    (N : News h₀ L s.heap [(dg, dgo), (rws, PySem.W.listOf (strValues l).toArray 0), (wd, wo)]) (F : Fr h₀ L s.heap m) (hw : m (Str.ofString "word") = some (.ref wd)) (hr : m (Str.ofString "rows") = some (.ref rws)) (hdg : m (Str.ofString "digits") = some (.ref dg))
    (hQ : ∀ mi ed edo el es c m' h' tk, edo.cls = .type "list" → edo.data = .seq es c → es.toList = strValues el → el.map (·.1) = (ks.map fun k => tx (sentN k ++ [13, 10])) → News h₀ L h' [(mi, PySem.W.listOf #[] 0), (ed, edo), (dg, dgo), (wd, wo)] → (∀ p ∈ [(ed, edo), (dg, dgo), (wd, wo)], p.1 ≠ mi) → Fr h₀ L h' m' → m' (Str.ofString "word") = some (.ref wd) → m' (Str.ofString "digits") = some (.ref dg) → m' (Str.ofString "ended") = some (.ref ed) → m' (Str.ofString "mirrors") = some (.ref mi) →
      wpAny (model prg w) (lawA L fa cd) (execs ((bodyOf law).drop 9) (lawEnv L fa cd)) Q (fun _ _ => False) { s with heap := h', toks := tk }) :
    wpAny (model prg w) (lawA L fa cd) (execs ((bodyOf law).drop 7) (lawEnv L fa cd)) Q (fun _ _ => False) s := by
  rw [show (bodyOf law).drop 7 = st 7 :: st 8 :: (bodyOf law).drop 9 from rfl]
  generalize (bodyOf law).drop 9 = rest at hQ
  refine wpAny_execs_cons ?_
  conv => arg 3; arg 1; whnf
  dsimp only [lawEnv]
  have hll : l.length = 8 := by have := congrArg List.length hl; simpa [hks] using this
  have ht7 : (l.take 7).map (·.1) = ks.map fun k => tx (sentN k) := by
    rw [List.map_take, hl, List.take_append_of_le_length (by simp [hks]), List.take_of_length_le (by simp [hks])]
  have hpick : kms_pick (strValues l) none (some 7) = strValues (l.take 7) := by
    unfold kms_pick kms_lo kms_hi
    simp [strValues, hll, List.map_take]
  refine comp_assign (h₀ := h₀) (fun v y => ∃ x t t', v = .str (tx x) t ∧ y = .str (tx (x ++ [13, 10])) t') rfl ?_
  repeat walk_at "m"
  refine sl_any F N (isl N (List.mem_cons_of_mem _ (List.mem_cons_self ..))) .none (.int _ _) (by simp [strValues, hll]) hpick fun D h₁ F₁ N₁ hlt => ?_
  refine ⟨D, (strValues (l.take 7)).toArray, m, _, rfl, isl N₁ (List.mem_cons_self ..), by simp [strValues]; omega, F₁, N₁, ?elt, ?cont⟩
  case elt =>
    intro C v s₂ m₂ E' hv hns hmx hk
    obtain ⟨x, t, rfl, hx⟩ := strs_mem (by simpa using hv)
    rw [ht7] at hx
    obtain ⟨k, _, rfl⟩ := List.mem_map.mp hx
    refine wpAny_BinOp (ldC hns hmx ?_)
    repeat walk_at "m"
    rw [s_crlf]
    refine SB.add (fun t' k' => ?_) (by
      have e : sizeLine = 16777216 := rfl
      have h2 : (tx [13, 10]).length = 2 := rfl
      have h1 : (tx (sentN k)).length ≤ 2 := by rcases sentN_cases k with e | e | e <;> rw [e] <;> decide
      omega)
    rw [tx_append]
    exact ⟨⟨_, t, t', rfl, rfl⟩, keeps_refl _ _⟩
  case cont =>
    intro ed edo es c h₂ tk₂ F₂ N₂ hc hd hP hne
    obtain ⟨el, hel, hel2⟩ := paired_end ht7 (by simpa using hP)
    repeat walk_at "m"
    conv => arg 3; arg 1; whnf
    repeat walk_at "m"
    refine newList_N F₂ N₂ fun h₃ F₃ N₃ => ?_
    have hnew : ∀ p ∈ [(ed, edo), (dg, dgo), (wd, wo)], p.1 ≠ h₂.objs.size := by
      intro p hp
      refine Nat.ne_of_lt (Heap.lt_size (N₂ p ?_).1)
      rcases List.mem_cons.mp hp with rfl | hp
      · exact List.mem_cons_self ..
      · rcases List.mem_cons.mp hp with rfl | hp
        · exact List.mem_cons_of_mem _ (List.mem_cons_of_mem _ (List.mem_cons_self ..))
        · rw [List.mem_singleton.mp hp]; exact List.mem_cons_of_mem _ (List.mem_cons_of_mem _ (List.mem_cons_of_mem _ (List.mem_cons_of_mem _ (List.mem_cons_self ..))))
    repeat walk_at "m"
    rename_i h₄ F₄ N₄
    refine hQ _ ed edo el es c _ h₄ _ hc hd hel hel2 (fun p hp => N₄ p ?_) hnew F₄ (by walk_at "look") (by walk_at "look") (by walk_at "look") (by walk_at "look")
    rcases List.mem_cons.mp hp with rfl | hp
    · exact List.mem_cons_self ..
    · rcases List.mem_cons.mp hp with rfl | hp
      · exact List.mem_cons_of_mem _ (List.mem_cons_self ..)
      · rcases List.mem_cons.mp hp with rfl | hp
        · exact List.mem_cons_of_mem _ (List.mem_cons_of_mem _ (List.mem_cons_of_mem _ (List.mem_cons_self ..)))
        · rw [List.mem_singleton.mp hp]; exact List.mem_cons_of_mem _ (List.mem_cons_of_mem _ (List.mem_cons_of_mem _ (List.mem_cons_of_mem _ (List.mem_cons_of_mem _ (List.mem_cons_self ..)))))
end
section
structure Inn where
  fresh : Nat
  longest : Nat
  mirrors : List Int
/-- a turn of the inner loop: the stretch of digits from i to j -/
def innStep (D : List Int) (j i : Nat) (x : Inn) : Inn :=
  let v := val64 (pySl D i j)
  if v = val64 (pySl D i j).reverse then
    if x.mirrors.any (· == v) then ⟨x.fresh, i, x.mirrors⟩ else ⟨x.fresh + 1, i, x.mirrors ++ [v]⟩
  else x
/-- k turns of the inner loop -/
noncomputable def innAll (D : List Int) (j : Nat) : Nat → Inn → Inn
  | 0, x => x
  | k + 1, x => innStep D j (j - 1 - k) (innAll D j k x)
noncomputable def mirAll (D : List Int) : Nat → List Int
  | 0 => []
  | k + 1 => (innAll D (k + 1) (k + 1) ⟨0, k, mirAll D k⟩).mirrors
noncomputable def endOf (D : List Int) (k : Nat) : Inn := innAll D (k + 1) (k + 1) ⟨0, k, mirAll D k⟩
theorem mir_succ (D : List Int) (k : Nat) : mirAll D (k + 1) = (endOf D k).mirrors := rfl
theorem pySl_step {D : List Int} {i j : Nat} {d : Int} (hd : D[i]? = some d) (hij : i < j) : pySl D i j = d :: pySl D (i + 1) j := by
  have hi : i < D.length := (List.getElem?_eq_some_iff.mp hd).1
  have e : D[i] = d := (List.getElem?_eq_some_iff.mp hd).2
  unfold pySl
  rw [List.drop_eq_getElem_cons hi, e, show min j D.length - i = (min j D.length - (i + 1)) + 1 by omega, List.take_succ_cons]
theorem pySl_last {D : List Int} {i j : Nat} {d : Int} (hd : D[j]? = some d) (hij : i ≤ j) : pySl D i (j + 1) = pySl D i j ++ [d] := by
  have hj : j < D.length := (List.getElem?_eq_some_iff.mp hd).1
  unfold pySl
  rw [show min (j + 1) D.length - i = (min j D.length - i) + 1 by omega, List.take_add_one, List.getElem?_drop, show i + (min j D.length - i) = j by omega, hd]
  rfl
theorem val64_cons (d : Int) (ds : List Int) : val64 (d :: ds) = d * 64 ^ ds.length + val64 ds := by
  have : ∀ (ds : List Int) (v : Int), ds.foldl (fun v d => v * 64 + d) v = v * 64 ^ ds.length + val64 ds := by
    intro ds
    induction ds with
    | nil => intro v; simp [val64]
    | cons x r ih =>
      intro v
      rw [List.foldl_cons, ih]
      have h2 : val64 (x :: r) = x * 64 ^ r.length + val64 r := by
        show r.foldl _ (0 * 64 + x) = _
        rw [ih]; simp
      rw [h2, List.length_cons, Int.pow_succ]
      rw [Int.add_mul, Int.mul_assoc, Int.mul_comm (64 ^ r.length : Int) 64, ← Int.add_assoc]
  show ds.foldl _ (0 * 64 + d) = _
  rw [this]; simp
theorem tape_append (A : List Int) (x : Int) : tape (A ++ [x]) = A.map (fun d => 192 + d) ++ [x] := by
  unfold tape
  simp
end
section
open PySem PySem.W PySem.Calls PyProof.Rows
set_option maxRecDepth 100000
section
variable {w : World} {A : Around} {E : Value → Shared → Prop} {h₀ h : Heap} {g : Array GenState} {d : Drawn} {tk : Nat} {os : OsState} {L l : Addr} {m : Str → Option Value} {news : List (Addr × Obj)} {vs : List Value} {ds : List Int} {mg mb : Str → Option Value} {Q : Value → Shared → Prop}
theorem varint_pushed (W : Wd w mg mb h₀) (F : Fr h₀ L h m) (N : News h₀ L h news) (hroom : A.depth < recursionLimit) (hl : h.IsList l vs.toArray) (hv : IntsAre vs (tape ds)) (hne : ds ≠ []) (hd : Dig ds) (hlen : ds.length ≤ 8)
    (hq : ∀ h' tk' v, Fr h₀ L h' m → News h₀ L h' news → Q (.int (val64 ds) v) ⟨h', g, d, tk', os⟩) :
    wpAny (model prg w) A (call (.ref 38) [.ref h.objs.size]) Q E ⟨h.push { cls := .type "list_iterator", data := .fields #[.ref l, .int 0 0] }, g, d, tk, os⟩ := by
  generalize ho : ({ cls := .type "list_iterator", data := .fields #[.ref l, .int 0 0] } : Obj) = o
  have hlt : ∀ b x, h.get? b = some x → b ≠ h.objs.size := fun b x e q => absurd (Heap.lt_size e) (by rw [q]; exact Nat.lt_irrefl _)
  have hk : ∀ b x, h.get? b = some x → ((h.push o).hide h.objs.size).get? b = some x := fun b x e => (Heap.hide_ne _ (hlt b x e)).trans (Heap.get?_push_of_some _ e)
  refine varint_call (l := l) (s := ⟨h.push o, g, d, tk, os⟩) (W.keeps fun b x e => hk b x (F.keep b x e)) hroom ?_ ?_ hv hne hd hlen fun h' tk' v hk' => hq h' tk' v ?_ ?_
  · subst ho
    exact ⟨_, Heap.get?_push_size _ rfl, rfl, rfl⟩
  · exact hl.at fun x e => hk _ x e
  · exact ⟨F.ns.keeps fun b x e => hk' b x (hk b x e), fun b x e => hk' b x (hk b x (F.keep b x e)), F.above⟩
  · exact fun p hp => ⟨hk' _ _ (hk _ _ (N p hp).1), (N p hp).2⟩
end
/-- the slice from j - 1 down to i + 1 -/
theorem neg_pick : ∀ (vs : List Value), vs.length = 7 → ∀ i j : Nat, i < j → j ≤ 7 → slicePick vs.toArray (some ((j : Int) - 1)) (some (i : Int)) (some (-1)) = ((vs.drop (i + 1)).take (j - (i + 1))).reverse.toArray := by
  intro vs hv i j hij hj
  match vs, hv with
  | [v0, v1, v2, v3, v4, v5, v6], _ =>
    match j, i, hij, hj with
    | 1, 0, _, _ => rfl
    | 2, 0, _, _ => rfl
    | 2, 1, _, _ => rfl
    | 3, 0, _, _ => rfl
    | 3, 1, _, _ => rfl
    | 3, 2, _, _ => rfl
    | 4, 0, _, _ => rfl
    | 4, 1, _, _ => rfl
    | 4, 2, _, _ => rfl
    | 4, 3, _, _ => rfl
    | 5, 0, _, _ => rfl
    | 5, 1, _, _ => rfl
    | 5, 2, _, _ => rfl
    | 5, 3, _, _ => rfl
    | 5, 4, _, _ => rfl
    | 6, 0, _, _ => rfl
    | 6, 1, _, _ => rfl
    | 6, 2, _, _ => rfl
    | 6, 3, _, _ => rfl
    | 6, 4, _, _ => rfl
    | 6, 5, _, _ => rfl
    | 7, 0, _, _ => rfl
    | 7, 1, _, _ => rfl
    | 7, 2, _, _ => rfl
    | 7, 3, _, _ => rfl
    | 7, 4, _, _ => rfl
    | 7, 5, _, _ => rfl
    | 7, 6, _, _ => rfl
    | j + 8, _, _, h => exact absurd h (by omega)
section
variable {prog : Program} {w : World} {A : Around} {E : Value → Shared → Prop} {h₀ h : Heap} {g : Array GenState} {d : Drawn} {tk : Nat} {os : OsState} {L l : Addr} {m : Str → Option Value} {news : List (Addr × Obj)} {value slice : PySem.Expr} {vs : List Value} {ns : List Int} {Q : Value → Shared → Prop}
theorem sl_neg {i j : Nat} {t1 t2 t3 : Tok} (F : Fr h₀ L h m) (N : News h₀ L h news) (hl : h.IsList l vs.toArray) (hi : IntsAre vs ns) (h7 : ns.length = 7) (hij : i < j) (hj : j ≤ 7)
    (hq : ∀ D ws h', Fr h₀ L h' m → News h₀ L h' ((D, listOf (List.toArray ws) 0) :: news) → IntsAre ws (pySl ns (i + 1) j).reverse → Q (.ref D) ⟨h', g, d, tk, os⟩)
    {ops : List Value} (hs : subscripted slice false (.ref l) (.ref h.objs.size) = operate ops (getItem (.ref l) (.ref h.objs.size)) := by with_unfolding_all rfl) (ht : ∀ r, letTemporaryGo value (.ref l) r = pure () := by intro _; with_unfolding_all rfl) :
    wpAny (model prog w) A (subscriptTail value slice (.ref l) (.ref h.objs.size)) Q E ⟨h.push { cls := .type "slice", data := .fields #[.int ((j : Int) - 1) t1, .int (i : Nat) t2, .int (-1) t3] }, g, d, tk, os⟩ := by
  have hv7 : vs.length = 7 := by rw [hi.length, h7]
  refine kmk_slice3_lit (s := ⟨h, g, d, tk, os⟩) (zs := ((vs.drop (i + 1)).take (j - (i + 1))).reverse) F N hl (.int _ _) (.int _ _) (.int _ _) (by decide) ?_ (fun D h' F' N' lt => hq D _ h' F' N' ?_) hs ht (by have e : sizeLine = 16777216 := rfl; simp; omega)
  · rw [neg_pick vs hv7 i j hij hj]
  · have := ((hi.drop (i + 1)).take (j - (i + 1))).reverse
    unfold pySl
    rw [show min j ns.length - (i + 1) = j - (i + 1) by omega]
    exact this
end
end
section
open PySem PySem.W PySem.Calls PyProof.Rows
set_option maxRecDepth 100000
set_option maxHeartbeats 8000000
set_option rowWalk.seconds 0
def outS (i : Nat) : Stmt := (bodyOf (st 9)).getD i (.Pass ⟨0, 0, 0, 0⟩)
/-- the names that the loops keep -/
structure Nms (m : Str → Option Value) (wd ed dg mi : Addr) (j : Nat) : Prop where
  word : m (Str.ofString "word") = some (.ref wd)
  ended : m (Str.ofString "ended") = some (.ref ed)
  digits : m (Str.ofString "digits") = some (.ref dg)
  mirrors : m (Str.ofString "mirrors") = some (.ref mi)
  j : ∃ t, m (Str.ofString "j") = some (.int (j : Nat) t)

theorem inner_for {w : World} {h₀ : Heap} {fa L : Addr} {cd : Value} {mg mb : Str → Option Value} {D : List Int} {j : Nat} {m : Str → Option Value} {wd ed dg mi : Addr} {dgo : Obj} {dsA : Array Value} {dc : Nat} {us : List Value} {c : Nat} {ownO rest : List (Addr × Obj)} {x₀ : Inn}
    {Q : Flow → Shared → Prop} {s : Shared} (W : Wd w mg mb h₀) (hj : 1 ≤ j) (hj7 : j ≤ 7) (hD : D.length = 7) (hDig : Dig D) (hdc : dgo.cls = .type "list") (hdd : dgo.data = .seq dsA dc) (hdI : IntsAre dsA.toList D) (hdg : (dg, dgo) ∈ rest)
    (hoff : ∀ p ∈ ownO, p.1 ≠ mi) (hrest : ∀ p ∈ rest, p.1 ≠ mi) (hx : x₀ = ⟨0, j - 1, x₀.mirrors⟩) (hxl : x₀.mirrors.length ≤ 100) (hus : IntsAre us x₀.mirrors)
    (F : Fr h₀ L s.heap m) (N : News h₀ L s.heap (ownO ++ (mi, PySem.W.listOf us.toArray c) :: rest)) (hm : Nms m wd ed dg mi j)
    (hthere : ∃ t, m (Str.ofString "there") = some (.int 0 t)) (hback : ∃ t, m (Str.ofString "back") = some (.int 0 t)) (hpower : ∃ t, m (Str.ofString "power") = some (.int 1 t)) (hfresh : ∃ t, m (Str.ofString "fresh") = some (.int 0 t)) (hlong : ∃ t, m (Str.ofString "longest") = some (.int ((j - 1 : Nat) : Int) t))
    (hQ : ∀ m' h' tk us' c', IntsAre us' (innAll D j j x₀).mirrors → Fr h₀ L h' m' → News h₀ L h' (ownO ++ (mi, PySem.W.listOf us'.toArray c') :: rest) → Nms m' wd ed dg mi j → (∃ t, m' (Str.ofString "fresh") = some (.int ((innAll D j j x₀).fresh : Nat) t)) → (∃ t, m' (Str.ofString "longest") = some (.int ((innAll D j j x₀).longest : Nat) t)) → Q .next { s with heap := h', toks := tk }) :
    wpAny (model prg w) (lawA L fa cd) (exec (outS 5) (lawEnv L fa cd)) Q (fun _ _ => False) s := by
  conv => arg 3; arg 1; whnf
  dsimp only [lawEnv]
  obtain ⟨tj, hmj⟩ := hm.j
  refine For_invVF F (by rfl) (by rfl) ?_
  repeat walk_at "m"
  refine gB W F (g_range _) b_range ?_
  repeat walk_at "m"
  refine range3_rows F N (by decide) (fun h₁ tk₁ t₁ u₁ v₁ R₁ F₁ N₁ _ => ?_) (.inl (PyProof.noPylong_small (by omega)))
  refine loop_range (n := j) (fun k m₁ news₁ => ∃ us c, IntsAre us (innAll D j k x₀).mirrors ∧ (innAll D j k x₀).mirrors.length ≤ x₀.mirrors.length + k ∧ news₁ = ownO ++ (mi, PySem.W.listOf us.toArray c) :: rest ∧ Nms m₁ wd ed dg mi j ∧ (∃ t, m₁ (Str.ofString "there") = some (.int (val64 (pySl D (j - k) j)) t)) ∧ (∃ t, m₁ (Str.ofString "back") = some (.int (val64 (pySl D (j - k) j).reverse) t)) ∧ (∃ t, m₁ (Str.ofString "power") = some (.int (64 ^ k) t)) ∧ (∃ t, m₁ (Str.ofString "fresh") = some (.int ((innAll D j k x₀).fresh : Nat) t)) ∧ (∃ t, m₁ (Str.ofString "longest") = some (.int ((innAll D j k x₀).longest : Nat) t))) rfl F₁ N₁ R₁ (small_ok (.inr rfl) (by omega) (by omega)) ?_ ?_ ?_ ?_
  · unfold Builtin.Range.rangeSize
    simp
    omega
  · have e0 : pySl D j j = [] := by unfold pySl; rw [show min j D.length - j = 0 by omega, List.take_zero]
    have ef : x₀.fresh = 0 := by rw [hx]
    have el : x₀.longest = j - 1 := by rw [hx]
    refine ⟨us, c, hus, Nat.le_refl _, rfl, hm, ?_, ?_, hpower, ?_, ?_⟩
    · rw [Nat.sub_zero, e0]; exact hthere
    · rw [Nat.sub_zero, e0]; exact hback
    · show ∃ t, m _ = some (.int (x₀.fresh : Nat) t)
      rw [ef]; exact hfresh
    · show ∃ t, m _ = some (.int (x₀.longest : Nat) t)
      rw [el]; exact hlong
  · intro k ti m₁ news₁ h tk own hk hJ hno hown F N
    obtain ⟨us, c, hus, hml, rfl, hm, ⟨t1, hthere⟩, ⟨t2, hback⟩, ⟨t3, hpower⟩, ⟨t4, hfresh⟩, ⟨t5, hlong⟩⟩ := hJ
    change Fr h₀ L h _ at F
    change News h₀ L h _ at N
    dsimp only
    obtain ⟨i, hi⟩ : ∃ i, i + k + 1 = j := ⟨j - 1 - k, by omega⟩
    rw [show ((j : Int) - 1 + (k : Int) * -1) = ((i : Nat) : Int) by omega] at F
    have hw0 := hm.word
    have he0 := hm.ended
    have hd0 := hm.digits
    have hm0 := hm.mirrors
    obtain ⟨tj', hj0⟩ := hm.j
    obtain ⟨d, hd⟩ : ∃ d, D[i]? = some d := ⟨D[i]'(by omega), by simp⟩
    obtain ⟨e, he⟩ : ∃ e, D[j - 1]? = some e := ⟨D[j - 1]'(by omega), by simp⟩
    obtain ⟨td, htd⟩ := hdI.get i d hd
    obtain ⟨te, hte⟩ := hdI.get (j - 1) e he
    have hdm : (dg, dgo) ∈ own ++ (ownO ++ (mi, PySem.W.listOf us.toArray c) :: rest) := by simp [hdg]
    have hls : ∀ {h m}, News h₀ L h (own ++ (ownO ++ (mi, PySem.W.listOf us.toArray c) :: rest)) → Fr h₀ L h m → h.IsList dg dsA := fun N _ => ⟨_, (N _ hdm).1, hdc, dc, hdd⟩
    have hd2 : 0 ≤ d ∧ d < 64 := hDig d (List.mem_of_getElem? hd)
    have hds : pySl D i j = d :: pySl D (i + 1) j := pySl_step hd (by omega)
    have hkl : (pySl D (i + 1) j).length = k := by unfold pySl; simp; omega
    rw [show j - k = i + 1 by omega] at hthere hback
    generalize hnw : own ++ (ownO ++ (mi, PySem.W.listOf us.toArray c) :: rest) = news at N hdm hls
    repeat walk_at "m"
    refine item_list (hls N F) (by omega) (by omega) (by simpa using htd) ?_
    repeat walk_at "m"
    refine mul_int ?_ (IntMulOk.of_left (intBits_le_iff.mpr (by omega)))
    repeat walk_at "m"
    rename_i h₂ F₂ N₂
    refine mul_int ?_ (IntMulOk.of_right (intBits_le_iff.mpr (by decide)))
    repeat walk_at "m"
    refine item_list (hls N₂ F₂) (by omega) (by omega) (by simpa using htd) ?_
    repeat walk_at "m"
    rename_i h₃ F₃ N₃
    refine mul_int ?_ (IntMulOk.of_right (intBits_le_iff.mpr (by decide)))
    repeat walk_at "m"
    rename_i h₄ F₄ N₄
    refine gK W F₄ (g_varint _) ?_
    refine cw_def (W.k 38 _ rfl) rfl ?_
    repeat walk_at "m"
    refine gB W F₄ (g_iter _) b_iter ?_
    repeat walk_at "m"
    refine comp_eval (h₀ := h₀) (fun v y => ∃ a t t', v = .int a t ∧ y = .int (192 + a) t') rfl ?_
    repeat walk_at "m"
    rw [show ((j : Int) - 1) = ((j - 1 : Nat) : Int) by omega]
    refine sl_ints (vs := dsA.toList) F₄ N₄ (hls N₄ F₄) (.int _ _) (.int _ _) hdI (sl_run hdI i (j - 1)) (by omega) fun D₅ ws₅ h₅ F₅ N₅ _ hI₅ hle₅ => ?_
    refine ⟨D₅, ws₅.toArray, _, _, rfl, isl N₅ (List.mem_cons_self ..), by simp [hI₅.length]; omega, F₅, N₅, ?elt, ?cont⟩
    case elt =>
      intro C v s₂ m₂ E' hv hns hmx hk
      obtain ⟨a, t, rfl, ha⟩ := ints_mem hI₅ v (by simpa using hv)
      repeat walk_at "m"
      refine ldC hns hmx ?_
      repeat walk_at "m"
      exact ⟨⟨a, t, _, rfl, rfl⟩, keeps_refl _ _⟩
    case cont =>
      intro D₆ o₆ ys₆ n₆ h₆ tk₆ F₆ N₆ hc₆ hd₆ hP₆ hne₆ hkp₆
      have hI₆ := paired_int (f := fun a => 192 + a) hI₅ (by simpa using hP₆)
      change Fr h₀ L h₆ _ at F₆
      change News h₀ L h₆ _ at N₆
      repeat walk_at "m"
      refine item_list (hls (fun p hp => N₆ p (List.mem_cons_of_mem _ (List.mem_cons_of_mem _ hp))) F₆) (by omega) (by omega) (by rw [show ((j : Int) - 1).toNat = j - 1 by omega]; simpa using hte) ?_
      repeat walk_at "m"
      refine newList_N F₆ N₆ (fun h₇ F₇ N₇ => ?_) (by show 1 ≤ sizeLine; decide)
      refine add_lists_ints (vs := ys₆.toList) F₇ N₇ ⟨_, (N₇ _ (List.mem_cons_of_mem _ (List.mem_cons_self ..))).1, hc₆, n₆, hd₆⟩ ⟨_, (N₇ _ (List.mem_cons_self ..)).1, rfl, 0, rfl⟩ hI₆ (.cons e te .nil) (fun h₈ F₈ N₈ hI₈ => ?_) (by
        have e : sizeLine = 16777216 := rfl
        simp; omega)
      repeat walk_at "m"
      refine iter_list (isl N₈ (List.mem_cons_self ..)) ?_
      repeat walk_at "m"
      have hlast : pySl D i j = pySl D i (j - 1) ++ [e] := by
        have := pySl_last he (show i ≤ j - 1 by omega)
        rwa [show j - 1 + 1 = j by omega] at this
      have hDij : Dig (pySl D i j) := fun x hx => hDig x (List.mem_of_mem_drop (List.mem_of_mem_take hx))
      have hlij : (pySl D i j).length = k + 1 := by rw [hds]; simp [hkl]
      refine ⟨fun b o e => Heap.get?_push_of_some _ (F₈.keep b o e), ?_⟩
      refine varint_pushed (ds := pySl D i j) W F₈ (news := news) (fun p hp => N₈ p (by simp [hp])) (law_room ..) (isl N₈ (List.mem_cons_self ..)) ?_ (by rw [hds]; simp) hDij (by omega) fun h₉ tk₉ t₉ F₉ N₉ => ?_
      · rw [hlast, tape_append]; exact hI₈
      clear N₈ N₇ N₆ N₅ F₈ F₇ F₆ F₅ hI₈ hI₆ hI₅ hP₆ hkp₆ hne₆
      repeat walk_at "m"
      rename_i h₅ F₅ N₅
      refine gK W F₅ (g_varint _) ?_
      refine cw_def (W.k 38 _ rfl) rfl ?_
      repeat walk_at "m"
      refine gB W F₅ (g_iter _) b_iter ?_
      repeat walk_at "m"
      refine comp_eval (h₀ := h₀) (fun v y => ∃ a t t', v = .int a t ∧ y = .int (192 + a) t') rfl ?_
      repeat walk_at "m"
      refine sl_neg (vs := dsA.toList) F₅ N₅ (hls N₅ F₅) hdI hD (by omega) hj7 fun D₅ ws₅ h₅ F₅ N₅ hI₅ => ?_
      have hl5 : (pySl D (i + 1) j).reverse.length = k := by simp [hkl]
      refine ⟨D₅, ws₅.toArray, _, _, rfl, isl N₅ (List.mem_cons_self ..), by simp [hI₅.length, hkl]; omega, F₅, N₅, ?elt, ?cont⟩
      case elt =>
        intro C v s₂ m₂ E' hv hns hmx hk
        obtain ⟨a, t, rfl, ha⟩ := ints_mem hI₅ v (by simpa using hv)
        repeat walk_at "m"
        refine ldC hns hmx ?_
        repeat walk_at "m"
        exact ⟨⟨a, t, _, rfl, rfl⟩, keeps_refl _ _⟩
      case cont =>
        intro D₆ o₆ ys₆ n₆ h₆ tk₆ F₆ N₆ hc₆ hd₆ hP₆ hne₆ hkp₆
        have hI₆ := paired_int (f := fun a => 192 + a) hI₅ (by simpa using hP₆)
        change Fr h₀ L h₆ _ at F₆
        change News h₀ L h₆ _ at N₆
        repeat walk_at "m"
        refine item_list (hls (fun p hp => N₆ p (List.mem_cons_of_mem _ (List.mem_cons_of_mem _ hp))) F₆) (by omega) (by omega) (by simpa using htd) ?_
        repeat walk_at "m"
        refine newList_N F₆ N₆ (fun h₇ F₇ N₇ => ?_) (by show 1 ≤ sizeLine; decide)
        refine add_lists_ints (vs := ys₆.toList) F₇ N₇ ⟨_, (N₇ _ (List.mem_cons_of_mem _ (List.mem_cons_self ..))).1, hc₆, n₆, hd₆⟩ ⟨_, (N₇ _ (List.mem_cons_self ..)).1, rfl, 0, rfl⟩ hI₆ (.cons d td .nil) (fun h₈ F₈ N₈ hI₈ => ?_) (by
          have e : sizeLine = 16777216 := rfl
          simp [hkl]; omega)
        repeat walk_at "m"
        refine iter_list (isl N₈ (List.mem_cons_self ..)) ?_
        repeat walk_at "m"
        have hrev : (pySl D i j).reverse = (pySl D (i + 1) j).reverse ++ [d] := by rw [hds]; simp
        refine ⟨fun b o e => Heap.get?_push_of_some _ (F₈.keep b o e), ?_⟩
        refine varint_pushed (ds := (pySl D i j).reverse) W F₈ (news := news) (fun p hp => N₈ p (by simp [hp])) (law_room ..) (isl N₈ (List.mem_cons_self ..)) ?_ (by rw [hrev]; simp) (fun x hx => hDij x (List.mem_reverse.mp hx)) (by simp [hlij]; omega) fun h₉ tk₉ t₉ F₉ N₉ => ?_
        · rw [hrev, tape_append]; exact hI₈
        clear N₈ N₇ N₆ N₅ F₈ F₇ F₆ F₅ hI₈ hI₆ hI₅ hP₆ hkp₆ hne₆
        have ev1 : val64 (pySl D (i + 1) j) + d * 64 ^ k = val64 (pySl D i j) := by rw [hds, val64_cons, hkl]; omega
        have ev2 : val64 (pySl D (i + 1) j).reverse * 64 + d = val64 (pySl D i j).reverse := by rw [hrev]; unfold val64; rw [List.foldl_append]; rfl
        rw [ev1, ev2] at F₉
        repeat walk_at "m"
        rename_i h₅ F₅ N₅
        rw [if_neg (by simp)]
        repeat walk_at "m"
        rw [if_neg (by simp)]
        repeat walk_at "m"
        rw [if_neg (by simp)]
        repeat walk_at "m"
        have ejk : j - (k + 1) = i := by omega
        have ei : j - 1 - k = i := by omega
        have est : innAll D j (k + 1) x₀ = innStep D j i (innAll D j k x₀) := by rw [show innAll D j (k + 1) x₀ = innStep D j (j - 1 - k) (innAll D j k x₀) from rfl, ei]
        rw [hnw.symm] at N₅
        by_cases hpal : val64 (pySl D i j) = val64 (pySl D i j).reverse
        · rw [if_pos (by simpa using hpal)]
          repeat walk_at "m"
          rename_i h₆ F₆ N₆
          refine notin_list_ints (isl (n := c) N₆ (by simp)) hus ?_
          repeat walk_at "m"
          by_cases hin : (innAll D j k x₀).mirrors.any (· == val64 (pySl D i j)) = true
          · rw [if_neg (by simpa using hin)]
            have est' : innAll D j (k + 1) x₀ = ⟨(innAll D j k x₀).fresh, i, (innAll D j k x₀).mirrors⟩ := by
              rw [est]; unfold innStep; dsimp only; rw [if_pos hpal, if_pos hin]
            repeat walk_at "m"
            refine ⟨h₆, _, _, _, rfl, F₆, N₆, fun p hp hI => hno p hp (List.mem_singleton.mp hI), us, c, by rw [est']; exact hus, by rw [est']; exact Nat.le_succ_of_le hml, rfl, ⟨by walk_at "look", by walk_at "look", by walk_at "look", by walk_at "look", _, by walk_at "look"⟩, ⟨_, by rw [ejk]; walk_at "look"⟩, ⟨_, by rw [ejk]; walk_at "look"⟩, ⟨_, by rw [Int.pow_succ]; walk_at "look"⟩, ⟨_, by rw [est']; walk_at "look"⟩, ⟨_, by rw [est']; walk_at "look"⟩⟩
          · rw [if_pos (by rw [Bool.not_eq_true] at hin; rw [hin]; rfl)]
            have est' : innAll D j (k + 1) x₀ = ⟨(innAll D j k x₀).fresh + 1, i, (innAll D j k x₀).mirrors ++ [val64 (pySl D i j)]⟩ := by
              rw [est]; unfold innStep; dsimp only; rw [if_pos hpal, if_neg hin]
            repeat walk_at "m"
            have hmi : h₆.get? mi = some (PySem.W.listOf us.toArray c) := (N₆ (mi, PySem.W.listOf us.toArray c) (by simp)).1
            refine wpAny_Expr ?_
            repeat walk_at "m"
            refine getMethod_list_append hmi rfl rfl ?_
            repeat walk_at "m"
            rw [← List.append_assoc] at N₆
            refine append_in F₆ N₆ (fun p hp => ?_) hrest (fun h₇ F₇ N₇ => ?_) (by
              have e : sizeLine = 16777216 := rfl
              rw [hus.length]; omega)
            · rcases List.mem_append.mp hp with hp | hp
              · rw [hown p hp]
                exact (hno _ (show (mi, PySem.W.listOf us.toArray c) ∈ _ by simp)).symm
              · exact hoff p hp
            rw [List.append_assoc] at N₇
            repeat walk_at "m"
            rename_i h₈ F₈ N₈
            refine ⟨h₈, _, _, _, rfl, F₈, N₈, fun p hp hI => ?_, us ++ [.int (val64 (pySl D i j)) _], c + 1, by rw [est']; exact hus.append (.cons _ _ .nil), by rw [est']; dsimp only; rw [List.length_append, List.length_singleton]; omega, rfl, ⟨by walk_at "look", by walk_at "look", by walk_at "look", by walk_at "look", _, by walk_at "look"⟩, ⟨_, by rw [ejk]; walk_at "look"⟩, ⟨_, by rw [ejk]; walk_at "look"⟩, ⟨_, by rw [Int.pow_succ]; walk_at "look"⟩, ⟨_, by rw [est']; walk_at "look"⟩, ⟨_, by rw [est']; walk_at "look"⟩⟩
            have hI' := List.mem_singleton.mp hI
            rcases List.mem_append.mp hp with hp | hp
            · exact hno p (List.mem_append_left _ hp) hI'
            · rcases List.mem_cons.mp hp with rfl | hp
              · exact hno (mi, PySem.W.listOf us.toArray c) (by simp) hI'
              · exact hno p (by simp [hp]) hI'
        · rw [if_neg (by simpa using hpal)]
          have est' : innAll D j (k + 1) x₀ = innAll D j k x₀ := by rw [est]; unfold innStep; rw [if_neg hpal]
          repeat walk_at "m"
          refine ⟨h₅, _, _, _, rfl, F₅, N₅, fun p hp hI => hno p hp (List.mem_singleton.mp hI), us, c, by rw [est']; exact hus, by rw [est']; omega, rfl, ⟨by walk_at "look", by walk_at "look", by walk_at "look", by walk_at "look", _, by walk_at "look"⟩, ⟨_, by rw [ejk]; walk_at "look"⟩, ⟨_, by rw [ejk]; walk_at "look"⟩, ⟨_, by rw [Int.pow_succ]; walk_at "look"⟩, ⟨_, by rw [est']; walk_at "look"⟩, ⟨_, by rw [est']; walk_at "look"⟩⟩
  · intro m₁ news₁ h tk hJ F N
    obtain ⟨us', c', hus', _, rfl, hm', _, _, _, hf, hl⟩ := hJ
    exact hQ m₁ h tk us' c' hus' F N hm' hf hl
end
section
open PySem PySem.W PySem.Calls PyProof.Rows
set_option maxRecDepth 100000
/-- the rows' text from a to j, and of the rows ahead -/
def Xof (ks : List Nat) (a j : Nat) : List Nat := [13, 10] ++ flatR (((ks.take j).drop a).map sentN)
def Gof (ks : List Nat) (j : Nat) : List Nat := [13, 10] ++ flatR ((ks.take j).map sentN)
theorem flatR_len (ks : List Nat) : (flatR (ks.map sentN)).length ≤ 4 * ks.length := by
  induction ks with
  | nil => simp [flatR]
  | cons k r ih =>
    rw [List.map_cons, flatR_cons]
    rcases sentN_cases k with e | e | e <;> rw [e] <;> simp <;> omega
theorem Xof_tri (ks : List Nat) (a j : Nat) : NoTri (Xof ks a j) := by
  have h := noTri_rows (((ks.take j).drop a).map sentN) (fun p hp => by obtain ⟨k, _, rfl⟩ := List.mem_map.mp hp; exact sentN_cases k)
  unfold Xof
  intro i hi
  match i with
  | 0 => simp
  | 1 => simp
  | i + 2 => exact h i (by simpa using hi)
theorem flatR_256 (ks : List Nat) : ∀ c ∈ flatR (ks.map sentN), c < 256 := by
  intro c hc
  obtain ⟨p, hp, hc⟩ := List.mem_flatMap.mp hc
  obtain ⟨k, _, rfl⟩ := List.mem_map.mp hp
  rcases sentN_cases k with e | e | e <;> rw [e] at hc <;> simp at hc <;> omega
theorem Xof_256 (ks : List Nat) (a j : Nat) : ∀ c ∈ Xof ks a j, c < 256 := by
  intro c hc
  rcases List.mem_append.mp hc with hc | hc
  · simp at hc; omega
  · exact flatR_256 _ c hc
theorem Xof_len {ks : List Nat} (h : ks.length = 7) (a j : Nat) : (Xof ks a j).length ≤ 1000 := by
  have := flatR_len ((ks.take j).drop a)
  unfold Xof
  simp at this ⊢
  omega
theorem Gof_len {ks : List Nat} (h : ks.length = 7) (j : Nat) : (Gof ks j).length ≤ 1000 := by
  have := flatR_len (ks.take j)
  unfold Gof
  simp at this ⊢
  omega
theorem pick_rows {el : List (Str × Tok)} (h : el.length = 7) {a b : Nat} (ha : a ≤ 7) (hb : b ≤ 7) : kms_pick (strValues el) (some (a : Int)) (some (b : Int)) = strValues ((el.take b).drop a) := by
  unfold kms_pick kms_lo kms_hi
  dsimp only
  rw [if_neg (by omega), if_neg (by omega)]
  have e : (strValues el).length = 7 := by simp [strValues, h]
  rw [e]
  simp only [Int.toNat_natCast]
  rw [Nat.min_eq_left ha, Nat.min_eq_left hb, List.drop_take]
  simp [strValues, List.map_take, List.map_drop]
theorem pick_rows0 {el : List (Str × Tok)} (h : el.length = 7) {b : Nat} (hb : b ≤ 7) : kms_pick (strValues el) none (some (b : Int)) = strValues (el.take b) := by
  unfold kms_pick kms_lo kms_hi
  dsimp only
  rw [if_neg (by omega)]
  have e : (strValues el).length = 7 := by simp [strValues, h]
  rw [e]
  simp only [Int.toNat_natCast]
  rw [Nat.min_eq_left hb]
  simp [strValues, List.map_take]
theorem join_rows {l : List (Str × Tok)} {ks : List Nat} (h : l.map (·.1) = ks.map fun k => tx (sentN k ++ [13, 10])) : Txt.join (tx []) (l.map (·.1)) = tx (flatR (ks.map sentN)) := by
  apply tx_ext
  rw [txtJoin_toList, h]
  simp [flatR, List.flatMap_map]
theorem joinOk_rows {l : List (Str × Tok)} {ks : List Nat} (h : l.map (·.1) = ks.map fun k => tx (sentN k ++ [13, 10])) (hk : ks.length ≤ 7) : JoinOk (tx []) (l.map (·.1)) = true := by
  unfold JoinOk
  rw [StrLaws.joinFits (B := 1000) (fun y hy => by
    rw [h] at hy
    obtain ⟨k, _, rfl⟩ := List.mem_map.mp hy
    show (sentN k ++ [13, 10]).toArray.size ≤ 1000
    rcases sentN_cases k with e | e | e <;> rw [e] <;> simp) (by
    rw [h, List.length_map]
    exact Nat.le_trans (Nat.mul_le_mul_right _ hk) (by decide))]
  rfl
theorem inn_longest (D : List Int) (j : Nat) (x : Inn) (hx : x.longest ≤ j - 1) : ∀ k, (innAll D j k x).longest ≤ j - 1
  | 0 => hx
  | k + 1 => by
    have ih := inn_longest D j x hx k
    show (innStep D j (j - 1 - k) (innAll D j k x)).longest ≤ _
    unfold innStep
    dsimp only
    split
    · split <;> (dsimp only; omega)
    · exact ih
theorem inn_mirrors (D : List Int) (j : Nat) (x : Inn) : ∀ k, (innAll D j k x).mirrors.length ≤ x.mirrors.length + k
  | 0 => Nat.le_refl _
  | k + 1 => by
    have ih := inn_mirrors D j x k
    show (innStep D j (j - 1 - k) (innAll D j k x)).mirrors.length ≤ _
    unfold innStep
    dsimp only
    split
    · split
      · dsimp only; omega
      · dsimp only; rw [List.length_append]; simp; omega
    · omega
theorem mir_len (D : List Int) : ∀ k, k ≤ 7 → (mirAll D k).length ≤ 7 * k
  | 0, _ => Nat.le_refl _
  | k + 1, h => by
    have ih := mir_len D k (by omega)
    have := inn_mirrors D (k + 1) ⟨0, k, mirAll D k⟩ (k + 1)
    show (innAll D (k + 1) (k + 1) ⟨0, k, mirAll D k⟩).mirrors.length ≤ _
    dsimp only at this
    omega
theorem end_longest (D : List Int) (k : Nat) : (endOf D k).longest ≤ k := inn_longest D (k + 1) ⟨0, k, mirAll D k⟩ (Nat.le_refl _) (k + 1)
theorem dig_digN (ks : List Nat) : Dig (ks.map digN) := by
  intro d hd
  obtain ⟨k, _, rfl⟩ := List.mem_map.mp hd
  unfold digN
  split
  · decide
  · split <;> decide
end
section
open PySem PySem.W PySem.Calls PyProof.Rows
set_option maxRecDepth 100000
set_option maxHeartbeats 8000000
set_option rowWalk.seconds 0
theorem s_tricrlf : Str.ofString "...\x0d\n" = tx [46, 46, 46, 13, 10] := by decide +kernel
theorem outer_turn {w : World} {h₀ : Heap} {fa L : Addr} {cd : Value} {mg mb : Str → Option Value} {ks : List Nat} {k : Nat} {m : Str → Option Value} {wd ed dg mi : Addr} {dgo edo : Obj} {dsA esA : Array Value} {dc ec : Nat} {el : List (Str × Tok)} {us : List Value} {c : Nat} {ownO rest : List (Addr × Obj)}
    {Q : Flow → Shared → Prop} {s : Shared} (W : Wd w mg mb h₀) (hks : ks.length = 7) (hk : k < 7) (hdc : dgo.cls = .type "list") (hdd : dgo.data = .seq dsA dc) (hdI : IntsAre dsA.toList (ks.map digN)) (hdg : (dg, dgo) ∈ rest)
    (hec : edo.cls = .type "list") (hed : edo.data = .seq esA ec) (hel : esA.toList = strValues el) (hel2 : el.map (·.1) = ks.map fun k => tx (sentN k ++ [13, 10])) (hedm : (ed, edo) ∈ rest)
    (hoff : ∀ p ∈ ownO, p.1 ≠ mi) (hrest : ∀ p ∈ rest, p.1 ≠ mi) (hus : IntsAre us (mirAll (ks.map digN) k))
    (F : Fr h₀ L s.heap m) (N : News h₀ L s.heap (ownO ++ (mi, PySem.W.listOf us.toArray c) :: rest)) (hm : Nms m wd ed dg mi (k + 1))
    (hfr : (endOf (ks.map digN) k).fresh ≤ 1) (hin : infixB (Xof ks (endOf (ks.map digN) k).longest (k + 1)) (Gof ks k) = decide ((endOf (ks.map digN) k).fresh = 0))
    (hQ : ∀ m' h' tk us' c', IntsAre us' (mirAll (ks.map digN) (k + 1)) → Fr h₀ L h' m' → News h₀ L h' (ownO ++ (mi, PySem.W.listOf us'.toArray c') :: rest) → Nms m' wd ed dg mi (k + 1) → Q .next { s with heap := h', toks := tk }) :
    wpAny (model prg w) (lawA L fa cd) (execs (bodyOf (st 9)) (lawEnv L fa cd)) Q (fun _ _ => False) s := by
  rw [show bodyOf (st 9) = [outS 0, outS 1, outS 2, outS 3, outS 4, outS 5, outS 6, outS 7, outS 8] from rfl]
  have hw0 := hm.word
  have he0 := hm.ended
  have hd0 := hm.digits
  have hm0 := hm.mirrors
  obtain ⟨tj, hj0⟩ := hm.j
  dsimp only [lawEnv]
  refine wpAny_execs_cons ?_
  conv => arg 3; arg 1; whnf
  repeat walk_at "m"
  conv => arg 3; arg 1; whnf
  repeat walk_at "m"
  conv => arg 3; arg 1; whnf
  repeat walk_at "m"
  conv => arg 3; arg 1; whnf
  repeat walk_at "m"
  conv => arg 3; arg 1; whnf
  repeat walk_at "m"
  rename_i h₁ F₁ N₁ h₂ F₂ N₂ h₃ F₃ N₃ h₄ F₄ N₄ h₅ F₅ N₅
  clear F₁ N₁ F₂ N₂ F₃ N₃ F₄ N₄
  rw [show ((k + 1 : Nat) : Int) - 1 = ((k + 1 - 1 : Nat) : Int) by omega] at F₅
  have hml := mir_len (ks.map digN) k (by omega)
  refine inner_for (x₀ := ⟨0, k, mirAll (ks.map digN) k⟩) (D := ks.map digN) (j := k + 1) W (by omega) (by omega) (by simp [hks]) (dig_digN ks) hdc hdd hdI hdg hoff hrest rfl (by dsimp only; omega) hus F₅ N₅ ⟨by walk_at "look", by walk_at "look", by walk_at "look", by walk_at "look", _, by walk_at "look"⟩ ⟨_, by walk_at "look"⟩ ⟨_, by walk_at "look"⟩ ⟨_, by walk_at "look"⟩ ⟨_, by walk_at "look"⟩ ⟨_, by walk_at "look"⟩ fun m₆ h₆ tk₆ us₆ c₆ hus₆ F₆ N₆ hm₆ hfresh₆ hlong₆ => ?_
  clear F₅ N₅
  change IntsAre us₆ (mirAll (ks.map digN) (k + 1)) at hus₆
  obtain ⟨tf, hfresh⟩ := hfresh₆
  obtain ⟨tl, hlong⟩ := hlong₆
  change m₆ _ = some (.int ((endOf (ks.map digN) k).fresh : Nat) tf) at hfresh
  change m₆ _ = some (.int ((endOf (ks.map digN) k).longest : Nat) tl) at hlong
  have hlk := end_longest (ks.map digN) k
  generalize (endOf (ks.map digN) k).longest = lo at hlong hlk hin
  generalize (endOf (ks.map digN) k).fresh = fr at hfresh hfr hin
  have hw6 := hm₆.word
  have he6 := hm₆.ended
  have hd6 := hm₆.digits
  have hm6 := hm₆.mirrors
  obtain ⟨tj6, hj6⟩ := hm₆.j
  have hell : el.length = 7 := by have := congrArg List.length hel2; simpa [hks] using this
  have hE : ∀ {h m}, News h₀ L h (ownO ++ (mi, PySem.W.listOf us₆.toArray c₆) :: rest) → Fr h₀ L h m → h.IsList ed (strValues el).toArray := fun N _ => ⟨_, (N (ed, edo) (by simp [hedm])).1, hec, ec, by rw [hed, ← hel]⟩
  dsimp only
  refine wpAny_execs_cons ?_
  conv => arg 3; arg 1; whnf
  repeat walk_at "m"
  refine GM.join ?_
  repeat walk_at "m"
  refine sl_any F₆ N₆ (hE N₆ F₆) (.int _ _) (.int _ _) (by simp [strValues, hell]) (pick_rows hell (a := lo) (b := k + 1) (by omega) (by omega)) fun D₇ h₇ F₇ N₇ _ => ?_
  have hp : ((el.take (k + 1)).drop lo).map (·.1) = ((ks.take (k + 1)).drop lo).map fun k => tx (sentN k ++ [13, 10]) := by rw [List.map_drop, List.map_take, hel2, List.map_drop, List.map_take]
  repeat walk_at "m"
  rw [s_nil]
  refine SC.join (isl N₇ (List.mem_cons_self ..)) rfl (joinOk_rows hp (by simp; omega)) fun t₇ k₇ => ?_
  rw [join_rows hp, s_tricrlf]
  refine SB.add (fun t₈ k₈ => ?_) (by
    have e : sizeLine = 16777216 := rfl
    have h1 : (tx [46, 46, 46, 13, 10]).length = 5 := rfl
    have h2 : (tx (flatR (((ks.take (k + 1)).drop lo).map sentN))).length = (flatR (((ks.take (k + 1)).drop lo).map sentN)).length := by simp [Str.length]
    have h3 := flatR_len ((ks.take (k + 1)).drop lo)
    have h4 : ((ks.take (k + 1)).drop lo).length ≤ 7 := by simp; omega
    omega)
  repeat walk_at "m"
  rw [s_tri]
  refine SB.add (fun t₉ k₉ => ?_) (by
    have e : sizeLine = 16777216 := rfl
    have h1 : (tx [46, 46, 46]).length = 3 := rfl
    have h2 : (tx [46, 46, 46, 13, 10] ++ tx (flatR (((ks.take (k + 1)).drop lo).map sentN))).length = 5 + (flatR (((ks.take (k + 1)).drop lo).map sentN)).length := by rw [tx_append]; simp [Str.length]; omega
    have h3 := flatR_len ((ks.take (k + 1)).drop lo)
    have h4 : ((ks.take (k + 1)).drop lo).length ≤ 7 := by simp; omega
    omega)
  rw [show tx [46, 46, 46, 13, 10] ++ tx (flatR (((ks.take (k + 1)).drop lo).map sentN)) ++ tx [46, 46, 46] = tx ([46, 46, 46] ++ Xof ks lo (k + 1) ++ [46, 46, 46]) by rw [tx_append, tx_append]; rfl]
  repeat walk_at "m"
  rename_i h₈ F₈ N₈
  have N₈' : News h₀ L h₈ (ownO ++ (mi, PySem.W.listOf us₆.toArray c₆) :: rest) := fun p hp => N₈ p (List.mem_cons_of_mem _ hp)
  clear N₈ N₇ F₇ hp N₆ F₆
  conv => arg 3; arg 1; whnf
  repeat walk_at "m"
  refine gK W F₈ (g_ellip _) ?_
  refine cw_def (W.k 45 _ rfl) rfl ?_
  repeat walk_at "m"
  refine GM.join ?_
  repeat walk_at "m"
  rw [show ((k + 1 : Nat) : Int) - 1 = ((k : Nat) : Int) by omega]
  refine sl_any F₈ N₈' (hE N₈' F₈) .none (.int _ _) (by simp [strValues, hell]) (pick_rows0 hell (b := k) (by omega)) fun D₇ h₇ F₇ N₇ _ => ?_
  have hp : (el.take k).map (·.1) = (ks.take k).map fun k => tx (sentN k ++ [13, 10]) := by rw [List.map_take, hel2, List.map_take]
  repeat walk_at "m"
  rw [s_nil]
  refine SC.join (isl N₇ (List.mem_cons_self ..)) rfl (joinOk_rows hp (by simp; omega)) fun t₇ k₇ => ?_
  rw [join_rows hp, s_crlf]
  refine SB.add (fun t₈ k₈ => ?_) (by
    have e : sizeLine = 16777216 := rfl
    have h1 : (tx [13, 10]).length = 2 := rfl
    have h2 : (tx (flatR ((ks.take k).map sentN))).length = (flatR ((ks.take k).map sentN)).length := by simp [Str.length]
    have h3 := flatR_len (ks.take k)
    have h4 : (ks.take k).length ≤ 7 := by simp; omega
    omega)
  rw [show tx [13, 10] ++ tx (flatR ((ks.take k).map sentN)) = tx (Gof ks k) by rw [tx_append]; rfl]
  repeat walk_at "m"
  refine ⟨F₇.keep, ?_⟩
  refine ellip_call (W.keeps F₇.keep) (law_room _ _ _) rfl (Xof ks lo (k + 1)) (Gof ks k) (Xof_tri _ _ _) (Xof_256 _ _ _) (Xof_len hks _ _) (Gof_len hks _) fun h₉ tk₉ hk₉ => ?_
  have F₉ : Fr h₀ L h₉ _ := ⟨F₇.ns.keeps hk₉, fun b o e => hk₉ b o (F₇.keep b o e), F₇.above⟩
  have N₉ : News h₀ L h₉ (ownO ++ (mi, PySem.W.listOf us₆.toArray c₆) :: rest) := fun p hp => ⟨hk₉ _ _ (N₇ p (List.mem_cons_of_mem _ hp)).1, (N₇ p (List.mem_cons_of_mem _ hp)).2⟩
  clear N₇ F₇ F₈ N₈' hp hk₉
  rw [hin]
  dsimp only
  repeat walk_at "m"
  rename_i h₅ F₅ N₅
  conv => arg 3; arg 1; whnf
  repeat walk_at "m"
  rw [if_neg (by simp; omega)]
  repeat walk_at "m"
  refine isnot_bool ?_
  rw [show (decide (fr = 0) != ((fr : Int) == 0)) = false by
    have : fr = 0 ∨ fr = 1 := by omega
    rcases this with rfl | rfl <;> decide]
  repeat walk_at "m"
  rw [if_neg Bool.false_ne_true]
  repeat walk_at "m"
  rw [if_neg Bool.false_ne_true]
  repeat walk_at "m"
  exact hQ _ h₅ _ us₆ c₆ hus₆ F₅ N₅ ⟨by walk_at "look", by walk_at "look", by walk_at "look", by walk_at "look", _, by walk_at "look"⟩
end
section
open PySem PySem.W PySem.Calls PyProof.Rows
set_option maxRecDepth 100000
set_option maxHeartbeats 8000000
set_option rowWalk.seconds 0
theorem outer_for {w : World} {h₀ : Heap} {fa L : Addr} {cd : Value} {mg mb : Str → Option Value} {ks : List Nat} {m : Str → Option Value} {wd ed dg mi : Addr} {dgo edo : Obj} {dsA esA : Array Value} {dc ec : Nat} {el : List (Str × Tok)} {rest : List (Addr × Obj)}
    {Q : Flow → Shared → Prop} {s : Shared} (W : Wd w mg mb h₀) (hks : ks.length = 7) (hdc : dgo.cls = .type "list") (hdd : dgo.data = .seq dsA dc) (hdI : IntsAre dsA.toList (ks.map digN)) (hdg : (dg, dgo) ∈ rest)
    (hec : edo.cls = .type "list") (hed : edo.data = .seq esA ec) (hel : esA.toList = strValues el) (hel2 : el.map (·.1) = ks.map fun k => tx (sentN k ++ [13, 10])) (hedm : (ed, edo) ∈ rest)
    (hrest : ∀ p ∈ rest, p.1 ≠ mi)
    (F : Fr h₀ L s.heap m) (N : News h₀ L s.heap ((mi, PySem.W.listOf #[] 0) :: rest)) (hw : m (Str.ofString "word") = some (.ref wd)) (hd : m (Str.ofString "digits") = some (.ref dg)) (he : m (Str.ofString "ended") = some (.ref ed)) (hm : m (Str.ofString "mirrors") = some (.ref mi))
    (hp : ∀ k, k < 7 → (endOf (ks.map digN) k).fresh ≤ 1 ∧ infixB (Xof ks (endOf (ks.map digN) k).longest (k + 1)) (Gof ks k) = decide ((endOf (ks.map digN) k).fresh = 0))
    (hQ : ∀ m' h' tk us' c', IntsAre us' (mirAll (ks.map digN) 7) → Fr h₀ L h' m' → News h₀ L h' ((mi, PySem.W.listOf us'.toArray c') :: rest) → m' (Str.ofString "word") = some (.ref wd) → m' (Str.ofString "mirrors") = some (.ref mi) → Q .next { s with heap := h', toks := tk }) :
    wpAny (model prg w) (lawA L fa cd) (exec (st 9) (lawEnv L fa cd)) Q (fun _ _ => False) s := by
  conv => arg 3; arg 1; whnf
  dsimp only [lawEnv]
  refine For_invVF F (by rfl) (by rfl) ?_
  repeat walk_at "m"
  refine gB W F (g_range _) b_range ?_
  repeat walk_at "m"
  refine range2_rows F N fun h₁ tk₁ t₁ u₁ v₁ R₁ F₁ N₁ _ => ?_
  refine loop_range (n := 7) (fun k m₁ news₁ => ∃ us c, IntsAre us (mirAll (ks.map digN) k) ∧ news₁ = (mi, PySem.W.listOf us.toArray c) :: rest ∧ m₁ (Str.ofString "word") = some (.ref wd) ∧ m₁ (Str.ofString "digits") = some (.ref dg) ∧ m₁ (Str.ofString "ended") = some (.ref ed) ∧ m₁ (Str.ofString "mirrors") = some (.ref mi)) rfl F₁ N₁ R₁ (small_ok (.inl rfl) (by omega) (by omega)) (by decide) ⟨[], 0, .nil, rfl, hw, hd, he, hm⟩ ?_ ?_
  · intro k ti m₁ news₁ h tk own hk hJ hno hown F N
    obtain ⟨us, c, hus, rfl, hw, hd, he, hm⟩ := hJ
    change Fr h₀ L h _ at F
    change News h₀ L h _ at N
    rw [show ((1 : Int) + (k : Int) * 1) = ((k + 1 : Nat) : Int) by omega] at F
    refine @outer_turn _ _ _ _ _ _ _ _ _ _ _ _ _ _ _ _ _ _ _ _ _ _ _ own _ _ _ W hks hk hdc hdd hdI hdg hec hed hel hel2 hedm (fun p hp e => hno (mi, PySem.W.listOf us.toArray c) (List.mem_cons_self ..) (e.symm.trans (hown p hp))) hrest hus F N ⟨by walk_at "look", by walk_at "look", by walk_at "look", by walk_at "look", _, by walk_at "look"⟩ (hp k hk).1 (hp k hk).2 fun m' h' tk' us' c' hus' F' N' hm' => ?_
    refine ⟨h', tk', m', _, rfl, F', N', fun p hp hI => ?_, us', c', hus', rfl, hm'.word, hm'.digits, hm'.ended, hm'.mirrors⟩
    have hI' := List.mem_singleton.mp hI
    rcases List.mem_cons.mp hp with rfl | hp
    · exact hno (mi, PySem.W.listOf us.toArray c) (List.mem_cons_self ..) hI'
    · exact hno p (List.mem_cons_of_mem _ hp) hI'
  · intro m₁ news₁ h tk hJ F N
    obtain ⟨us', c', hus', rfl, hw, _, _, hm⟩ := hJ
    exact hQ m₁ h tk us' c' hus' F N hw hm

theorem law_ret {w : World} {h₀ : Heap} {fa L : Addr} {cd : Value} {mg mb : Str → Option Value} {m : Str → Option Value} {wd mi : Addr} {wo : Obj} {wsA : Array Value} {wc : Nat} {ws ns : List Int} {us : List Value} {c : Nat} {news : List (Addr × Obj)} {Q : Flow → Shared → Prop} {s : Shared} (W : Wd w mg mb h₀)
    (hwc : wo.cls = .type "list") (hwd : wo.data = .seq wsA wc) (hwI : IntsAre wsA.toList ws) (hw7 : ws.length = 7) (hwm : (wd, wo) ∈ news) (hus : IntsAre us ns) (hns : ns.length ≤ 1000) (hmm : (mi, PySem.W.listOf us.toArray c) ∈ news)
    (F : Fr h₀ L s.heap m) (N : News h₀ L s.heap news) (hw : m (Str.ofString "word") = some (.ref wd)) (hm : m (Str.ofString "mirrors") = some (.ref mi))
    (hp : retPure ws = decide (ns.length = 7)) (hQ : ∀ h' tk m', Fr h₀ L h' m' → Q (.ret (.bool true)) { s with heap := h', toks := tk }) :
    wpAny (model prg w) (lawA L fa cd) (execs [st 10] (lawEnv L fa cd)) Q (fun _ _ => False) s := by
  refine wpAny_execs_cons ?_
  conv => arg 3; arg 1; whnf
  dsimp only [lawEnv]
  repeat walk_at "m"
  refine gK W F (g_mirror _) ?_
  refine cw_def (W.k 69 _ rfl) rfl ?_
  repeat walk_at "m"
  refine ⟨F.keep, ?_⟩
  refine mirror_call (vs := wsA.toList) (ws := ws) (W.keeps F.keep) (law_room _ _ _) rfl (by show callerA.units + 3 + 100 < cLine; decide) ⟨wo, (N _ hwm).1, hwc, wc, by rw [hwd]⟩ hwI (by omega) fun h₁ tk₁ hk₁ => ?_
  have F₁ : Fr h₀ L h₁ m := ⟨F.ns.keeps hk₁, fun b o e => hk₁ b o (F.keep b o e), F.above⟩
  have N₁ : News h₀ L h₁ news := fun p hp => ⟨hk₁ _ _ (N p hp).1, (N p hp).2⟩
  repeat walk_at "m"
  refine gB W F₁ (g_len _) b_len ?_
  repeat walk_at "m"
  refine call_len_list (isl N₁ hmm) (by have := hus.length; simp; omega) ?_
  repeat walk_at "m"
  refine eq_bool ?_
  have e : (retPure ws == (((us.toArray.size : Nat) : Int) == 7)) = true := by
    rw [hp, show us.toArray.size = ns.length by simp [hus.length]]
    by_cases h : ns.length = 7
    · rw [h]; decide
    · rw [decide_eq_false h, show (((ns.length : Nat) : Int) == 7) = false by simp; omega]; rfl
  rw [e]
  exact hQ h₁ _ m F₁

/-- what the word must answer for -/
def PureOk (ks : List Nat) : Prop :=
  (∀ k, k < 7 → (endOf (ks.map digN) k).fresh ≤ 1 ∧ infixB (Xof ks (endOf (ks.map digN) k).longest (k + 1)) (Gof ks k) = decide ((endOf (ks.map digN) k).fresh = 0)) ∧ retPure (ks.map Int.ofNat) = decide ((mirAll (ks.map digN) 7).length = 7)

theorem law_body {w : World} {h₀ : Heap} {fa L : Addr} {cd : Value} {mg mb : Str → Option Value} {sc : Addr} {vs : List Value} {ns : List Int} {Q : Flow → Shared → Prop} {s : Shared}
    (hp : ∀ ks : List Nat, ks.length = 7 → (∀ k ∈ ks, k < 3) → PureOk ks)
    (W : Wd w mg mb h₀) (hl : h₀.IsList sc vs.toArray) (hv : IntsAre vs ns) (hlen : ns.length ≤ 1000) (F : Fr h₀ L s.heap (fun x => List.lookup x [(Str.ofString "script", Value.ref sc)]))
    (hQ : ∀ h' tk m', Fr h₀ L h' m' → Q (.ret (.bool true)) { s with heap := h', toks := tk }) :
    wpAny (model prg w) (lawA L fa cd) (execs (bodyOf law) (lawEnv L fa cd)) Q (fun _ _ => False) s := by
  refine @law_s1 _ _ _ _ _ _ _ _ _ _ _ _ W hl hv hlen F fun nb us n m₁ h₁ tk₁ hn hI ⟨c, N₁⟩ F₁ hm₁ => ?_
  refine law_s3 hn hI N₁ F₁ hm₁ fun wd wo ws c' m₂ h₂ tk₂ hwc hwd hwI N₂ F₂ hm₂ hw₂ => ?_
  refine law_s4 hn hI N₂ F₂ hm₂ hw₂ fun m₃ h₃ tk₃ t₃ N₃ F₃ hw₃ hm₃ => ?_
  refine law_s5 W hn N₃ F₃ hw₃ hm₃ fun m₄ h₄ tk₄ rw l hl₄ N₄ hne₄ F₄ hw₄ hr₄ => ?_
  refine law_s6 hn hwc hwd hwI hl₄ N₄ F₄ hw₄ hr₄ fun h₅ tk₅ N₅ F₅ => ?_
  have hks : (n.map fun a => a.toNat % 3).length = 7 := by rw [List.length_map]; exact hn.1
  have hk3 : ∀ k ∈ n.map fun a => a.toNat % 3, k < 3 := fun k hk => by obtain ⟨a, _, rfl⟩ := List.mem_map.mp hk; exact Nat.mod_lt _ (by decide)
  have hl₅ : l.map (·.1) = ((n.map fun a => a.toNat % 3).map fun k => tx (sentN k)) ++ [tx []] := by rw [hl₄, List.map_map]; rfl
  have hws : (n.map fun a => a.fmod 3) = (n.map fun a => a.toNat % 3).map Int.ofNat := by
    rw [List.map_map]
    apply List.map_congr_left
    intro a ha
    exact (nine_mod (hn.2 a ha)).1
  rw [hws] at hwI
  obtain ⟨hp1, hp2⟩ := hp _ hks hk3
  generalize (n.map fun a => a.toNat % 3) = ks at hks hk3 hl₅ hwI hp1 hp2
  refine law_s7 W hks hl₅ N₅ F₅ hw₄ hr₄ fun dg dgo ds c₆ m₆ h₆ tk₆ hdc hdd hdI N₆ F₆ hw₆ hr₆ hd₆ => ?_
  refine law_s8 hks hl₅ N₆ F₆ hw₆ hr₆ hd₆ fun mi ed edo el es c₇ m₇ h₇ tk₇ hec hed hel hel2 N₇ hne₇ F₇ hw₇ hd₇ he₇ hm₇ => ?_
  rw [show (bodyOf law).drop 9 = [st 9, st 10] from rfl]
  refine wpAny_execs_cons ?_
  refine outer_for W hks hdc hdd hdI (by simp) hec hed hel hel2 (by simp) hne₇ F₇ N₇ hw₇ hd₇ he₇ hm₇ hp1 fun m₈ h₈ tk₈ us₈ c₈ hus₈ F₈ N₈ hw₈ hm₈ => ?_
  have hml := mir_len (ks.map digN) 7 (Nat.le_refl _)
  exact law_ret W hwc hwd hwI (by rw [List.length_map]; exact hks) (by simp) hus₈ (by omega) (List.mem_cons_self ..) F₈ N₈ hw₈ hm₈ hp2 hQ
end
section
open PySem PySem.W PySem.Calls PyProof.Rows
set_option maxRecDepth 100000
set_option maxHeartbeats 8000000
theorem wp_same {α : Type} {M : Model} {A A' : Around} {c c' : Sem α} {Q : α → Shared → Prop} {E : Value → Shared → Prop} {s : Shared} (hA : A = A') (hc : c = c') (h : wpAny M A' c' Q E s) : wpAny M A c Q E s := by
  rw [hA, hc]; exact h
theorem holds_of (hp : ∀ ks : List Nat, ks.length = 7 → (∀ k ∈ ks, k < 3) → PureOk ks) : PySem.Challenge.rw_re0013_01.Holds := hd (by
  k_go0
  rename_i s₁ mg mb G Y fa o pm doc kV ho hg K X V GL T B TE TW a b M c d hcd ns hs hlay0 hL1 hr1 hl2 e f g vs i hl ra w1 r0 hI hr hlen hc2 K0 hD h₁ F N
  have h5 : ns.length ≤ 1000 := by omega
  have h6 : Wd _ mg mb s₁.heap := ⟨K, topRead_of T⟩
  have h7 : Fr s₁.heap s₁.heap.objs.size h₁ (fun x => List.lookup x [(Str.ofString "script", Value.ref g)]) := F
  clear hcd hD K0 T TE TW B GL X V G Y M hr1 hr hs hlay0 hL1 hl2 ra w1 r0
  refine @wpAny_mono _ _ _ _ _ _ _ _ _ ?hb (fun _ _ q => q) (fun _ _ q => False.elim q)
  refine @law_body _ _ _ _ _ _ _ _ _ _ _ _ hp h6 hl hI h5 h7 ?hQ
  intro h' tk m' F'
  refine goodW_bool F' (by assumption) (fun _ => rfl) ?_
  wrow_post)
end
section
noncomputable section
/-- a word in base 4, its first letter lowest -/
def codeL (l : List Nat) : Nat := List.rec (motive := fun _ => Nat) 0 (fun k _ ih => Nat.add k (Nat.mul 4 ih)) l
def fsub (c i n : Nat) : Nat := Nat.mod (Nat.div c (Nat.pow 4 i)) (Nat.pow 4 n)
def fpal (c r i n : Nat) : Bool := Nat.beq (fsub c i n) (fsub r (Nat.sub (Nat.sub 7 i) n) n)
def eqB (a b : Bool) : Bool := cond a b (cond b false true)
structure FInn where
  fresh : Nat
  longest : Nat
  keys : List Nat
def memB (v : Nat) (l : List Nat) : Bool := List.rec (motive := fun _ => Bool) false (fun k _ ih => cond (Nat.beq k v) true ih) l
def fKey (c i n : Nat) : Nat := Nat.add (fsub c i n) (Nat.pow 4 n)
def fStep2 (key i : Nat) (x : FInn) : FInn := cond (memB key x.keys) ⟨x.fresh, i, x.keys⟩ ⟨Nat.succ x.fresh, i, key :: x.keys⟩
def fStep (c r j i : Nat) (x : FInn) : FInn := cond (fpal c r i (Nat.sub j i)) (fStep2 (fKey c i (Nat.sub j i)) i x) x
def fInn (c r j k : Nat) (x : FInn) : FInn := Nat.rec (motive := fun _ => FInn) x (fun k ih => fStep c r j (Nat.sub (Nat.sub j 1) k) ih) k
def fHas (c v n m : Nat) : Bool := Nat.rec (motive := fun _ => Bool) false (fun a ih => cond (Nat.beq (fsub c a n) v) true ih) m
def fEnd (c v n f : Nat) : Nat → Nat := Nat.rec (motive := fun _ => Nat → Nat) (fun k => k) (fun _ ih k => cond (Nat.ble (Nat.add k n) 7) (cond (Nat.beq (fsub c k n) v) k (ih (Nat.succ k))) k) f
def fTurn2 (c r i n k : Nat) : Bool := cond (Nat.ble (Nat.add k n) 7) (fpal c r i (Nat.sub (Nat.add k n) i)) true
def fTurn (c r i n : Nat) : Bool := cond (fpal c r i n) (fTurn2 c r i n (fEnd c (fsub c i n) n (Nat.sub 7 i) (Nat.succ i))) true
def fAll (p : Nat → Bool) (n : Nat) : Bool := Nat.rec (motive := fun _ => Bool) true (fun n ih => cond (p n) ih false) n
def fRet (c r : Nat) : Bool := fAll (fun i => fAll (fun d => fTurn c r i (Nat.succ d)) (Nat.sub 7 i)) 7
def lenB (l : List Nat) : Nat := List.rec (motive := fun _ => Nat) 0 (fun _ _ ih => Nat.succ ih) l
def fChk (c jj : Nat) (e : FInn) : Bool := cond (Nat.ble e.fresh 1) (eqB (fHas c (fsub c e.longest (Nat.sub (Nat.succ jj) e.longest)) (Nat.sub (Nat.succ jj) e.longest) e.longest) (Nat.beq e.fresh 0)) false
def fGo2 (c jj : Nat) (go : List Nat → Bool) (e : FInn) : Bool := cond (fChk c jj e) (go e.keys) false
def fGo (c r f : Nat) : Nat → List Nat → Bool := Nat.rec (motive := fun _ => Nat → List Nat → Bool) (fun _ keys => eqB (fRet c r) (Nat.beq (lenB keys) 7))
  (fun _ ih jj keys => fGo2 c jj (ih (Nat.succ jj)) (fInn c r (Nat.succ jj) (Nat.succ jj) ⟨0, jj, keys⟩)) f
def fWord (a b c d e f g : Nat) : Bool := fGo (codeL [a, b, c, d, e, f, g]) (codeL [g, f, e, d, c, b, a]) 7 0 []
def all3 (p : Nat → Bool) : Bool := cond (p 0) (cond (p 1) (p 2) false) false
def chk (a b c : Nat) : Bool := all3 fun d => all3 fun e => all3 fun f => all3 fun g => fWord a b c d e f g
end
set_option maxRecDepth 100000
theorem chk000 : chk 0 0 0 = true := by decide +kernel
theorem chk001 : chk 0 0 1 = true := by decide +kernel
theorem chk002 : chk 0 0 2 = true := by decide +kernel
theorem chk010 : chk 0 1 0 = true := by decide +kernel
theorem chk011 : chk 0 1 1 = true := by decide +kernel
theorem chk012 : chk 0 1 2 = true := by decide +kernel
theorem chk020 : chk 0 2 0 = true := by decide +kernel
theorem chk021 : chk 0 2 1 = true := by decide +kernel
theorem chk022 : chk 0 2 2 = true := by decide +kernel
theorem chk100 : chk 1 0 0 = true := by decide +kernel
theorem chk101 : chk 1 0 1 = true := by decide +kernel
theorem chk102 : chk 1 0 2 = true := by decide +kernel
theorem chk110 : chk 1 1 0 = true := by decide +kernel
theorem chk111 : chk 1 1 1 = true := by decide +kernel
theorem chk112 : chk 1 1 2 = true := by decide +kernel
theorem chk120 : chk 1 2 0 = true := by decide +kernel
theorem chk121 : chk 1 2 1 = true := by decide +kernel
theorem chk122 : chk 1 2 2 = true := by decide +kernel
theorem chk200 : chk 2 0 0 = true := by decide +kernel
theorem chk201 : chk 2 0 1 = true := by decide +kernel
theorem chk202 : chk 2 0 2 = true := by decide +kernel
theorem chk210 : chk 2 1 0 = true := by decide +kernel
theorem chk211 : chk 2 1 1 = true := by decide +kernel
theorem chk212 : chk 2 1 2 = true := by decide +kernel
theorem chk220 : chk 2 2 0 = true := by decide +kernel
theorem chk221 : chk 2 2 1 = true := by decide +kernel
theorem chk222 : chk 2 2 2 = true := by decide +kernel
theorem chk_all : ∀ a b c : Nat, a < 3 → b < 3 → c < 3 → chk a b c = true
  | 0, 0, 0, _, _, _ => chk000
  | 0, 0, 1, _, _, _ => chk001
  | 0, 0, 2, _, _, _ => chk002
  | 0, 1, 0, _, _, _ => chk010
  | 0, 1, 1, _, _, _ => chk011
  | 0, 1, 2, _, _, _ => chk012
  | 0, 2, 0, _, _, _ => chk020
  | 0, 2, 1, _, _, _ => chk021
  | 0, 2, 2, _, _, _ => chk022
  | 1, 0, 0, _, _, _ => chk100
  | 1, 0, 1, _, _, _ => chk101
  | 1, 0, 2, _, _, _ => chk102
  | 1, 1, 0, _, _, _ => chk110
  | 1, 1, 1, _, _, _ => chk111
  | 1, 1, 2, _, _, _ => chk112
  | 1, 2, 0, _, _, _ => chk120
  | 1, 2, 1, _, _, _ => chk121
  | 1, 2, 2, _, _, _ => chk122
  | 2, 0, 0, _, _, _ => chk200
  | 2, 0, 1, _, _, _ => chk201
  | 2, 0, 2, _, _, _ => chk202
  | 2, 1, 0, _, _, _ => chk210
  | 2, 1, 1, _, _, _ => chk211
  | 2, 1, 2, _, _, _ => chk212
  | 2, 2, 0, _, _, _ => chk220
  | 2, 2, 1, _, _, _ => chk221
  | 2, 2, 2, _, _, _ => chk222
  | a + 3, _, _, h, _, _ => absurd h (by omega)
  | _, b + 3, _, _, h, _ => absurd h (by omega)
  | _, _, c + 3, _, _, h => absurd h (by omega)
theorem all3_true {p : Nat → Bool} (h : all3 p = true) : ∀ x, x < 3 → p x = true := by
  unfold all3 at h
  cases h0 : p 0 <;> rw [h0] at h
  · exact absurd h Bool.false_ne_true
  cases h1 : p 1 <;> rw [h1] at h
  · exact absurd h Bool.false_ne_true
  have h2 : p 2 = true := h
  intro x hx
  match x, hx with
  | 0, _ => exact h0
  | 1, _ => exact h1
  | 2, _ => exact h2
  | x + 3, hx => exact absurd hx (by omega)
theorem word_all {a b c d e f g : Nat} (ha : a < 3) (hb : b < 3) (hc : c < 3) (hd : d < 3) (he : e < 3) (hf : f < 3) (hg : g < 3) : fWord a b c d e f g = true :=
  all3_true (all3_true (all3_true (all3_true (chk_all a b c ha hb hc) d hd) e he) f hf) g hg
end
section
open PySem PySem.W PySem.Calls PyProof.Rows
set_option maxRecDepth 100000
theorem natBeq (a b : Nat) : Nat.beq a b = decide (a = b) := by
  rw [Bool.eq_iff_iff, Nat.beq_eq, decide_eq_true_eq]
theorem natBle (a b : Nat) : Nat.ble a b = decide (a ≤ b) := by
  rw [Bool.eq_iff_iff, Nat.ble_eq, decide_eq_true_eq]
theorem eqB_eq {a b : Bool} (h : eqB a b = true) : a = b := by
  cases a <;> cases b <;> first | rfl | exact absurd h Bool.false_ne_true
theorem codeL_cons (k : Nat) (l : List Nat) : codeL (k :: l) = k + 4 * codeL l := rfl
def Ok3 (l : List Nat) : Prop := ∀ k ∈ l, k < 3
theorem Ok3.tail {k : Nat} {l : List Nat} (h : Ok3 (k :: l)) : Ok3 l := fun x hx => h x (List.mem_cons_of_mem _ hx)
theorem Ok3.head {k : Nat} {l : List Nat} (h : Ok3 (k :: l)) : k < 3 := h k (List.mem_cons_self ..)
theorem Ok3.drop {l : List Nat} (h : Ok3 l) (i : Nat) : Ok3 (l.drop i) := fun x hx => h x (List.mem_of_mem_drop hx)
theorem Ok3.take {l : List Nat} (h : Ok3 l) (i : Nat) : Ok3 (l.take i) := fun x hx => h x (List.mem_of_mem_take hx)
theorem Ok3.rev {l : List Nat} (h : Ok3 l) : Ok3 l.reverse := fun x hx => h x (List.mem_reverse.mp hx)
theorem code_lt : ∀ l : List Nat, Ok3 l → codeL l < 4 ^ l.length
  | [], _ => by show 0 < 4 ^ 0; decide
  | k :: l, h => by
    have := code_lt l h.tail
    have hk := h.head
    rw [codeL_cons, List.length_cons, Nat.pow_succ]; omega
theorem code_drop : ∀ (l : List Nat) (i : Nat), Ok3 l → codeL (l.drop i) = codeL l / 4 ^ i
  | l, 0, _ => by simp
  | [], i + 1, _ => by show 0 = 0 / _; simp
  | k :: l, i + 1, h => by
    have hk := h.head
    rw [List.drop_succ_cons, code_drop l i h.tail, codeL_cons, Nat.pow_succ, Nat.mul_comm (4 ^ i) 4, ← Nat.div_div_eq_div_mul, show (k + 4 * codeL l) / 4 = codeL l by omega]
theorem code_take : ∀ (l : List Nat) (n : Nat), Ok3 l → codeL (l.take n) = codeL l % 4 ^ n
  | l, 0, _ => by rw [List.take_zero, Nat.pow_zero, Nat.mod_one]; rfl
  | [], n + 1, _ => by show 0 = 0 % _; simp
  | k :: l, n + 1, h => by
    have hk := h.head
    rw [List.take_succ_cons, codeL_cons, code_take l n h.tail, codeL_cons, Nat.pow_succ, Nat.mul_comm (4 ^ n) 4, Nat.mod_mul, show (k + 4 * codeL l) % 4 = k by omega, show (k + 4 * codeL l) / 4 = codeL l by omega]
theorem code_inj : ∀ l l' : List Nat, l.length = l'.length → Ok3 l → Ok3 l' → codeL l = codeL l' → l = l'
  | [], [], _, _, _, _ => rfl
  | [], _ :: _, h, _, _, _ => by simp at h
  | _ :: _, [], h, _, _, _ => by simp at h
  | k :: l, k' :: l', h, h1, h2, e => by
    have a := h1.head
    have b := h2.head
    rw [codeL_cons, codeL_cons] at e
    have ek : k = k' := by omega
    rw [code_inj l l' (by simpa using h) h1.tail h2.tail (by omega), ek]
/-- the stretch of n letters from i on -/
def stretch (ks : List Nat) (i n : Nat) : List Nat := (ks.drop i).take n
theorem stretch_ok {ks : List Nat} (h : Ok3 ks) (i n : Nat) : Ok3 (stretch ks i n) := (h.drop i).take n
theorem stretch_len {ks : List Nat} {i n : Nat} (h : i + n ≤ ks.length) : (stretch ks i n).length = n := by unfold stretch; simp; omega
theorem fsub_eq {ks : List Nat} (h : Ok3 ks) (i n : Nat) : fsub (codeL ks) i n = codeL (stretch ks i n) := by
  unfold stretch
  rw [code_take _ _ (h.drop i), code_drop _ _ h]; rfl
theorem stretch_rev {ks : List Nat} {i n : Nat} (h : i + n ≤ ks.length) : stretch ks.reverse (ks.length - i - n) n = (stretch ks i n).reverse := by
  unfold stretch
  rw [List.drop_reverse, show ks.length - (ks.length - i - n) = i + n by omega, List.take_reverse, List.length_take, show min (i + n) ks.length - n = i by omega, List.drop_take, show i + n - i = n by omega]
theorem stretch_code {ks ls : List Nat} {i a n : Nat} (h : Ok3 ks) (h' : Ok3 ls) (hi : i + n ≤ ks.length) (ha : a + n ≤ ls.length) : codeL (stretch ks i n) = codeL (stretch ls a n) ↔ stretch ks i n = stretch ls a n :=
  ⟨code_inj _ _ (by rw [stretch_len hi, stretch_len ha]) (stretch_ok h _ _) (stretch_ok h' _ _), fun e => by rw [e]⟩
theorem fpal_eq {ks : List Nat} (h7 : ks.length = 7) (h : Ok3 ks) {i n : Nat} (hi : i + n ≤ 7) : fpal (codeL ks) (codeL ks.reverse) i n = decide (stretch ks i n = (stretch ks i n).reverse) := by
  have e : stretch ks.reverse (7 - i - n) n = (stretch ks i n).reverse := by rw [← h7]; exact stretch_rev (by omega)
  unfold fpal
  rw [natBeq, fsub_eq h, fsub_eq h.rev]
  show decide (_ = codeL (stretch ks.reverse (7 - i - n) n)) = _
  rw [Bool.eq_iff_iff, decide_eq_true_eq, decide_eq_true_eq, stretch_code h h.rev (by omega) (by simp; omega), e]
/-! the numbers of the stretches -/
def vOf (l : List Nat) : Int := val64 (l.map digN)
noncomputable def kOf (l : List Nat) : Nat := codeL l + 4 ^ l.length
noncomputable def wOf : List Nat → Int
  | [] => 0
  | k :: l => wOf l * 64 + digN k
theorem vOf_rev : ∀ l : List Nat, vOf l.reverse = wOf l
  | [] => rfl
  | k :: l => by
    unfold vOf
    rw [List.reverse_cons, List.map_append, List.map_cons, List.map_nil, val64_append]
    have := vOf_rev l
    unfold vOf at this
    rw [this]; rfl
theorem digN_pos (k : Nat) : 1 ≤ digN k ∧ digN k < 64 := by
  unfold digN
  split
  · decide
  · split <;> decide
theorem digN_inj {a b : Nat} (ha : a < 3) (hb : b < 3) (h : digN a = digN b) : a = b := by
  match a, b, ha, hb with
  | 0, 0, _, _ => rfl
  | 1, 1, _, _ => rfl
  | 2, 2, _, _ => rfl
  | 0, 1, _, _ => exact absurd h (by decide)
  | 0, 2, _, _ => exact absurd h (by decide)
  | 1, 0, _, _ => exact absurd h (by decide)
  | 1, 2, _, _ => exact absurd h (by decide)
  | 2, 0, _, _ => exact absurd h (by decide)
  | 2, 1, _, _ => exact absurd h (by decide)
  | a + 3, _, ha, _ => exact absurd ha (by omega)
  | _, b + 3, _, hb => exact absurd hb (by omega)
theorem wOf_nonneg : ∀ l, 0 ≤ wOf l
  | [] => Int.le_refl _
  | k :: l => by
    have := wOf_nonneg l
    have := digN_pos k
    show 0 ≤ wOf l * 64 + digN k
    omega
theorem wOf_inj : ∀ l l' : List Nat, Ok3 l → Ok3 l' → wOf l = wOf l' → l = l'
  | [], [], _, _, _ => rfl
  | [], k :: l, _, _, h => by
    have := wOf_nonneg l
    have := digN_pos k
    change 0 = wOf l * 64 + digN k at h
    omega
  | k :: l, [], _, _, h => by
    have := wOf_nonneg l
    have := digN_pos k
    change wOf l * 64 + digN k = 0 at h
    omega
  | k :: l, k' :: l', h1, h2, h => by
    have a := digN_pos k
    have b := digN_pos k'
    change wOf l * 64 + digN k = wOf l' * 64 + digN k' at h
    rw [wOf_inj l l' h1.tail h2.tail (by omega), digN_inj h1.head h2.head (by omega)]
theorem vOf_inj {l l' : List Nat} (h : Ok3 l) (h' : Ok3 l') (e : vOf l = vOf l') : l = l' := by
  have a := vOf_rev l.reverse
  have b := vOf_rev l'.reverse
  rw [List.reverse_reverse] at a b
  have := wOf_inj _ _ h.rev h'.rev (by rw [← a, ← b, e])
  exact List.reverse_inj.mp this
theorem kOf_inj {l l' : List Nat} (h : Ok3 l) (h' : Ok3 l') (e : kOf l = kOf l') : l = l' := by
  have a := code_lt l h
  have b := code_lt l' h'
  unfold kOf at e
  have hlen : l.length = l'.length := by
    rcases Nat.lt_trichotomy l.length l'.length with q | q | q
    · have : 4 ^ (l.length + 1) ≤ 4 ^ l'.length := Nat.pow_le_pow_right (by decide) q
      rw [Nat.pow_succ] at this; omega
    · exact q
    · have : 4 ^ (l'.length + 1) ≤ 4 ^ l.length := Nat.pow_le_pow_right (by decide) q
      rw [Nat.pow_succ] at this; omega
  rw [hlen] at e
  exact code_inj l l' hlen h h' (by omega)
theorem memB_eq (v : Nat) : ∀ l : List Nat, memB v l = decide (v ∈ l)
  | [] => by simp; rfl
  | k :: l => by
    show cond (Nat.beq k v) true (memB v l) = _
    rw [memB_eq v l, natBeq]
    by_cases h : k = v
    · simp [h]
    · have h' : ¬ v = k := fun e => h e.symm
      simp [h, h']
theorem lenB_eq : ∀ l : List Nat, lenB l = l.length
  | [] => rfl
  | _ :: l => by show Nat.succ (lenB l) = _; rw [lenB_eq l]; rfl
end
section
open PySem PySem.W PySem.Calls PyProof.Rows
set_option maxRecDepth 100000
/-! rows of texts: one stands in the other just if the words do -/
theorem inf_iff {X L : List Nat} : (∃ i, i + X.length ≤ L.length ∧ (L.drop i).take X.length = X) ↔ ∃ s t, L = s ++ X ++ t := by
  constructor
  · rintro ⟨i, _, h⟩
    refine ⟨L.take i, (L.drop i).drop X.length, ?_⟩
    have e1 := List.take_append_drop i L
    have e2 := List.take_append_drop X.length (L.drop i)
    rw [h] at e2
    rw [List.append_assoc, e2, e1]
  · rintro ⟨s, t, rfl⟩
    refine ⟨s.length, by simp, ?_⟩
    rw [List.append_assoc, List.drop_left, List.take_left]
def fl (v : List Nat) : List Nat := flatR (v.map sentN)
theorem fl_cons (k : Nat) (v : List Nat) : fl (k :: v) = sentN k ++ (13 :: 10 :: fl v) := by unfold fl; rw [List.map_cons, flatR_cons]
theorem fl_append : ∀ a b : List Nat, fl (a ++ b) = fl a ++ fl b
  | [], _ => rfl
  | k :: a, b => by rw [List.cons_append, fl_cons, fl_cons, fl_append a b]; simp
theorem fl_end : ∀ a : List Nat, ∃ s, 13 :: 10 :: fl a = s ++ [13, 10]
  | [] => ⟨[], rfl⟩
  | k :: a => by
    obtain ⟨s, hs⟩ := fl_end a
    exact ⟨13 :: 10 :: (sentN k ++ s), by rw [fl_cons, hs]; simp⟩
theorem fl_pre : ∀ (u v q : List Nat), Ok3 u → Ok3 v → fl v = fl u ++ q → ∃ b, v = u ++ b
  | [], v, _, _, _, _ => ⟨v, rfl⟩
  | k :: u, [], q, _, _, h => by
    obtain ⟨c, r, hc⟩ := sentN_cons k
    rw [fl_cons, hc] at h
    exact absurd h (by simp [fl, flatR])
  | k :: u, k' :: v, q, hu, hv, h => by
    rw [fl_cons, fl_cons] at h
    have e : k' = k ∧ fl v = fl u ++ q := by
      match k', k, hv.head, hu.head with
      | 0, 0, _, _ => exact ⟨rfl, by simpa [sentN] using h⟩
      | 1, 1, _, _ => exact ⟨rfl, by simpa [sentN] using h⟩
      | 2, 2, _, _ => exact ⟨rfl, by simpa [sentN] using h⟩
      | 0, 1, _, _ => exact absurd h (by simp [sentN])
      | 0, 2, _, _ => exact absurd h (by simp [sentN])
      | 1, 0, _, _ => exact absurd h (by simp [sentN])
      | 1, 2, _, _ => exact absurd h (by simp [sentN])
      | 2, 0, _, _ => exact absurd h (by simp [sentN])
      | 2, 1, _, _ => exact absurd h (by simp [sentN])
      | a + 3, _, ha, _ => exact absurd ha (by omega)
      | _, b + 3, _, hb => exact absurd hb (by omega)
    obtain ⟨b, hb⟩ := fl_pre u v q hu.tail hv.tail e.2
    exact ⟨b, by rw [e.1, hb]; rfl⟩
theorem fl_inf (u q : List Nat) (hu : Ok3 u) : ∀ (v s : List Nat), Ok3 v → 13 :: 10 :: fl v = s ++ (13 :: 10 :: (fl u ++ q)) → ∃ a b, v = a ++ u ++ b
  | v, [], hv, h => by
    have h' : fl v = fl u ++ q := by simpa using h
    obtain ⟨b, hb⟩ := fl_pre u v q hu hv h'
    exact ⟨[], b, by simpa using hb⟩
  | _, [x], _, h => by simp at h
  | [], x :: y :: s, _, h => by
    have := congrArg List.length h
    simp [fl, flatR] at this
  | k :: v, x :: y :: s, hv, h => by
    have h1 : sentN k ++ (13 :: 10 :: fl v) = s ++ (13 :: 10 :: (fl u ++ q)) := by
      rw [fl_cons] at h
      simp only [List.cons_append, List.cons.injEq] at h
      exact h.2.2
    have h2 : ∃ s', 13 :: 10 :: fl v = s' ++ (13 :: 10 :: (fl u ++ q)) := by
      rcases sentN_cases k with e | e | e <;> rw [e] at h1
      · match s, h1 with
        | [], h1 => simp at h1
        | _ :: s', h1 => exact ⟨s', by simp only [List.cons_append, List.nil_append, List.cons.injEq] at h1; exact h1.2⟩
      · match s, h1 with
        | [], h1 => simp at h1
        | _ :: s', h1 => exact ⟨s', by simp only [List.cons_append, List.nil_append, List.cons.injEq] at h1; exact h1.2⟩
      · match s, h1 with
        | [], h1 => simp at h1
        | [_], h1 => simp at h1
        | _ :: _ :: s', h1 => exact ⟨s', by simp only [List.cons_append, List.nil_append, List.cons.injEq] at h1; exact h1.2.2⟩
    obtain ⟨s', h3⟩ := h2
    obtain ⟨a, b, hab⟩ := fl_inf u q hu v s' hv.tail h3
    exact ⟨k :: a, b, by rw [hab]; simp⟩
theorem rows_inf {u v : List Nat} (hu : Ok3 u) (hv : Ok3 v) : infixB ([13, 10] ++ fl u) ([13, 10] ++ fl v) = true ↔ ∃ a, a + u.length ≤ v.length ∧ (v.drop a).take u.length = u := by
  rw [infixB_iff, inf_iff, inf_iff]
  constructor
  · rintro ⟨s, t, h⟩
    exact fl_inf u t hu v s hv (by simpa using h)
  · rintro ⟨a, b, rfl⟩
    obtain ⟨s, hs⟩ := fl_end a
    refine ⟨s, fl b, ?_⟩
    rw [fl_append, fl_append]
    show 13 :: 10 :: (fl a ++ fl u ++ fl b) = _
    rw [show 13 :: 10 :: (fl a ++ fl u ++ fl b) = (13 :: 10 :: fl a) ++ (fl u ++ fl b) by simp, hs]
    simp
theorem rows_stretch {ks : List Nat} (h7 : ks.length = 7) (h : Ok3 ks) {lo jj : Nat} (hlo : lo ≤ jj) (hj : jj < 7) :
    infixB (Xof ks lo (jj + 1)) (Gof ks jj) = decide (∃ a, a < lo ∧ stretch ks a (jj + 1 - lo) = stretch ks lo (jj + 1 - lo)) := by
  have eu : (ks.take (jj + 1)).drop lo = stretch ks lo (jj + 1 - lo) := by unfold stretch; rw [List.drop_take]
  have hl : (stretch ks lo (jj + 1 - lo)).length = jj + 1 - lo := stretch_len (by omega)
  rw [Bool.eq_iff_iff, decide_eq_true_eq]
  unfold Xof Gof
  rw [eu]
  refine (rows_inf (stretch_ok h _ _) (h.take jj)).trans ?_
  rw [hl]
  have hv : (ks.take jj).length = jj := by simp; omega
  rw [hv]
  constructor
  · rintro ⟨a, h1, h2⟩
    refine ⟨a, by omega, ?_⟩
    rw [← h2, List.drop_take, List.take_take, show min (jj + 1 - lo) (jj - a) = jj + 1 - lo by omega]; rfl
  · rintro ⟨a, h1, h2⟩
    refine ⟨a, by omega, ?_⟩
    rw [← h2, List.drop_take, List.take_take, show min (jj + 1 - lo) (jj - a) = jj + 1 - lo by omega]; rfl
end
section
open PySem PySem.W PySem.Calls PyProof.Rows
set_option maxRecDepth 100000
theorem pySl_stretch (f : Nat → Int) {ks : List Nat} (h7 : ks.length = 7) {i j : Nat} (hj : j ≤ 7) : pySl (ks.map f) i j = (stretch ks i (j - i)).map f := by
  unfold pySl stretch
  rw [List.length_map, h7, Nat.min_eq_left hj, List.map_take, List.map_drop]
/-- the law's state, and the check's -/
structure Rel (x : Inn) (y : FInn) : Prop where
  fresh : x.fresh = y.fresh
  longest : x.longest = y.longest
  keys : ∃ Ms : List (List Nat), (∀ l ∈ Ms, Ok3 l) ∧ x.mirrors = Ms.map vOf ∧ y.keys = (Ms.map kOf).reverse
theorem any_vOf {Ms : List (List Nat)} (hM : ∀ l ∈ Ms, Ok3 l) {p : List Nat} (hp : Ok3 p) : (Ms.map vOf).any (· == vOf p) = decide (p ∈ Ms) := by
  rw [Bool.eq_iff_iff, List.any_eq_true, decide_eq_true_eq]
  constructor
  · rintro ⟨v, hv, e⟩
    obtain ⟨l, hl, rfl⟩ := List.mem_map.mp hv
    rw [← vOf_inj (hM l hl) hp (by simpa using e)]; exact hl
  · intro h
    exact ⟨_, List.mem_map_of_mem h, by simp⟩
theorem mem_kOf {Ms : List (List Nat)} (hM : ∀ l ∈ Ms, Ok3 l) {p : List Nat} (hp : Ok3 p) : memB (kOf p) (Ms.map kOf).reverse = decide (p ∈ Ms) := by
  rw [memB_eq, Bool.eq_iff_iff, decide_eq_true_eq, decide_eq_true_eq, List.mem_reverse]
  constructor
  · intro h
    obtain ⟨l, hl, e⟩ := List.mem_map.mp h
    rw [← kOf_inj (hM l hl) hp e]; exact hl
  · exact fun h => List.mem_map_of_mem h
theorem rel_step {ks : List Nat} (h7 : ks.length = 7) (h : Ok3 ks) {x : Inn} {y : FInn} (r : Rel x y) {i j : Nat} (hij : i ≤ j) (hj : j ≤ 7) :
    Rel (innStep (ks.map digN) j i x) (fStep (codeL ks) (codeL ks.reverse) j i y) := by
  have hp : Ok3 (stretch ks i (j - i)) := stretch_ok h _ _
  have hl : (stretch ks i (j - i)).length = j - i := stretch_len (by omega)
  have ek : fKey (codeL ks) i (Nat.sub j i) = kOf (stretch ks i (j - i)) := by
    unfold kOf fKey
    rw [hl, fsub_eq h]; rfl
  have ep : fpal (codeL ks) (codeL ks.reverse) i (Nat.sub j i) = decide (stretch ks i (j - i) = (stretch ks i (j - i)).reverse) := fpal_eq h7 h (by show i + (j - i) ≤ 7; omega)
  have ev : val64 (pySl (ks.map digN) i j) = vOf (stretch ks i (j - i)) := by rw [pySl_stretch digN h7 hj]; rfl
  have er : val64 (pySl (ks.map digN) i j).reverse = vOf (stretch ks i (j - i)).reverse := by rw [pySl_stretch digN h7 hj, ← List.map_reverse]; rfl
  unfold innStep fStep
  dsimp only
  rw [ep, ev, er, ek]
  generalize stretch ks i (j - i) = p at hp
  obtain ⟨hf, hlo, Ms, hM, hm, hk⟩ := r
  by_cases hpal : p = p.reverse
  · rw [if_pos (by rw [← hpal]), decide_eq_true hpal, cond_true]
    unfold fStep2
    rw [hm, any_vOf hM hp, hk, mem_kOf hM hp]
    by_cases hin : p ∈ Ms
    · rw [decide_eq_true hin, if_pos rfl, cond_true]
      exact ⟨hf, rfl, Ms, hM, rfl, rfl⟩
    · rw [decide_eq_false hin, if_neg Bool.false_ne_true, cond_false]
      refine ⟨by show x.fresh + 1 = y.fresh + 1; rw [hf], rfl, Ms ++ [p], ?_, by simp, by simp⟩
      intro l hl
      rcases List.mem_append.mp hl with hl | hl
      · exact hM l hl
      · rw [List.mem_singleton.mp hl]; exact hp
  · rw [if_neg (fun e => hpal (vOf_inj hp hp.rev e)), decide_eq_false hpal, cond_false]
    exact ⟨hf, hlo, Ms, hM, hm, hk⟩
theorem rel_inn {ks : List Nat} (h7 : ks.length = 7) (h : Ok3 ks) {x : Inn} {y : FInn} (r : Rel x y) {j : Nat} (hj : j ≤ 7) : ∀ k, Rel (innAll (ks.map digN) j k x) (fInn (codeL ks) (codeL ks.reverse) j k y)
  | 0 => r
  | k + 1 => rel_step h7 h (rel_inn h7 h r hj k) (i := j - 1 - k) (by omega) hj
theorem fHas_eq {ks : List Nat} (h : Ok3 ks) (v n : Nat) : ∀ m, fHas (codeL ks) v n m = decide (∃ a, a < m ∧ codeL (stretch ks a n) = v)
  | 0 => by
    rw [decide_eq_false (by rintro ⟨a, h, _⟩; omega)]; rfl
  | m + 1 => by
    show cond (Nat.beq (fsub (codeL ks) m n) v) true (fHas (codeL ks) v n m) = _
    rw [fHas_eq h v n m, natBeq, fsub_eq h]
    by_cases e : codeL (stretch ks m n) = v
    · rw [decide_eq_true e, cond_true, decide_eq_true ⟨m, by omega, e⟩]
    · rw [decide_eq_false e, cond_false]
      rw [Bool.eq_iff_iff, decide_eq_true_eq, decide_eq_true_eq]
      constructor
      · rintro ⟨a, ha, e'⟩; exact ⟨a, by omega, e'⟩
      · rintro ⟨a, ha, e'⟩
        refine ⟨a, ?_, e'⟩
        have : a ≠ m := fun q => e (q ▸ e')
        omega
/-! returns -/
theorem map_ofNat_inj {l l' : List Nat} : l.map Int.ofNat = l'.map Int.ofNat ↔ l = l' := List.map_inj_right fun _ _ => Int.ofNat.inj
theorem kEnd_ge (w p : List Int) (n : Nat) : ∀ f k, k ≤ kEnd w p n f k
  | 0, _ => Nat.le_refl _
  | f + 1, k => by
    unfold kEnd
    split
    · have := kEnd_ge w p n f (k + 1); omega
    · exact Nat.le_refl _
theorem kEnd_eq {ks : List Nat} (h7 : ks.length = 7) (h : Ok3 ks) {i n : Nat} (hi : i + n ≤ 7) : ∀ f k, kEnd (ks.map Int.ofNat) ((stretch ks i n).map Int.ofNat) n f k = fEnd (codeL ks) (codeL (stretch ks i n)) n f k
  | 0, _ => rfl
  | f + 1, k => by
    show (if _ then _ else _) = cond (Nat.ble (k + n) 7) (cond (Nat.beq (fsub (codeL ks) k n) (codeL (stretch ks i n))) k (fEnd (codeL ks) (codeL (stretch ks i n)) n f (k + 1))) k
    rw [← kEnd_eq h7 h hi f (k + 1), List.length_map, h7, natBle, natBeq, fsub_eq h]
    by_cases hk : k + n ≤ 7
    · rw [decide_eq_true hk, cond_true, pySl_stretch Int.ofNat h7 hk, show k + n - k = n by omega]
      by_cases e : stretch ks k n = stretch ks i n
      · rw [if_neg (by rintro ⟨_, q⟩; exact q (by rw [e])), decide_eq_true (by rw [e]), cond_true]
      · rw [if_pos ⟨hk, fun q => e (map_ofNat_inj.mp q)⟩, decide_eq_false (fun q => e ((stretch_code h h (by omega) (by omega)).mp q)), cond_false]
    · rw [decide_eq_false hk, cond_false, if_neg (fun q => hk q.1)]
theorem turn_eq {ks : List Nat} (h7 : ks.length = 7) (h : Ok3 ks) {i d : Nat} (hi : i + d < 7) : turnOk (ks.map Int.ofNat) i (i + 1 + d) = fTurn (codeL ks) (codeL ks.reverse) i (Nat.succ d) := by
  have hi' : i + (d + 1) ≤ 7 := by omega
  unfold turnOk fTurn
  dsimp only
  rw [fpal_eq h7 h (show i + Nat.succ d ≤ 7 by omega), pySl_stretch Int.ofNat h7 (by omega), show i + 1 + d - i = d + 1 by omega, fsub_eq h, List.length_map, h7, ← List.map_reverse]
  by_cases hp : stretch ks i (d + 1) = (stretch ks i (d + 1)).reverse
  · rw [if_pos (by rw [← hp]), decide_eq_true hp, cond_true, kEnd_eq h7 h hi']
    have hge : i + 1 ≤ fEnd (codeL ks) (codeL (stretch ks i (d + 1))) (d + 1) (7 - i) (i + 1) := by rw [← kEnd_eq h7 h hi']; exact kEnd_ge ..
    show _ = fTurn2 (codeL ks) (codeL ks.reverse) i (d + 1) (fEnd (codeL ks) (codeL (stretch ks i (d + 1))) (d + 1) (7 - i) (i + 1))
    generalize fEnd (codeL ks) (codeL (stretch ks i (d + 1))) (d + 1) (7 - i) (i + 1) = k at hge
    unfold fTurn2
    rw [natBle]
    show _ = cond (decide (k + (d + 1) ≤ 7)) (fpal (codeL ks) (codeL ks.reverse) i (k + (d + 1) - i)) true
    by_cases hk : k + (d + 1) ≤ 7
    · rw [decide_eq_true hk, cond_true, Bool.true_and, Bool.not_not, fpal_eq h7 h (by omega), pySl_stretch Int.ofNat h7 hk, ← List.map_reverse]
      simp only [map_ofNat_inj]
    · rw [decide_eq_false hk, cond_false, Bool.false_and]; rfl
  · rw [if_neg (fun e => hp (map_ofNat_inj.mp e)), decide_eq_false hp, cond_false]
theorem fAll_eq (p : Nat → Bool) : ∀ n, fAll p n = (List.range n).all p
  | 0 => rfl
  | n + 1 => by
    show cond (p n) (fAll p n) false = _
    rw [fAll_eq p n, List.range_succ, List.all_append, List.all_cons, List.all_nil, Bool.and_true]
    generalize (List.range n).all p = b
    cases p n <;> cases b <;> rfl
theorem all_same {p q : Nat → Bool} : ∀ {l : List Nat}, (∀ x ∈ l, p x = q x) → l.all p = l.all q
  | [], _ => rfl
  | x :: l, h => by rw [List.all_cons, List.all_cons, h x (List.mem_cons_self ..), all_same fun y hy => h y (List.mem_cons_of_mem _ hy)]
theorem ret_eq {ks : List Nat} (h7 : ks.length = 7) (h : Ok3 ks) : retPure (ks.map Int.ofNat) = fRet (codeL ks) (codeL ks.reverse) := by
  unfold retPure fRet
  rw [fAll_eq, List.length_map, h7]
  refine all_same fun i hi => ?_
  rw [fAll_eq]
  refine all_same fun d hd => turn_eq h7 h ?_
  have a := List.mem_range.mp hi
  have b : d < 7 - i := List.mem_range.mp hd
  omega
/-! the whole check -/
theorem chk_sound {ks : List Nat} (h7 : ks.length = 7) (h : Ok3 ks) {jj : Nat} (hj : jj < 7) {e : FInn} (r : Rel (endOf (ks.map digN) jj) e) (hc : fChk (codeL ks) jj e = true) :
    (endOf (ks.map digN) jj).fresh ≤ 1 ∧ infixB (Xof ks (endOf (ks.map digN) jj).longest (jj + 1)) (Gof ks jj) = decide ((endOf (ks.map digN) jj).fresh = 0) := by
  have hlo := end_longest (ks.map digN) jj
  rw [r.fresh, r.longest] at *
  unfold fChk at hc
  rw [natBle] at hc
  by_cases hf : e.fresh ≤ 1
  · rw [decide_eq_true hf, cond_true] at hc
    refine ⟨hf, ?_⟩
    have hc := eqB_eq hc
    rw [natBeq, fsub_eq h, fHas_eq h] at hc
    rw [rows_stretch h7 h hlo hj, ← hc]
    rw [Bool.eq_iff_iff, decide_eq_true_eq, decide_eq_true_eq]
    show _ ↔ ∃ a, a < e.longest ∧ codeL (stretch ks a (jj + 1 - e.longest)) = codeL (stretch ks e.longest (jj + 1 - e.longest))
    constructor
    · rintro ⟨a, ha, q⟩; exact ⟨a, ha, by rw [q]⟩
    · rintro ⟨a, ha, q⟩; exact ⟨a, ha, (stretch_code h h (by omega) (by omega)).mp q⟩
  · rw [decide_eq_false hf, cond_false] at hc
    exact absurd hc Bool.false_ne_true
theorem go_sound {ks : List Nat} (h7 : ks.length = 7) (h : Ok3 ks) : ∀ f jj keys, jj + f = 7 → (∃ Ms : List (List Nat), (∀ l ∈ Ms, Ok3 l) ∧ mirAll (ks.map digN) jj = Ms.map vOf ∧ keys = (Ms.map kOf).reverse) → fGo (codeL ks) (codeL ks.reverse) f jj keys = true →
    (∀ k, jj ≤ k → k < 7 → (endOf (ks.map digN) k).fresh ≤ 1 ∧ infixB (Xof ks (endOf (ks.map digN) k).longest (k + 1)) (Gof ks k) = decide ((endOf (ks.map digN) k).fresh = 0)) ∧ retPure (ks.map Int.ofNat) = decide ((mirAll (ks.map digN) 7).length = 7)
  | 0, jj, keys, e, ⟨Ms, hM, hm, hk⟩, hg => by
    obtain rfl : jj = 7 := by omega
    refine ⟨fun k a b => absurd a (by omega), ?_⟩
    have hg : eqB (fRet (codeL ks) (codeL ks.reverse)) (Nat.beq (lenB keys) 7) = true := hg
    rw [ret_eq h7 h, eqB_eq hg, natBeq, lenB_eq, hk, hm]
    simp
  | f + 1, jj, keys, e, ⟨Ms, hM, hm, hk⟩, hg => by
    have r : Rel (endOf (ks.map digN) jj) (fInn (codeL ks) (codeL ks.reverse) (Nat.succ jj) (Nat.succ jj) ⟨0, jj, keys⟩) :=
      rel_inn h7 h (x := ⟨0, jj, mirAll (ks.map digN) jj⟩) (y := ⟨0, jj, keys⟩) ⟨rfl, rfl, Ms, hM, hm, hk⟩ (j := jj + 1) (by omega) (jj + 1)
    have hg : fGo2 (codeL ks) jj (fGo (codeL ks) (codeL ks.reverse) f (Nat.succ jj)) (fInn (codeL ks) (codeL ks.reverse) (Nat.succ jj) (Nat.succ jj) ⟨0, jj, keys⟩) = true := hg
    generalize fInn (codeL ks) (codeL ks.reverse) (Nat.succ jj) (Nat.succ jj) ⟨0, jj, keys⟩ = y at r hg
    unfold fGo2 at hg
    cases hc : fChk (codeL ks) jj y with
    | false => rw [hc, cond_false] at hg; exact absurd hg Bool.false_ne_true
    | true =>
      rw [hc, cond_true] at hg
      have h1 := chk_sound h7 h (by omega) r hc
      obtain ⟨h2, h3⟩ := go_sound h7 h f (jj + 1) y.keys (by omega) r.keys hg
      refine ⟨fun k a b => ?_, h3⟩
      by_cases q : k = jj
      · rw [q]; exact h1
      · exact h2 k (by omega) b
theorem pure_law : ∀ ks : List Nat, ks.length = 7 → (∀ k ∈ ks, k < 3) → PureOk ks := by
  intro ks h7 h
  match ks, h7 with
  | [a, b, c, d, e, f, g], _ =>
    have hw : fWord a b c d e f g = true := word_all (h a (by simp)) (h b (by simp)) (h c (by simp)) (h d (by simp)) (h e (by simp)) (h f (by simp)) (h g (by simp))
    obtain ⟨h1, h2⟩ := go_sound (ks := [a, b, c, d, e, f, g]) rfl h 7 0 [] rfl ⟨[], fun l hl => absurd hl (by simp), rfl, rfl⟩ hw
    exact ⟨fun k hk => h1 k (Nat.zero_le _) hk, h2⟩
end
end Mine
end
theorem PySem.Challenge.cw_re0013_01_holds : PySem.Challenge.rw_re0013_01.Holds := by
  exact Mine.holds_of Mine.pure_law
