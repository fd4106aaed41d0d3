import PyProof.Rows.All
import Wide.All
import OpenK.AllK
import Wide.FinOn
import PySem.Challenge.RW_dz0102_01
open PySem PySem.W PyProof.Rows
set_option Elab.async false
namespace Mine
set_option maxRecDepth 100000 in
set_option maxHeartbeats 8000000 in
open_top hd for PySem.Challenge.rw_dz0102_01
end Mine

set_option maxRecDepth 100000
namespace Mine

noncomputable abbrev LS : List Str := looseW Mine.hd.view_39 [Str.ofString "_twin_re_1", Str.ofString "_find_unsafe"]
noncomputable abbrev prg : Program := Challenge.rw_dz0102_01.row.prog
noncomputable abbrev AA : Around := { handled := none, depth := 500, frames := none, guards := none, units := 5000 }

def RetS (s : Shared) (P : Value → Heap → Prop) (r : Result) (s' : Shared) : Prop :=
  ∃ v h' tk, r = .ok (.ret v) ∧ s' = { s with heap := h', toks := tk } ∧ (∀ b o, s.heap.get? b = some o → h'.get? b = some o) ∧ P v h'

theorem RetS.mk {s : Shared} {P : Value → Heap → Prop} {v : Value} {h' : Heap} {tk : Nat} {L m} (F : Fr s.heap L h' m) (h : P v h') : RetS s P (.ok (.ret v)) { s with heap := h', toks := tk } :=
  ⟨v, h', tk, rfl, rfl, F.keep, h⟩
end Mine

set_option maxRecDepth 100000
namespace Mine

def rxCode : Array Nat := #[14,17,4,1,1,21,9,0,604043296,1,0,0,0,0,0,8,4,0,13,14,21,9,0,604043296,1,0,0,0,0,0,8,4,0,1]
def safeC (c : Nat) : Bool := Sre.isWord c || c == 64 || c == 37 || c == 43 || c == 61 || c == 58 || c == 44 || c == 46 || c == 47 || c == 45

theorem safeC_big {c : Nat} (h : 256 ≤ c) : safeC c = false := by
  simp only [safeC, Sre.isWord, Sre.isDigit, Bool.or_eq_false_iff, Bool.and_eq_false_iff, decide_eq_false_iff_not, beq_eq_false_iff_ne]
  omega

def okIs (r : Except String (Bool × Sre.Seen)) (b : Bool) : Bool := match r with | .ok (x, _) => x == b | _ => false
theorem okIs_of {r : Except String (Bool × Sre.Seen)} {b : Bool} (h : okIs r b = true) : ∃ s, r = .ok (b, s) := by
  unfold okIs at h
  split at h
  · rename_i x s; exact ⟨s, by rw [beq_iff_eq.mp h]⟩
  · cases h

def inSetB (code : Array Nat) (c : Nat) : (fuel i : Nat) → (yes : Bool) → Option Bool
  | 0, _, _ => none
  | fuel + 1, i, yes =>
    let w (k : Nat) := code.getD (i + k) 0
    match Sre.ops[w 0]? with
    | some .FAILURE => some (!yes)
    | some .NEGATE => inSetB code c fuel (i + 1) (!yes)
    | some .CATEGORY => match Sre.category (w 1) c with
      | .ok true => some yes
      | .ok false => inSetB code c fuel (i + 2) yes
      | .error _ => none
    | some .CHARSET =>
      if c < 256 && (w (1 + c / 32)).testBit (c % 32) then some yes else inSetB code c fuel (i + 9) yes
    | _ => none

theorem inSet_of {code : Array Nat} {c : Nat} : ∀ {fuel i : Nat} {yes b : Bool} {seen : Sre.Seen}, inSetB code c fuel i yes = some b → ∃ s, Sre.inSet code c fuel i yes seen = .ok (b, s)
  | 0, _, _, _, _, h => by cases h
  | fuel + 1, i, yes, b, seen, h => by
    unfold inSetB at h
    unfold Sre.inSet
    dsimp only at h ⊢
    split at h
    · rename_i e; rw [e]; cases h; exact ⟨_, rfl⟩
    · rename_i e; rw [e]; exact inSet_of h
    · rename_i e; rw [e]; dsimp only
      split at h
      · rename_i e2; rw [e2]; cases h; exact ⟨_, rfl⟩
      · rename_i e2; rw [e2]; exact inSet_of h
      · cases h
    · rename_i e; rw [e]; dsimp only
      split at h
      · rename_i e2; rw [if_pos e2]; cases h; exact ⟨_, rfl⟩
      · rename_i e2; rw [if_neg e2]; exact inSet_of h
    · cases h

theorem cat4_big {c : Nat} (h : ¬ c < 256) : Sre.category 4 c = .ok false := by
  have : Sre.isWord c = false := by
    have := safeC_big (c := c) (by omega)
    unfold safeC at this
    simp only [Bool.or_eq_false_iff] at this
    exact this.1.1.1.1.1.1.1.1.1
  unfold Sre.category
  simp [this, Except.map]
theorem inSetB5 (c : Nat) : inSetB rxCode c 34 5 true = some (!safeC c) := by
  by_cases h : c < 256
  · have : ∀ c : Fin 256, inSetB rxCode c.val 34 5 true = some (!safeC c.val) := by decide +kernel
    exact this ⟨c, h⟩
  · rw [safeC_big (by omega)]
    have h1 : (decide (c < 256)) = false := decide_eq_false h
    show (if (decide (c < 256) && _) = true then _ else (match Sre.category 4 c with | .ok true => _ | .ok false => _ | .error _ => _)) = _
    rw [h1, cat4_big h]; rfl
theorem inSetB20 (c : Nat) : inSetB rxCode c 34 20 true = some (!safeC c) := by
  by_cases h : c < 256
  · have : ∀ c : Fin 256, inSetB rxCode c.val 34 20 true = some (!safeC c.val) := by decide +kernel
    exact this ⟨c, h⟩
  · rw [safeC_big (by omega)]
    have h1 : (decide (c < 256)) = false := decide_eq_false h
    show (if (decide (c < 256) && _) = true then _ else (match Sre.category 4 c with | .ok true => _ | .ok false => _ | .error _ => _)) = _
    rw [h1, cat4_big h]; rfl

theorem adm (m : Sre.M) (hc : m.code = rxCode) : ∀ (fuel s : Nat) (seen : Sre.Seen), m.lim ≤ s + fuel →
    ((∀ i, s ≤ i → i < m.lim → safeC (m.text.getD i 0) = true) ∧ ∃ seen', Sre.M.admitted m fuel s seen = .ok (none, seen')) ∨
    (∃ i, s ≤ i ∧ i < m.lim ∧ safeC (m.text.getD i 0) = false ∧ ∃ seen', Sre.M.admitted m fuel s seen = .ok (some i, seen'))
  | 0, s, seen, h => .inl ⟨fun i h1 h2 => by omega, seen, rfl⟩
  | fuel + 1, s, seen, h => by
    unfold Sre.M.admitted
    by_cases hs : s ≥ m.lim
    · rw [if_pos hs]; exact .inl ⟨fun i h1 h2 => by omega, _, rfl⟩
    · rw [if_neg hs]
      have hB := inSetB5 (m.text.getD s 0)
      obtain ⟨sn, e⟩ := inSet_of (seen := seen) hB
      have hsz : rxCode.size = 34 := rfl
      rw [hc, hsz, e]
      cases hq : safeC (m.text.getD s 0) with
      | false => exact .inr ⟨s, Nat.le_refl _, by omega, hq, _, rfl⟩
      | true =>
        rcases adm m hc fuel (s + 1) sn (by omega) with ⟨h1, h2⟩ | ⟨i, h1, h2, h3, h4⟩
        · refine .inl ⟨fun i a b => ?_, h2⟩
          by_cases e : i = s
          · rw [e]; exact hq
          · exact h1 i (by omega) b
        · exact .inr ⟨i, by omega, h2, h3, h4⟩

theorem fs_small (text : Array Nat) (h : text.size = 0) : Sre.M.runFor 4 (Sre.forSearch rxCode text 0 0 text.size false) = { Sre.M.runFor 4 (Sre.forSearch rxCode text 0 0 text.size false) with outcome := some .failed } := by
  unfold Sre.forSearch
  rw [if_pos (by rw [h]; decide)]
  rfl
theorem fs_eq (text : Array Nat) (h : 0 < text.size) : ∃ m : Sre.M, m.code = rxCode ∧ m.text = text ∧ m.lim = text.size ∧ m.pc = 18 ∧ m.outcome = none ∧ m.answer = none ∧ m.frames = [] ∧ m.weight = 0 ∧ m.wholeText = false ∧ m.mustAdvance = false ∧ m.marks = #[] ∧ m.lastmark = -1 ∧
    Sre.forSearch rxCode text 0 0 text.size false = m.attemptFrom 0 true := by
  unfold Sre.forSearch
  rw [if_neg (by simp only [Bool.or_eq_true, decide_eq_true_eq]; show ¬ (0 > text.size ∨ text.size - 0 < 1); omega)]
  exact ⟨_, rfl, rfl, rfl, rfl, rfl, rfl, rfl, rfl, rfl, rfl, rfl, rfl, rfl⟩

theorem rx_none (text : Array Nat) (h : ∀ i, i < text.size → safeC (text.getD i 0) = true) : ∃ m, Sre.M.runFor 4 (Sre.forSearch rxCode text 0 0 text.size false) = m ∧ m.outcome = some .failed := by
  by_cases h0 : text.size = 0
  · refine ⟨_, rfl, ?_⟩
    rw [fs_small text h0]
  · obtain ⟨m, e1, e2, e3, e4, e5, e6, e7, e8, e9, e10, e11, e12, e⟩ := fs_eq text (by omega)
    refine ⟨_, rfl, ?_⟩
    rw [e]
    unfold Sre.M.attemptFrom
    have hf : m.hasFirstSet = true := by unfold Sre.M.hasFirstSet; rw [e1]; rfl
    rw [hf]
    rcases adm m e1 (m.lim + 1 - 0) 0 m.seen (by omega) with ⟨_, sn, q⟩ | ⟨i, _, h2, h3, _⟩
    · rw [if_neg (by decide), q]
      obtain ⟨⟩ := m
      dsimp only at *
      subst e5 e6 e7
      rfl
    · rw [e2, h i (by rw [e3] at h2; exact h2)] at h3; cases h3

theorem step1 (m : Sre.M) (hc : m.code = rxCode) (hp : m.pc = 18) (ho : m.outcome = none) (ha : m.answer = none) (hl : m.pos < m.lim) (hs : safeC (m.text.getD m.pos 0) = false) :
    ∃ sn, m.step = { m with seen := sn, pc := 33, pos := m.pos + 1 } := by
  obtain ⟨code, text', lim, start, lastStart, wholeText, mustAdvance, pc, pos, handed, outermost, marks, lastmark, lastindex, loops, inner, frames, weight, answer, seen, outcome⟩ := m
  dsimp only at *
  subst hc hp ho ha
  have hB := inSetB20 (text'.getD pos 0)
  obtain ⟨sn', q'⟩ := inSet_of (seen := seen.add 13) hB
  rw [hs] at q'
  refine ⟨sn', ?_⟩
  have q2 : Sre.accepts rxCode 18 (text'.getD pos 0) (seen.add 13) = .ok (true, sn') := q'
  unfold Sre.M.step
  rw [if_neg (by simp)]
  dsimp only
  rw [if_pos (by decide)]
  unfold Sre.M.exec
  show (if pos ≥ lim then _ else match Sre.accepts rxCode 18 (text'.getD pos 0) (seen.add 13) with | .error why => _ | .ok (false, seen) => _ | .ok (true, seen) => _) = _
  rw [if_neg (by omega), q2]
  rfl
theorem rx_some (text : Array Nat) (h : ∃ i, i < text.size ∧ safeC (text.getD i 0) = false) : ∃ m, Sre.M.runFor 4 (Sre.forSearch rxCode text 0 0 text.size false) = m ∧ m.outcome = some .matched ∧ m.lastmark = -1 := by
  obtain ⟨j, hj, hjs⟩ := h
  obtain ⟨m, e1, e2, e3, e4, e5, e6, e7, e8, e9, e10, e11, e12, e⟩ := fs_eq text (by omega)
  refine ⟨_, rfl, ?_⟩
  rw [e]
  unfold Sre.M.attemptFrom
  have hf : m.hasFirstSet = true := by unfold Sre.M.hasFirstSet; rw [e1]; rfl
  rw [hf]
  rcases adm m e1 (m.lim + 1 - 0) 0 m.seen (by omega) with ⟨h1, sn, q⟩ | ⟨i, _, h2, h3, sn, q⟩
  · have := h1 j (by omega) (by rw [e3]; exact hj)
    rw [e2, hjs] at this; cases this
  · rw [if_neg (by decide), q]
    dsimp only
    obtain ⟨code, text', lim, start, lastStart, wholeText, mustAdvance, pc, pos, handed, outermost, marks, lastmark, lastindex, loops, inner, frames, weight, answer, seen, outcome⟩ := m
    dsimp only at *
    subst e1 e2 e3 e4 e5 e6 e7 e8 e9 e10 e11 e12
    simp only [Sre.M.attemptAt, Sre.M.attempt]
    rw [if_neg (by decide)]
    generalize hm : ({ code := rxCode, text := text', lim := text'.size, start := i, lastStart := lastStart, wholeText := false, mustAdvance := false, pc := 18, pos := i, handed := i, outermost := true, marks := #[], lastmark := -1, lastindex := -1, loops := loops, inner := inner, frames := [{ wait := .nextStart, pc := 18, pos := i, outermost := true }], weight := 0 + 1 + (#[] : Array (Option Nat)).size, answer := none, seen := sn, outcome := none } : Sre.M) = m1
    obtain ⟨sn', q1⟩ := step1 m1 (by subst hm; rfl) (by subst hm; rfl) (by subst hm; rfl) (by subst hm; rfl) (by subst hm; exact h2) (by subst hm; exact h3)
    have hr : Sre.M.runFor 4 m1 = Sre.M.runFor 3 m1.step := by subst hm; rfl
    rw [hr, q1]
    subst hm
    exact ⟨rfl, rfl⟩
end Mine

set_option maxRecDepth 100000
namespace Mine

theorem rx_entry : entryFor table "re.Pattern.search" = some Builtin.«re.Pattern.search» := entryFor_of_tree (by kernel_rfl)
theorem rx_quiet {as : Args} : (Code.builtin "re.Pattern.search" as).quiet = true := Code.quiet_builtin _ (by decide +kernel)
theorem rx_check {M : Model} {w : World} {h : Heap} {x : Str} {t : Tok} (KX : (Mine.hd.heap_39 w.params).In h) : Looks M h (checkBoundCall "re.Pattern.search" ⟨[.ref 36, .str x t], []⟩) () :=
  Looks.of_peek KX (by kernel_rfl)
theorem rx_named {x : Str} {t : Tok} : Builtin.Re.reNamed "re.Pattern.search" "search" ["string", "pos", "endpos"] 1 [.str x t] [] = pure [some (.str x t), none, none] := by first | kernel_rfl | rfl

section
variable {M : Model} {A : Around} {E : Value → Shared → Prop} {s : Shared}
theorem rx_rules {m : Sre.M} {Q : PUnit → Shared → Prop} (hq : Q ⟨⟩ s) : ∀ (l : List Nat),
    wpAny M A (forIn l PUnit.unit fun i (_ : PUnit) => (do
      if m.seen.has i = true then do rule (Sre.names.getD i "")
      pure (ForInStep.yield PUnit.unit) : Sem (ForInStep PUnit))) Q E s
  | [] => by rw [List.forIn_nil]; exact wpAny_pure hq
  | i :: l => by
    rw [List.forIn_cons]
    have ih := rx_rules (m := m) hq l
    refine wpAny_bind ?_
    split
    · exact wpAny_bind (wpAny_rule (wpAny_pure ih))
    · exact wpAny_pure ih

theorem rx_run {m0 m : Sre.M} {Q : Option Sre.M → Shared → Prop} (e : Sre.M.runFor 4 m0 = m)
    (h : (m.outcome = some .matched ∧ Q (some m) s) ∨ (m.outcome = some .failed ∧ Q none s)) : wpAny M A (Builtin.Re.reRunToEnd m0) Q E s := by
  unfold Builtin.Re.reRunToEnd
  have hd : Builtin.Re.reDrive (2 ^ 64) m0 = pure m := by
    rw [show (2 : Nat) ^ 64 = 18446744073709551615 + 1 from rfl]
    unfold Builtin.Re.reDrive
    show (if (Sre.M.runFor 4 m0).outcome.isSome = true then _ else _) = _
    rw [e, if_pos (by rcases h with ⟨h, _⟩ | ⟨h, _⟩ <;> rw [h] <;> rfl)]
    show pure (Sre.M.runFor 4 m0) = _
    rw [e]
  refine wpAny_bind (wpAny_of_eq hd ?_)
  refine wpAny_bind (rx_rules ?_ _)
  rcases h with ⟨h, q⟩ | ⟨h, q⟩
  · rw [h]; exact wpAny_pure q
  · rw [h]; exact wpAny_pure q
end

theorem find_tree {prog : Program} {w : World} {A : Around} {E : Value → Shared → Prop} {s : Shared} {x : Str} {t : Tok} {P : Fin → Shared → Prop} (hx : x.cps.size ≤ 200) (KX : (Mine.hd.heap_39 w.params).In s.heap)
    (h1 : (∀ i, i < x.cps.size → safeC (x.cps.getD i 0) = true) → P (.done (.ret .none)) s)
    (h2 : (∃ i, i < x.cps.size ∧ safeC (x.cps.getD i 0) = false) → ∀ a h', (∀ b o, s.heap.get? b = some o → h'.get? b = some o) → P (.done (.ret (.ref a))) { s with heap := h' }) :
    wpAny (model prog w) A (Builtin.«re.Pattern.search» ⟨[.ref 36, .str x t], []⟩) P E s := by
  unfold Builtin.«re.Pattern.search»
  have o36 := KX 36 _ rfl
  have o35 := KX 35 _ rfl
  refine wpAny_bind (?_ : wpAny _ _ (Builtin.Re.reTarget _ _ _) _ _ _)
  unfold Builtin.Re.reTarget
  dsimp only
  refine wpAny_bind (wpAny_of_eq rx_named ?_)
  dsimp only
  refine wpAny_bind (wpAny_pure ?_)
  refine wpAny_bind (wpAny_pure ?_)
  refine wpAny_bind (wpAny_fieldsOf o36 rfl ?_)
  refine wpAny_bind (wpAny_of_eq (a := (x.cps, 0)) rfl ?_)
  dsimp only
  rw [if_neg (by decide), if_neg (by decide)]
  refine wpAny_bind (wpAny_of_eq (a := ()) rfl ?_)
  refine wpAny_bind (?_ : wpAny _ _ (Builtin.Re.reRawItems (.ref 35)) _ _ _)
  unfold Builtin.Re.reRawItems
  refine wpAny_bind (wpAny_seqItems o35 rfl ?_)
  refine wpAny_pure (wpAny_pure ?_)
  have hmin : min ((2 ^ 63 - 1 : Int).toNat) x.cps.size = x.cps.size := by
    rw [Nat.min_eq_right]; omega
  have hmin0 : min (Int.toNat 0) x.cps.size = 0 := by simp
  rw [hmin, hmin0]
  unfold Builtin.Re.reAnswer
  dsimp only
  generalize hq : Array.map (fun x : Int => x.toNat) _ = cd
  have hcd : cd = rxCode := by rw [← hq]; decide +kernel
  subst hcd
  refine wpAny_bind ?_
  have key : ∀ Q : Option Sre.M → Shared → Prop, (∀ m : Sre.M, m.lastmark = -1 → (∃ i, i < x.cps.size ∧ safeC (x.cps.getD i 0) = false) → Q (some m) s) → ((∀ i, i < x.cps.size → safeC (x.cps.getD i 0) = true) → Q none s) →
      wpAny (model prog w) A (Builtin.Re.reRunToEnd (Sre.forSearch rxCode x.cps 0 0 x.cps.size false)) Q E s := by
    intro Q q1 q2
    by_cases hs : ∀ i, i < x.cps.size → safeC (x.cps.getD i 0) = true
    · obtain ⟨m, e, eo⟩ := rx_none x.cps hs
      exact rx_run e (.inr ⟨eo, q2 hs⟩)
    · have hs' : ∃ i, i < x.cps.size ∧ safeC (x.cps.getD i 0) = false := by
        refine Classical.byContradiction fun hn => hs fun i hi => ?_
        cases hc : safeC (x.cps.getD i 0) with
        | true => rfl
        | false => exact absurd ⟨i, hi, hc⟩ hn
      obtain ⟨m, e, eo, el⟩ := rx_some x.cps hs'
      exact rx_run e (.inl ⟨eo, q1 m el hs'⟩)
  refine key _ (fun m hm hs => ?_) (fun hs => ?_)
  · dsimp only
    refine wpAny_bind (?_ : wpAny _ _ (Builtin.Re.reNewMatch _ _ 0 _ _ m) _ _ _)
    unfold Builtin.Re.reNewMatch
    dsimp only
    rw [if_neg (by simp)]
    refine wpAny_bind (wpAny_newObj_type (wpAny_newObj_type (wpAny_pure (h2 hs _ _ ?_)) (by show 6 ≤ _; decide)) (by show 2 ≤ _; decide))
    intro b o hb
    exact Heap.get?_push_of_some _ (Heap.get?_push_of_some _ hb)
  · dsimp only
    exact wpAny_pure (h1 hs)

theorem find_call {prog : Program} {w : World} {A : Around} {E : Value → Shared → Prop} {s : Shared} {x : Str} {t : Tok} {Q : Value → Shared → Prop} (hx : x.cps.size ≤ 200) (KX : (Mine.hd.heap_39 w.params).In s.heap)
    (h1 : (∀ i, i < x.cps.size → safeC (x.cps.getD i 0) = true) → Q .none s)
    (h2 : (∃ i, i < x.cps.size ∧ safeC (x.cps.getD i 0) = false) → ∀ a h', (∀ b o, s.heap.get? b = some o → h'.get? b = some o) → Q (.ref a) { s with heap := h' }) :
    wpAny (model prog w) A (call (.ref 44) [.str x t]) Q E s := by
  have o44 := KX 44 _ rfl
  refine wpAny_call (codeAny_of_tree ?_)
  show wpAny _ A.in1 (callAny (.ref 44) ⟨[.str x t], []⟩) _ _ s
  simp only [callAny]
  refine wpAny_bind (wpAny_load o44 ?_)
  refine KFB.if_so (by decide) ?_
  refine wpAny_bind ((rx_check KX).here ?_)
  refine wpAny_bind (wpAny_pure (wpAny_pure ?_))
  exact ⟨rx_quiet, codeAny_builtin rx_entry (find_tree hx KX h1 h2)⟩
end Mine

namespace Mine
open PySem.StrLaws PySem.Builtin PySem.Builtin.Str

def replL (y z : List Nat) : Nat → List Nat → List Nat
  | _, [] => []
  | k + 1, _ :: r => replL y z k r
  | 0, c :: r => if (c :: r).take y.length = y then z ++ replL y z (y.length - 1) r else c :: replL y z 0 r

theorem replL_skip (y z : List Nat) : ∀ (k : Nat) (l : List Nat), replL y z k l = replL y z 0 (l.drop k)
  | 0, l => by simp
  | k + 1, [] => by simp [replL]
  | k + 1, c :: r => by simp only [replL, List.drop_succ_cons]; exact replL_skip y z k r
theorem replL_nil (y z : List Nat) : replL y z 0 [] = [] := rfl
theorem replL_at {y z l : List Nat} (hy : 1 ≤ y.length) (h : l.take y.length = y) : replL y z 0 l = z ++ replL y z 0 (l.drop y.length) := by
  cases l with
  | nil => simp at h; subst h; simp at hy
  | cons c r =>
    rw [replL, if_pos h, replL_skip]
    obtain ⟨n, hn⟩ : ∃ n, y.length = n + 1 := ⟨y.length - 1, by omega⟩
    rw [hn]; simp
theorem replL_no {y z r : List Nat} {c : Nat} (h : (c :: r).take y.length ≠ y) : replL y z 0 (c :: r) = c :: replL y z 0 r := by
  rw [replL, if_neg h]
theorem replL_free {y z : List Nat} : ∀ (n : Nat) (l : List Nat), n ≤ l.length → (∀ k, k < n → (l.drop k).take y.length ≠ y) → replL y z 0 l = l.take n ++ replL y z 0 (l.drop n)
  | 0, l, _, _ => by simp
  | n + 1, [], h, _ => by simp at h
  | n + 1, c :: r, h, hn => by
    have h0 := hn 0 (by omega)
    rw [List.drop_zero] at h0
    rw [replL_no h0, replL_free n r (by simpa using h) (fun k hk => by simpa using hn (k + 1) (by omega))]
    simp

theorem at_iff {x y : Str} (hy : 1 ≤ y.length) (k : Nat) : At x y x.length k ↔ (x.cps.toList.drop k).take y.cps.toList.length = y.cps.toList := by
  have e : y.length = y.cps.toList.length := by simp [Str.length]
  constructor
  · intro h
    have := h.2
    rw [subAt_eq, beq_iff_eq] at this
    rw [← e]; exact this
  · intro h
    refine ⟨?_, by rw [subAt_eq, beq_iff_eq, e]; exact h⟩
    have h2 := congrArg List.length h
    rw [List.length_take, List.length_drop] at h2
    have e2 : x.length = x.cps.toList.length := by simp [Str.length]
    omega

theorem join_cons {z p q : Str} {r : List Str} : Str.join z (p :: q :: r) = p ++ z ++ Str.join z (q :: r) := rfl

theorem repl_parts (x y z : Str) (hy : 1 ≤ y.length) : ∀ (cuts : List Nat) (a f : Nat), ChainG x y x.length a cuts f → (∀ k, f ≤ k → ¬ At x y x.length k) → a ≤ x.length →
    (Str.join z (partsFrom x y.length a cuts)).cps.toList = replL y.cps.toList z.cps.toList 0 (x.cps.toList.drop a)
  | [], a, f, h, hn, ha => by
    have e : f = a := h
    subst e
    have e2 : x.length = x.cps.toList.length := by simp [Str.length]
    rw [replL_free (x.cps.toList.drop f).length _ (Nat.le_refl _)]
    · show (strSub x f x.length).cps.toList = _
      rw [strSub_toList, e2, List.take_length, List.drop_length, replL_nil, List.append_nil]
      rw [← List.length_drop, List.take_length]
    · intro k hk hq
      refine hn (f + k) (by omega) ((at_iff hy _).mpr ?_)
      rw [← List.drop_drop]; exact hq
  | c :: r, a, f, h, hn, ha => by
    obtain ⟨h1, h2, h3, h4⟩ := h
    have e2 : x.length = x.cps.toList.length := by simp [Str.length]
    have hc := h2.1
    obtain ⟨p, q, hpq⟩ := partsFrom_ne x y.length (c + y.length) r
    have ih := repl_parts x y z hy r (c + y.length) f h4 hn hc
    show (Str.join z (strSub x a c :: partsFrom x y.length (c + y.length) r)).cps.toList = _
    rw [hpq] at ih ⊢
    rw [join_cons]
    simp only [Str.cps_append, Array.toList_append, strSub_toList]
    rw [ih]
    rw [replL_free (c - a) (x.cps.toList.drop a) (by rw [List.length_drop]; omega)]
    · rw [List.drop_drop, show a + (c - a) = c by omega]
      have hat := (at_iff hy c).mp h2
      have e3 : y.length = y.cps.toList.length := by simp [Str.length]
      rw [replL_at (by omega) hat, List.drop_drop, ← e3]
      simp
    · intro k hk hq
      refine h3 (a + k) (by omega) (by omega) ((at_iff hy _).mpr ?_)
      rw [← List.drop_drop]; exact hq

theorem replace_eq (x y z : Str) (hy : 1 ≤ y.length) : (Txt.replace x y z).cps.toList = replL y.cps.toList z.cps.toList 0 x.cps.toList := by
  obtain ⟨f, h1, h2⟩ := occ_tight x y hy
  have key := repl_parts x y z hy _ 0 f h1 h2 (by omega)
  rw [List.drop_zero] at key
  unfold Txt.replace
  split
  · rename_i hc
    have hy0 : (y.length == 0) = false := by simp; omega
    rw [hy0, Bool.false_and, Bool.or_false, List.isEmpty_iff] at hc
    rw [hc] at key
    rw [← key]
    show _ = (strSub x 0 x.length).cps.toList
    rw [sub_whole]
  · rw [glued_eq_join, partsBetween_eq]; exact key

theorem replL_len1 (c : Nat) (z : List Nat) : ∀ l : List Nat, (replL [c] z 0 l).length ≤ l.length * (z.length + 1)
  | [] => by simp [replL]
  | a :: r => by
    have ih := replL_len1 c z r
    have e : (a :: r).length * (z.length + 1) = r.length * (z.length + 1) + (z.length + 1) := by rw [List.length_cons, Nat.add_mul, Nat.one_mul]
    rw [e, replL]
    split
    · simp only [List.length_append, List.length_cons, List.length_nil]
      show z.length + (replL [c] z 0 r).length ≤ _
      omega
    · rw [List.length_cons]; omega
theorem replL_len5 (y : List Nat) (c : Nat) : ∀ (k : Nat) (l : List Nat), (replL y [c] k l).length ≤ l.length
  | _, [] => by simp [replL]
  | k + 1, a :: r => by rw [replL, List.length_cons]; have := replL_len5 y c k r; omega
  | 0, a :: r => by
    rw [replL, List.length_cons]
    split
    · have := replL_len5 y c (y.length - 1) r
      simp only [List.length_append, List.length_cons, List.length_nil]; omega
    · have := replL_len5 y c 0 r
      rw [List.length_cons]; omega
end Mine

set_option maxRecDepth 100000
namespace Mine


theorem find_callWith {M : Model} {w : World} {A : Around} {E : Value → Shared → Prop} {s : Shared} {h₀ : Heap} {pos : Pos} {first : List Value} {env : Env} {e : Expr} {rest : List Expr} {Q : Value → Shared → Prop}
    (_KX : (Mine.hd.heap_39 w.params).In h₀)
    (h : wpAny M A (spliced (backTo pos (starEach (e :: rest) env))) (fun vs s₁ => (Mine.hd.heap_39 w.params).In s₁.heap ∧ wpAny M A (call (.ref 44) (first ++ vs)) Q E s₁) E s)
    (he : starEach (e :: rest) env = (false, eval e env) :: starEach rest env := by rfl) (hplain : (backTo pos (starEach rest env)).any (·.1) = false := by rfl) :
    wpAny M A (callWith pos (.ref 44) first (backTo pos (starEach (e :: rest) env)) []) Q E s := by
  rw [he] at h ⊢
  exact callWith_of (by show ((false || (backTo pos (starEach rest env)).any (·.1)) || false) = false; rw [hplain]; rfl)
    (fun h X => ⟨.machine, .inr (.inl rfl), Looks.of_peek X (by kernel_rfl)⟩) (Calls.evalArgs_plain h)

theorem Fr.grow {h₀ h h' : Heap} {L : Addr} {m : Str → Option Value} (F : Fr h₀ L h m) (k : ∀ b o, h.get? b = some o → h'.get? b = some o) : Fr h₀ L h' m :=
  ⟨F.ns.keeps k, fun b o e => k _ _ (F.keep b o e), F.above⟩
theorem News.grow {h₀ h h' : Heap} {L : Addr} {news : List (Addr × Obj)} (N : News h₀ L h news) (k : ∀ b o, h.get? b = some o → h'.get? b = some o) : News h₀ L h' news :=
  fun p hp => ⟨k _ _ (N p hp).1, (N p hp).2⟩

theorem find_callF {prog : Program} {w : World} {A : Around} {E : Value → Shared → Prop} {s : Shared} {x : Str} {t : Tok} {Q : Value → Shared → Prop} {h₀ : Heap} {L : Addr} {m : Str → Option Value} {news : List (Addr × Obj)}
    (hx : x.length ≤ 200) (KX : (Mine.hd.heap_39 w.params).In h₀) (F : Fr h₀ L s.heap m) (N : News h₀ L s.heap news)
    (h1 : (x.cps.toList.all safeC = true) → Q .none s)
    (h2 : (x.cps.toList.all safeC = false) → ∀ a h', Fr h₀ L h' m → News h₀ L h' news → Q (.ref a) { s with heap := h' }) :
    wpAny (model prog w) A (call (.ref 44) [.str x t]) Q E s := by
  refine find_call hx (KX.keeps F.keep) (fun h => h1 ?_) (fun h a h' k => h2 ?_ a h' (Fr.grow F k) (News.grow N k))
  · rw [List.all_eq_true]
    intro c hc
    obtain ⟨i, hi, rfl⟩ := List.getElem_of_mem hc
    have := h i (by simpa using hi)
    simpa [Array.getD, show i < x.cps.size by simpa using hi] using this
  · obtain ⟨i, hi, hc⟩ := h
    rw [List.all_eq_false]
    refine ⟨x.cps.toList[i]'(by simpa using hi), List.getElem_mem _, ?_⟩
    simpa [Array.getD, hi] using hc

def escL : List Nat := [39, 34, 39, 34, 39]
def quoteL (x : List Nat) : List Nat := if x = [] then [39, 39] else if x.all safeC = true then x else 39 :: (replL [39] escL 0 x ++ [39])
def toS (l : List Nat) : Str := ⟨l.toArray⟩
def quoteS (x : Str) : Str := toS (quoteL x.cps.toList)
theorem str_ext {a b : Str} (h : a.cps.toList = b.cps.toList) : a = b := Str.ext' (Array.toList_inj.mp h)
theorem toS_toList (l : List Nat) : (toS l).cps.toList = l := rfl

theorem quote_repl (x : Str) : (Txt.replace x (Str.ofString "'") (Str.ofString "'\"'\"'")).cps.toList = replL [39] escL 0 x.cps.toList :=
  replace_eq x _ _ (by decide)
theorem quote_repl_len (x : Str) (hx : x.length ≤ 200) : (Txt.replace x (Str.ofString "'") (Str.ofString "'\"'\"'")).length ≤ 1200 := by
  have h := replL_len1 39 escL x.cps.toList
  rw [← quote_repl] at h
  have e : escL.length = 5 := rfl
  rw [e] at h
  simp only [Array.length_toList] at h
  simp only [Str.length] at hx ⊢
  omega

theorem toList_nil {x : Str} (h : (x.length : Int) = 0) : x.cps.toList = [] := by
  have : x.length = 0 := by omega
  simp only [Str.length] at this
  exact Array.toList_eq_nil_iff.mpr (Array.eq_empty_of_size_eq_zero this)
theorem toList_ne {x : Str} (h : (x.length : Int) ≠ 0) : x.cps.toList ≠ [] := by
  intro e
  have : x.length = 0 := by simp only [Str.length]; rw [← Array.length_toList, e]; rfl
  omega
theorem quoteS_empty {x : Str} (h : x.cps.toList = []) : quoteS x = Str.ofString "''" := by
  unfold quoteS quoteL; rw [if_pos h]; rfl
theorem quoteS_safe {x : Str} (h : x.cps.toList ≠ []) (hs : x.cps.toList.all safeC = true) : quoteS x = x := by
  unfold quoteS quoteL; rw [if_neg h, if_pos hs]; rfl
theorem quoteS_un {x : Str} (hs : x.cps.toList.all safeC = false) : quoteS x = Str.ofString "'" ++ Txt.replace x (Str.ofString "'") (Str.ofString "'\"'\"'") ++ Str.ofString "'" := by
  have h : x.cps.toList ≠ [] := by intro e; rw [e] at hs; cases hs
  unfold quoteS quoteL; rw [if_neg h, if_neg (by rw [hs]; decide)]
  apply str_ext
  rw [toS_toList]
  simp only [Str.cps_append, Array.toList_append, quote_repl]
  rfl

set_option maxHeartbeats 8000000 in
theorem quote_spec {w : World} {s : Shared} {x : Str} {t : Tok} {mean mg mb} (hx : x.length ≤ 200) (KX : (Mine.hd.heap_39 w.params).In s.heap) (T : Top Mine.hd.view_39 LS mean mg mb s.heap) :
    codeAny (model prg w) AA (.call (.ref 51) ⟨[.str x t], []⟩) (RetS s fun v _ => ∃ t', v = .str (quoteS x) t') s := by
  refine call_plain_ret (by decide) (KX 51 _ rfl) rfl T.nolimit (codeRec_of KX rfl) (binds := [(Str.ofString "s", .str x t)]) rfl (locs rfl) (fun h₁ F => ?_)
  have N : News s.heap s.heap.objs.size h₁ [] := News.nil
  have hr := quote_repl_len x hx
  w_on
  k_steps
  · refine find_callWith KX ?_
    k_steps
    refine find_callF hx KX (by assumption) (by assumption) (fun hs => ?_) (fun hs a' h' F' N' => ?_)
    · k_steps
      dsimp only
      exact RetS.mk (by assumption) ⟨_, by rw [quoteS_safe (toList_ne (by assumption)) hs]⟩
    · k_steps
      dsimp only
      exact RetS.mk (by assumption) ⟨_, by rw [quoteS_un hs]⟩
  · dsimp only
    exact RetS.mk (by assumption) ⟨_, by rw [quoteS_empty (toList_nil (by assumption))]⟩
end Mine

set_option maxRecDepth 100000
namespace Mine

noncomputable def safeTxt : Str := Str.ofString "ABCDEFGHIJKLMNOPQRSTUVWXYZabcdefghijklmnopqrstuvwxyz0123456789_@%+=:,./-"
theorem safeTxt_all : (safeTxt.cps.toList.all fun c => decide (c < 128)) = true := by decide +kernel
theorem safeTxt_mem (c : Nat) : decide (c ∈ safeTxt.cps.toList) = safeC c := by
  by_cases h : c < 128
  · have : ∀ c : Fin 128, decide (c.val ∈ safeTxt.cps.toList) = safeC c.val := by decide +kernel
    exact this ⟨c, h⟩
  · have h1 : safeC c = false := by
      simp only [safeC, Sre.isWord, Sre.isDigit, Bool.or_eq_false_iff, Bool.and_eq_false_iff, decide_eq_false_iff_not, beq_eq_false_iff_ne]
      omega
    rw [h1, decide_eq_false_iff_not]
    intro hm
    have := List.all_eq_true.mp safeTxt_all c hm
    exact h (of_decide_eq_true this)

theorem comp_safe {x : Str} {vs : List Value} (hlen : vs.length = x.cps.size) (hP : ∀ (j : Nat) (v : Value), vs[j]? = some v → SignAt x j v) :
    ((List.filter (fun v => match v with | .str y _ => !y.cps.toList.all safeC | _ => false) vs).length == 0) = x.cps.toList.all safeC := by
  rw [Bool.eq_iff_iff, beq_iff_eq, List.length_eq_zero_iff, List.filter_eq_nil_iff, List.all_eq_true]
  constructor
  · intro h c hc
    obtain ⟨j, hj, rfl⟩ := List.getElem_of_mem hc
    have hj' : j < vs.length := by rw [hlen]; simpa using hj
    obtain ⟨c, u, e1, e2⟩ := hP j vs[j] (List.getElem?_eq_getElem hj')
    have := h vs[j] (List.getElem_mem hj')
    rw [e2] at this
    have e3 : x.cps.toList[j] = c := by
      rw [Array.getElem?_eq_getElem (by simpa using hj)] at e1
      simpa using e1
    rw [e3]
    simpa using this
  · intro h v hv
    obtain ⟨j, hj, rfl⟩ := List.getElem_of_mem hv
    obtain ⟨c, u, e1, e2⟩ := hP j vs[j] (List.getElem?_eq_getElem hj)
    rw [e2]
    have : safeC c = true := h c (by
      have := Array.mem_of_getElem? e1
      simpa using this)
    simp [this]
theorem eq_nil {prog : Program} {w : World} {A : Around} {E : Value → Shared → Prop} {s : Shared} {l b : Addr} {items : Array Value} {Q : Value → Shared → Prop} (hl : s.heap.IsList l items) (hb : s.heap.IsList b #[]) (hu : A.units < cLine)
    (h : Q (.bool (items.size == 0)) s) : wpAny (model prog w) A (compareOp .Eq (.ref l) (.ref b)) Q E s := by
  by_cases hz : items.size = 0
  · refine SeqAt.eq_listAt (e := fun _ => true) hl hb (by rw [hz]; rfl) hu (fun j h1 _ => absurd h1 (by omega)) ?_
    rw [hz] at h ⊢
    exact h
  · refine SeqAt.eq_list_lengthsAt hl hb (by simp [hz]) hu ?_
    have : (items.size == 0) = false := by simp [hz]
    rw [this] at h; exact h
theorem ne_nil {prog : Program} {w : World} {A : Around} {E : Value → Shared → Prop} {s : Shared} {l b : Addr} {items : Array Value} {Q : Value → Shared → Prop} (hl : s.heap.IsList l items) (hb : s.heap.IsList b #[]) (hu : A.units < cLine)
    (h : Q (.bool (items.size != 0)) s) : wpAny (model prog w) A (compareOp .NotEq (.ref l) (.ref b)) Q E s := by
  by_cases hz : items.size = 0
  · refine SeqAt.RcNeAt.lists (e := fun _ => true) hl hb (by rw [hz]; rfl) hu (fun j h1 _ => absurd h1 (by omega)) prog w E Q ?_
    rw [hz] at h ⊢
    exact h
  · refine SeqAt.RcNeAt.lists_lengths hl hb (by simp [hz]) hu prog w E Q ?_
    have : (items.size != 0) = true := by simp [hz]
    rw [this] at h; exact h
theorem News.isListK {h₀ h : Heap} {L a : Addr} {its : Array Value} {n : Nat} {news : List (Addr × Obj)} (N : News h₀ L h news) (hm : (a, listOf its n) ∈ news) : h.IsList a its := ⟨_, (N _ hm).1, rfl, n, rfl⟩
theorem none_of_push {h : Heap} {o : Obj} {D : Addr} (e : (h.push o).get? D = none) : h.get? D = none := by
  cases q : h.get? D with
  | none => rfl
  | some o' => rw [Heap.get?_push_of_some _ q] at e; cases e
theorem News.add {h₀ h h' : Heap} {L D : Addr} {o : Obj} {m : Str → Option Value} {news : List (Addr × Obj)} (F : Fr h₀ L h m) (N : News h₀ L h' news) (hD : h'.get? D = some o) (hn : h.get? D = none) : News h₀ L h' ((D, o) :: news) := by
  intro p hp
  rcases List.mem_cons.mp hp with rfl | hp
  · refine ⟨hD, ?_, ?_⟩
    · intro e
      obtain ⟨oL, _, _, hL, _⟩ := F.ns
      rw [← e] at hL
      rw [hn] at hL
      cases hL
    · cases q : h₀.get? D with
      | none => rfl
      | some o' => rw [F.keep _ _ q] at hn; cases hn
  · exact N p hp

set_option maxHeartbeats 2000000 in
theorem safe_spec {w : World} {s : Shared} {x : Str} {t : Tok} {mean mg mb} (hx : x.length ≤ 200) (KX : (Mine.hd.heap_39 w.params).In s.heap) (T : Top Mine.hd.view_39 LS mean mg mb s.heap) :
    codeAny (model prg w) AA (.call (.ref 63) ⟨[.str x t], []⟩) (RetS s fun v _ => v = .bool (x.cps.toList != [] && x.cps.toList.all safeC)) s := by
  refine call_cellsN_ret (by decide) (KX 63 _ rfl) rfl T.nolimit (codeRec_of KX rfl) (binds := [(Str.ofString "word", .str x t)]) rfl (kindsX rfl _) (by decide) (fun h₁ tk cells F N Y => ?_)
  have hY := CellsAre.one Y
  obtain ⟨o', hE', d1'⟩ := hY; subst hE'; clear Y
  w_on
  repeat' ((fail_if_success (with_reducible show wpAny _ _ (eval (Expr.ListComp _ _ _ _) _) _ _ _)); first | (k_unfold; (try dsimp only)) | walk1 | (dsimp only; walk1))
  · rename_i h2 o2 F2 N2 d2 hne
    have oc := N2 (s.heap.objs.size + 1, o2) (.head _)
    refine wpAny_ListComp_free (cl := [(Str.ofString "safe", s.heap.objs.size + 1)]) (fun v => match v with | .str y _ => !y.cps.toList.all safeC | _ => false) (fun v y => y = v) rfl (by decide) rfl (by decide) rfl ?_
    refine wpAny_Name (wpAny_loadName_local rfl rfl F2.ns rfl ?_)
    refine wpAny_pyIter_str (fun o St W hst => ?_)
    refine ⟨_, _, _, _, _, St, rfl, W _ rfl, ?_, hst, ?_, ⟨?_, ?_⟩, ?_⟩
    · rw [sizeLine_eq]; simp only [Str.length] at hx; omega
    · intro b hb
      rw [List.mem_singleton.mp hb, Heap.size_push]; exact Nat.lt_succ_self _
    · intro C i v s₃ m₃ E' hC hP hns hm hk htk
      obtain ⟨c, u, hc, rfl⟩ := hP
      rw [List.forIn_cons]
      refine wpAny_bind ?_
      rw [if_pos rfl]
      refine wpAny_bind (wpAny_isTrue_Compare1 (wpAny_Name (wpAny_loadName_local rfl rfl hns hm (wpAny_Name (wpAny_loadName_cell rfl rfl rfl ⟨o2, hk _ _ ?_ (Heap.get?_push_of_some _ oc.1), d2⟩ (P.notIn_str (wpAny_truthy_bool (wpAny_pure ?_))))))))
      · intro hm
        have := List.mem_singleton.mp hm
        have h3 := Heap.lt_size oc.1
        dsimp only at this h3
        rw [this] at h3
        exact absurd h3 (Nat.lt_irrefl _)
      · dsimp only
        rw [List.forIn_nil]
        refine wpAny_pure ⟨?_, s₃.heap, s₃.toks, rfl, fun _ _ e => e⟩
        have h1 := StrLaws.found_one safeTxt c
        rw [safeTxt_mem] at h1
        show (!(!(Builtin.Str.occurrences safeTxt ⟨#[c]⟩ 0 safeTxt.length 1).isEmpty)) = _
        rw [h1]
        simp
    · intro C i v s₃ m₃ E' hC hP hpv hns hm hk htk
      exact wpAny_Name (wpAny_loadName_local rfl rfl hns hm ⟨rfl, s₃.heap, s₃.toks, rfl, fun _ _ e => e⟩)
    · intro D h' tk' ys vs hD hl hpl hlen hP hpair hk
      have kk : ∀ b o, h2.get? b = some o → h'.get? b = some o := fun b o e => hk b o (fun hm => by
        have := List.mem_singleton.mp hm
        have h3 := Heap.lt_size e
        rw [this] at h3
        exact absurd h3 (Nat.lt_irrefl _)) (Heap.get?_push_of_some _ e)
      have F3 := Fr.grow F2 kk
      obtain ⟨n, hDo⟩ := hpl
      have N3 := News.add F2 (News.grow N2 kk) hDo (none_of_push hD)
      clear F2 N2
      repeat' ((fail_if_success (with_reducible show wpAny _ _ (compareOp _ _ _) _ _ _)); first | (k_unfold; (try dsimp only)) | walk1 | (dsimp only; walk1))
      have hs0 := comp_safe hlen hP
      have e1 := hpair.length
      refine eq_nil (News.isListK (by assumption) (.tail _ (.head _))) (News.isListK (by assumption) (.head _)) (Nat.le_of_ble_eq_true rfl) ?_
      dsimp only
      refine RetS.mk (by assumption) ?_
      have e2 : (ys.size == 0) = x.cps.toList.all safeC := by
        rw [← hs0, e1, Array.length_toList]
      rw [e2]
      have e3 : (x.cps.toList != []) = true := by
        rw [bne_iff_ne]
        intro e
        have : x = Str.ofString "" := str_ext e
        rw [this] at hne
        simp at hne
      rw [e3, Bool.true_and]
  · dsimp only
    rename_i hne
    refine RetS.mk (by assumption) ?_
    have : x = Str.ofString "" := by simpa using hne
    subst this
    rfl
end Mine

namespace Mine
open PySem.StrLaws PySem.Builtin PySem.Builtin.Str

theorem ite_t {P Q : Prop} {b : Decidable ((true : Bool) = true)} (h : P) : @ite Prop ((true : Bool) = true) b P Q := by rw [if_pos rfl]; exact h
theorem ite_f {P Q : Prop} {b : Decidable ((false : Bool) = true)} (h : Q) : @ite Prop ((false : Bool) = true) b P Q := by rw [if_neg Bool.false_ne_true]; exact h
theorem ite_by {c : Prop} {b : Decidable c} {P Q : Prop} (h1 : c → P) (h2 : ¬ c → Q) : @ite Prop c b P Q := by
  by_cases h : c
  · rw [if_pos h]; exact h1 h
  · rw [if_neg h]; exact h2 h

structure Hid (p : Prop) : Prop where
  out : p
theorem ite_str {x y : Str} {b : Decidable ((x == y) = true)} {P Q : Prop} (h1 : Hid (x = y) → P) (h2 : Hid (x ≠ y) → Q) : @ite Prop ((x == y) = true) b P Q := by
  by_cases h : x = y
  · rw [if_pos (by rw [h]; exact beq_self_eq_true y)]; exact h1 ⟨h⟩
  · rw [if_neg (by rw [beq_iff_eq]; exact h)]; exact h2 ⟨h⟩
theorem ite_strne {x y : Str} {b : Decidable ((x != y) = true)} {P Q : Prop} (h1 : Hid (x ≠ y) → P) (h2 : Hid (x = y) → Q) : @ite Prop ((x != y) = true) b P Q := by
  by_cases h : x = y
  · rw [if_neg (by simp [h])]; exact h2 ⟨h⟩
  · rw [if_pos (by simp [h])]; exact h1 ⟨h⟩

theorem ite_str_t {x y : Str} {b : Decidable ((x == y) = true)} {P Q : Prop} (h : Hid (x = y)) (hp : P) : @ite Prop ((x == y) = true) b P Q := by
  rw [if_pos (by rw [h.out]; exact beq_self_eq_true y)]; exact hp
theorem ite_str_f {x y : Str} {b : Decidable ((x == y) = true)} {P Q : Prop} (h : Hid (x ≠ y)) (hp : Q) : @ite Prop ((x == y) = true) b P Q := by
  rw [if_neg (by rw [beq_iff_eq]; exact h.out)]; exact hp
theorem ite_dt {p : Prop} {i : Decidable p} {b : Decidable (decide p = true)} {P Q : Prop} (h : p) (hp : P) : @ite Prop (decide p = true) b P Q := by
  rw [if_pos (decide_eq_true h)]; exact hp
theorem ite_df {p : Prop} {i : Decidable p} {b : Decidable (decide p = true)} {P Q : Prop} (h : ¬ p) (hp : Q) : @ite Prop (decide p = true) b P Q := by
  rw [if_neg (by rw [decide_eq_true_iff]; exact h)]; exact hp
theorem ite_dby {p : Prop} {i : Decidable p} {b : Decidable (decide p = true)} {P Q : Prop} (h1 : p → P) (h2 : ¬ p → Q) : @ite Prop (decide p = true) b P Q := by
  by_cases h : p
  · rw [if_pos (decide_eq_true h)]; exact h1 h
  · rw [if_neg (by rw [decide_eq_true_iff]; exact h)]; exact h2 h

theorem slice_eq (x : Str) (l u : Option Int) : Txt.slice x l u = sliceText x l u := rfl

theorem sliceIdx_clip (a b len : Nat) : strSliceIndices (some (a : Int)) (some (b : Int)) 1 len = strSliceIndices (some ((min a len : Nat) : Int)) (some ((min b len : Nat) : Int)) 1 len := by
  have h1 : ¬ ((a : Int) < 0) := by omega
  have h2 : ¬ ((b : Int) < 0) := by omega
  have h3 : ¬ (((min a len : Nat) : Int) < 0) := by omega
  have h4 : ¬ (((min b len : Nat) : Int) < 0) := by omega
  have e1 : max (0 : Int) (min (a : Int) (len : Int)) = max (0 : Int) (min ((min a len : Nat) : Int) (len : Int)) := by omega
  have e2 : max (0 : Int) (min (b : Int) (len : Int)) = max (0 : Int) (min ((min b len : Nat) : Int) (len : Int)) := by omega
  simp only [strSliceIndices, h1, h2, h3, h4, if_false, e1, e2, show ((1 : Int) > 0) = True from by simp, if_true]

theorem sliceText_clip (x : Str) (a b : Nat) : sliceText x (some (a : Int)) (some (b : Int)) = sliceText x (some ((min a x.length : Nat) : Int)) (some ((min b x.length : Nat) : Int)) := by
  unfold sliceText
  rw [sliceIdx_clip a b x.length]

theorem sliceIdx_empty {a b len : Nat} (h : b < a) (ha : a ≤ len) : strSliceIndices (some (a : Int)) (some (b : Int)) 1 len = [] := by
  have h1 : ¬ ((a : Int) < 0) := by omega
  have h2 : ¬ ((b : Int) < 0) := by omega
  have e1 : max (0 : Int) (min (a : Int) (len : Int)) = a := by omega
  have e2 : max (0 : Int) (min (b : Int) (len : Int)) = b := by omega
  have h5 : ¬ ((a : Int) < b) := by omega
  simp only [strSliceIndices, sliceRange, h1, h2, if_false, e1, e2, show ((1 : Int) > 0) = True from by simp, if_true, h5]
  rfl

theorem slice_list (x : Str) (a b : Nat) : (Txt.slice x (some (a : Int)) (some (b : Int))).cps.toList = (x.cps.toList.take b).drop a := by
  have el : x.length = x.cps.toList.length := by simp [Str.length]
  rw [slice_eq, sliceText_clip]
  by_cases h : min a x.length ≤ min b x.length
  · rw [sliceText_nat x h (Nat.min_le_right _ _)]
    show (x.cps.toList.drop (min a x.length)).take (min b x.length - min a x.length) = _
    rw [List.drop_take]
    by_cases ha : a ≤ x.length
    · rw [Nat.min_eq_left ha]
      by_cases hb : b ≤ x.length
      · rw [Nat.min_eq_left hb]
      · rw [Nat.min_eq_right (by omega)]
        rw [List.take_of_length_le (by rw [List.length_drop]; omega), List.take_of_length_le (by rw [List.length_drop]; omega)]
    · rw [Nat.min_eq_right (by omega), List.drop_of_length_le (by omega), List.drop_of_length_le (by omega)]
      simp
  · unfold sliceText
    rw [sliceIdx_empty (by omega) (Nat.min_le_right _ _)]
    have hr : (x.cps.toList.take b).drop a = [] := by
      rw [List.drop_eq_nil_iff, List.length_take]; omega
    rw [hr]
    split
    · rename_i hc
      have h0 : 0 = x.length := by simpa using hc
      have : x.length = 0 := h0.symm
      simp only [Str.length] at this
      exact Array.toList_eq_nil_iff.mpr (Array.eq_empty_of_size_eq_zero this)
    · rfl

theorem slice_neg1 (x : Str) (a : Nat) (h : 1 ≤ x.length) : (Txt.slice x (some (a : Int)) (some (-1))).cps.toList = x.cps.toList.dropLast.drop a := by
  rw [slice_eq, sliceText_neg_hi x (some (a : Int)) (by omega) (by omega), ← slice_eq]
  have : (-1 + (x.length : Int)) = ((x.length - 1 : Nat) : Int) := by omega
  rw [this, slice_list, List.dropLast_eq_take]
  simp [Str.length]
theorem slice_none (x : Str) (b : Nat) : (Txt.slice x none (some (b : Int))).cps.toList = x.cps.toList.take b := by
  have : Txt.slice x none (some (b : Int)) = Txt.slice x (some ((0 : Nat) : Int)) (some (b : Int)) := by
    unfold Txt.slice
    rw [sliceIdx_none_lo]; rfl
  rw [this, slice_list]; simp
end Mine

set_option maxRecDepth 100000
namespace Mine
def wordL (p : List Nat) : List Nat := if 1 < p.length ∧ p.head? = some 39 ∧ p.getLast? = some 39 then replL escL [39] 0 (p.dropLast.drop 1) else p
def wordS (x : Str) : Str := toS (wordL x.cps.toList)
theorem word_repl (y : Str) : (Txt.replace y (Str.ofString "'\"'\"'") (Str.ofString "'")).cps.toList = replL escL [39] 0 y.cps.toList :=
  replace_eq y _ _ (by decide)
theorem mk1_iff {c : Nat} : ((⟨#[c]⟩ : Str) = Str.ofString "'") ↔ c = 39 := by
  have e : Str.ofString "'" = ⟨#[39]⟩ := by decide +kernel
  rw [e]
  constructor
  · intro h; injection h with h; simpa using h
  · intro h; rw [h]
theorem item_0 {x : Str} (h : decide (1 < (x.length : Int)) = true) : (Txt.item x 0 = Str.ofString "'") ↔ x.cps.toList.head? = some 39 := by
  have h := of_decide_eq_true h
  have hl : 0 < x.cps.toList.length := by simp only [Str.length] at h; simp; omega
  unfold Txt.item
  have e : Txt.charAt x 0 = some (x.cps.toList[0]'hl) := by
    unfold Txt.charAt
    refine StrLaws.at_nonneg (by omega) ?_
    simp
  rw [e, Option.getD_some, mk1_iff, List.head?_eq_getElem?, List.getElem?_eq_getElem hl]
  simp
theorem item_l {x : Str} (h : decide (1 < (x.length : Int)) = true) : (Txt.item x (-1) = Str.ofString "'") ↔ x.cps.toList.getLast? = some 39 := by
  have h := of_decide_eq_true h
  have hl : x.cps.toList.length - 1 < x.cps.toList.length := by simp only [Str.length] at h; simp; omega
  unfold Txt.item
  have e : Txt.charAt x (-1) = some (x.cps.toList[x.cps.toList.length - 1]'hl) := by
    unfold Txt.charAt
    refine StrLaws.at_neg (by omega) (by omega) ?_
    have e2 : (-1 + (x.length : Int)).toNat = x.cps.toList.length - 1 := by simp only [Str.length, Array.length_toList]; omega
    rw [e2]
    rw [Array.getElem?_eq_getElem (by simpa using hl)]
    simp
  rw [e, Option.getD_some, mk1_iff, List.getLast?_eq_getElem?, List.getElem?_eq_getElem hl]
  simp
theorem len_gt {x : Str} (h : decide (1 < (x.length : Int)) = true) : 1 < x.cps.toList.length := by
  have h := of_decide_eq_true h
  simp only [Str.length] at h
  simp; omega
theorem wordS_quoted {x : Str} (h : decide (1 < (x.length : Int)) = true) (h0 : Hid (Txt.item x 0 = Str.ofString "'")) (h1 : Hid (Txt.item x (-1) = Str.ofString "'")) :
    wordS x = Txt.replace (Txt.slice x (some 1) (some (-1))) (Str.ofString "'\"'\"'") (Str.ofString "'") := by
  apply str_ext
  have hl := len_gt h
  rw [word_repl]
  have e : (Txt.slice x (some 1) (some (-1))).cps.toList = x.cps.toList.dropLast.drop 1 := slice_neg1 x 1 (by simp only [Str.length]; simp at hl; omega)
  rw [e]
  show wordL x.cps.toList = _
  unfold wordL
  rw [if_pos ⟨hl, (item_0 h).mp h0.out, (item_l h).mp h1.out⟩]
theorem wordS_not0 {x : Str} (h : decide (1 < (x.length : Int)) = true) (h0 : Hid (Txt.item x 0 ≠ Str.ofString "'")) : wordS x = x := by
  apply str_ext
  show wordL x.cps.toList = _
  unfold wordL
  rw [if_neg (fun q => h0.out ((item_0 h).mpr q.2.1))]
theorem wordS_notl {x : Str} (h : decide (1 < (x.length : Int)) = true) (h0 : Hid (Txt.item x (-1) ≠ Str.ofString "'")) : wordS x = x := by
  apply str_ext
  show wordL x.cps.toList = _
  unfold wordL
  rw [if_neg (fun q => h0.out ((item_l h).mpr q.2.2))]
theorem wordS_short {x : Str} (h : ¬ decide (1 < (x.length : Int)) = true) : wordS x = x := by
  apply str_ext
  show wordL x.cps.toList = _
  unfold wordL
  rw [if_neg (fun q => h (decide_eq_true (by have := q.1; simp only [Str.length]; simp at this; omega)))]
set_option maxHeartbeats 1000000 in
theorem word_spec {w : World} {s : Shared} {x : Str} {t : Tok} {mean mg mb} (hx : x.length ≤ 200) (KX : (Mine.hd.heap_39 w.params).In s.heap) (T : Top Mine.hd.view_39 LS mean mg mb s.heap) :
    codeAny (model prg w) AA (.call (.ref 77) ⟨[.str x t], []⟩) (RetS s fun v _ => ∃ t', v = .str (wordS x) t') s := by
  refine call_plain_ret (by decide) (KX 77 _ rfl) rfl T.nolimit (codeRec_of KX rfl) (binds := [(Str.ofString "part", .str x t)]) rfl (locs rfl) (fun h₁ F => ?_)
  have N : News s.heap s.heap.objs.size h₁ [] := News.nil
  have hsl : (Txt.slice x (some 1) (some (-1))).length ≤ 200 := Nat.le_trans (Txt.slice_le _ _ _) hx
  w_on
  repeat' ((fail_if_success (with_reducible show wpAny _ _ (subscriptTail _ (Expr.Slice _ _ _ _) _ _) _ _ _)); (first | (with_reducible refine ite_t ?_) | (with_reducible refine ite_f ?_) | (with_reducible refine ite_str (fun hc => ?_) (fun hc => ?_)) | (with_reducible refine ite_by (fun hc => ?_) (fun hc => ?_)) | (k_unfold; (try dsimp only)) | ((with_reducible show wpAny _ _ (execs _ _) _ _ _); (try dsimp only); walk1) | walk1 | (dsimp only; walk1)))
  · dsimp only
    refine wpAny_with_toks (n := 1) (by dsimp only; omega) ?_
    walk1
    intro hk1
    dsimp only at hk1
    repeat' (first | (with_reducible refine ite_t ?_) | (with_reducible refine ite_f ?_) | (with_reducible refine ite_str (fun hc => ?_) (fun hc => ?_)) | (with_reducible refine ite_by (fun hc => ?_) (fun hc => ?_)) | (k_unfold; (try dsimp only)) | ((with_reducible show wpAny _ _ (execs _ _) _ _ _); (try dsimp only); walk1) | walk1 | (dsimp only; walk1))
    dsimp only
    refine SC.replaceW (Nat.ne_of_gt hk1) (Nat.succ_ne_zero _) (Nat.ne_of_lt (Nat.lt_succ_self _)) (by decide) (by omega) (by decide) (fun t' k => ?_)
    dsimp only
    exact RetS.mk (by assumption) ⟨_, by rw [wordS_quoted (by assumption) (by assumption) (by assumption)]⟩
  · dsimp only
    exact RetS.mk (by assumption) ⟨_, by rw [wordS_notl (by assumption) (by assumption)]⟩
  · dsimp only
    exact RetS.mk (by assumption) ⟨_, by rw [wordS_not0 (by assumption) (by assumption)]⟩
  · dsimp only
    exact RetS.mk (by assumption) ⟨_, by rw [wordS_short (by assumption)]⟩
end Mine

set_option maxRecDepth 100000
namespace Mine
noncomputable abbrev AB : Around := { handled := none, depth := 400, frames := none, guards := none, units := 4000 }

theorem codeAny_le {M : Model} {A B : Around} {c : Code} {R : Result → Shared → Prop} {s : Shared} (h : codeAny M B c R s) (hh : A.handled = B.handled) (hd : A.depth ≤ B.depth) (hu : A.units ≤ B.units)
    (hf : B.frames = none) (hg : B.guards = none) : codeAny M A c R s :=
  fun Γ p hc hΓ => h Γ p hc ⟨hΓ.1.trans hh, Nat.le_trans hΓ.2.1 hd, (fun l hl => (by rw [hf] at hl; cases hl)), (fun g hl => (by rw [hg] at hl; cases hl)), Nat.le_trans hΓ.2.2.2.2 hu⟩

theorem call_of_spec {w : World} {A B : Around} {E : Value → Shared → Prop} {s : Shared} {a : Addr} {vs : List Value} {P : Value → Heap → Prop} {Q : Value → Shared → Prop}
    (h : codeAny (model prg w) B (.call (.ref a) ⟨vs, []⟩) (RetS s P) s) (hh : A.handled = B.handled) (hd : A.depth ≤ B.depth) (hu : A.units ≤ B.units)
    (hf : B.frames = none) (hg : B.guards = none)
    (hQ : ∀ v h' tk, (∀ b o, s.heap.get? b = some o → h'.get? b = some o) → P v h' → Q v { s with heap := h', toks := tk }) :
    wpAny (model prg w) A (call (.ref a) vs) Q E s := by
  refine wpAny_call (codeAny_mono (codeAny_le h hh hd hu hf hg) fun r s' hr => ?_)
  obtain ⟨v, h', tk, rfl, rfl, hk, hp⟩ := hr
  exact hQ v h' tk hk hp

section
variable {w : World} {A : Around} {E : Value → Shared → Prop} {s : Shared} {Q : Value → Shared → Prop} {h₀ : Heap} {L : Addr} {m : Str → Option Value} {news : List (Addr × Obj)} {y : Str} {u : Tok} {mean : ExcName → Option Value} {mg mb : Str → Option Value}
theorem call_safe (hx : y.length ≤ 200) (KX : (Mine.hd.heap_39 w.params).In h₀) (T : Top Mine.hd.view_39 LS mean mg mb h₀) (F : Fr h₀ L s.heap m) (N : News h₀ L s.heap news)
    (hh : A.handled = none) (hd : A.depth ≤ 500) (hu : A.units ≤ 5000)
    (h : ∀ h' tk, Fr h₀ L h' m → News h₀ L h' news → Q (.bool (y.cps.toList != [] && y.cps.toList.all safeC)) { s with heap := h', toks := tk }) :
    wpAny (model prg w) A (call (.ref 63) [.str y u]) Q E s :=
  call_of_spec (safe_spec hx (KX.keeps F.keep) (T.keeps F.keep)) hh hd hu rfl rfl fun v h' tk k hv => by subst hv; exact h h' tk (Fr.grow F k) (News.grow N k)
theorem call_quote (hx : y.length ≤ 200) (KX : (Mine.hd.heap_39 w.params).In h₀) (T : Top Mine.hd.view_39 LS mean mg mb h₀) (F : Fr h₀ L s.heap m) (N : News h₀ L s.heap news)
    (hh : A.handled = none) (hd : A.depth ≤ 500) (hu : A.units ≤ 5000)
    (h : ∀ t' h' tk, Fr h₀ L h' m → News h₀ L h' news → Q (.str (quoteS y) t') { s with heap := h', toks := tk }) :
    wpAny (model prg w) A (call (.ref 51) [.str y u]) Q E s :=
  call_of_spec (quote_spec hx (KX.keeps F.keep) (T.keeps F.keep)) hh hd hu rfl rfl fun v h' tk k hv => by obtain ⟨t', rfl⟩ := hv; exact h t' h' tk (Fr.grow F k) (News.grow N k)
theorem call_word (hx : y.length ≤ 200) (KX : (Mine.hd.heap_39 w.params).In h₀) (T : Top Mine.hd.view_39 LS mean mg mb h₀) (F : Fr h₀ L s.heap m) (N : News h₀ L s.heap news)
    (hh : A.handled = none) (hd : A.depth ≤ 500) (hu : A.units ≤ 5000)
    (h : ∀ t' h' tk, Fr h₀ L h' m → News h₀ L h' news → Q (.str (wordS y) t') { s with heap := h', toks := tk }) :
    wpAny (model prg w) A (call (.ref 77) [.str y u]) Q E s :=
  call_of_spec (word_spec hx (KX.keeps F.keep) (T.keeps F.keep)) hh hd hu rfl rfl fun v h' tk k hv => by obtain ⟨t', rfl⟩ := hv; exact h t' h' tk (Fr.grow F k) (News.grow N k)
end
theorem frame3 {m : Str → Option Value} {x1 x2 x3 : Str} {v1 v2 v3 : Value} (h1 : m x1 = some v1) (h2 : m x2 = some v2) (h3 : m x3 = some v3) :
    m = fun y => if y = x1 then some v1 else if y = x2 then some v2 else if y = x3 then some v3 else m y := by
  funext y
  by_cases e1 : y = x1
  · rw [if_pos e1, e1, h1]
  · rw [if_neg e1]
    by_cases e2 : y = x2
    · rw [if_pos e2, e2, h2]
    · rw [if_neg e2]
      by_cases e3 : y = x3
      · rw [if_pos e3, e3, h3]
      · rw [if_neg e3]
end Mine

namespace Mine

def qI : Nat → List Nat → Option (List Nat × List Nat)
  | _, [] => none
  | k + 1, _ :: r => qI k r
  | 0, c :: r => if c = 39 then (if (c :: r).take 5 = escL then (qI 4 r).map (fun p => (39 :: p.1, p.2)) else some ([], r)) else (qI 0 r).map (fun p => (c :: p.1, p.2))

theorem qI_skip : ∀ (k : Nat) (l : List Nat), qI k l = qI 0 (l.drop k)
  | 0, l => by simp
  | k + 1, [] => by simp [qI]
  | k + 1, c :: r => by simp only [qI, List.drop_succ_cons]; exact qI_skip k r
theorem qI_nil : qI 0 [] = none := rfl
theorem qI_plain {c : Nat} {r : List Nat} (h : c ≠ 39) : qI 0 (c :: r) = (qI 0 r).map (fun p => (c :: p.1, p.2)) := by
  rw [qI, if_neg h]
theorem qI_esc {l : List Nat} (h : l.take 5 = escL) : qI 0 l = (qI 0 (l.drop 5)).map (fun p => (39 :: p.1, p.2)) := by
  cases l with
  | nil => simp [escL] at h
  | cons c r =>
    have hc : c = 39 := by simp [escL] at h; exact h.1
    rw [qI, if_pos hc, if_pos h, qI_skip]; rfl
theorem qI_end {r : List Nat} (h : (39 :: r).take 5 ≠ escL) : qI 0 (39 :: r) = some ([], r) := by
  rw [qI, if_pos rfl, if_neg h]
theorem qI_strand : ∀ (n : Nat) (r : List Nat), n ≤ r.length → (∀ i, i < n → r[i]? ≠ some 39) → qI 0 r = (qI 0 (r.drop n)).map (fun p => (r.take n ++ p.1, p.2))
  | 0, r, _, _ => by cases h : qI 0 r <;> simp [h]
  | n + 1, [], h, _ => by simp at h
  | n + 1, c :: r, h, hn => by
    have h0 : c ≠ 39 := by have := hn 0 (by omega); simpa using this
    rw [qI_plain h0, qI_strand n r (by simpa using h) (fun i hi => by have := hn (i + 1) (by omega); simpa using this)]
    simp only [List.drop_succ_cons]
    cases qI 0 (r.drop n) <;> simp
theorem qI_free {r : List Nat} (h : ∀ i, i < r.length → r[i]? ≠ some 39) : qI 0 r = none := by
  rw [qI_strand r.length r (Nat.le_refl _) h, List.drop_length]; rfl

def safeW (w : List Nat) : Bool := w != [] && w.all safeC

def item : List Nat → Option (List Nat × List Nat)
  | 39 :: r => match qI 0 r with
    | some (w, t) => if safeW w = true then none else some (w, t)
    | none => none
  | l => if l.takeWhile safeC = [] then none else some (l.takeWhile safeC, l.dropWhile safeC)

def step (first : Bool) (l : List Nat) : Option (List Nat × List Nat) :=
  if first = true then item l else match l with
    | 32 :: r => item r
    | _ => none

theorem qI_lt : ∀ (k : Nat) (l : List Nat) (w t : List Nat), qI k l = some (w, t) → t.length < l.length
  | _, [], _, _, h => by cases h
  | k + 1, c :: r, w, t, h => by
    have := qI_lt k r w t h
    rw [List.length_cons]; omega
  | 0, c :: r, w, t, h => by
    rw [qI] at h
    rw [List.length_cons]
    split at h
    · split at h
      · obtain ⟨p, hp, e⟩ := Option.map_eq_some_iff.mp h
        have := qI_lt 4 r p.1 p.2 hp
        injection e with e1 e2
        rw [← e2]; omega
      · injection h with h; injection h with h1 h2
        rw [← h2]; omega
    · obtain ⟨p, hp, e⟩ := Option.map_eq_some_iff.mp h
      have := qI_lt 0 r p.1 p.2 hp
      injection e with e1 e2
      rw [← e2]; omega
theorem dropWhile_lt {p : Nat → Bool} {l : List Nat} (h : l.takeWhile p ≠ []) : (l.dropWhile p).length < l.length := by
  have e := congrArg List.length (List.takeWhile_append_dropWhile (p := p) (l := l))
  rw [List.length_append] at e
  have : 0 < (l.takeWhile p).length := List.length_pos_iff.mpr h
  omega
theorem item_lt {l w t : List Nat} (h : item l = some (w, t)) : t.length < l.length := by
  unfold item at h
  split at h
  · split at h
    · rename_i hq
      split at h
      · cases h
      · injection h with h; injection h with h1 h2
        have := qI_lt 0 _ _ _ hq
        rw [List.length_cons, ← h2]; omega
    · cases h
  · split at h
    · cases h
    · rename_i hn
      injection h with h; injection h with h1 h2
      rw [← h2]; exact dropWhile_lt hn
theorem step_lt {first : Bool} {l w t : List Nat} (h : step first l = some (w, t)) : t.length < l.length := by
  unfold step at h
  split at h
  · exact item_lt h
  · split at h
    · have := item_lt h
      rw [List.length_cons]; omega
    · cases h

def nrm (first : Bool) (l : List Nat) : Option (List (List Nat)) :=
  if l = [] then some [] else
  match h : step first l with
  | none => none
  | some (w, t) => (nrm false t).map (w :: ·)
termination_by l.length
decreasing_by exact step_lt h

theorem nrm_nil (first : Bool) : nrm first [] = some [] := by unfold nrm; rw [if_pos rfl]
theorem nrm_none {first : Bool} {l : List Nat} (hl : l ≠ []) (h : step first l = none) : nrm first l = none := by
  unfold nrm
  rw [if_neg hl]
  split
  · rfl
  · rename_i h2; rw [h] at h2; cases h2
theorem nrm_some {first : Bool} {l w t : List Nat} (hl : l ≠ []) (h : step first l = some (w, t)) : nrm first l = (nrm false t).map (w :: ·) := by
  conv => lhs; unfold nrm
  rw [if_neg hl]
  split
  · rename_i h2; rw [h] at h2; cases h2
  · rename_i w' t' h2; rw [h] at h2; injection h2 with h2; injection h2 with h3 h4; rw [h3, h4]
end Mine

set_option maxRecDepth 100000
namespace Mine
def SV (vs : List Value) (ws : List (List Nat)) : Prop := Paired (fun v w => ∃ t, v = Value.str (toS w) t) vs ws
def ResW (h₀ h : Heap) (v : Value) (r : Option (List (List Nat))) : Prop :=
  match r with
  | none => ∃ a, v = .ref a ∧ h₀.get? a = none ∧ h.IsList a #[]
  | some ws => ∃ a b vs, v = .ref a ∧ h₀.get? a = none ∧ h₀.get? b = none ∧ a ≠ b ∧ h.IsList a #[.ref b] ∧ h.IsList b vs.toArray ∧ SV vs ws

structure NInv (x : Str) (t : Tok) (n : Nat) (m : Str → Option Value) (news : List (Addr × Obj)) (aw : Addr) (vs : List Value) (ws : List (List Nat)) (ep k : Nat) (tk : Tok) : Prop where
  meas : n = x.length - k
  kle : k ≤ x.length
  text : m (Str.ofString "text") = some (.str x t)
  words : m (Str.ofString "words") = some (.ref aw)
  kAt : m (Str.ofString "k") = some (.int (k : Int) tk)
  led : news = [(aw, listOf vs.toArray ep)]
  sv : SV vs ws
  len : vs.length ≤ k
  res : nrm true x.cps.toList = (nrm ws.isEmpty (x.cps.toList.drop k)).map (ws ++ ·)

structure MidOk (x : Str) (t : Tok) (m : Str → Option Value) (aw : Addr) (ws : List (List Nat)) (k k' : Nat) (tk : Tok) : Prop where
  kle : k ≤ k'
  lek : k' ≤ x.length
  text : m (Str.ofString "text") = some (.str x t)
  words : m (Str.ofString "words") = some (.ref aw)
  kAt : m (Str.ofString "k") = some (.int (k' : Int) tk)
  st : step ws.isEmpty (x.cps.toList.drop k) = item (x.cps.toList.drop k')
def NMid (x : Str) (t : Tok) (s : Shared) (L aw : Addr) (vs : List Value) (ws : List (List Nat)) (ep k : Nat) (f : Flow) (s' : Shared) : Prop :=
  (f = .next ∧ ∃ h' tk' m' k' tk4, s' = { s with heap := h', toks := tk' } ∧ Fr s.heap L h' m' ∧ News s.heap L h' [(aw, listOf vs.toArray ep)] ∧ MidOk x t m' aw ws k k' tk4) ∨
  (∃ v, f = .ret v ∧ RetS s (fun v h' => ResW s.heap h' v (nrm true x.cps.toList)) (.ok (.ret v)) s')
structure MidOk2 (x : Str) (t : Tok) (m : Str → Option Value) (aw : Addr) (k' k2 : Nat) (wd : List Nat) (tk tw : Tok) : Prop where
  klt : k' < k2
  lek : k2 ≤ x.length
  text : m (Str.ofString "text") = some (.str x t)
  words : m (Str.ofString "words") = some (.ref aw)
  kAt : m (Str.ofString "k") = some (.int (k2 : Int) tk)
  word : m (Str.ofString "word") = some (.str (toS wd) tw)
  it : item (x.cps.toList.drop k') = some (wd, x.cps.toList.drop k2)
def NMid2 (x : Str) (t : Tok) (s : Shared) (L aw : Addr) (vs : List Value) (ep k' : Nat) (f : Flow) (s' : Shared) : Prop :=
  (f = .next ∧ ∃ h' tk' m' k2 wd tk4 tw, s' = { s with heap := h', toks := tk' } ∧ Fr s.heap L h' m' ∧ News s.heap L h' [(aw, listOf vs.toArray ep)] ∧ MidOk2 x t m' aw k' k2 wd tk4 tw) ∨
  (∃ v, f = .ret v ∧ RetS s (fun v h' => ResW s.heap h' v (nrm true x.cps.toList)) (.ok (.ret v)) s')

structure QInv (x : Str) (t : Tok) (aw : Addr) (vs : List Value) (ep k' n : Nat) (m : Str → Option Value) (news : List (Addr × Obj)) (k2 : Nat) (wd : List Nat) (more : Bool) (tk tw : Tok) : Prop where
  meas : n = if more = true then x.length + 1 - k2 else 0
  lek : k2 ≤ x.length
  wlen : wd.length ≤ k2
  text : m (Str.ofString "text") = some (.str x t)
  words : m (Str.ofString "words") = some (.ref aw)
  kAt : m (Str.ofString "k") = some (.int (k2 : Int) tk)
  wordAt : m (Str.ofString "word") = some (.str (toS wd) tw)
  moreAt : m (Str.ofString "more") = some (.bool more)
  led : news = [(aw, listOf vs.toArray ep)]
  go : more = true → k' ≤ k2 ∧ k2 < x.length ∧ qI 0 (x.cps.toList.drop (k' + 1)) = (qI 0 (x.cps.toList.drop (k2 + 1))).map (fun p => (wd ++ p.1, p.2))
  fin : more = false → k' < k2 ∧ qI 0 (x.cps.toList.drop (k' + 1)) = some (wd, x.cps.toList.drop k2)
theorem NMid2.next {x : Str} {t : Tok} {s : Shared} {L aw : Addr} {vs : List Value} {ep k' tk' : Nat} {h' : Heap} {m' : Str → Option Value} (F : Fr s.heap L h' m') (N : News s.heap L h' [(aw, listOf vs.toArray ep)])
    (h : ∃ k2 wd tk4 tw, MidOk2 x t m' aw k' k2 wd tk4 tw) : NMid2 x t s L aw vs ep k' .next { s with heap := h', toks := tk' } :=
  let ⟨k2, wd, tk4, tw, q⟩ := h; .inl ⟨rfl, h', tk', m', k2, wd, tk4, tw, rfl, F, N, q⟩
theorem Hid.absurd {α : Type} {a b : α} (h1 : Hid (a = b)) (h2 : Hid (a ≠ b)) : False := h2.out h1.out
theorem frame5 {m : Str → Option Value} {x1 x2 x3 x4 x5 : Str} {v1 v2 v3 v4 v5 : Value} (h1 : m x1 = some v1) (h2 : m x2 = some v2) (h3 : m x3 = some v3) (h4 : m x4 = some v4) (h5 : m x5 = some v5) :
    m = fun y => if y = x1 then some v1 else if y = x2 then some v2 else if y = x3 then some v3 else if y = x4 then some v4 else if y = x5 then some v5 else m y := by
  funext y
  by_cases e1 : y = x1
  · rw [if_pos e1, e1, h1]
  rw [if_neg e1]
  by_cases e2 : y = x2
  · rw [if_pos e2, e2, h2]
  rw [if_neg e2]
  by_cases e3 : y = x3
  · rw [if_pos e3, e3, h3]
  rw [if_neg e3]
  by_cases e4 : y = x4
  · rw [if_pos e4, e4, h4]
  rw [if_neg e4]
  by_cases e5 : y = x5
  · rw [if_pos e5, e5, h5]
  rw [if_neg e5]
theorem tick_is : Str.ofString "'" = ⟨#[39]⟩ := by decide +kernel
theorem find_tick (x : Str) (k : Nat) :
    (Txt.find3 x (Str.ofString "'") (k : Int) = -1 ∧ ∀ v, k ≤ v → x.cps.toList[v]? ≠ some 39) ∨
    ∃ j : Nat, Txt.find3 x (Str.ofString "'") (k : Int) = (j : Int) ∧ k ≤ j ∧ j < x.length ∧ x.cps.toList[j]? = some 39 ∧ ∀ v, k ≤ v → v < j → x.cps.toList[v]? ≠ some 39 := by
  have e : fromIndex x.length (k : Int) = k := by unfold fromIndex; rw [if_neg (by omega)]; omega
  rw [tick_is]
  rcases StrLaws.find3_spec x 39 (k : Int) with ⟨h1, h2⟩ | ⟨j, h1, h2, h3, h4, h5⟩
  · rw [e] at h2
    refine .inl ⟨h1, fun v hv q => ?_⟩
    have hl : v < x.length := by
      have := (List.getElem?_eq_some_iff.mp q).1
      simpa [Str.length] using this
    exact h2 v hv hl (StrLaws.getD_of_getElem? q)
  · rw [e] at h2 h5
    refine .inr ⟨j, h1, h2, h3, StrLaws.getElem?_of_getD h3 h4, fun v hv hvj q => ?_⟩
    exact h5 v hv hvj (StrLaws.getD_of_getElem? q)
theorem slice1_tick {x : Str} {k : Nat} (h : Hid (Txt.slice x (some (k : Int)) (some ((k : Int) + 1)) = Str.ofString "'")) : x.cps.toList[k]? = some 39 := by
  have h := congrArg (fun s : Str => s.cps.toList) h.out
  rw [tick_is] at h
  have e : Txt.slice x (some (k : Int)) (some ((k : Int) + 1)) = Txt.slice x (some (k : Int)) (some ((k + 1 : Nat) : Int)) := rfl
  rw [e] at h
  dsimp only at h
  rw [slice_list] at h
  have h2 := congrArg (fun l : List Nat => l[0]?) h
  simpa using h2
theorem QInv.start {x : Str} {t : Tok} {aw : Addr} {vs : List Value} {ep k' : Nat} {m : Str → Option Value} {tk tw : Tok} (h : Hid (Txt.slice x (some (k' : Int)) (some ((k' : Int) + 1)) = Str.ofString "'"))
    (h1 : m (Str.ofString "text") = some (.str x t)) (h2 : m (Str.ofString "words") = some (.ref aw)) (h3 : m (Str.ofString "k") = some (.int (k' : Int) tk)) (h4 : m (Str.ofString "word") = some (.str (Str.ofString "") tw)) (h5 : m (Str.ofString "more") = some (.bool true)) :
    QInv x t aw vs ep k' (x.length + 1 - k') m [(aw, listOf vs.toArray ep)] k' [] true tk tw := by
  have hh := slice1_tick h
  have hl : k' < x.length := by
    have := (List.getElem?_eq_some_iff.mp hh).1
    simpa [Str.length] using this
  refine ⟨rfl, by omega, by simp, h1, h2, h3, h4, h5, rfl, fun _ => ⟨Nat.le_refl _, hl, ?_⟩, fun e => by cases e⟩
  cases qI 0 (x.cps.toList.drop (k' + 1)) <;> simp
theorem WhileStep2.next_of {h₀ h' : Heap} {L : Addr} {s : Shared} {J : Nat → (Str → Option Value) → List (Addr × Obj) → Prop} {Q : Flow → Shared → Prop} {n tk : Nat} {m₂ : Str → Option Value} {news₂ : List (Addr × Obj)}
    (F : Fr h₀ L h' m₂) (N : News h₀ L h' news₂) (hJ : ∃ n', n' < n ∧ J n' m₂ news₂) : WhileStep2 h₀ L s J Q n .next { s with heap := h', toks := tk } :=
  let ⟨n', hn, h⟩ := hJ; ⟨h', tk, m₂, news₂, n', rfl, F, N, hn, h⟩
structure SInv (x : Str) (t : Tok) (aw : Addr) (vs : List Value) (ep k' n : Nat) (m : Str → Option Value) (news : List (Addr × Obj)) (k2 : Nat) (tk ts : Tok) : Prop where
  meas : n = x.length - k2
  kle : k' ≤ k2
  lek : k2 ≤ x.length
  text : m (Str.ofString "text") = some (.str x t)
  words : m (Str.ofString "words") = some (.ref aw)
  kAt : m (Str.ofString "k") = some (.int (k2 : Int) tk)
  startAt : m (Str.ofString "start") = some (.int (k' : Int) ts)
  led : news = [(aw, listOf vs.toArray ep)]
  safe : ∀ i, k' ≤ i → i < k2 → ∃ c, x.cps.toList[i]? = some c ∧ safeC c = true
theorem frame4 {m : Str → Option Value} {x1 x2 x3 x4 : Str} {v1 v2 v3 v4 : Value} (h1 : m x1 = some v1) (h2 : m x2 = some v2) (h3 : m x3 = some v3) (h4 : m x4 = some v4) :
    m = fun y => if y = x1 then some v1 else if y = x2 then some v2 else if y = x3 then some v3 else if y = x4 then some v4 else m y := by
  funext y
  by_cases e1 : y = x1
  · rw [if_pos e1, e1, h1]
  rw [if_neg e1]
  by_cases e2 : y = x2
  · rw [if_pos e2, e2, h2]
  rw [if_neg e2]
  by_cases e3 : y = x3
  · rw [if_pos e3, e3, h3]
  rw [if_neg e3]
  by_cases e4 : y = x4
  · rw [if_pos e4, e4, h4]
  rw [if_neg e4]
theorem ResW.none_of {h₀ h : Heap} {L a : Addr} {n : Nat} {news : List (Addr × Obj)} {r : Option (List (List Nat))} (N : News h₀ L h news) (hm : (a, listOf #[] n) ∈ news) (hr : r = none) : ResW h₀ h (.ref a) r := by
  subst hr
  exact ⟨a, rfl, (N _ hm).2.2, ⟨_, (N _ hm).1, rfl, n, rfl⟩⟩
theorem News.tail1 {h₀ h : Heap} {L : Addr} {p : Addr × Obj} {news : List (Addr × Obj)} (N : News h₀ L h (p :: news)) : News h₀ L h news := fun q hq => N q (.tail _ hq)
theorem lt_of_dec {k n : Nat} (h : (k : Int) < (n : Int)) : k + 1 ≤ n := by omega
theorem item_at {x : Str} {k c : Nat} (h : k < x.length) : (Txt.item x (k : Int) = ⟨#[c]⟩) ↔ x.cps.toList[k]? = some c := by
  have hl : k < x.cps.toList.length := by simpa [Str.length] using h
  unfold Txt.item
  have e : Txt.charAt x (k : Int) = some (x.cps.toList[k]'hl) := by
    unfold Txt.charAt
    refine StrLaws.at_nonneg (by omega) ?_
    have : ((k : Int)).toNat = k := by omega
    rw [this, Array.getElem?_eq_getElem (by simpa using hl)]
    simp
  rw [e, Option.getD_some, List.getElem?_eq_getElem hl]
  constructor
  · intro h; injection h with h; simpa using h
  · intro h; injection h with h; rw [h]
theorem blank_is : Str.ofString " " = ⟨#[32]⟩ := by decide +kernel
theorem drop_cons {X : List Nat} {k c : Nat} (h : X[k]? = some c) : X.drop k = c :: X.drop (k + 1) := by
  obtain ⟨hl, e⟩ := List.getElem?_eq_some_iff.mp h
  rw [List.drop_eq_getElem_cons hl, e]
theorem drop_ne {x : Str} {k : Nat} (h : ((k : Int) < (x.length : Int))) : x.cps.toList.drop k ≠ [] := by
  have := lt_of_dec h
  intro e
  rw [List.drop_eq_nil_iff] at e
  simp only [Str.length] at this
  simp at e
  omega
section
variable {x : Str} {t : Tok} {n : Nat} {m : Str → Option Value} {news : List (Addr × Obj)} {aw : Addr} {vs : List Value} {ws : List (List Nat)} {ep k : Nat} {tk : Tok}
theorem ws_ne (I : NInv x t n m news aw vs ws ep k tk) (h : (vs.toArray.size != 0) = true) : ws.isEmpty = false := by
  have e := I.sv.length
  cases ws with
  | nil => simp at e; subst e; simp at h
  | cons _ _ => rfl
theorem ws_e (I : NInv x t n m news aw vs ws ep k tk) (h : ¬ (vs.toArray.size != 0) = true) : ws.isEmpty = true := by
  have e := I.sv.length
  cases vs with
  | nil => cases ws with
    | nil => rfl
    | cons _ _ => simp at e
  | cons _ _ => simp at h
theorem nrm_sp_none (I : NInv x t n m news aw vs ws ep k tk) (h1 : ((k : Int) < (x.length : Int))) (h2 : (vs.toArray.size != 0) = true) (h3 : Hid (Txt.item x (k : Int) ≠ Str.ofString " ")) : nrm true x.cps.toList = none := by
  rw [I.res, ws_ne I h2, nrm_none (drop_ne h1)]
  · rfl
  · have h3 := h3.out
    rw [blank_is, ne_eq, item_at (lt_of_dec h1)] at h3
    have hl : k < x.cps.toList.length := by have := lt_of_dec h1; simp only [Str.length] at this; simp; omega
    rw [drop_cons (List.getElem?_eq_getElem hl)]
    unfold step
    rw [if_neg Bool.false_ne_true]
    split
    · rename_i r e
      injection e with e1 e2
      rw [List.getElem?_eq_getElem hl, e1] at h3
      exact absurd rfl h3
    · rfl
theorem step_sp (I : NInv x t n m news aw vs ws ep k tk) (h1 : ((k : Int) < (x.length : Int))) (h2 : (vs.toArray.size != 0) = true) (h3 : Hid (Txt.item x (k : Int) = Str.ofString " ")) :
    step ws.isEmpty (x.cps.toList.drop k) = item (x.cps.toList.drop (k + 1)) := by
  have h3 := h3.out
  rw [blank_is, item_at (lt_of_dec h1)] at h3
  rw [ws_ne I h2, drop_cons h3]
  rfl
theorem step_fst (I : NInv x t n m news aw vs ws ep k tk) (h2 : ¬ (vs.toArray.size != 0) = true) : step ws.isEmpty (x.cps.toList.drop k) = item (x.cps.toList.drop k) := by
  rw [ws_e I h2]; rfl
end
theorem item_none_of {X : List Nat} {k' : Nat} (h : X[k']? = some 39) (hq : qI 0 (X.drop (k' + 1)) = none) : item (X.drop k') = none := by
  rw [drop_cons h]; simp [item, hq]
theorem item_safe_none {X wd r : List Nat} {k' : Nat} (h : X[k']? = some 39) (hq : qI 0 (X.drop (k' + 1)) = some (wd, r)) (hs : safeW wd = true) : item (X.drop k') = none := by
  rw [drop_cons h]; simp [item, hq, hs]
theorem item_quoted {X wd r : List Nat} {k' : Nat} (h : X[k']? = some 39) (hq : qI 0 (X.drop (k' + 1)) = some (wd, r)) (hs : ¬ safeW wd = true) : item (X.drop k') = some (wd, r) := by
  rw [drop_cons h]; simp [item, hq, hs]
section
variable {x : Str} {t : Tok} {n : Nat} {m m' : Str → Option Value} {news : List (Addr × Obj)} {aw : Addr} {vs : List Value} {ws : List (List Nat)} {ep k k' : Nat} {tk tk' : Tok}
theorem nrm_item_none (I : NInv x t n m news aw vs ws ep k tk) (M : MidOk x t m' aw ws k k' tk') (hk : (k : Int) < (x.length : Int)) (h : item (x.cps.toList.drop k') = none) : nrm true x.cps.toList = none := by
  rw [I.res, nrm_none (drop_ne hk) (by rw [M.st, h])]; rfl
end
section
variable {x : Str} {t : Tok} {aw : Addr} {vs : List Value} {ep k' n : Nat} {m m2 : Str → Option Value} {news : List (Addr × Obj)} {k2 j : Nat} {wd : List Nat} {tk tw tk2 tw2 : Tok}
theorem free_drop {X : List Nat} {a : Nat} (hn : ∀ v, a ≤ v → X[v]? ≠ some 39) : ∀ i, i < (X.drop a).length → (X.drop a)[i]? ≠ some 39 := by
  intro i _
  rw [List.getElem?_drop]; exact hn _ (by omega)
theorem QInv.lost (J : QInv x t aw vs ep k' n m news k2 wd true tk tw) (hn : ∀ v, k2 + 1 ≤ v → x.cps.toList[v]? ≠ some 39) : qI 0 (x.cps.toList.drop (k' + 1)) = none := by
  obtain ⟨_, _, g⟩ := J.go rfl
  rw [g, qI_free (free_drop hn)]; rfl
theorem strand {X : List Nat} {a j : Nat} (h1 : a ≤ j) (h2 : j < X.length) (hn : ∀ v, a ≤ v → v < j → X[v]? ≠ some 39) :
    qI 0 (X.drop a) = (qI 0 (X.drop j)).map (fun p => ((X.take j).drop a ++ p.1, p.2)) := by
  rw [qI_strand (j - a) (X.drop a) (by rw [List.length_drop]; omega) (fun i hi => by rw [List.getElem?_drop]; exact hn _ (by omega) (by omega))]
  rw [List.drop_drop, show a + (j - a) = j by omega, List.drop_take]
theorem slice5 (x : Str) (j : Nat) : (Txt.slice x (some (j : Int)) (some ((j : Int) + 5))).cps.toList = (x.cps.toList.drop j).take 5 := by
  have : Txt.slice x (some (j : Int)) (some ((j : Int) + 5)) = Txt.slice x (some (j : Int)) (some ((j + 5 : Nat) : Int)) := rfl
  rw [this, slice_list, List.drop_take]
  congr 1
  omega
theorem esc_is : (Str.ofString "'\"'\"'").cps.toList = escL := by decide +kernel
theorem tk_is : (Str.ofString "'").cps.toList = [39] := by decide +kernel
theorem slice_toS (x : Str) (a b : Nat) : Txt.slice x (some (a : Int)) (some (b : Int)) = toS ((x.cps.toList.take b).drop a) := str_ext (by rw [slice_list, toS_toList])
theorem toS_app (a b : List Nat) : toS a ++ toS b = toS (a ++ b) := str_ext (by simp only [Str.cps_append, Array.toList_append, toS_toList])
theorem QInv.esc (J : QInv x t aw vs ep k' n m news k2 wd true tk tw) (h1 : k2 + 1 ≤ j) (h2 : j < x.length) (hn : ∀ v, k2 + 1 ≤ v → v < j → x.cps.toList[v]? ≠ some 39)
    (he : Hid (Txt.slice x (some (j : Int)) (some ((j : Int) + 5)) = Str.ofString "'\"'\"'"))
    (q1 : m2 (Str.ofString "text") = some (.str x t)) (q2 : m2 (Str.ofString "words") = some (.ref aw)) (q3 : m2 (Str.ofString "k") = some (.int ((j : Int) + 4) tk2))
    (q4 : m2 (Str.ofString "word") = some (.str (toS wd ++ (Txt.slice x (some ((k2 : Int) + 1)) (some (j : Int)) ++ Str.ofString "'")) tw2))
    (q5 : m2 (Str.ofString "more") = some (.bool (Txt.slice x (some (j : Int)) (some ((j : Int) + 5)) == Str.ofString "'\"'\"'"))) :
    ∃ n', n' < n ∧ ∃ k2 wd more tk tw, QInv x t aw vs ep k' n' m2 [(aw, listOf vs.toArray ep)] k2 wd more tk tw := by
  obtain ⟨g1, g2, g3⟩ := J.go rfl
  have el : x.length = x.cps.toList.length := by simp [Str.length]
  have h5 : (x.cps.toList.drop j).take 5 = escL := by rw [← slice5, he.out, esc_is]
  have h6 : j + 5 ≤ x.length := by
    have := congrArg List.length h5
    rw [List.length_take, List.length_drop] at this
    simp only [escL, List.length_cons, List.length_nil] at this
    omega
  have hm := J.meas
  rw [if_pos rfl] at hm
  refine ⟨x.length + 1 - (j + 4), by omega, j + 4, wd ++ ((x.cps.toList.take j).drop (k2 + 1) ++ [39]), true, tk2, tw2, ⟨rfl, by omega, ?_, q1, q2, q3, ?_, ?_, rfl, fun _ => ⟨by omega, by omega, ?_⟩, fun e => by cases e⟩⟩
  · have := J.wlen
    simp only [List.length_append, List.length_drop, List.length_take, List.length_cons, List.length_nil]
    omega
  · rw [q4]
    have e : Txt.slice x (some ((k2 : Int) + 1)) (some (j : Int)) = Txt.slice x (some ((k2 + 1 : Nat) : Int)) (some (j : Int)) := rfl
    have e2 : Str.ofString "'" = toS [39] := str_ext (by rw [tk_is, toS_toList])
    rw [e, slice_toS, e2, toS_app, toS_app]
  · rw [q5, he.out]; simp
  · rw [g3, strand h1 (by omega) hn, qI_esc h5, List.drop_drop]
    cases qI 0 (x.cps.toList.drop (j + 5)) <;> simp [*]
theorem QInv.stop (J : QInv x t aw vs ep k' n m news k2 wd true tk tw) (h1 : k2 + 1 ≤ j) (h2 : j < x.length) (hj : x.cps.toList[j]? = some 39) (hn : ∀ v, k2 + 1 ≤ v → v < j → x.cps.toList[v]? ≠ some 39)
    (he : Hid (Txt.slice x (some (j : Int)) (some ((j : Int) + 5)) ≠ Str.ofString "'\"'\"'"))
    (q1 : m2 (Str.ofString "text") = some (.str x t)) (q2 : m2 (Str.ofString "words") = some (.ref aw)) (q3 : m2 (Str.ofString "k") = some (.int ((j : Int) + 1) tk2))
    (q4 : m2 (Str.ofString "word") = some (.str (toS wd ++ (Txt.slice x (some ((k2 : Int) + 1)) (some (j : Int)) ++ Str.ofString "")) tw2))
    (q5 : m2 (Str.ofString "more") = some (.bool (Txt.slice x (some (j : Int)) (some ((j : Int) + 5)) == Str.ofString "'\"'\"'"))) :
    ∃ n', n' < n ∧ ∃ k2 wd more tk tw, QInv x t aw vs ep k' n' m2 [(aw, listOf vs.toArray ep)] k2 wd more tk tw := by
  obtain ⟨g1, g2, g3⟩ := J.go rfl
  have el : x.length = x.cps.toList.length := by simp [Str.length]
  have h5 : (x.cps.toList.drop j).take 5 ≠ escL := by
    intro e
    refine he.out (str_ext ?_)
    rw [slice5, e, esc_is]
  have hm := J.meas
  rw [if_pos rfl] at hm
  refine ⟨0, by omega, j + 1, wd ++ (x.cps.toList.take j).drop (k2 + 1), false, tk2, tw2, ⟨rfl, by omega, ?_, q1, q2, q3, ?_, ?_, rfl, (fun e => by cases e), fun _ => ⟨by omega, ?_⟩⟩⟩
  · have := J.wlen
    simp only [List.length_append, List.length_drop, List.length_take]
    omega
  · rw [q4]
    have e : Txt.slice x (some ((k2 : Int) + 1)) (some (j : Int)) = Txt.slice x (some ((k2 + 1 : Nat) : Int)) (some (j : Int)) := rfl
    have e2 : Str.ofString "" = toS [] := rfl
    rw [e, slice_toS, e2, toS_app, toS_app, List.append_nil]
  · rw [q5]
    have : (Txt.slice x (some (j : Int)) (some ((j : Int) + 5)) == Str.ofString "'\"'\"'") = false := by
      rw [beq_eq_false_iff_ne]; exact he.out
    rw [this]
  · rw [g3, strand h1 (by omega) hn, drop_cons hj, qI_end (by rw [← drop_cons hj]; exact h5)]
    simp
end
theorem word_slice {x : Str} {a b : Nat} {tw : Tok} : some (Value.str (Txt.slice x (some (a : Int)) (some (b : Int))) tw) = some (Value.str (toS ((x.cps.toList.take b).drop a)) tw) := by rw [slice_toS]
theorem item_toList {x : Str} {k : Nat} (h : k < x.length) : ∃ c, x.cps.toList[k]? = some c ∧ (Txt.item x (k : Int)).cps.toList = [c] := by
  have hl : k < x.cps.toList.length := by simpa [Str.length] using h
  refine ⟨x.cps.toList[k], List.getElem?_eq_getElem hl, ?_⟩
  have := (item_at (c := x.cps.toList[k]) h).mpr (List.getElem?_eq_getElem hl)
  rw [this]
theorem run_is {p : Nat → Bool} : ∀ (n : Nat) (l : List Nat), n ≤ l.length → (∀ i, i < n → ∃ c, l[i]? = some c ∧ p c = true) → (∀ c, l[n]? = some c → p c = false) → l.takeWhile p = l.take n ∧ l.dropWhile p = l.drop n
  | 0, [], _, _, _ => by simp
  | 0, c :: r, _, _, h => by
    have := h c (by simp)
    simp [List.takeWhile_cons, List.dropWhile_cons, this]
  | n + 1, [], hl, _, _ => by simp at hl
  | n + 1, c :: r, hl, h1, h2 => by
    obtain ⟨c', e, hc⟩ := h1 0 (by omega)
    have e' : c = c' := by simpa using e
    subst e'
    have ih := run_is (p := p) n r (by simpa using hl) (fun i hi => by simpa using h1 (i + 1) (by omega)) (fun c hc => h2 c (by simpa using hc))
    simp [List.takeWhile_cons, List.dropWhile_cons, hc, ih.1, ih.2]
theorem item_plain {l : List Nat} (h : l[0]? ≠ some 39) : item l = if l.takeWhile safeC = [] then none else some (l.takeWhile safeC, l.dropWhile safeC) := by
  unfold item
  split
  · simp at h
  · rfl
theorem not_tick {x : Str} {k : Nat} (h : Hid (Txt.slice x (some (k : Int)) (some ((k : Int) + 1)) ≠ Str.ofString "'")) : x.cps.toList[k]? ≠ some 39 := by
  intro e
  refine h.out (str_ext ?_)
  have e2 : Txt.slice x (some (k : Int)) (some ((k : Int) + 1)) = Txt.slice x (some (k : Int)) (some ((k + 1 : Nat) : Int)) := rfl
  rw [e2, slice_list, List.drop_take, drop_cons e, show k + 1 - k = 1 by omega, tk_is]
  rfl
section
variable {x : Str} {t : Tok} {aw : Addr} {vs : List Value} {ep k' n : Nat} {m m2 : Str → Option Value} {news : List (Addr × Obj)} {k2 : Nat} {tk ts tk2 ts2 : Tok}
theorem SInv.next (J : SInv x t aw vs ep k' n m news k2 tk ts) (hk : (k2 : Int) < (x.length : Int)) (hs : ((Txt.item x (k2 : Int)).cps.toList != [] && (Txt.item x (k2 : Int)).cps.toList.all safeC) = true)
    (q1 : m2 (Str.ofString "text") = some (.str x t)) (q2 : m2 (Str.ofString "words") = some (.ref aw)) (q3 : m2 (Str.ofString "k") = some (.int ((k2 : Int) + 1) tk2)) (q4 : m2 (Str.ofString "start") = some (.int (k' : Int) ts2)) :
    ∃ n', n' < n ∧ ∃ k2 tk ts, SInv x t aw vs ep k' n' m2 [(aw, listOf vs.toArray ep)] k2 tk ts := by
  have hm := J.meas
  have hle := J.kle
  refine ⟨x.length - (k2 + 1), by omega, k2 + 1, tk2, ts2, ⟨rfl, by omega, by omega, q1, q2, q3, q4, rfl, fun i h1 h2 => ?_⟩⟩
  by_cases e : i < k2
  · exact J.safe i h1 e
  · have : i = k2 := by omega
    subst this
    obtain ⟨c, e1, e2⟩ := item_toList (x := x) (k := i) (by omega)
    rw [e2] at hs
    exact ⟨c, e1, by simpa using hs⟩
theorem SInv.run (J : SInv x t aw vs ep k' n m news k2 tk ts) (h : ∀ c, x.cps.toList[k2]? = some c → safeC c = false) :
    (x.cps.toList.drop k').takeWhile safeC = (x.cps.toList.take k2).drop k' ∧ (x.cps.toList.drop k').dropWhile safeC = x.cps.toList.drop k2 := by
  have hle := J.kle
  have hlek := J.lek
  have el : x.length = x.cps.toList.length := by simp [Str.length]
  have := run_is (p := safeC) (k2 - k') (x.cps.toList.drop k') (by rw [List.length_drop]; omega)
    (fun i hi => by rw [List.getElem?_drop]; exact J.safe _ (by omega) (by omega)) (fun c hc => by rw [List.getElem?_drop, show k' + (k2 - k') = k2 by omega] at hc; exact h c hc)
  rw [this.1, this.2, List.drop_take, List.drop_drop, show k' + (k2 - k') = k2 by omega]
  exact ⟨rfl, rfl⟩
theorem notsafe_of (hk : (k2 : Int) < (x.length : Int)) (hs : ¬ ((Txt.item x (k2 : Int)).cps.toList != [] && (Txt.item x (k2 : Int)).cps.toList.all safeC) = true) : ∀ c, x.cps.toList[k2]? = some c → safeC c = false := by
  intro c hc
  obtain ⟨c', e1, e2⟩ := item_toList (x := x) (k := k2) (by omega)
  rw [e2] at hs
  rw [e1] at hc
  injection hc with hc
  subst hc
  simpa using hs
theorem notsafe_end (hk : ¬ (k2 : Int) < (x.length : Int)) : ∀ c, x.cps.toList[k2]? = some c → safeC c = false := by
  intro c hc
  have := (List.getElem?_eq_some_iff.mp hc).1
  simp only [Str.length] at hk
  simp at this
  omega
theorem SInv.none (J : SInv x t aw vs ep k' n m news k2 tk ts) (hu : ∀ c, x.cps.toList[k2]? = some c → safeC c = false)
    (h1 : Hid (Txt.slice x (some (k' : Int)) (some ((k' : Int) + 1)) ≠ Str.ofString "'")) (h2 : Hid (Txt.slice x (some (k' : Int)) (some (k2 : Int)) = Str.ofString "")) : item (x.cps.toList.drop k') = none := by
  have h3 := not_tick h1
  have h4 : (Txt.slice x (some (k' : Int)) (some (k2 : Int))).cps.toList = [] := by rw [h2.out]; rfl
  rw [slice_list] at h4
  rw [item_plain (by rw [List.getElem?_drop]; exact h3), (J.run hu).1, h4]
  rfl
theorem SInv.some (J : SInv x t aw vs ep k' n m news k2 tk ts) (hu : ∀ c, x.cps.toList[k2]? = some c → safeC c = false)
    (h1 : Hid (Txt.slice x (some (k' : Int)) (some ((k' : Int) + 1)) ≠ Str.ofString "'")) (h2 : Hid (Txt.slice x (some (k' : Int)) (some (k2 : Int)) ≠ Str.ofString "")) :
    k' < k2 ∧ item (x.cps.toList.drop k') = some ((x.cps.toList.take k2).drop k', x.cps.toList.drop k2) := by
  have h3 := not_tick h1
  have h4 : (x.cps.toList.take k2).drop k' ≠ [] := by
    intro e
    refine h2.out (str_ext ?_)
    rw [slice_list, e]; rfl
  refine ⟨?_, ?_⟩
  · refine Classical.byContradiction fun hn => h4 ?_
    rw [List.drop_eq_nil_iff, List.length_take]; omega
  · rw [item_plain (by rw [List.getElem?_drop]; exact h3), (J.run hu).1, (J.run hu).2, if_neg h4]
end
section
variable {x : Str} {t : Tok} {n : Nat} {m m' m2 m3 : Str → Option Value} {news : List (Addr × Obj)} {aw : Addr} {vs : List Value} {ws : List (List Nat)} {ep k k' k2 : Nat} {tk tk' tk2 tw tk3 : Tok} {wd : List Nat}
theorem NInv.next (I : NInv x t n m news aw vs ws ep k tk) (M : MidOk x t m' aw ws k k' tk') (M2 : MidOk2 x t m2 aw k' k2 wd tk2 tw) (hk : (k : Int) < (x.length : Int))
    (q1 : m3 (Str.ofString "text") = some (.str x t)) (q2 : m3 (Str.ofString "words") = some (.ref aw)) (q3 : m3 (Str.ofString "k") = some (.int (k2 : Int) tk3)) :
    ∃ n', n' < n ∧ ∃ aw' vs' ws' ep' k' tk', NInv x t n' m3 [(aw, listOf (vs.toArray.push (.str (toS wd) tw)) (ep + 1))] aw' vs' ws' ep' k' tk' := by
  have h1 := I.meas
  have h2 := I.len
  have h3 := M.kle
  have h4 := M2.klt
  have h5 := M2.lek
  refine ⟨x.length - k2, by omega, aw, vs ++ [.str (toS wd) tw], ws ++ [wd], ep + 1, k2, tk3, ⟨rfl, h5, q1, q2, q3, by simp, Paired.snoc I.sv ⟨tw, rfl⟩, by simp; omega, ?_⟩⟩
  rw [I.res, nrm_some (drop_ne hk) (by rw [M.st, M2.it])]
  have : (ws ++ [wd]).isEmpty = false := by simp
  rw [this]
  cases nrm false (x.cps.toList.drop k2) <;> simp
theorem NInv.full (I : NInv x t n m news aw vs ws ep k tk) (hk : ¬ (k : Int) < (x.length : Int)) : nrm true x.cps.toList = some ws := by
  have h1 := I.kle
  have e : x.cps.toList.drop k = [] := by
    rw [List.drop_eq_nil_iff]
    simp only [Str.length] at hk h1
    simp; omega
  rw [I.res, e, nrm_nil]
  simp
end
theorem ResW.some_of {h₀ h : Heap} {L a b : Addr} {n n2 : Nat} {vs : List Value} {ws : List (List Nat)} {r : Option (List (List Nat))} (N : News h₀ L h [(a, listOf #[.ref b] n), (b, listOf vs.toArray n2)]) (hab : a ≠ b) (hr : r = some ws) (sv : SV vs ws) : ResW h₀ h (.ref a) r := by
  subst hr
  exact ⟨a, b, vs, rfl, (N _ (.head _)).2.2, (N _ (.tail _ (.head _))).2.2, hab, ⟨_, (N _ (.head _)).1, rfl, n, rfl⟩, ⟨_, (N _ (.tail _ (.head _))).1, rfl, n2, rfl⟩, sv⟩
set_option maxHeartbeats 4000000 in
theorem normal_spec {w : World} {s : Shared} {x : Str} {t : Tok} {mean mg mb} (hx : x.length ≤ 200) (KX : (Mine.hd.heap_39 w.params).In s.heap) (T : Top Mine.hd.view_39 LS mean mg mb s.heap) :
    codeAny (model prg w) AB (.call (.ref 70) ⟨[.str x t], []⟩) (RetS s fun v h' => ResW s.heap h' v (nrm true x.cps.toList)) s := by
  refine call_plain_ret (by decide) (KX 70 _ rfl) rfl T.nolimit (codeRec_of KX rfl) (binds := [(Str.ofString "text", .str x t)]) rfl (locs rfl) (fun h₁ F => ?_)
  have N : News s.heap s.heap.objs.size h₁ [] := News.nil
  w_on
  repeat' ((fail_if_success (with_reducible show wpAny _ _ (exec (Stmt.While _ _ _ _) _) _ _ _)); first | (k_unfold; (try dsimp only)) | ((with_reducible show wpAny _ _ (execs _ _) _ _ _); (try dsimp only); walk1) | walk1 | (dsimp only; walk1))
  rename_i F2 N2
  refine While_inv2 (fun n m news => ∃ aw vs ws ep k tk, NInv x t n m news aw vs ws ep k tk) (n₀ := x.length) (by with_reducible assumption) (by with_reducible assumption) ?_ ?_
  · refine ⟨_, [], [], 0, 0, _, ⟨by omega, by omega, rfl, rfl, rfl, rfl, Paired.nil, by simp, ?_⟩⟩
    cases h : nrm true x.cps.toList <;> simp [h]
  · rintro n m news h2 tk2 F3 N3 ⟨aw, vs, ws, ep, k, tk3, I⟩
    rw [frame3 I.text I.words I.kAt] at F3
    rw [I.led] at N3
    have hk := I.kle
    repeat' ((fail_if_success (first | (with_reducible show wpAny _ _ (execs (Stmt.If _ _ _ _ :: _) _) _ _ _))); (first | (with_reducible refine ite_t ?_) | (with_reducible refine ite_f ?_) | (with_reducible refine ite_str_t (by with_reducible assumption) ?_) | (with_reducible refine ite_str_f (by with_reducible assumption) ?_) | (with_reducible refine ite_str (fun hc => ?_) (fun hc => ?_)) | (with_reducible refine ite_strne (fun hc => ?_) (fun hc => ?_)) | (with_reducible refine ite_dt (by omega) ?_) | (with_reducible refine ite_df (by omega) ?_) | (with_reducible refine ite_dby (fun hc => ?_) (fun hc => ?_)) | (with_reducible refine ite_by (fun hc => ?_) (fun hc => ?_)) | (k_unfold; (try dsimp only)) | ((with_reducible show wpAny _ _ (execs _ _) _ _ _); (try dsimp only); walk1) | walk1 | (dsimp only; walk1)))
    · refine wpAny_execs_cons (wpAny_mono (Q := NMid x t s s.heap.objs.size aw vs ws ep k) (E := fun _ _ => False) ?_ ?_ (fun _ _ e => e))
      · repeat' ((fail_if_success (first | (with_reducible show wpAny _ _ (compareOp _ (Value.ref _) (Value.ref _)) _ _ _))); (first | (with_reducible refine ite_t ?_) | (with_reducible refine ite_f ?_) | (with_reducible refine ite_str_t (by with_reducible assumption) ?_) | (with_reducible refine ite_str_f (by with_reducible assumption) ?_) | (with_reducible refine ite_str (fun hc => ?_) (fun hc => ?_)) | (with_reducible refine ite_strne (fun hc => ?_) (fun hc => ?_)) | (with_reducible refine ite_dt (by omega) ?_) | (with_reducible refine ite_df (by omega) ?_) | (with_reducible refine ite_dby (fun hc => ?_) (fun hc => ?_)) | (with_reducible refine ite_by (fun hc => ?_) (fun hc => ?_)) | (k_unfold; (try dsimp only)) | ((with_reducible show wpAny _ _ (execs _ _) _ _ _); (try dsimp only); walk1) | walk1 | (dsimp only; walk1)))
        refine ne_nil (News.isListK (by with_reducible assumption) (.tail _ (.head _))) (News.isListK (by with_reducible assumption) (.head _)) (Nat.le_of_ble_eq_true rfl) ?_
        repeat' (first | (with_reducible refine ite_t ?_) | (with_reducible refine ite_f ?_) | (with_reducible refine ite_str_t (by with_reducible assumption) ?_) | (with_reducible refine ite_str_f (by with_reducible assumption) ?_) | (with_reducible refine ite_str (fun hc => ?_) (fun hc => ?_)) | (with_reducible refine ite_strne (fun hc => ?_) (fun hc => ?_)) | (with_reducible refine ite_dt (by omega) ?_) | (with_reducible refine ite_df (by omega) ?_) | (with_reducible refine ite_dby (fun hc => ?_) (fun hc => ?_)) | (with_reducible refine ite_by (fun hc => ?_) (fun hc => ?_)) | (k_unfold; (try dsimp only)) | ((with_reducible show wpAny _ _ (execs _ _) _ _ _); (try dsimp only); walk1) | walk1 | (dsimp only; walk1))
        · (try dsimp only)
          exact .inr ⟨_, rfl, RetS.mk (by with_reducible assumption) (ResW.none_of (by with_reducible assumption) (.head _) (nrm_sp_none I (by with_reducible assumption) (by with_reducible assumption) (by with_reducible assumption)))⟩
        · (try dsimp only)
          exact .inl ⟨rfl, _, _, _, k + 1, _, rfl, by with_reducible assumption, News.tail1 (by with_reducible assumption), ⟨by omega, lt_of_dec (by with_reducible assumption), rfl, rfl, rfl, step_sp I (by with_reducible assumption) (by with_reducible assumption) (by with_reducible assumption)⟩⟩
        · (try dsimp only)
          exact .inl ⟨rfl, _, _, _, k, _, rfl, by with_reducible assumption, News.tail1 (by with_reducible assumption), ⟨by omega, hk, rfl, rfl, rfl, step_fst I (by with_reducible assumption)⟩⟩
      · rintro f s' (⟨rfl, h', tk', m', k', tk4, rfl, F4, N4, M⟩ | ⟨v, rfl, hR⟩)
        · dsimp only
          rw [frame3 M.text M.words M.kAt] at F4
          have hk1 := M.kle
          have hk2 := M.lek
          repeat' ((fail_if_success (first | (with_reducible show wpAny _ _ (execs (Stmt.If _ _ _ _ :: _) _) _ _ _))); (first | (with_reducible refine ite_t ?_) | (with_reducible refine ite_f ?_) | (with_reducible refine ite_str_t (by with_reducible assumption) ?_) | (with_reducible refine ite_str_f (by with_reducible assumption) ?_) | (with_reducible refine ite_str (fun hc => ?_) (fun hc => ?_)) | (with_reducible refine ite_strne (fun hc => ?_) (fun hc => ?_)) | (with_reducible refine ite_dt (by omega) ?_) | (with_reducible refine ite_df (by omega) ?_) | (with_reducible refine ite_dby (fun hc => ?_) (fun hc => ?_)) | (with_reducible refine ite_by (fun hc => ?_) (fun hc => ?_)) | (k_unfold; (try dsimp only)) | ((with_reducible show wpAny _ _ (execs _ _) _ _ _); (try dsimp only); walk1) | walk1 | (dsimp only; walk1)))
          refine wpAny_execs_cons (wpAny_mono (Q := NMid2 x t s s.heap.objs.size aw vs ep k') (E := fun _ _ => False) ?_ ?_ (fun _ _ e => e))
          · repeat' ((fail_if_success (first | (with_reducible show wpAny _ _ (exec (Stmt.While _ _ _ _) _) _ _ _))); (first | (with_reducible refine ite_t ?_) | (with_reducible refine ite_f ?_) | (with_reducible refine ite_str_t (by with_reducible assumption) ?_) | (with_reducible refine ite_str_f (by with_reducible assumption) ?_) | (with_reducible refine ite_str (fun hc => ?_) (fun hc => ?_)) | (with_reducible refine ite_strne (fun hc => ?_) (fun hc => ?_)) | (with_reducible refine ite_dt (by omega) ?_) | (with_reducible refine ite_df (by omega) ?_) | (with_reducible refine ite_dby (fun hc => ?_) (fun hc => ?_)) | (with_reducible refine ite_by (fun hc => ?_) (fun hc => ?_)) | (k_unfold; (try dsimp only)) | ((with_reducible show wpAny _ _ (execs _ _) _ _ _); (try dsimp only); walk1) | walk1 | (dsimp only; walk1)))
            · refine While_inv2 (fun n m news => ∃ k2 wd more tk tw, QInv x t aw vs ep k' n m news k2 wd more tk tw) (n₀ := x.length + 1 - k') (by with_reducible assumption) (by with_reducible assumption) ?_ ?_
              · exact ⟨k', [], true, _, _, QInv.start (by with_reducible assumption) rfl rfl rfl rfl rfl⟩
              · rintro n5 m5 news5 h5 tk5 F5 N5 ⟨k2, wd, more, tk6, tw, J⟩
                rw [frame5 J.text J.words J.kAt J.wordAt J.moreAt] at F5
                rw [J.led] at N5
                have hlek := J.lek
                have hwl : (toS wd).length ≤ 200 := by have := J.wlen; simp only [Str.length, toS, List.size_toArray]; omega
                cases more with
                | false =>
                  obtain ⟨g1, g2⟩ := J.fin rfl
                  have h39 := slice1_tick (x := x) (k := k') (by with_reducible assumption)
                  repeat' ((fail_if_success (first | (with_reducible show wpAny _ _ (call (Value.ref _) _) _ _ _))); (first | (with_reducible refine ite_t ?_) | (with_reducible refine ite_f ?_) | (with_reducible refine ite_str_t (by with_reducible assumption) ?_) | (with_reducible refine ite_str_f (by with_reducible assumption) ?_) | (with_reducible refine ite_str (fun hc => ?_) (fun hc => ?_)) | (with_reducible refine ite_strne (fun hc => ?_) (fun hc => ?_)) | (with_reducible refine ite_dt (by omega) ?_) | (with_reducible refine ite_df (by omega) ?_) | (with_reducible refine ite_dby (fun hc => ?_) (fun hc => ?_)) | (with_reducible refine ite_by (fun hc => ?_) (fun hc => ?_)) | (k_unfold; (try dsimp only)) | ((with_reducible show wpAny _ _ (execs _ _) _ _ _); (try dsimp only); walk1) | walk1 | (dsimp only; walk1)))
                  refine call_safe hwl KX T (by with_reducible assumption) (by with_reducible assumption) rfl (Nat.le_of_ble_eq_true rfl) (Nat.le_of_ble_eq_true rfl) (fun h7 tk7 F7 N7 => ?_)
                  clear F5 N5
                  repeat' (first | (with_reducible refine ite_t ?_) | (with_reducible refine ite_f ?_) | (with_reducible refine ite_str_t (by with_reducible assumption) ?_) | (with_reducible refine ite_str_f (by with_reducible assumption) ?_) | (with_reducible refine ite_str (fun hc => ?_) (fun hc => ?_)) | (with_reducible refine ite_strne (fun hc => ?_) (fun hc => ?_)) | (with_reducible refine ite_dt (by omega) ?_) | (with_reducible refine ite_df (by omega) ?_) | (with_reducible refine ite_dby (fun hc => ?_) (fun hc => ?_)) | (with_reducible refine ite_by (fun hc => ?_) (fun hc => ?_)) | (k_unfold; (try dsimp only)) | ((with_reducible show wpAny _ _ (execs _ _) _ _ _); (try dsimp only); walk1) | walk1 | (dsimp only; walk1))
                  · (try dsimp only)
                    exact .inr ⟨_, rfl, RetS.mk (by with_reducible assumption) (ResW.none_of (by with_reducible assumption) (.head _) (nrm_item_none I M (by with_reducible assumption) (item_safe_none h39 g2 (by assumption))))⟩
                  · (try dsimp only)
                    exact .inl ⟨rfl, _, _, _, k2, wd, _, _, rfl, F7, N7, ⟨g1, hlek, rfl, rfl, rfl, rfl, item_quoted h39 g2 (by assumption)⟩⟩
                | true =>
                  obtain ⟨g1, g2, g3⟩ := J.go rfl
                  repeat' ((fail_if_success (first | (with_reducible show wpAny _ _ (call (Value.builtin "str.find") _) _ _ _))); (first | (with_reducible refine ite_t ?_) | (with_reducible refine ite_f ?_) | (with_reducible refine ite_str_t (by with_reducible assumption) ?_) | (with_reducible refine ite_str_f (by with_reducible assumption) ?_) | (with_reducible refine ite_str (fun hc => ?_) (fun hc => ?_)) | (with_reducible refine ite_strne (fun hc => ?_) (fun hc => ?_)) | (with_reducible refine ite_dt (by omega) ?_) | (with_reducible refine ite_df (by omega) ?_) | (with_reducible refine ite_dby (fun hc => ?_) (fun hc => ?_)) | (with_reducible refine ite_by (fun hc => ?_) (fun hc => ?_)) | (k_unfold; (try dsimp only)) | ((with_reducible show wpAny _ _ (execs _ _) _ _ _); (try dsimp only); walk1) | walk1 | (dsimp only; walk1)))
                  walk1
                  rcases find_tick x (k2 + 1) with ⟨hf, hn⟩ | ⟨j, hf, hj1, hj2, hj3, hj4⟩
                  · replace hf : Txt.find3 x (Str.ofString "'") ((k2 : Int) + 1) = _ := hf
                    dsimp only
                    rw [hf]
                    repeat' ((fail_if_success (first | (with_reducible show WhileStep2 _ _ _ _ _ _ _ _))); (first | (with_reducible refine ite_t ?_) | (with_reducible refine ite_f ?_) | (with_reducible refine ite_str_t (by with_reducible assumption) ?_) | (with_reducible refine ite_str_f (by with_reducible assumption) ?_) | (with_reducible refine ite_str (fun hc => ?_) (fun hc => ?_)) | (with_reducible refine ite_strne (fun hc => ?_) (fun hc => ?_)) | (with_reducible refine ite_dt (by omega) ?_) | (with_reducible refine ite_df (by omega) ?_) | (with_reducible refine ite_dby (fun hc => ?_) (fun hc => ?_)) | (with_reducible refine ite_by (fun hc => ?_) (fun hc => ?_)) | (k_unfold; (try dsimp only)) | ((with_reducible show wpAny _ _ (execs _ _) _ _ _); (try dsimp only); walk1) | walk1 | (dsimp only; walk1)))
                    dsimp only [WhileStep2]
                    exact .inr ⟨_, rfl, RetS.mk (by with_reducible assumption) (ResW.none_of (by with_reducible assumption) (.head _) (nrm_item_none I M (by with_reducible assumption) (item_none_of (slice1_tick (by with_reducible assumption)) (J.lost hn))))⟩
                  · replace hf : Txt.find3 x (Str.ofString "'") ((k2 : Int) + 1) = _ := hf
                    dsimp only
                    rw [hf]
                    repeat' ((fail_if_success (first | (with_reducible show WhileStep2 _ _ _ _ _ _ _ _))); (first | (with_reducible refine ite_t ?_) | (with_reducible refine ite_f ?_) | (with_reducible refine ite_str_t (by with_reducible assumption) ?_) | (with_reducible refine ite_str_f (by with_reducible assumption) ?_) | (with_reducible refine ite_str (fun hc => ?_) (fun hc => ?_)) | (with_reducible refine ite_strne (fun hc => ?_) (fun hc => ?_)) | (with_reducible refine ite_dt (by omega) ?_) | (with_reducible refine ite_df (by omega) ?_) | (with_reducible refine ite_dby (fun hc => ?_) (fun hc => ?_)) | (with_reducible refine ite_by (fun hc => ?_) (fun hc => ?_)) | (k_unfold; (try dsimp only)) | ((with_reducible show wpAny _ _ (execs _ _) _ _ _); (try dsimp only); walk1) | walk1 | (dsimp only; walk1)))
                    · refine WhileStep2.next_of (by with_reducible assumption) (by with_reducible assumption) ?_
                      exact J.esc hj1 hj2 hj4 (by with_reducible assumption) rfl rfl rfl rfl rfl
                    · refine WhileStep2.next_of (by with_reducible assumption) (by with_reducible assumption) ?_
                      exact J.stop hj1 hj2 hj3 hj4 (by with_reducible assumption) rfl rfl rfl rfl rfl
            · refine While_inv2 (fun n m news => ∃ k2 tk ts, SInv x t aw vs ep k' n m news k2 tk ts) (n₀ := x.length - k') (by with_reducible assumption) (by with_reducible assumption) ?_ ?_
              · exact ⟨k', _, _, ⟨rfl, Nat.le_refl _, hk2, rfl, rfl, rfl, rfl, rfl, fun i h1 h2 => by omega⟩⟩
              · rintro n5 m5 news5 h5 tk5 F5 N5 ⟨k2, tk6, ts, J⟩
                rw [frame4 J.text J.words J.kAt J.startAt] at F5
                rw [J.led] at N5
                have hlek := J.lek
                have hkle := J.kle
                repeat' ((fail_if_success (first | (with_reducible show wpAny _ _ (call (Value.ref _) _) _ _ _))); (first | (with_reducible refine ite_t ?_) | (with_reducible refine ite_f ?_) | (with_reducible refine ite_str_t (by with_reducible assumption) ?_) | (with_reducible refine ite_str_f (by with_reducible assumption) ?_) | (with_reducible refine ite_str (fun hc => ?_) (fun hc => ?_)) | (with_reducible refine ite_strne (fun hc => ?_) (fun hc => ?_)) | (with_reducible refine ite_dt (by omega) ?_) | (with_reducible refine ite_df (by omega) ?_) | (with_reducible refine ite_dby (fun hc => ?_) (fun hc => ?_)) | (with_reducible refine ite_by (fun hc => ?_) (fun hc => ?_)) | (k_unfold; (try dsimp only)) | ((with_reducible show wpAny _ _ (execs _ _) _ _ _); (try dsimp only); walk1) | walk1 | (dsimp only; walk1)))
                · refine call_safe (by omega) KX T (by with_reducible assumption) (by with_reducible assumption) rfl (Nat.le_of_ble_eq_true rfl) (Nat.le_of_ble_eq_true rfl) (fun h7 tk7 F7 N7 => ?_)
                  clear F5 N5
                  repeat' ((fail_if_success (first | (with_reducible show WhileStep2 _ _ _ _ _ _ _ _))); (first | (with_reducible refine ite_t ?_) | (with_reducible refine ite_f ?_) | (with_reducible refine ite_str_t (by with_reducible assumption) ?_) | (with_reducible refine ite_str_f (by with_reducible assumption) ?_) | (with_reducible refine ite_str (fun hc => ?_) (fun hc => ?_)) | (with_reducible refine ite_strne (fun hc => ?_) (fun hc => ?_)) | (with_reducible refine ite_dt (by omega) ?_) | (with_reducible refine ite_df (by omega) ?_) | (with_reducible refine ite_dby (fun hc => ?_) (fun hc => ?_)) | (with_reducible refine ite_by (fun hc => ?_) (fun hc => ?_)) | (k_unfold; (try dsimp only)) | ((with_reducible show wpAny _ _ (execs _ _) _ _ _); (try dsimp only); walk1) | walk1 | (dsimp only; walk1)))
                  · refine WhileStep2.next_of (by with_reducible assumption) (by with_reducible assumption) ?_
                    exact J.next (by with_reducible assumption) (by with_reducible assumption) rfl rfl rfl rfl
                  · (try dsimp only)
                    exact .inr ⟨_, rfl, RetS.mk (by with_reducible assumption) (ResW.none_of (by with_reducible assumption) (.head _) (nrm_item_none I M (by with_reducible assumption) (J.none (notsafe_of (by with_reducible assumption) (by with_reducible assumption)) (by with_reducible assumption) (by with_reducible assumption))))⟩
                  · have E := J.some (notsafe_of (by with_reducible assumption) (by with_reducible assumption)) (by with_reducible assumption) (by with_reducible assumption)
                    (try dsimp only)
                    refine NMid2.next (by with_reducible assumption) (by with_reducible assumption) ?_
                    exact ⟨k2, (x.cps.toList.take k2).drop k', _, _, ⟨E.1, hlek, rfl, rfl, rfl, word_slice, E.2⟩⟩
                · (try dsimp only)
                  exact .inr ⟨_, rfl, RetS.mk (by with_reducible assumption) (ResW.none_of (by with_reducible assumption) (.head _) (nrm_item_none I M (by with_reducible assumption) (J.none (notsafe_end (by with_reducible assumption)) (by with_reducible assumption) (by with_reducible assumption))))⟩
                · have E := J.some (notsafe_end (by with_reducible assumption)) (by with_reducible assumption) (by with_reducible assumption)
                  (try dsimp only)
                  refine NMid2.next (by with_reducible assumption) (by with_reducible assumption) ?_
                  exact ⟨k2, (x.cps.toList.take k2).drop k', _, _, ⟨E.1, hlek, rfl, rfl, rfl, word_slice, E.2⟩⟩
          · rintro f s' (⟨rfl, h8, tk8, m8, k2, wd, tk9, tw, rfl, F8, N8, M2⟩ | ⟨v, rfl, hR⟩)
            · dsimp only
              rw [frame4 M2.text M2.words M2.kAt M2.word] at F8
              have hlen := I.len
              repeat' ((fail_if_success (first | (with_reducible show WhileStep2 _ _ _ _ _ _ _ _))); (first | (with_reducible refine ite_t ?_) | (with_reducible refine ite_f ?_) | (with_reducible refine ite_str_t (by with_reducible assumption) ?_) | (with_reducible refine ite_str_f (by with_reducible assumption) ?_) | (with_reducible refine ite_str (fun hc => ?_) (fun hc => ?_)) | (with_reducible refine ite_strne (fun hc => ?_) (fun hc => ?_)) | (with_reducible refine ite_dt (by omega) ?_) | (with_reducible refine ite_df (by omega) ?_) | (with_reducible refine ite_dby (fun hc => ?_) (fun hc => ?_)) | (with_reducible refine ite_by (fun hc => ?_) (fun hc => ?_)) | (k_unfold; (try dsimp only)) | ((with_reducible show wpAny _ _ (execs _ _) _ _ _); (try dsimp only); walk1) | walk1 | (dsimp only; walk1)))
              refine WhileStep2.next_of (by with_reducible assumption) (by with_reducible assumption) ?_
              exact NInv.next I M M2 (by with_reducible assumption) rfl rfl rfl
            · dsimp only
              exact hR
        · dsimp only
          exact hR
    · (try dsimp only)
      exact RetS.mk (by with_reducible assumption) (ResW.some_of (by with_reducible assumption) (by rename_i l1; exact Nat.ne_of_gt l1) (I.full (by with_reducible assumption)) I.sv)
end Mine

set_option maxRecDepth 100000
namespace Mine

theorem hfi_list : fillsInplaceSlot (.type "list") "add" (Operator.Add == .Add) = pure false := by
  unfold fillsInplaceSlot
  show (typeLookup (.type "list") (dunderI "add") >>= fun fi => pure (fi.isSome && !isSeqSlot fi)) = pure false
  rw [PySem.F.slot_list_iadd.lookup]
  have : isSeqSlot (some (Value.builtin "list.__iadd__")) = true := by decide +kernel
  show (pure ((some (Value.builtin "list.__iadd__")).isSome && !isSeqSlot (some (Value.builtin "list.__iadd__"))) : Sem Bool) = _
  rw [this]; rfl
theorem hsi_list : seqSlot? (.type "list") (dunderI "add") = pure (some (.builtin "list.__iadd__")) := PySem.seqSlot_of PySem.F.slot_list_iadd.lookup (by decide +kernel)

theorem iadd_nil {prog : Program} {w : World} {A : Around} {E : Value → Shared → Prop} {s : Shared} {Q : Value → Shared → Prop} {S D : Addr} {c₀ n : Nat} {items : Array Value} {o oS : Obj}
    (hS : s.heap.get? S = some oS) (hSc : oS.cls = .type "list") (hSd : oS.data = .seq #[] c₀) (hD : s.heap.get? D = some o) (hc : o.cls = .type "list") (hd : o.data = .seq items n) (hsz : items.size ≤ sizeLine)
    (h : Q (.ref S) { s with heap := s.heap.update S (Obj.mapSeq (· ++ items)) }) : wpAny (model prog w) A (inplaceOp .Add (.ref S) (.ref D)) Q E s := by
  have ha : s.TypeIs (.ref S) "list" := ⟨_, hS, hSc⟩
  have hb : s.TypeIs (.ref D) "list" := ⟨_, hD, hc⟩
  unfold inplaceOp
  refine wpAny_holding ?_
  refine wpAny_bind (wpAny_typeOf ha (wpAny_bind (wpAny_of_eq hfi_list ?_)))
  show wpAny _ A (if false = true then _ else _) Q E s
  rw [if_neg Bool.false_ne_true]
  refine wpAny_bind (wpAny_binaryOp1_none (nm := "add") ha hb noFill_list_add ?_)
  refine wpAny_bind (wpAny_of_eq hsi_list ?_)
  refine wpAny_bind (wpAny_rule ?_)
  refine wpAny_call_entry PySem.F.slot_list_iadd ha PySem.F.entry_list_iadd ?_ (PySem.F.args_list_iadd_2 _ _)
  show wpAny _ A.in1 (Builtin.List.listExtendWith (.ref S) (.ref D) (.ref S)) _ _ _
  unfold Builtin.List.listExtendWith
  refine wpAny_bind (wpAny_typeOf hb ?_)
  have h1 : (Builtin.List.listSameRef (.ref S) (.ref D) || Value.type "list" == Value.type "list" || Value.type "list" == Value.type "tuple") = true := by simp
  simp only [h1, if_true]
  refine wpAny_bind ?_
  unfold Builtin.List.listItems
  refine wpAny_bind (wpAny_seqItems hD hd (wpAny_pure ?_))
  refine wpAny_bind ?_
  refine wpAny_bind (wpAny_seqItems hS hSd (wpAny_pure ?_))
  show wpAny _ A.in1 (updateSeq S (· ++ items) >>= fun _ => ret (.ref S)) _ _ s
  refine wpAny_bind (wpAny_updateSeq hS hSd ?_)
  exact wpAny_pure ⟨_, rfl, h⟩

section
variable {prog : Program} {w : World} {A : Around} {E : Value → Shared → Prop} {s : Shared} {env : Env} {h₀ : Heap} {x : Str} {body : List Stmt} {Q : Flow → Shared → Prop}
def RPost (h₀ : Heap) (L : Addr) (J : (Str → Option Value) → List (Addr × Obj) → Prop) (p : Addr × Obj) (s₁ : Shared) (Q : Flow → Shared → Prop) (f : Flow) (s₂ : Shared) : Prop :=
  match f with
  | .ret v => Q (.ret v) s₂
  | .brk => Q .next s₂
  | _ => ∃ h' tk m' news', s₂ = { s₁ with heap := h', toks := tk } ∧ Fr h₀ L h' m' ∧ News h₀ L h' (p :: news') ∧ (∀ q ∈ news', q.1 ≠ p.1) ∧ J m' news'

theorem iter_rng {r : Addr} {a b : Int} {t₀ u₀ v₀ : Tok} {n : Nat} {m₀ : Str → Option Value} {news : List (Addr × Obj)} (J : Nat → (Str → Option Value) → List (Addr × Obj) → Prop)
    (hh : A.handled = none) (hr : IsRange s.heap r a b 1 t₀ u₀ v₀) (hsmall : Builtin.Range.small a b 1 = true) (hn : Builtin.Range.rangeSize a b 1 = (n : Int))
    (F : Fr h₀ env.locals s.heap m₀) (N : News h₀ env.locals s.heap news) (hj : J 0 m₀ news)
    (turn : ∀ i t m₁ news₁ h tk (I : Addr) (oI : Obj), i < n → (∀ p ∈ news₁, p.1 ≠ I) → J i m₁ news₁ → Fr h₀ env.locals h (fun y => if y = x then some (.int (a + (i : Int)) t) else m₁ y) → News h₀ env.locals h ((I, oI) :: news₁) →
      wpAny (model prog w) A (execs body env) (RPost h₀ env.locals (J (i + 1)) (I, oI) s Q) E { s with heap := h, toks := tk })
    (done : ∀ m₁ news₁ h tk, J n m₁ news₁ → Fr h₀ env.locals h m₁ → News h₀ env.locals h news₁ → Q .next { s with heap := h, toks := tk }) :
    wpAny (model prog w) A (pyIter (.ref r)) (fun it s₂ => LoopAtV prog w A h₀ env x body Q E it s₂) E s := by
  refine wpAny_pyIter_range hr hsmall ?_
  have W := Walks.range (prog := prog) (w := w) hh s.heap.objs.size a 1 n
  refine ⟨_, _, _, n, _, _, m₀, news, J, rfl, W, ?_, ?_, ?_, ?_, F.push _, (fun p hp => ⟨Heap.get?_push_of_some _ (N p hp).1, (N p hp).2⟩), hj, ?_, ?_⟩
  · intro hm
    exact absurd F.ns.lt ((List.mem_singleton.mp hm) ▸ Nat.lt_irrefl _)
  · intro b hb
    rw [List.mem_singleton.mp hb]
    exact next_is_new F
  · intro p hp hI
    exact absurd (Heap.lt_size (N p hp).1) ((List.mem_singleton.mp hI) ▸ Nat.lt_irrefl _)
  · show IsRangeIter _ _ _ _ _
    rw [hn]; simpa using Heap.get?_push_size _ rfl
  · rintro i v m₁ news₁ s₁ own ⟨hh', tk', rfl⟩ hin ⟨t, rfl⟩ hJ hoff hown hget hall hst F₁ N₁
    obtain ⟨oI, hI⟩ : ∃ oI, hh'.get? s.heap.objs.size = some oI := ⟨_, hst⟩
    have hIn := hall s.heap.objs.size (List.mem_singleton.mpr rfl) (next_is_new F) _ hI
    have hone : ∀ p ∈ own, p = (s.heap.objs.size, oI) := fun p hp => by
      have e1 := List.mem_singleton.mp (hown p hp)
      have e2 := hget p hp
      rw [e1] at e2
      have e3 := hI.symm.trans e2
      injection e3 with e3
      exact Prod.ext e1 e3.symm
    rw [Int.mul_one] at F₁
    refine wpAny_mono (turn i t m₁ news₁ hh' tk' _ oI hin (fun p hp e => hoff p hp (List.mem_singleton.mpr e)) hJ F₁ (fun p hp => ?_)) (fun f s₂ q => ?_) fun _ _ e => e
    · rcases List.mem_cons.mp hp with rfl | hp
      · exact N₁ _ (List.mem_append_left _ hIn)
      · exact N₁ _ (List.mem_append_right _ hp)
    · have fin : (∃ h' tk m' news', s₂ = { s with heap := h', toks := tk } ∧ Fr h₀ env.locals h' m' ∧ News h₀ env.locals h' ((s.heap.objs.size, oI) :: news') ∧ (∀ q ∈ news', q.1 ≠ s.heap.objs.size) ∧ J (i + 1) m' news') →
          LoopStepU h₀ env.locals [s.heap.objs.size] own (J (i + 1)) { s with heap := hh', toks := tk' } .next s₂ := by
        rintro ⟨h', tk, m', news', e, F', N', ha, hm⟩
        refine ⟨rfl, h', tk, m', news', e, F', fun p hp => ?_, fun p hp hq => ha p hp (List.mem_singleton.mp hq), hm⟩
        rcases List.mem_append.mp hp with hp | hp
        · rw [hone p hp]; exact N' _ (.head _)
        · exact N' _ (.tail _ hp)
      cases f with
      | ret v => exact .ret q
      | brk => exact .brk q
      | next => exact .next (fin q)
      | cont => exact .cont (fin q)
  · rintro h' tk m' news' F' N' _ hJ
    exact done m' news' h' tk hJ F' N'
end
end Mine

namespace Mine
def blanksL (X : List Nat) : List Nat := (List.range X.length).filter (fun k => X[k]? == some 32)
def stL (X : List Nat) : List Nat := 0 :: (blanksL X).map (· + 1)
def spL (X : List Nat) : List Nat := blanksL X ++ [X.length]
def joinQ : List (List Nat) → List Nat
  | [] => []
  | [w] => quoteL w
  | w :: r => quoteL w ++ 32 :: joinQ r
def Full (X : List Nat) (j : Nat) (ws : List (List Nat)) : Prop := (j = 0 ∧ ws = []) ∨ (1 ≤ j ∧ ws ≠ [] ∧ ∃ p, (spL X)[j - 1]? = some p ∧ joinQ ws = X.take p)
def Wy (X : List Nat) (i j : Nat) (ws : List (List Nat)) : Prop :=
  (j = 0 ∧ ws = []) ∨ (1 ≤ j ∧ ∃ i' ws' w a p, i' < i ∧ i' < j ∧ (stL X)[i']? = some a ∧ (spL X)[j - 1]? = some p ∧ Full X i' ws' ∧ quoteL w = (X.take p).drop a ∧ ws = ws' ++ [w])
def Vy (X : List Nat) (i c j : Nat) (ws : List (List Nat)) : Prop := if j ≤ c then Wy X (i + 1) j ws else Wy X i j ws

theorem wy_zero {X : List Nat} {j : Nat} {ws : List (List Nat)} : Wy X 0 j ws ↔ j = 0 ∧ ws = [] := by
  constructor
  · rintro (h | ⟨_, i', _, _, _, _, h, _⟩)
    · exact h
    · omega
  · exact .inl
theorem wy_skip {X : List Nat} {i j : Nat} {ws : List (List Nat)} (h : ∀ ws, ¬ Full X i ws) : Wy X (i + 1) j ws ↔ Wy X i j ws := by
  constructor
  · rintro (h1 | ⟨h1, i', ws', w, a, p, h2, h3, h4, h5, h6, h7, h8⟩)
    · exact .inl h1
    · have : i' ≠ i := fun e => h ws' (e ▸ h6)
      exact .inr ⟨h1, i', ws', w, a, p, by omega, h3, h4, h5, h6, h7, h8⟩
  · rintro (h1 | ⟨h1, i', ws', w, a, p, h2, h3, h4, h5, h6, h7, h8⟩)
    · exact .inl h1
    · exact .inr ⟨h1, i', ws', w, a, p, by omega, h3, h4, h5, h6, h7, h8⟩
theorem vy_start {X : List Nat} {i j : Nat} {ws : List (List Nat)} : Vy X i i j ws ↔ Wy X i j ws := by
  unfold Vy
  split
  · rename_i hj
    constructor
    · rintro (h1 | ⟨h1, i', ws', w, a, p, h2, h3, h4, h5, h6, h7, h8⟩)
      · exact .inl h1
      · exact .inr ⟨h1, i', ws', w, a, p, by omega, h3, h4, h5, h6, h7, h8⟩
    · rintro (h1 | ⟨h1, i', ws', w, a, p, h2, h3, h4, h5, h6, h7, h8⟩)
      · exact .inl h1
      · exact .inr ⟨h1, i', ws', w, a, p, by omega, h3, h4, h5, h6, h7, h8⟩
  · rfl
theorem vy_end {X : List Nat} {i n j : Nat} {ws : List (List Nat)} (hj : j ≤ n) : Vy X i n j ws ↔ Wy X (i + 1) j ws := by
  unfold Vy; rw [if_pos hj]
theorem vy_other {X : List Nat} {i c j : Nat} {ws : List (List Nat)} (h : j ≠ c + 1) : Vy X i (c + 1) j ws ↔ Vy X i c j ws := by
  unfold Vy
  by_cases h1 : j ≤ c
  · rw [if_pos h1, if_pos (by omega)]
  · rw [if_neg h1, if_neg (by omega)]
theorem vy_no {X : List Nat} {i c a p : Nat} {ws : List (List Nat)} (ha : (stL X)[i]? = some a) (hp : (spL X)[c]? = some p) (hn : ∀ w, quoteL w ≠ (X.take p).drop a) : Vy X i (c + 1) (c + 1) ws ↔ Vy X i c (c + 1) ws := by
  unfold Vy
  rw [if_pos (Nat.le_refl _), if_neg (by omega)]
  constructor
  · rintro (h1 | ⟨h1, i', ws', w, a', p', h2, h3, h4, h5, h6, h7, h8⟩)
    · exact .inl h1
    · have hp' : p' = p := by
        rw [show c + 1 - 1 = c by omega, hp] at h5; injection h5 with h5; exact h5.symm
      have : i' ≠ i := fun e => by
        subst e
        rw [ha] at h4; injection h4 with h4
        subst h4 hp'
        exact hn w h7
      exact .inr ⟨h1, i', ws', w, a', p', by omega, h3, h4, h5, h6, h7, h8⟩
  · rintro (h1 | ⟨h1, i', ws', w, a', p', h2, h3, h4, h5, h6, h7, h8⟩)
    · exact .inl h1
    · exact .inr ⟨h1, i', ws', w, a', p', by omega, h3, h4, h5, h6, h7, h8⟩
end Mine

namespace Mine
def enc (w : List Nat) : List Nat := replL [39] escL 0 w
theorem enc_nil : enc [] = [] := rfl
theorem enc_tick (r : List Nat) : enc (39 :: r) = escL ++ enc r := by
  unfold enc
  rw [replL_at (y := [39]) (by simp) (by simp)]
  rfl
theorem enc_other {c : Nat} (r : List Nat) (h : c ≠ 39) : enc (c :: r) = c :: enc r := by
  unfold enc
  rw [replL_no (by simp [h])]
theorem quoteL_enc {w : List Nat} (h1 : w ≠ []) (h2 : w.all safeC = false) : quoteL w = 39 :: (enc w ++ [39]) := by
  unfold quoteL
  rw [if_neg h1, if_neg (by rw [h2]; decide)]; rfl
theorem quoteL_safe {w : List Nat} (h1 : w ≠ []) (h2 : w.all safeC = true) : quoteL w = w := by
  unfold quoteL
  rw [if_neg h1, if_pos h2]
theorem quoteL_nil : quoteL [] = [39, 39] := rfl
theorem tick_notsafe : safeC 39 = false := by decide
theorem blank_notsafe : safeC 32 = false := by decide
/-- the rest of a line after a word -/
def tailOk (r : List Nat) : Prop := r = [] ∨ ∃ q, r = 32 :: q
theorem tailOk.end {r : List Nat} (h : tailOk r) : (39 :: r).take 5 ≠ escL := by
  rcases h with rfl | ⟨q, rfl⟩
  · decide
  · simp [escL]
theorem qI_enc : ∀ (w r : List Nat), tailOk r → qI 0 (enc w ++ 39 :: r) = some (w, r)
  | [], r, h => by rw [enc_nil, List.nil_append, qI_end h.end]
  | c :: w, r, h => by
    by_cases hc : c = 39
    · subst hc
      rw [enc_tick, List.append_assoc, qI_esc (by simp [escL])]
      have : (escL ++ (enc w ++ 39 :: r)).drop 5 = enc w ++ 39 :: r := by simp [escL]
      rw [this, qI_enc w r h]; rfl
    · rw [enc_other w hc, List.cons_append, qI_plain hc, qI_enc w r h]; rfl
theorem takeW {w r : List Nat} (hw : w.all safeC = true) (hr : tailOk r) : (w ++ r).takeWhile safeC = w ∧ (w ++ r).dropWhile safeC = r := by
  have h1 : ∀ a ∈ w, safeC a = true := List.all_eq_true.mp hw
  rw [List.takeWhile_append_of_pos h1, List.dropWhile_append_of_pos h1]
  rcases hr with rfl | ⟨q, rfl⟩
  · simp
  · simp [blank_notsafe]
theorem item_plainH {l : List Nat} (h : l.head? ≠ some 39) : item l = if l.takeWhile safeC = [] then none else some (l.takeWhile safeC, l.dropWhile safeC) := by
  unfold item
  split
  · simp at h
  · rfl
theorem item_tick (r : List Nat) : item (39 :: r) = match qI 0 r with | some (w, t) => if safeW w = true then none else some (w, t) | none => none := rfl
theorem item_quote (w r : List Nat) (h : tailOk r) : item (quoteL w ++ r) = some (w, r) := by
  by_cases h1 : w = []
  · subst h1
    rw [quoteL_nil]
    show item (39 :: (39 :: r)) = _
    rw [item_tick, qI_end h.end]
    rfl
  · by_cases h2 : w.all safeC = true
    · rw [quoteL_safe h1 h2, item_plainH, (takeW h2 h).1, (takeW h2 h).2, if_neg h1]
      cases w with
      | nil => exact absurd rfl h1
      | cons c q =>
        have : safeC c = true := List.all_eq_true.mp h2 c (.head _)
        intro e
        have e : c = 39 := by simpa using e
        rw [e, tick_notsafe] at this; cases this
    · have h2' : w.all safeC = false := by simpa using h2
      rw [quoteL_enc h1 h2']
      show item (39 :: ((enc w ++ [39]) ++ r)) = _
      rw [item_tick, List.append_assoc]
      show (match qI 0 (enc w ++ 39 :: r) with | some (w, t) => if safeW w = true then none else some (w, t) | none => none) = _
      rw [qI_enc w r h]
      have : safeW w = false := by unfold safeW; rw [h2']; simp
      simp [this]
def restQ : List (List Nat) → List Nat
  | [] => []
  | w :: r => 32 :: (quoteL w ++ restQ r)
theorem joinQ_cons : ∀ (w : List Nat) (r : List (List Nat)), joinQ (w :: r) = quoteL w ++ restQ r
  | w, [] => by simp [joinQ, restQ]
  | w, v :: q => by
    have e : joinQ (w :: v :: q) = quoteL w ++ 32 :: joinQ (v :: q) := rfl
    rw [e, joinQ_cons v q]; rfl
theorem rest_ok (r : List (List Nat)) : tailOk (restQ r) := by
  cases r with
  | nil => exact .inl rfl
  | cons w q => exact .inr ⟨_, rfl⟩
theorem nrm_rest : ∀ r : List (List Nat), nrm false (restQ r) = some r
  | [] => nrm_nil _
  | w :: r => by
    have hs : step false (restQ (w :: r)) = some (w, restQ r) := by
      show item (quoteL w ++ restQ r) = _
      exact item_quote w _ (rest_ok r)
    rw [nrm_some (by simp [restQ]) hs, nrm_rest r]; rfl
theorem quoteL_ne (w : List Nat) : quoteL w ≠ [] := by
  unfold quoteL
  split
  · simp
  · split
    · assumption
    · simp
theorem nrm_joinQ {ws : List (List Nat)} (h : ws ≠ []) : nrm true (joinQ ws) = some ws := by
  cases ws with
  | nil => exact absurd rfl h
  | cons w r =>
    rw [joinQ_cons]
    have hs : step true (quoteL w ++ restQ r) = some (w, restQ r) := item_quote w _ (rest_ok r)
    rw [nrm_some (by simp [quoteL_ne]) hs, nrm_rest r]; rfl
theorem qI_inv : ∀ (n : Nat) (l w t : List Nat), l.length ≤ n → qI 0 l = some (w, t) → l = enc w ++ 39 :: t
  | _, [], _, _, _, h => by cases h
  | 0, c :: r, _, _, hn, _ => by simp at hn
  | n + 1, c :: r, w, t, hn, h => by
    by_cases hc : c = 39
    · subst hc
      by_cases he : (39 :: r).take 5 = escL
      · rw [qI_esc he] at h
        obtain ⟨p, hp, e⟩ := Option.map_eq_some_iff.mp h
        injection e with e1 e2
        have ih := qI_inv n ((39 :: r).drop 5) p.1 p.2 (by simp at hn ⊢; omega) hp
        rw [← e1, ← e2, enc_tick, List.append_assoc, ← ih, ← he, List.take_append_drop]
      · rw [qI_end he] at h
        injection h with h; injection h with h1 h2
        rw [← h1, ← h2]; rfl
    · rw [qI_plain hc] at h
      obtain ⟨p, hp, e⟩ := Option.map_eq_some_iff.mp h
      injection e with e1 e2
      have ih := qI_inv n r p.1 p.2 (by simpa using hn) hp
      rw [← e1, ← e2, enc_other _ hc, List.cons_append, ← ih]
theorem item_inv {l w t : List Nat} (h : item l = some (w, t)) : l = quoteL w ++ t := by
  by_cases hh : l.head? = some 39
  · cases l with
    | nil => simp at hh
    | cons c r =>
      have : c = 39 := by simpa using hh
      subst this
      rw [item_tick] at h
      split at h
      · rename_i w' t' hq
        split at h
        · cases h
        · rename_i hs
          injection h with h; injection h with h1 h2
          subst h1 h2
          have e := qI_inv _ _ _ _ (Nat.le_refl _) hq
          by_cases hw : w' = []
          · subst hw; rw [e]; rfl
          · have h2 : w'.all safeC = false := by
              unfold safeW at hs
              simp [hw] at hs
              rw [← Bool.not_eq_true, List.all_eq_true]
              intro hall
              obtain ⟨x, hx, hx2⟩ := hs
              rw [hall x hx] at hx2; cases hx2
            rw [quoteL_enc hw h2, e]; simp
      · cases h
  · rw [item_plainH hh] at h
    split at h
    · cases h
    · rename_i hn
      injection h with h; injection h with h1 h2
      have hall : (l.takeWhile safeC).all safeC = true := by
        exact List.all_takeWhile
      rw [← h1, ← h2, quoteL_safe hn hall, List.takeWhile_append_dropWhile]
theorem step_false {l w t : List Nat} (h : step false l = some (w, t)) : ∃ q, l = 32 :: q ∧ item q = some (w, t) := by
  unfold step at h
  rw [if_neg (by decide)] at h
  split at h
  · exact ⟨_, rfl, h⟩
  · cases h
theorem nrm_rest_inv : ∀ (n : Nat) (l : List Nat) (ws : List (List Nat)), l.length ≤ n → nrm false l = some ws → l = restQ ws
  | n, [], ws, _, h => by rw [nrm_nil] at h; injection h with h; rw [← h]; rfl
  | 0, c :: r, _, hn, _ => by simp at hn
  | n + 1, c :: r, ws, hn, h => by
    cases hs : step false (c :: r) with
    | none => rw [nrm_none (by simp) hs] at h; cases h
    | some p =>
      obtain ⟨w, t⟩ := p
      rw [nrm_some (by simp) hs] at h
      obtain ⟨q, hq, e⟩ := Option.map_eq_some_iff.mp h
      have hlt := step_lt hs
      have ih := nrm_rest_inv n t q (by simp at hlt hn; omega) hq
      obtain ⟨q', e1, e2⟩ := step_false hs
      rw [e1, item_inv e2, ← e, ih]; rfl
theorem nrm_join {X : List Nat} {ws : List (List Nat)} (h : nrm true X = some ws) : joinQ ws = X := by
  by_cases hX : X = []
  · subst hX; rw [nrm_nil] at h; injection h with h; rw [← h]; rfl
  · cases hs : step true X with
    | none => rw [nrm_none hX hs] at h; cases h
    | some p =>
      obtain ⟨w, t⟩ := p
      rw [nrm_some hX hs] at h
      obtain ⟨q, hq, e⟩ := Option.map_eq_some_iff.mp h
      have ht := nrm_rest_inv _ _ _ (Nat.le_refl _) hq
      have hi : item X = some (w, t) := hs
      rw [← e, joinQ_cons, item_inv hi, ht]
theorem nrm_ne {X : List Nat} {ws : List (List Nat)} (hX : X ≠ []) (h : nrm true X = some ws) : ws ≠ [] := by
  rintro rfl
  exact hX (nrm_join h).symm
theorem joinQ_inj {ws vs : List (List Nat)} (h1 : ws ≠ []) (h2 : vs ≠ []) (h : joinQ ws = joinQ vs) : ws = vs := by
  have e1 := nrm_joinQ h1
  rw [h, nrm_joinQ h2] at e1
  injection e1 with e1
  exact e1.symm
theorem dec_enc : ∀ w : List Nat, replL escL [39] 0 (enc w) = w
  | [] => rfl
  | c :: w => by
    by_cases hc : c = 39
    · subst hc
      rw [enc_tick, replL_at (y := escL) (by decide) (by simp [escL])]
      have : (escL ++ enc w).drop escL.length = enc w := by simp
      rw [this, dec_enc w]; rfl
    · rw [enc_other w hc, replL_no, dec_enc w]
      simp [escL, hc]
theorem word_quote (w : List Nat) : wordL (quoteL w) = w := by
  by_cases h1 : w = []
  · subst h1; rfl
  · by_cases h2 : w.all safeC = true
    · rw [quoteL_safe h1 h2]
      unfold wordL
      rw [if_neg]
      rintro ⟨_, hh, _⟩
      cases w with
      | nil => exact absurd rfl h1
      | cons c q =>
        have : safeC c = true := List.all_eq_true.mp h2 c (.head _)
        have e : c = 39 := by simpa using hh
        rw [e, tick_notsafe] at this; cases this
    · rw [quoteL_enc h1 (by simpa using h2)]
      unfold wordL
      have hcond : 1 < (39 :: (enc w ++ [39])).length ∧ (39 :: (enc w ++ [39])).head? = some 39 ∧ (39 :: (enc w ++ [39])).getLast? = some 39 := by
        refine ⟨by simp, rfl, ?_⟩
        rw [← List.cons_append, List.getLast?_append]; rfl
      rw [if_pos hcond]
      have : (39 :: (enc w ++ [39])).dropLast.drop 1 = enc w := by
        rw [List.dropLast_cons_of_ne_nil (by simp)]
        simp
      rw [this, dec_enc]
theorem quote_word {p : List Nat} : (∃ w, quoteL w = p) ↔ quoteL (wordL p) = p := by
  constructor
  · rintro ⟨w, rfl⟩; rw [word_quote]
  · exact fun h => ⟨_, h⟩
theorem enc_len (w : List Nat) : w.length ≤ (enc w).length := by
  induction w with
  | nil => exact Nat.le_refl _
  | cons c r ih =>
    by_cases hc : c = 39
    · subst hc; rw [enc_tick, List.length_append, List.length_cons]; have e : escL.length = 5 := rfl; omega
    · rw [enc_other r hc, List.length_cons, List.length_cons]; omega
theorem quoteL_ge (w : List Nat) : w.length ≤ (quoteL w).length := by
  by_cases h1 : w = []
  · subst h1; simp
  · by_cases h2 : w.all safeC = true
    · rw [quoteL_safe h1 h2]; exact Nat.le_refl _
    · rw [quoteL_enc h1 (by simpa using h2)]
      have := enc_len w
      rw [List.length_cons, List.length_append]; omega
theorem rest_le {w : List Nat} : ∀ {r : List (List Nat)}, w ∈ r → w.length ≤ (restQ r).length
  | v :: r, h => by
    rw [restQ]
    rcases List.mem_cons.mp h with rfl | h
    · have := quoteL_ge w; rw [List.length_cons, List.length_append]; omega
    · have := rest_le h; rw [List.length_cons, List.length_append]; omega
theorem word_le {ws : List (List Nat)} {w : List Nat} (h : w ∈ ws) : w.length ≤ (joinQ ws).length := by
  cases ws with
  | nil => cases h
  | cons v r =>
    rw [joinQ_cons]
    rcases List.mem_cons.mp h with rfl | h
    · have := quoteL_ge w; rw [List.length_append]; omega
    · have := rest_le h; rw [List.length_append]; omega
theorem blanks_mem {X : List Nat} {k : Nat} : k ∈ blanksL X ↔ X[k]? = some 32 := by
  unfold blanksL
  rw [List.mem_filter, List.mem_range, beq_iff_eq]
  constructor
  · exact fun h => h.2
  · exact fun h => ⟨(List.getElem?_eq_some_iff.mp h).1, h⟩
theorem blanks_lt {X : List Nat} : (blanksL X).Pairwise (· < ·) := List.pairwise_lt_range.filter _
theorem sp_pair {X : List Nat} : (spL X).Pairwise (· < ·) := by
  unfold spL
  rw [List.pairwise_append]
  refine ⟨blanks_lt, by simp, fun a ha b hb => ?_⟩
  rw [List.mem_singleton.mp hb]
  exact (List.getElem?_eq_some_iff.mp (blanks_mem.mp ha)).1
theorem sp_lt {X : List Nat} {i j a b : Nat} (hij : i < j) (ha : (spL X)[i]? = some a) (hb : (spL X)[j]? = some b) : a < b := by
  obtain ⟨h1, rfl⟩ := List.getElem?_eq_some_iff.mp ha
  obtain ⟨h2, rfl⟩ := List.getElem?_eq_some_iff.mp hb
  exact List.pairwise_iff_getElem.mp sp_pair i j h1 h2 hij
theorem sp_inj {X : List Nat} {i j a : Nat} (ha : (spL X)[i]? = some a) (hb : (spL X)[j]? = some a) : i = j := by
  rcases Nat.lt_trichotomy i j with h | h | h
  · exact absurd (sp_lt h ha hb) (Nat.lt_irrefl _)
  · exact h
  · exact absurd (sp_lt h hb ha) (Nat.lt_irrefl _)
theorem sp_le {X : List Nat} {i a : Nat} (ha : (spL X)[i]? = some a) : a ≤ X.length := by
  have hm := List.mem_of_getElem? ha
  unfold spL at hm
  rcases List.mem_append.mp hm with h | h
  · exact Nat.le_of_lt (List.getElem?_eq_some_iff.mp (blanks_mem.mp h)).1
  · rw [List.mem_singleton.mp h]; exact Nat.le_refl _
theorem sp_len (X : List Nat) : (spL X).length = (blanksL X).length + 1 := by unfold spL; simp
theorem st_succ {X : List Nat} {i a : Nat} (h : (stL X)[i + 1]? = some a) : ∃ q, (blanksL X)[i]? = some q ∧ a = q + 1 := by
  unfold stL at h
  rw [List.getElem?_cons_succ, List.getElem?_map, Option.map_eq_some_iff] at h
  obtain ⟨q, h1, h2⟩ := h
  exact ⟨q, h1, h2.symm⟩
theorem sp_blank {X : List Nat} {i q : Nat} (h : (blanksL X)[i]? = some q) : (spL X)[i]? = some q := by
  unfold spL
  rw [List.getElem?_append_left (List.getElem?_eq_some_iff.mp h).1]; exact h
theorem rest_app : ∀ (r : List (List Nat)) (w : List Nat), restQ (r ++ [w]) = restQ r ++ 32 :: quoteL w
  | [], w => by simp [restQ]
  | v :: r, w => by rw [List.cons_append, restQ, rest_app r w, restQ]; simp
theorem joinQ_app {ws : List (List Nat)} (h : ws ≠ []) (w : List Nat) : joinQ (ws ++ [w]) = joinQ ws ++ 32 :: quoteL w := by
  cases ws with
  | nil => exact absurd rfl h
  | cons v r => rw [List.cons_append, joinQ_cons, joinQ_cons, rest_app]; simp
theorem cut_at {X : List Nat} {q p : Nat} (hq : X[q]? = some 32) (hqp : q < p) : X.take q ++ 32 :: (X.take p).drop (q + 1) = X.take p := by
  obtain ⟨h1, h2⟩ := List.getElem?_eq_some_iff.mp hq
  have h3 : q < (X.take p).length := by rw [List.length_take]; omega
  have e1 : (X.take p).drop q = 32 :: (X.take p).drop (q + 1) := by
    rw [List.drop_eq_getElem_cons h3]
    congr 1
    rw [List.getElem_take]; exact h2
  have e2 : X.take q = (X.take p).take q := by rw [List.take_take, Nat.min_eq_left (by omega)]
  rw [← e1, e2, List.take_append_drop]
theorem full_add {X : List Nat} {i c a p : Nat} {ws : List (List Nat)} {w : List Nat} (hic : i ≤ c) (ha : (stL X)[i]? = some a) (hp : (spL X)[c]? = some p) (hf : Full X i ws) (hq : quoteL w = (X.take p).drop a) : joinQ (ws ++ [w]) = X.take p := by
  rcases hf with ⟨rfl, rfl⟩ | ⟨h1, h2, q, h3, h4⟩
  · have : a = 0 := by
      unfold stL at ha
      simpa using ha.symm
    subst this
    simpa [joinQ] using hq
  · obtain ⟨k, rfl⟩ : ∃ k, i = k + 1 := ⟨i - 1, by omega⟩
    obtain ⟨q', h5, rfl⟩ := st_succ ha
    have h6 := sp_blank h5
    rw [Nat.add_sub_cancel] at h3
    rw [h3] at h6
    injection h6 with h6
    subst h6
    rw [joinQ_app h2, h4, hq]
    exact cut_at (blanks_mem.mp (List.mem_of_getElem? h5)) (sp_lt (by omega) h3 hp)
theorem full_uniq {X : List Nat} {i j : Nat} {ws : List (List Nat)} (h1 : Full X i ws) (h2 : Full X j ws) : i = j := by
  rcases h1 with ⟨rfl, rfl⟩ | ⟨a1, a2, q, a3, a4⟩
  · rcases h2 with ⟨rfl, _⟩ | ⟨_, b2, _⟩
    · rfl
    · exact absurd rfl b2
  · rcases h2 with ⟨_, rfl⟩ | ⟨b1, b2, r, b3, b4⟩
    · exact absurd rfl a2
    · have e := congrArg List.length (a4.symm.trans b4)
      rw [List.length_take, List.length_take, Nat.min_eq_left (sp_le a3), Nat.min_eq_left (sp_le b3)] at e
      subst e
      have := sp_inj a3 b3
      omega
theorem vy_yes {X : List Nat} {i c a p : Nat} {ws : List (List Nat)} {w : List Nat} (hic : i ≤ c) (ha : (stL X)[i]? = some a) (hp : (spL X)[c]? = some p) (hf : Full X i ws) (hq : quoteL w = (X.take p).drop a) :
    (∀ ws', ¬ Vy X i c (c + 1) ws') ∧ Vy X i (c + 1) (c + 1) (ws ++ [w]) := by
  constructor
  · intro ws' h
    unfold Vy at h
    rw [if_neg (by omega)] at h
    rcases h with ⟨h, _⟩ | ⟨_, i', ws2, w2, a', p', h2, h3, h4, h5, h6, h7, rfl⟩
    · omega
    · rw [Nat.add_sub_cancel, hp] at h5
      injection h5 with h5
      subst h5
      have e1 := full_add hic ha hp hf hq
      have e2 := full_add (by omega : i' ≤ c) h4 hp h6 h7
      have e3 := joinQ_inj (by simp) (by simp) (e1.trans e2.symm)
      have e4 := List.append_inj' e3 rfl
      rw [e4.1] at hf
      have := full_uniq hf h6
      omega
  · unfold Vy
    rw [if_pos (Nat.le_refl _)]
    exact .inr ⟨by omega, i, ws, w, a, p, by omega, by omega, ha, by rw [Nat.add_sub_cancel]; exact hp, hf, hq, rfl⟩
theorem full_iff {X : List Nat} {j : Nat} {ws : List (List Nat)} (hj : j ≤ (spL X).length) : Full X j ws ↔ Wy X j j ws := by
  constructor
  · rintro (h | ⟨h1, h2, p, h3, h4⟩)
    · exact .inl h
    · refine .inr ⟨h1, ?_⟩
      obtain ⟨ws', w, rfl⟩ : ∃ ws' w, ws = ws' ++ [w] := ⟨_, _, (List.dropLast_concat_getLast h2).symm⟩
      by_cases hw : ws' = []
      · subst hw
        refine ⟨0, [], w, 0, p, by omega, by omega, rfl, h3, .inl ⟨rfl, rfl⟩, ?_, rfl⟩
        simpa [joinQ] using h4
      · rw [joinQ_app hw] at h4
        have hlen := congrArg List.length h4
        rw [List.length_append, List.length_cons, List.length_take] at hlen
        have hple := sp_le h3
        generalize hqd : (joinQ ws').length = q at *
        have hqp : q < p := by omega
        have hXq : X[q]? = some 32 := by
          have e : (X.take p)[q]? = some 32 := by
            rw [← h4, List.getElem?_append_right (by omega), hqd, Nat.sub_self]; rfl
          rw [List.getElem?_take_of_lt hqp] at e
          exact e
        have hj1 : joinQ ws' = X.take q := by
          have e := congrArg (List.take q) h4
          rw [List.take_append_of_le_length (by omega), List.take_of_length_le (by omega), List.take_take, Nat.min_eq_left (by omega)] at e
          exact e
        have hdr : quoteL w = (X.take p).drop (q + 1) := by
          rw [← h4, ← hqd]
          rw [List.drop_append]
          simp
        obtain ⟨k, hk⟩ := List.mem_iff_getElem?.mp (blanks_mem.mpr hXq)
        have hk2 := sp_blank hk
        have hkj : k < j - 1 := by
          rcases Nat.lt_or_ge k (j - 1) with h | h
          · exact h
          · rcases Nat.lt_or_eq_of_le h with h | h
            · have := sp_lt h h3 hk2; omega
            · rw [h] at h3; rw [h3] at hk2; injection hk2 with hk2; omega
        refine ⟨k + 1, ws', w, q + 1, p, by omega, by omega, ?_, h3, .inr ⟨by omega, hw, q, by rw [Nat.add_sub_cancel]; exact hk2, hj1⟩, hdr, rfl⟩
        unfold stL
        rw [List.getElem?_cons_succ, List.getElem?_map, hk]; rfl
  · rintro (h | ⟨h1, i', ws', w, a, p, h2, h3, h4, h5, h6, h7, rfl⟩)
    · exact .inl h
    · exact .inr ⟨h1, by simp, p, h5, full_add (by omega : i' ≤ j - 1) h4 h5 h6 h7⟩
theorem wy_last {X : List Nat} (hX : X ≠ []) : (∀ ws, Wy X (spL X).length (spL X).length ws ↔ nrm true X = some ws) := by
  intro ws
  rw [← full_iff (Nat.le_refl _)]
  have hl := sp_len X
  have hlast : (spL X)[(spL X).length - 1]? = some X.length := by
    rw [hl, Nat.add_sub_cancel]
    unfold spL
    rw [List.getElem?_append_right (Nat.le_refl _), Nat.sub_self]; rfl
  constructor
  · rintro (⟨h, _⟩ | ⟨_, h2, p, h3, h4⟩)
    · omega
    · rw [hlast] at h3
      injection h3 with h3
      subst h3
      rw [List.take_length] at h4
      rw [← h4]; exact nrm_joinQ h2
  · intro h
    exact .inr ⟨by omega, nrm_ne hX h, _, hlast, by rw [List.take_length]; exact nrm_join h⟩
end Mine

set_option maxRecDepth 100000
namespace Mine
theorem Paired.of_get {α β : Type} {F : α → β → Prop} : ∀ {l₁ : List α} {l₂ : List β}, l₁.length = l₂.length → (∀ (j : Nat) a b, l₁[j]? = some a → l₂[j]? = some b → F a b) → Paired F l₁ l₂
  | [], [], _, _ => .nil
  | a :: r, b :: q, hl, h => .cons (h 0 a b rfl rfl) (Paired.of_get (by simpa using hl) fun j x y hx hy => h (j + 1) x y (by simpa using hx) (by simpa using hy))
  | [], _ :: _, hl, _ => by simp at hl
  | _ :: _, [], hl, _ => by simp at hl
theorem Paired.get {α β : Type} {F : α → β → Prop} : ∀ {l₁ : List α} {l₂ : List β}, Paired F l₁ l₂ → ∀ {j : Nat} {a : α} {b : β}, l₁[j]? = some a → l₂[j]? = some b → F a b
  | _, _, .nil, _, _, _, h, _ => by simp at h
  | _, _, .cons h t, 0, _, _, h1, h2 => by simp at h1 h2; subst h1 h2; exact h
  | _, _, .cons h t, j + 1, _, _, h1, h2 => Paired.get t (by simpa using h1) (by simpa using h2)
theorem Paired.filter {α β : Type} {F : α → β → Prop} {p : α → Bool} {q : β → Bool} (hpq : ∀ a b, F a b → p a = q b) : ∀ {l₁ : List α} {l₂ : List β}, Paired F l₁ l₂ → Paired F (l₁.filter p) (l₂.filter q)
  | _, _, .nil => .nil
  | _, _, .cons (a := a) (b := b) h t => by
    have ih := Paired.filter hpq t
    have e := hpq a b h
    rw [List.filter_cons, List.filter_cons, e]
    split
    · exact .cons h ih
    · exact ih
theorem Paired.eq {α : Type} : ∀ {l₁ l₂ : List α}, Paired (fun v y => y = v) l₁ l₂ → l₂ = l₁
  | _, _, .nil => rfl
  | _, _, .cons h t => by rw [h, Paired.eq t]
def IV (vs : List Value) (ns : List Nat) : Prop := Paired (fun v (n : Nat) => ∃ t, v = Value.int (n : Int) t) vs ns

theorem comp_afterA {h₀ h2 h' : Heap} {L D : Addr} {oI oD : Obj} {m m' : Str → Option Value} {news : List (Addr × Obj)} (F : Fr h₀ L h2 m) (N : News h₀ L h2 news)
    (hk : ∀ b o, b ≠ L → b ∉ [h2.objs.size] → (h2.push oI).get? b = some o → h'.get? b = some o) (hns : h'.Ns L m') (hD : (h2.push oI).get? D = none) (hDo : h'.get? D = some oD) :
    Fr h₀ L h' m' ∧ News h₀ L h' ((D, oD) :: news) := by
  have up : ∀ b o, b ≠ L → h2.get? b = some o → h'.get? b = some o := fun b o hb e => hk b o hb (fun hm => absurd (Heap.lt_size e) ((List.mem_singleton.mp hm) ▸ Nat.lt_irrefl _)) (Heap.get?_push_of_some _ e)
  have F' : Fr h₀ L h' m' := ⟨hns, fun b o e => up b o (Nat.ne_of_lt (Nat.lt_of_lt_of_le (Heap.lt_size e) F.above)) (F.keep b o e), F.above⟩
  have N' : News h₀ L h' news := fun p hp => ⟨up _ _ (N p hp).2.1 (N p hp).1, (N p hp).2⟩
  exact ⟨F', News.add F N' hDo (none_of_push hD)⟩
theorem comp_afterE {h₀ h2 h' : Heap} {L D : Addr} {oI oD : Obj} {m : Str → Option Value} {news : List (Addr × Obj)} (F : Fr h₀ L h2 m) (N : News h₀ L h2 news)
    (hk : ∀ b o, b ∉ [h2.objs.size] → (h2.push oI).get? b = some o → h'.get? b = some o) (hD : (h2.push oI).get? D = none) (hDo : h'.get? D = some oD) :
    Fr h₀ L h' m ∧ News h₀ L h' ((D, oD) :: news) := by
  have up : ∀ b o, h2.get? b = some o → h'.get? b = some o := fun b o e => hk b o (fun hm => absurd (Heap.lt_size e) ((List.mem_singleton.mp hm) ▸ Nat.lt_irrefl _)) (Heap.get?_push_of_some _ e)
  exact ⟨Fr.grow F up, News.add F (News.grow N up) hDo (none_of_push hD)⟩
def blankP (x : Str) (v : Value) : Bool := match v with | .int k _ => x.cps.toList[k.toNat]? == some 32 | _ => false
theorem list_all {ys : Array Value} {vs : List Value} (hlen : vs.length = ys.size) (hP : ∀ (j : Nat) (v : Value), vs[j]? = some v → ys[j]? = some v) : vs = ys.toList := by
  refine List.ext_getElem? fun j => ?_
  cases h : vs[j]? with
  | some v => rw [Array.getElem?_toList, hP j v h]
  | none =>
    rw [List.getElem?_eq_none_iff] at h
    symm
    rw [List.getElem?_eq_none_iff]
    simpa [hlen] using h
theorem filter_true {α : Type} (l : List α) : l.filter (fun _ => true) = l := by simp
theorem plus_iv {ys zs : Array Value} {vs : List Value} {ns : List Nat} (h : IV ys.toList ns) (hlen : vs.length = ys.size) (hP : ∀ (j : Nat) (v : Value), vs[j]? = some v → ys[j]? = some v)
    (hp : Paired (fun v y => ∃ n t t', v = Value.int n t ∧ y = Value.int (n + 1) t') (vs.filter fun _ => true) zs.toList) : IV zs.toList (ns.map (· + 1)) := by
  rw [filter_true, list_all hlen hP] at hp
  have e1 := hp.length
  have e2 := h.length
  refine Paired.of_get (by rw [List.length_map, ← e2, e1]) fun j a b ha hb => ?_
  rw [List.getElem?_map, Option.map_eq_some_iff] at hb
  obtain ⟨n, hn, rfl⟩ := hb
  have hj : j < ys.toList.length := by rw [e2]; exact (List.getElem?_eq_some_iff.mp hn).1
  obtain ⟨t, e⟩ := Paired.get h (List.getElem?_eq_getElem hj) hn
  obtain ⟨n', t1, t2, e3, e4⟩ := Paired.get hp (List.getElem?_eq_getElem hj) ha
  rw [e] at e3
  injection e3 with e3
  exact ⟨t2, by rw [e4, ← e3]; rfl⟩
theorem IV.at {ys : Array Value} {ns : List Nat} {i : Nat} {v : Value} (h : IV ys.toList ns) (hv : ys[i]? = some v) : ∃ n t, ns[i]? = some n ∧ v = Value.int (n : Int) t := by
  have hv' : ys.toList[i]? = some v := by rw [Array.getElem?_toList]; exact hv
  have e2 := h.length
  have hj : i < ns.length := by rw [← e2]; exact (List.getElem?_eq_some_iff.mp hv').1
  obtain ⟨t, e⟩ := Paired.get h hv' (List.getElem?_eq_getElem hj)
  exact ⟨_, t, List.getElem?_eq_getElem hj, e⟩
theorem addA {prog : Program} {w : World} {A : Around} {E : Value → Shared → Prop} {s : Shared} {h₀ : Heap} {L : Addr} {m : Str → Option Value} {news : List (Addr × Obj)} {l b : Addr} {xs ys : Array Value} {Q : Value → Shared → Prop}
    (F : Fr h₀ L s.heap m) (N : News h₀ L s.heap news) (hl : s.heap.IsList l xs) (hb : s.heap.IsList b ys) (hsz : xs.size + ys.size ≤ sizeLine)
    (h : ∀ l' h', Fr h₀ L h' m → News h₀ L h' ((l', listOf (xs ++ ys) 0) :: news) → Q (.ref l') { s with heap := h' }) : wpAny (model prog w) A (binaryOp .Add (.ref l) (.ref b)) Q E s := by
  have e1 : xs = xs.toList.toArray := by simp
  have e2 : ys = ys.toList.toArray := by simp
  have e3 : xs ++ ys = (xs.toList ++ ys.toList).toArray := by simp
  rw [e1] at hl
  rw [e2] at hb
  refine add_lists F N hl hb (fun h' F' N' => h _ h' F' ?_) (by simpa using hsz)
  rw [e3]; exact N'
theorem get_size_none (h : Heap) : h.get? h.objs.size = none := by
  cases q : h.get? h.objs.size with
  | none => rfl
  | some o => exact absurd (Heap.lt_size q) (Nat.lt_irrefl _)
theorem lst_refs {h₁ h : Heap} : ∀ {vs ys : List Value}, Paired (LstIs h₁ (fun _ its => its = #[]) h) vs ys → ∃ Ts : List Addr, ys = Ts.map Value.ref ∧ ∀ T ∈ Ts, h₁.get? T = none ∧ h.IsList T #[]
  | _, _, .nil => ⟨[], rfl, fun _ hT => nomatch hT⟩
  | _, _, .cons hx ht => by
    obtain ⟨T, its, e, h1, h2, h3⟩ := hx
    obtain ⟨Ts, e2, h4⟩ := lst_refs ht
    subst h3
    exact ⟨T :: Ts, by rw [e, e2]; rfl, fun T' hT' => by
      rcases List.mem_cons.mp hT' with rfl | hT'
      · exact ⟨h1, h2⟩
      · exact h4 T' hT'⟩
theorem refs_nodup : ∀ {Ts : List Addr}, (Ts.map Value.ref).Pairwise (· ≠ ·) → Ts.Nodup
  | [], _ => List.nodup_nil
  | T :: Ts, h => by
    rw [List.map_cons, List.pairwise_cons] at h
    rw [List.nodup_cons]
    exact ⟨fun hm => h.1 _ (List.mem_map.mpr ⟨T, hm, rfl⟩) rfl, refs_nodup h.2⟩
def objAt (h : Heap) (T : Addr) : Obj := (h.get? T).getD default
theorem objAt_get {h : Heap} {T : Addr} {its : Array Value} (hl : h.IsList T its) : h.get? T = some (objAt h T) ∧ (objAt h T).cls = .type "list" ∧ ∃ n, (objAt h T).data = .seq its n := by
  obtain ⟨o, ho, hc, n, hd⟩ := hl
  have : objAt h T = o := by unfold objAt; rw [ho]; rfl
  rw [this]
  exact ⟨ho, hc, n, hd⟩
theorem News.app {h₀ h : Heap} {L : Addr} {n1 n2 : List (Addr × Obj)} (N1 : News h₀ L h n1) (N2 : News h₀ L h n2) : News h₀ L h (n1 ++ n2) := fun p hp => (List.mem_append.mp hp).elim (N1 p) (N2 p)
theorem News.refs {h₀ h2 h : Heap} {L : Addr} {oI : Obj} {m : Str → Option Value} {Ts : List Addr} (F : Fr h₀ L h2 m) (hT : ∀ T ∈ Ts, (h2.push oI).get? T = none ∧ h.IsList T #[]) : News h₀ L h (Ts.map fun T => (T, objAt h T)) := by
  intro p hp
  obtain ⟨T, hm, rfl⟩ := List.mem_map.mp hp
  obtain ⟨h1, h2'⟩ := hT T hm
  have N1 := News.add (h' := h) F News.nil (objAt_get h2').1 (none_of_push h1)
  exact N1 _ (.head _)
theorem ne_of_push {h : Heap} {o ob : Obj} {T a : Addr} (h1 : (h.push o).get? T = none) (h2 : h.get? a = some ob) : T ≠ a := by
  intro e
  rw [e, Heap.get?_push_of_some _ h2] at h1
  cases h1
theorem blank_test {x : Str} {i : Nat} {u : Tok} (h : i < x.length) : (Txt.item x (i : Int) == Str.ofString " ") = blankP x (.int (0 + (i : Int) * 1) u) := by
  rw [Bool.eq_iff_iff, beq_iff_eq, blank_is, item_at h]
  have e0 : (0 + (i : Int) * 1) = (i : Int) := by omega
  simp [blankP]
theorem blanks_iv {x : Str} {vs : List Value} {ys : Array Value} (hlen : vs.length = x.length) (hP : ∀ (j : Nat) (v : Value), vs[j]? = some v → j < x.length ∧ ∃ t, v = Value.int (0 + (j : Int) * 1) t)
    (hp : Paired (fun v y => y = v) (List.filter (blankP x) vs) ys.toList) : IV ys.toList (blanksL x.cps.toList) := by
  rw [Paired.eq hp]
  have h1 : Paired (fun v (n : Nat) => ∃ t, v = Value.int (n : Int) t) vs (List.range x.cps.toList.length) := by
    refine Paired.of_get (by rw [hlen]; simp [Str.length]) fun j a b ha hb => ?_
    obtain ⟨_, t, rfl⟩ := hP j a ha
    have : b = j := by
      rw [List.getElem?_eq_some_iff] at hb
      obtain ⟨_, hb⟩ := hb
      simpa using hb.symm
    subst this
    exact ⟨t, by congr 1; omega⟩
  refine Paired.filter (fun v n hv => ?_) h1
  obtain ⟨t, rfl⟩ := hv
  simp [blankP]
def RepA (news : List (Addr × Obj)) (as : List Addr) (a : Addr) (P : List (List Nat) → Prop) : Prop :=
  ∃ o, (a, o) ∈ news ∧ o.cls = .type "list" ∧ (((∃ n, o.data = .seq #[] n) ∧ ∀ ws, ¬ P ws) ∨ (∃ ws b ob vs n n2, o.data = .seq #[.ref b] n ∧ b ∉ as ∧ (b, ob) ∈ news ∧ ob.cls = .type "list" ∧ ob.data = .seq vs n2 ∧ SV vs.toList ws ∧ P ws))
structure CI (x : Str) (t : Tok) (L aS aT aW : Addr) (SS TT : Array Value) (as : List Addr) (P : Nat → List (List Nat) → Prop) (m : Str → Option Value) (news : List (Addr × Obj)) : Prop where
  starts : m (Str.ofString "starts") = some (.ref aS)
  stops : m (Str.ofString "stops") = some (.ref aT)
  ways : m (Str.ofString "ways") = some (.ref aW)
  led : ∃ ow o2 nW rest, news = (L + 1 + 1, ow) :: (L + 1, o2) :: (aS, listOf SS 0) :: (aT, listOf TT 0) :: (aW, listOf (as.map Value.ref).toArray nW) :: rest ∧ (∃ vo, ow.data = .cell vo) ∧ o2.data = .cell (some (.str x t)) ∧ (∀ p ∈ (L + 1, o2) :: (aS, listOf SS 0) :: (aT, listOf TT 0) :: (aW, listOf (as.map Value.ref).toArray nW) :: rest, p.1 ≠ L + 1 + 1)
  nod : as.Nodup
  reps : ∀ j a, as[j]? = some a → RepA news as a (P j)
structure CIn (x : Str) (t : Tok) (L aS aT aW : Addr) (SS TT : Array Value) (as : List Addr) (i : Nat) (ti : Tok) (I : Addr) (oI : Obj) (P : Nat → List (List Nat) → Prop) (m : Str → Option Value) (news : List (Addr × Obj)) : Prop where
  iAt : m (Str.ofString "i") = some (.int (i : Int) ti)
  tailI : news = (I, oI) :: news.tail
  ci : CI x t L aS aT aW SS TT as P m news.tail
  off : ∀ p ∈ news.tail, p.1 ≠ I
theorem reps_init {X : List Nat} {lw1 lw0 : Addr} {Ts : List Addr} {news : List (Addr × Obj)} {h11 : Heap} (hm1 : (lw1, listOf #[Value.ref lw0] 0) ∈ news) (hm0 : (lw0, listOf #[] 0) ∈ news) (hmT : ∀ T ∈ Ts, (T, objAt h11 T) ∈ news)
    (hT : ∀ T ∈ Ts, h11.IsList T #[]) (hne : lw0 ∉ lw1 :: Ts) : ∀ j a, (lw1 :: Ts)[j]? = some a → RepA news (lw1 :: Ts) a (Wy X 0 j) := by
  intro j a ha
  cases j with
  | zero =>
    have : lw1 = a := by simpa using ha
    subst this
    exact ⟨_, hm1, rfl, .inr ⟨[], lw0, _, #[], 0, 0, rfl, hne, hm0, rfl, rfl, Paired.nil, wy_zero.mpr ⟨rfl, rfl⟩⟩⟩
  | succ k =>
    have hk : Ts[k]? = some a := by simpa using ha
    have hm := List.mem_of_getElem? hk
    obtain ⟨_, h2, h3⟩ := objAt_get (hT a hm)
    exact ⟨_, hmT a hm, h2, .inl ⟨h3, fun ws hw => by have := (wy_zero.mp hw).1; omega⟩⟩
theorem eq_nil_t {prog : Program} {w : World} {A : Around} {E : Value → Shared → Prop} {s : Shared} {l b : Addr} {Q : Value → Shared → Prop} (hl : s.heap.IsList l #[]) (hb : s.heap.IsList b #[]) (hu : A.units < cLine)
    (h : Q (.bool true) s) : wpAny (model prog w) A (compareOp .Eq (.ref l) (.ref b)) Q E s := eq_nil hl hb hu h
theorem eq_nil_f {prog : Program} {w : World} {A : Around} {E : Value → Shared → Prop} {s : Shared} {l b : Addr} {items : Array Value} {Q : Value → Shared → Prop} (hl : s.heap.IsList l items) (hb : s.heap.IsList b #[]) (hu : A.units < cLine)
    (hn : items.size ≠ 0) (h : Q (.bool false) s) : wpAny (model prog w) A (compareOp .Eq (.ref l) (.ref b)) Q E s := by
  refine eq_nil hl hb hu ?_
  have : (items.size == 0) = false := by simp [hn]
  rw [this]; exact h
theorem wordL_len (p : List Nat) : (wordL p).length ≤ p.length := by
  unfold wordL
  split
  · have := replL_len5 escL 39 0 (p.dropLast.drop 1)
    simp only [List.length_drop, List.length_dropLast] at this
    omega
  · exact Nat.le_refl _
theorem refs_get {as : List Addr} {j : Nat} {a : Addr} (h : as[j]? = some a) : (as.map Value.ref).toArray[((j : Int)).toNat]? = some (.ref a) := by
  have : ((j : Int)).toNat = j := by omega
  rw [this]
  simp [h]
theorem RepA.congr {news : List (Addr × Obj)} {as : List Addr} {a : Addr} {P P' : List (List Nat) → Prop} (h : ∀ ws, P ws ↔ P' ws) (r : RepA news as a P) : RepA news as a P' := by
  obtain ⟨o, h1, h2, h3⟩ := r
  refine ⟨o, h1, h2, h3.imp (fun q => ⟨q.1, fun ws hw => q.2 ws ((h ws).mpr hw)⟩) fun q => ?_⟩
  obtain ⟨ws, b, ob, vs, n, n2, q1, q2, q3, q4, q5, q6, q7⟩ := q
  exact ⟨ws, b, ob, vs, n, n2, q1, q2, q3, q4, q5, q6, (h ws).mp q7⟩
theorem item_lst {prog : Program} {w : World} {A : Around} {E : Value → Shared → Prop} {s : Shared} {value slice : Expr} {l : Addr} {vs : Array Value} {k : Int} {u : Tok} {v : Value} {Q : Value → Shared → Prop}
    (hl : s.heap.IsList l vs) (h0 : 0 ≤ k) (hhi : k < 2 ^ 63) (hx : vs[k.toNat]? = some v) (h : Q v s)
    (hs : subscripted slice false (.ref l) (.int k u) = operate [.ref l, .int k u] (getItem (.ref l) (.int k u)) := by with_unfolding_all rfl) :
    wpAny (model prog w) A (subscriptTail value slice (.ref l) (.int k u)) Q E s :=
  tail_any hl.typeIs slot_list_getitem.lookup (wpAny_getItem_list hl h0 hhi hx h) hs
theorem setItem_same {prog : Program} {w : World} {A : Around} {E : Value → Shared → Prop} {s : Shared} {l : Addr} {o : Obj} {items : Array Value} {n : Nat} {k : Int} {t : Tok} {v : Value} {Q : Unit → Shared → Prop}
    (ho : s.heap.get? l = some o) (hc : o.cls = .type "list") (hd : o.data = .seq items n) (h0 : 0 ≤ k) (hfit : k < 2 ^ 63) (hv : items[k.toNat]? = some v)
    (hQ : ∀ h', (∀ b o, s.heap.get? b = some o → h'.get? b = some o) → Q () { s with heap := h' }) : wpAny (model prog w) A (setItem (.ref l) (.int k t) v) Q E s := by
  have hl : s.heap.IsList l items := ⟨o, ho, hc, n, hd⟩
  unfold setItem
  try with_reducible refine wpAny_holding ?_
  first | refine wpAny_bind (wpAny_pure ?_) | skip
  refine wpAny_bind (wpAny_sequenceKey hl.typeIs (by decide) ?_)
  refine wpAny_bind (wpAny_callSpecial?_slot (name := Str.ofString "__setitem__") hl.typeIs slot_list_setitem
    (wpAny_call_entry slot_list_setitem hl.typeIs entry_list_setitem ?_ (args_list_setitem _ _ _)))
  show wpAny _ _ (Builtin.List.listSubscript? (.int k t) >>= _) _ _ s
  refine wpAny_bind (wpAny_listSubscript_int (fitsIndex_of h0 hfit) ?_)
  clear hfit
  obtain ⟨j, rfl⟩ := Int.eq_ofNat_of_zero_le h0
  have hv' : items[j]? = some v := hv
  obtain ⟨hj, hvj⟩ := Array.getElem?_eq_some_iff.mp hv'
  show wpAny _ _ ((seqItemAt l j >>= fun r => pure (r.map (j, ·))) >>= _) _ _ s
  refine wpAny_bind (wpAny_bind (wpAny_seqItemAt ho hd (wpAny_pure ?_)))
  rw [hv']
  show wpAny _ _ (setSeqItemAt l j v >>= _) _ _ s
  have hset : items.setIfInBounds j v = items := by
    apply Array.ext
    · simp
    · intro i h1 h2
      rw [Array.getElem_setIfInBounds]
      split
      · rename_i e; subst e; exact hvj.symm
      · rfl
  have hm : Obj.mapSeq (·.setIfInBounds j v) o = o := by
    obtain ⟨c, d, dt, sl⟩ := o
    simp only at hd
    subst hd
    simp [Obj.mapSeq, hset]
  have hk : ∀ b o', s.heap.get? b = some o' → (s.heap.update l (Obj.mapSeq (·.setIfInBounds j v))).get? b = some o' := by
    intro b o' e
    by_cases hb : b = l
    · subst hb
      rw [ho] at e
      injection e with e
      subst e
      have := Heap.get?_update_self (Obj.mapSeq (·.setIfInBounds j v)) ho (by rw [hm]; exact Obj.isFreed_of_seq hd)
      rw [this, hm]
    · rw [(Heap.SameBut.update s.heap l _).2 b hb]; exact e
  refine wpAny_bind (wpAny_setSeqItemAt ho hd ?_)
  first
    | exact wpAny_bind (wpAny_pure (wpAny_pure ⟨.none, rfl, wpAny_pure (hQ _ hk)⟩))
    | exact wpAny_pure ⟨.none, rfl, wpAny_pure (hQ _ hk)⟩
theorem addH {prog : Program} {w : World} {A : Around} {E : Value → Shared → Prop} {s : Shared} {l b : Addr} {xs ys : Array Value} {Q : Value → Shared → Prop}
    (hl : s.heap.IsList l xs) (hb : s.heap.IsList b ys) (hsz : xs.size + ys.size ≤ sizeLine)
    (h : Q (.ref s.heap.objs.size) { s with heap := s.heap.push { cls := .type "list", data := .seq (xs ++ ys) } }) : wpAny (model prog w) A (binaryOp .Add (.ref l) (.ref b)) Q E s := by
  obtain ⟨⟨cls, dd, data, sl⟩, ho, hc, n, hd⟩ := id hl
  obtain ⟨⟨cls2, dd2, data2, sl2⟩, ho2, hc2, n2, hd2⟩ := id hb
  simp only at hc hd hc2 hd2
  subst hc hd hc2 hd2
  exact concat_meets ⟨_, ho, rfl⟩ ⟨_, ho2, rfl⟩ noFill_list_add seq_list_add PySem.F.slot_list_add PySem.F.entry_list_add (PySem.F.args_list_add_2 _ _) (list_addW l b xs ys n n2 dd dd2 sl sl2 hsz) ⟨ho, ho2, h⟩
theorem RepA.mono {news news' : List (Addr × Obj)} {as : List Addr} {a : Addr} {P : List (List Nat) → Prop} {ok : Addr → Prop} (ha : ok a) (hb : ∀ b, b ∉ as → ok b)
    (hsub : ∀ p ∈ news, (∃ its n, p.2.data = .seq its n) → ok p.1 → p ∈ news') (r : RepA news as a P) : RepA news' as a P := by
  obtain ⟨o, h1, h2, h3⟩ := r
  refine ⟨o, ?_, h2, ?_⟩
  · rcases h3 with ⟨⟨n, hd⟩, _⟩ | ⟨ws, b, ob, vs, n, n2, q1, _⟩
    · exact hsub _ h1 ⟨_, _, hd⟩ ha
    · exact hsub _ h1 ⟨_, _, q1⟩ ha
  · refine h3.imp (fun q => q) fun q => ?_
    obtain ⟨ws, b, ob, vs, n, n2, q1, q2, q3, q4, q5, q6, q7⟩ := q
    exact ⟨ws, b, ob, vs, n, n2, q1, q2, hsub _ q3 ⟨_, _, q5⟩ (hb b q2), q4, q5, q6, q7⟩
theorem off1 {I c : Addr} {o o' : Obj} {rest : List (Addr × Obj)} (h : ∀ p ∈ (c, o) :: rest, p.1 ≠ I) : ∀ p ∈ (c, o') :: rest, p.1 ≠ I := by
  intro p hp
  rcases List.mem_cons.mp hp with rfl | hp
  · exact h (c, o) (.head _)
  · exact h p (.tail _ hp)
theorem off2 {I c : Addr} {q : Addr × Obj} {o o' : Obj} {rest : List (Addr × Obj)} (h : ∀ p ∈ q :: (c, o) :: rest, p.1 ≠ I) : ∀ p ∈ q :: (c, o') :: rest, p.1 ≠ I := by
  intro p hp
  rcases List.mem_cons.mp hp with rfl | hp
  · exact h _ (.head _)
  · exact off1 (fun p hp => h p (.tail _ hp)) p hp
theorem no_quote {x part : Str} {pa pb : Nat} (hpart : Txt.slice x (some (pa : Int)) (some (pb : Int)) = part) (hc : Hid (quoteS (wordS part) ≠ part)) : ∀ w, quoteL w ≠ (x.cps.toList.take pb).drop pa := by
  intro w hw
  rw [← slice_list, hpart] at hw
  have := quote_word.mp ⟨w, hw⟩
  exact hc.out (str_ext (by rw [quoteS, toS_toList, wordS, toS_toList]; exact this))
theorem yes_quote {x part : Str} {pa pb : Nat} (hpart : Txt.slice x (some (pa : Int)) (some (pb : Int)) = part) (hc : Hid (quoteS (wordS part) = part)) : quoteL (wordL part.cps.toList) = (x.cps.toList.take pb).drop pa := by
  rw [← slice_list, hpart]
  have := congrArg (fun s : Str => s.cps.toList) hc.out
  rw [quoteS, toS_toList, wordS, toS_toList] at this
  exact this
theorem vy_self {X : List Nat} {i c : Nat} {ws : List (List Nat)} (h : i ≤ c) : Vy X i c i ws ↔ Wy X i i ws := by
  rw [vy_end h, ← vy_end (Nat.le_refl i), vy_start]
theorem quoteL_pos (w : List Nat) : 1 ≤ (quoteL w).length := by
  unfold quoteL
  split
  · simp
  · split
    · rename_i h _; cases w with
      | nil => exact absurd rfl h
      | cons c r => simp
    · simp
theorem joinQ_len : ∀ ws : List (List Nat), ws.length ≤ (joinQ ws).length
  | [] => Nat.le_refl _
  | [w] => quoteL_pos w
  | w :: v :: r => by
    have := joinQ_len (v :: r)
    have := quoteL_pos w
    simp only [joinQ, List.length_append, List.length_cons] at *
    omega
theorem full_len {X : List Nat} {j : Nat} {ws : List (List Nat)} (h : Full X j ws) : ws.length ≤ X.length := by
  rcases h with ⟨_, rfl⟩ | ⟨_, _, p, _, e⟩
  · exact Nat.zero_le _
  · have h1 := joinQ_len ws
    rw [e, List.length_take] at h1
    omega
theorem one_new {h₁ h : Heap} {G : Value → Array Value → Prop} {b : Addr} {vs2 : List Value} {ys2 : Array Value} (hlen : vs2.length = (#[Value.ref b] : Array Value).size) (hP : ∀ (j : Nat) (v : Value), vs2[j]? = some v → (#[Value.ref b] : Array Value)[j]? = some v)
    (hpair : Paired (LstIs h₁ G h) (vs2.filter fun _ => true) ys2.toList) : ∃ T its, ys2 = #[Value.ref T] ∧ h₁.get? T = none ∧ h.IsList T its ∧ G (.ref b) its := by
  rw [filter_true, list_all hlen hP] at hpair
  have hpair : Paired (LstIs h₁ G h) [Value.ref b] ys2.toList := hpair
  obtain ⟨l⟩ := ys2
  have hpair : Paired (LstIs h₁ G h) [Value.ref b] l := hpair
  cases hpair with
  | cons hx ht =>
    cases ht
    obtain ⟨T, its, e, h1, h2, h3⟩ := hx
    exact ⟨T, its, by rw [e], h1, h2, h3⟩
theorem News.upd1 {h₀ h h' : Heap} {L a : Addr} {o o' : Obj} {m : Str → Option Value} {news news' : List (Addr × Obj)} (F : Fr h₀ L h m) (N : News h₀ L h news) (hm : (a, o) ∈ news) (hs : Heap.SameBut a h h') (ho' : h'.get? a = some o')
    (hsub : ∀ p ∈ news', p = (a, o') ∨ (p ∈ news ∧ p.1 ≠ a)) : Fr h₀ L h' m ∧ News h₀ L h' news' := by
  refine ⟨Fr.update F N hm hs, fun p hp => ?_⟩
  rcases hsub p hp with rfl | ⟨h1, h2⟩
  · exact ⟨ho', (N _ hm).2⟩
  · refine ⟨?_, (N p h1).2⟩
    rw [hs.2 p.1 h2]; exact (N p h1).1
theorem ne_data {h : Heap} {a b : Addr} {oa ob : Obj} (ha : h.get? a = some oa) (hb : h.get? b = some ob) (hd : oa.data ≠ ob.data) : a ≠ b := by
  rintro rfl
  rw [ha] at hb
  injection hb with hb
  exact hd (by rw [hb])
theorem mem_new {q1 q2 q3 q4 t1 t2 p : Addr × Obj} {rest : List (Addr × Obj)} {f : Addr × Obj → Bool} (h : p ∈ q1 :: q2 :: q3 :: q4 :: t1 :: t2 :: rest.filter f) : (p ∈ q1 :: q2 :: q3 :: q4 :: rest ∧ (p ∈ rest → (p = q1 ∨ p = q2 ∨ p = q3 ∨ p = q4) ∨ f p = true)) ∨ p = t1 ∨ p = t2 := by
  simp only [List.mem_cons, List.mem_filter] at h ⊢
  rcases h with h | h | h | h | h | h | ⟨h, h'⟩
  · exact .inl ⟨.inl h, fun _ => .inl (.inl h)⟩
  · exact .inl ⟨.inr (.inl h), fun _ => .inl (.inr (.inl h))⟩
  · exact .inl ⟨.inr (.inr (.inl h)), fun _ => .inl (.inr (.inr (.inl h)))⟩
  · exact .inl ⟨.inr (.inr (.inr (.inl h))), fun _ => .inl (.inr (.inr (.inr h)))⟩
  · exact .inr (.inl h)
  · exact .inr (.inr h)
  · exact .inl ⟨.inr (.inr (.inr (.inr h))), fun _ => .inr h'⟩
theorem off_new {q1 q2 q3 q4 t1 t2 : Addr × Obj} {rest : List (Addr × Obj)} {f : Addr × Obj → Bool} {Z : Addr} (h : ∀ p ∈ q1 :: q2 :: q3 :: q4 :: rest, p.1 ≠ Z) (h1 : t1.1 ≠ Z) (h2 : t2.1 ≠ Z) :
    ∀ p ∈ q1 :: q2 :: q3 :: q4 :: t1 :: t2 :: rest.filter f, p.1 ≠ Z := by
  intro p hp
  rcases mem_new hp with ⟨h', _⟩ | rfl | rfl
  · exact h p h'
  · exact h1
  · exact h2
theorem off_cons {q : Addr × Obj} {rest : List (Addr × Obj)} {Z : Addr} (h1 : q.1 ≠ Z) (h : ∀ p ∈ rest, p.1 ≠ Z) : ∀ p ∈ q :: rest, p.1 ≠ Z := by
  intro p hp
  rcases List.mem_cons.mp hp with rfl | hp
  · exact h1
  · exact h p hp
theorem mem_seq {c : Addr} {ow : Obj} {vo : Option Value} {tl : List (Addr × Obj)} {p : Addr × Obj} {its : Array Value} {n : Nat} (h : p ∈ (c, ow) :: tl) (hc : ow.data = .cell vo) (hd : p.2.data = .seq its n) : p ∈ tl := by
  rcases List.mem_cons.mp h with rfl | h
  · rw [hc] at hd; cases hd
  · exact h
theorem IsList.push {h : Heap} {l : Addr} {its : Array Value} {o : Obj} (x : h.IsList l its) : (h.push o).IsList l its := let ⟨ob, ho, r⟩ := x; ⟨ob, Heap.get?_push_of_some _ ho, r⟩
theorem one_at {b : Addr} {i : Nat} {v : Value} (h : (#[Value.ref b] : Array Value)[i]? = some v) : i = 0 ∧ v = .ref b := by
  cases i with
  | zero => exact ⟨rfl, by simpa using h.symm⟩
  | succ k => simp at h
theorem RepA.res {h₀ h : Heap} {L : Addr} {news : List (Addr × Obj)} {as : List Addr} {a : Addr} {X : List Nat} {n : Nat} (N : News h₀ L h news) (hX : X ≠ []) (hn : (spL X).length = n) (ha : a ∈ as) (r : RepA news as a (Wy X n n)) : ResW h₀ h (.ref a) (nrm true X) := by
  subst hn
  obtain ⟨o, h1, h2, h3⟩ := r
  rcases h3 with ⟨⟨n, hd⟩, hno⟩ | ⟨ws, b, ob, vs, n, n2, q1, q2, q3, q4, q5, q6, q7⟩
  · have : nrm true X = none := by
      cases e : nrm true X with
      | none => rfl
      | some ws => exact absurd ((wy_last hX ws).mpr e) (hno ws)
    rw [this]
    exact ⟨a, rfl, (N _ h1).2.2, o, (N _ h1).1, h2, n, hd⟩
  · rw [(wy_last hX ws).mp q7]
    refine ⟨a, b, vs.toList, rfl, (N _ h1).2.2, (N _ q3).2.2, fun e => q2 (e ▸ ha), ⟨o, (N _ h1).1, h2, n, q1⟩, ⟨ob, (N _ q3).1, q4, n2, ?_⟩, q6⟩
    simpa using q5
theorem aug_upd {h₀ h h' : Heap} {L a2 : Addr} {m : Str → Option Value} {oA oA' : Obj} {p1 p2 p3 q1 q2 q3 q4 t d : Addr × Obj} {rest : List (Addr × Obj)} (F : Fr h₀ L h m) (N : News h₀ L h (t :: d :: p1 :: p2 :: p3 :: q1 :: q2 :: q3 :: q4 :: rest))
    (hm : (a2, oA) ∈ q1 :: q2 :: q3 :: q4 :: rest) (hs : Heap.SameBut a2 h h') (ho' : h'.get? a2 = some oA') (h1 : ∀ q ∈ [p1, p2, p3, q1, q2, q3, q4, t], q.1 ≠ a2) :
    Fr h₀ L h' m ∧ News h₀ L h' (p1 :: p2 :: p3 :: q1 :: q2 :: q3 :: q4 :: t :: (a2, oA') :: rest.filter (fun p => p.1 != a2)) := by
  refine News.upd1 F N (.tail _ (.tail _ (.tail _ (.tail _ (.tail _ hm))))) hs ho' fun p hp => ?_
  simp only [List.mem_cons, List.mem_filter] at hp
  rcases hp with rfl | rfl | rfl | rfl | rfl | rfl | rfl | rfl | rfl | ⟨hr, hf⟩
  · exact .inr ⟨by simp, h1 _ (by simp)⟩
  · exact .inr ⟨by simp, h1 _ (by simp)⟩
  · exact .inr ⟨by simp, h1 _ (by simp)⟩
  · exact .inr ⟨by simp, h1 _ (by simp)⟩
  · exact .inr ⟨by simp, h1 _ (by simp)⟩
  · exact .inr ⟨by simp, h1 _ (by simp)⟩
  · exact .inr ⟨by simp, h1 _ (by simp)⟩
  · exact .inr ⟨by simp, h1 _ (by simp)⟩
  · exact .inl rfl
  · exact .inr ⟨by simp [hr], by simpa using hf⟩
theorem mem_upd {a2 : Addr} {q1 q2 q3 q4 t t2 p : Addr × Obj} {rest : List (Addr × Obj)} (h : p ∈ q1 :: q2 :: q3 :: q4 :: rest) (hne : p.1 ≠ a2) : p ∈ q1 :: q2 :: q3 :: q4 :: t :: t2 :: rest.filter (fun p => p.1 != a2) := by
  simp only [List.mem_cons, List.mem_filter] at h ⊢
  rcases h with h | h | h | h | h
  · exact .inl h
  · exact .inr (.inl h)
  · exact .inr (.inr (.inl h))
  · exact .inr (.inr (.inr (.inl h)))
  · exact .inr (.inr (.inr (.inr (.inr (.inr ⟨h, by simpa using hne⟩)))))
theorem SV.snoc {vs : List Value} {ws : List (List Nat)} {w : List Nat} {t : Tok} (h : SV vs ws) : SV (vs ++ [Value.str (toS w) t]) (ws ++ [w]) := by
  induction h with
  | nil => exact .cons ⟨t, rfl⟩ .nil
  | cons hx _ ih => exact .cons hx ih
set_option maxHeartbeats 4000000 in
theorem cuts_spec {w : World} {s : Shared} {x : Str} {t : Tok} {mean mg mb} (hx : x.length ≤ 40) (hne : x.cps.toList ≠ []) (KX : (Mine.hd.heap_39 w.params).In s.heap) (T : Top Mine.hd.view_39 LS mean mg mb s.heap) :
    codeAny (model prg w) AB (.call (.ref 82) ⟨[.str x t], []⟩) (RetS s fun v h' => ResW s.heap h' v (nrm true x.cps.toList)) s := by
  refine call_cellsN_ret (by decide) (KX 82 _ rfl) rfl T.nolimit (codeRec_of KX rfl) (binds := [(Str.ofString "text", .str x t)]) rfl (kindsX rfl _) (by decide) (fun h₁ tk cells F N Y => ?_)
  have hY := CellsAre.two Y
  obtain ⟨o', o2', hE', d1', d2'⟩ := hY; subst hE'; clear Y
  replace d1' : o'.data = .cell none := d1'
  replace d2' : o2'.data = .cell (some (.str x t)) := d2'
  replace F : Fr s.heap s.heap.objs.size h₁ (fun _ => none) := F
  w_on
  refine wpAny_execs_cons (wpAny_Assign_ListComp_free (cl := [(Str.ofString "text", s.heap.objs.size + 1)]) (blankP x) (fun v y => y = v) rfl rfl (by decide) rfl (by decide) rfl rfl rfl ?_)
  repeat' ((fail_if_success (first | (with_reducible show wpAny _ _ (pyIter _) _ _ _))); (first | (with_reducible refine ite_t ?_) | (with_reducible refine ite_f ?_) | (with_reducible refine ite_str_t (by with_reducible assumption) ?_) | (with_reducible refine ite_str_f (by with_reducible assumption) ?_) | (with_reducible refine ite_str (fun hc => ?_) (fun hc => ?_)) | (with_reducible refine ite_strne (fun hc => ?_) (fun hc => ?_)) | (with_reducible refine ite_dt (by omega) ?_) | (with_reducible refine ite_df (by omega) ?_) | (with_reducible refine ite_dby (fun hc => ?_) (fun hc => ?_)) | (with_reducible refine ite_by (fun hc => ?_) (fun hc => ?_)) | (k_unfold; (try dsimp only)) | ((with_reducible show wpAny _ _ (execs _ _) _ _ _); (try dsimp only); walk1) | walk1 | (dsimp only; walk1)))
  dsimp only
  rename_i h2 tk2 t1 u1 v1 R2 F2 N2 k2
  dsimp only at R2
  refine wpAny_pyIter_range R2 (small_one (by omega) (by omega) (by omega) (by omega)) ?_
  have hI := Heap.lt_size R2
  have c2 := N2 (s.heap.objs.size + 1, o2') (.tail _ (.head _))
  refine ⟨_, _, _, x.length, _, _, _, rfl, (Walks.range rfl _ 0 1 x.length).bound, ?_, ?_, ?_, ?_, (F2.push _).ns, ⟨?_, ?_⟩, ?_⟩
  · rw [sizeLine_eq]; omega
  · show IsRangeIter _ _ _ _ _
    rw [rangeSize_nat]
    have e : (((x.length : Int) - 0).toNat : Int) = (x.length : Int) - ((0 : Nat) : Int) := by omega
    rw [e]
    simpa using Heap.get?_push_size _ rfl
  · intro b hb
    rw [List.mem_singleton.mp hb, Heap.size_push]; exact Nat.lt_succ_self _
  · intro hm
    exact absurd F2.ns.lt ((List.mem_singleton.mp hm) ▸ Nat.lt_irrefl _)
  · intro C i v s₃ m₃ E' hC hP hns hm hk htk
    obtain ⟨hi, u, rfl⟩ := hP
    have e0 : (0 + (i : Int) * 1) = (i : Int) := by omega
    rw [e0] at hm
    have hc2 : s₃.heap.IsCell (s.heap.objs.size + 1) (some (.str x t)) := ⟨o2', hk _ _ (fun hm => absurd (Heap.lt_size c2.1) ((List.mem_singleton.mp hm) ▸ Nat.lt_irrefl _)) (Heap.get?_push_of_some _ c2.1), d2'⟩
    rw [List.forIn_cons]
    refine wpAny_bind ?_
    rw [if_pos rfl]
    refine wpAny_bind (wpAny_isTrue_Compare1 ?_)
    walk1
    refine wpAny_Name (wpAny_loadName_cell rfl rfl rfl hc2 ?_)
    refine wpAny_Name (wpAny_loadName_local rfl rfl hns hm ?_)
    walk1
    walk1
    walk1
    walk1
    refine wpAny_pure ?_
    dsimp only
    rw [List.forIn_nil]
    refine wpAny_pure ⟨?_, _, _, rfl, fun _ _ e => e⟩
    exact blank_test hi
  · intro C i v s₃ m₃ E' hC hP hpv hns hm hk htk
    exact wpAny_Name (wpAny_loadName_local rfl rfl hns hm ⟨rfl, s₃.heap, s₃.toks, rfl, fun _ _ e => e⟩)
  · intro D h' tk' ys vs hD hl hpl hlen hP hpair hns hk
    obtain ⟨ep, hDo⟩ := hpl
    have hiv := blanks_iv hlen hP hpair
    obtain ⟨F3, N3⟩ := comp_afterA F2 N2 hk hns hD hDo
    clear F2 N2 hk hns hD
    dsimp only
    repeat' ((fail_if_success (first | (with_reducible show wpAny _ _ (eval (Expr.ListComp _ _ _ _) _) _ _ _))); (first | (with_reducible refine ite_t ?_) | (with_reducible refine ite_f ?_) | (with_reducible refine ite_str_t (by with_reducible assumption) ?_) | (with_reducible refine ite_str_f (by with_reducible assumption) ?_) | (with_reducible refine ite_str (fun hc => ?_) (fun hc => ?_)) | (with_reducible refine ite_strne (fun hc => ?_) (fun hc => ?_)) | (with_reducible refine ite_dt (by omega) ?_) | (with_reducible refine ite_df (by omega) ?_) | (with_reducible refine ite_dby (fun hc => ?_) (fun hc => ?_)) | (with_reducible refine ite_by (fun hc => ?_) (fun hc => ?_)) | (k_unfold; (try dsimp only)) | ((with_reducible show wpAny _ _ (execs _ _) _ _ _); (try dsimp only); walk1) | walk1 | (dsimp only; walk1)))
    rename_i l2 h3 F4 N4 l3
    have hB := N4 (D, _) (.tail _ (.head _))
    have hbs : ys.size ≤ 40 := by
      have e := hiv.length
      have e2 : (blanksL x.cps.toList).length ≤ (List.range x.cps.toList.length).length := List.length_filter_le _ _
      rw [List.length_range] at e2
      simp only [Str.length] at hx
      simp at e e2; omega
    refine wpAny_ListComp_free (cl := []) (fun _ => true) (fun v y => ∃ n t t', v = Value.int n t ∧ y = Value.int (n + 1) t') rfl (by decide) rfl (by decide) rfl ?_
    refine wpAny_Name (wpAny_loadName_local rfl rfl F4.ns rfl ?_)
    dsimp only
    refine wpAny_pyIter_list (l := D) (items := ys) ⟨_, hB.1, rfl, _, rfl⟩ ?_
    refine ⟨_, _, _, _, _, _, rfl, Walks.list rfl _ D (Nat.ne_of_lt (Heap.lt_size hB.1)) ys, by rw [sizeLine_eq]; omega, ⟨⟨_, Heap.get?_push_size _ rfl, rfl, rfl⟩, ⟨_, Heap.get?_push_of_some _ hB.1, rfl, _, rfl⟩⟩, ?_, ⟨?_, ?_⟩, ?_⟩
    · intro b hb
      rw [Heap.size_push]
      rcases List.mem_cons.mp hb with rfl | hb
      · exact Nat.lt_succ_self _
      · rw [List.mem_singleton.mp hb]; exact Nat.lt_succ_of_lt (Heap.lt_size hB.1)
    · intro C i v s₃ m₃ E' hC hP hns hm hk htk
      rw [List.forIn_nil]
      exact wpAny_pure ⟨rfl, s₃.heap, s₃.toks, rfl, fun _ _ e => e⟩
    · intro C i v s₃ m₃ E' hC hP hpv hns hm hk htk
      obtain ⟨n, tn, hn, rfl⟩ := hiv.at hP
      walk1
      refine wpAny_Name (wpAny_loadName_local rfl rfl hns hm ?_)
      walk1
      walk1
      exact ⟨⟨_, _, _, rfl, rfl⟩, _, _, rfl, fun _ _ e => e⟩
    · intro D2 h5 tk5 zs vs2 hD2 hl2 hpl2 hlen2 hP2 hpair2 hk2
      obtain ⟨ep2, hDo2⟩ := hpl2
      have hiv2 := plus_iv hiv hlen2 hP2 hpair2
      obtain ⟨F5, N5⟩ := comp_afterE F4 N4 hk2 hD2 hDo2
      clear F4 N4 hk2 hD2
      dsimp only
      repeat' ((fail_if_success (first | (with_reducible show wpAny _ _ (eval (Expr.ListComp _ _ _ _) _) _ _ _) | (with_reducible show wpAny _ _ (binaryOp _ (Value.ref _) (Value.ref _)) _ _ _))); (first | (with_reducible refine ite_t ?_) | (with_reducible refine ite_f ?_) | (with_reducible refine ite_str_t (by with_reducible assumption) ?_) | (with_reducible refine ite_str_f (by with_reducible assumption) ?_) | (with_reducible refine ite_str (fun hc => ?_) (fun hc => ?_)) | (with_reducible refine ite_strne (fun hc => ?_) (fun hc => ?_)) | (with_reducible refine ite_dt (by omega) ?_) | (with_reducible refine ite_df (by omega) ?_) | (with_reducible refine ite_dby (fun hc => ?_) (fun hc => ?_)) | (with_reducible refine ite_by (fun hc => ?_) (fun hc => ?_)) | (k_unfold; (try dsimp only)) | ((with_reducible show wpAny _ _ (execs _ _) _ _ _); (try dsimp only); walk1) | walk1 | (dsimp only; walk1)))
      have hzs : zs.size = ys.size := by have e := hiv2.length; have e2 := hiv.length; simp at e e2; omega
      refine addA F5 N5 (News.isListK N5 (.tail _ (.head _))) (News.isListK N5 (.head _)) (by rw [sizeLine_eq]; simp; omega) (fun aS h6 F6 N6 => ?_)
      clear F5 N5
      repeat' ((fail_if_success (first | (with_reducible show wpAny _ _ (eval (Expr.ListComp _ _ _ _) _) _ _ _) | (with_reducible show wpAny _ _ (binaryOp _ (Value.ref _) (Value.ref _)) _ _ _))); (first | (with_reducible refine ite_t ?_) | (with_reducible refine ite_f ?_) | (with_reducible refine ite_str_t (by with_reducible assumption) ?_) | (with_reducible refine ite_str_f (by with_reducible assumption) ?_) | (with_reducible refine ite_str (fun hc => ?_) (fun hc => ?_)) | (with_reducible refine ite_strne (fun hc => ?_) (fun hc => ?_)) | (with_reducible refine ite_dt (by omega) ?_) | (with_reducible refine ite_df (by omega) ?_) | (with_reducible refine ite_dby (fun hc => ?_) (fun hc => ?_)) | (with_reducible refine ite_by (fun hc => ?_) (fun hc => ?_)) | (k_unfold; (try dsimp only)) | ((with_reducible show wpAny _ _ (execs _ _) _ _ _); (try dsimp only); walk1) | walk1 | (dsimp only; walk1)))
      rename_i lt h7 F7 N7 _
      refine addA F7 N7 (News.isListK N7 (.tail _ (.tail _ (.tail _ (.tail _ (.head _)))))) (News.isListK N7 (.head _)) (by rw [sizeLine_eq]; simp; omega) (fun aT h8 F8 N8 => ?_)
      clear F7 N7
      repeat' ((fail_if_success (first | (with_reducible show wpAny _ _ (eval (Expr.ListComp _ _ _ _) _) _ _ _) | (with_reducible show wpAny _ _ (binaryOp _ (Value.ref _) (Value.ref _)) _ _ _))); (first | (with_reducible refine ite_t ?_) | (with_reducible refine ite_f ?_) | (with_reducible refine ite_str_t (by with_reducible assumption) ?_) | (with_reducible refine ite_str_f (by with_reducible assumption) ?_) | (with_reducible refine ite_str (fun hc => ?_) (fun hc => ?_)) | (with_reducible refine ite_strne (fun hc => ?_) (fun hc => ?_)) | (with_reducible refine ite_dt (by omega) ?_) | (with_reducible refine ite_df (by omega) ?_) | (with_reducible refine ite_dby (fun hc => ?_) (fun hc => ?_)) | (with_reducible refine ite_by (fun hc => ?_) (fun hc => ?_)) | (k_unfold; (try dsimp only)) | ((with_reducible show wpAny _ _ (execs _ _) _ _ _); (try dsimp only); walk1) | walk1 | (dsimp only; walk1)))
      rename_i hEp lw0 hq0 lq0 lw1 hq1 lq1 lw2 h10 F10 N10 l10
      have hT := N10 (aT, _) (.tail _ (.tail _ (.tail _ (.head _))))
      refine wpAny_ListComp_freeO (cl := []) (fun _ => true) (fun v its => its = #[]) rfl (by decide) rfl (by decide) rfl ?_
      refine wpAny_Name (wpAny_loadName_local rfl rfl F10.ns rfl ?_)
      dsimp only
      refine wpAny_pyIter_list (l := aT) ⟨_, hT.1, rfl, _, rfl⟩ ?_
      refine ⟨_, _, _, _, _, _, rfl, Walks.list rfl _ aT (Nat.ne_of_lt (Heap.lt_size hT.1)) _, by rw [sizeLine_eq]; simp; omega, ?_, ⟨⟨_, Heap.get?_push_size _ rfl, rfl, rfl⟩, ⟨_, Heap.get?_push_of_some _ hT.1, rfl, _, rfl⟩⟩, ?_, ⟨?_, ?_⟩, ?_⟩
      · rintro i h ⟨⟨o, ho, _⟩, _⟩ b hb
        rw [List.mem_singleton.mp hb]
        exact ⟨o, ho⟩
      · intro b hb
        rw [Heap.size_push]
        rcases List.mem_cons.mp hb with rfl | hb
        · exact Nat.lt_succ_self _
        · rw [List.mem_singleton.mp hb]; exact Nat.lt_succ_of_lt (Heap.lt_size hT.1)
      · intro C i v s₃ m₃ E' hC hP hns hm hk htk
        rw [List.forIn_nil]
        exact wpAny_pure ⟨rfl, s₃.heap, s₃.toks, rfl, fun _ _ e => e⟩
      · intro C i v s₃ m₃ E' hC hP hpv hns hm hk htk
        walk1
        walk1
        refine wpAny_newObj_type ⟨⟨_, _, rfl, get_size_none _, ⟨_, Heap.get?_push_size _ rfl, rfl, _, rfl⟩, rfl⟩, _, _, rfl, fun _ _ e => Heap.get?_push_of_some _ e⟩
      · intro D3 h11 tk11 us vs3 hD3 hl3 hpl3 hlen3 hP3 hpair3 hpw3 hne3 hk3
        obtain ⟨ep3, hDo3⟩ := hpl3
        obtain ⟨F11, N11⟩ := comp_afterE F10 N10 hk3 hD3 hDo3
        obtain ⟨Ts, hus, hTs⟩ := lst_refs hpair3
        rw [hus] at hpw3
        have hnd := refs_nodup hpw3
        have hTl : Ts.length = ys.size + 1 := by
          have e1 := congrArg List.length hus
          have e2 := hpair3.length
          rw [filter_true, hlen3] at e2
          simp at e1 e2
          omega
        have N12 := News.app N11 (News.refs F10 hTs)
        have hlw0 : ∀ T ∈ Ts, T ≠ lw1 ∧ T ≠ lw0 := fun T hT => ⟨ne_of_push (hTs T hT).1 (N10 (lw1, _) (.tail _ (.head _))).1, ne_of_push (hTs T hT).1 (N10 (lw0, _) (.tail _ (.tail _ (.head _)))).1⟩
        have h10' : lw1 ≠ lw0 := Nat.ne_of_gt lq1.1
        clear N11 F10 N10 hk3 hD3 hpair3
        dsimp only
        simp only [List.cons_append, List.nil_append] at N12
        have hus' : us.size = ys.size + 1 := by
          have e1 := congrArg List.length hus
          simp at e1; omega
        refine addA F11 N12 (News.isListK N12 (.tail _ (.head _))) (News.isListK N12 (.head _)) (by rw [sizeLine_eq]; simp; omega) (fun aW h13 F13 N13 => ?_)
        clear F11 N12
        repeat' ((fail_if_success (first | (with_reducible show wpAny _ _ (exec (Stmt.For _ _ _ _ _) _) _ _ _))); (first | (with_reducible refine ite_t ?_) | (with_reducible refine ite_f ?_) | (with_reducible refine ite_str_t (by with_reducible assumption) ?_) | (with_reducible refine ite_str_f (by with_reducible assumption) ?_) | (with_reducible refine ite_str (fun hc => ?_) (fun hc => ?_)) | (with_reducible refine ite_strne (fun hc => ?_) (fun hc => ?_)) | (with_reducible refine ite_dt (by omega) ?_) | (with_reducible refine ite_df (by omega) ?_) | (with_reducible refine ite_dby (fun hc => ?_) (fun hc => ?_)) | (with_reducible refine ite_by (fun hc => ?_) (fun hc => ?_)) | (k_unfold; (try dsimp only)) | ((with_reducible show wpAny _ _ (execs _ _) _ _ _); (try dsimp only); walk1) | walk1 | (dsimp only; walk1)))
        generalize hSS : (#[Value.int 0 tk'] ++ zs) = SS at *
        rename_i F14 N14
        have hS1 : IV SS.toList (stL x.cps.toList) := by
          rw [← hSS]
          simp only [Array.toList_append, List.cons_append, List.nil_append]
          exact .cons ⟨_, rfl⟩ hiv2
        have hSz : SS.size = ys.size + 1 := by rw [← hSS]; simp; omega
        generalize hTT : (ys ++ #[Value.int (x.length : Int) _]) = TT at *
        have hT1 : IV TT.toList (spL x.cps.toList) := by
          rw [← hTT]
          simp only [Array.toList_append]
          exact Paired.snoc hiv ⟨_, by simp [Str.length]; rfl⟩
        have hTz : TT.size = ys.size + 1 := by rw [← hTT]; simp
        have hasl : (lw1 :: Ts).length = TT.size + 1 := by rw [List.length_cons]; omega
        have hus2 : (#[Value.ref lw1] ++ us) = ((lw1 :: Ts).map Value.ref).toArray := by
          rw [List.map_cons, ← hus]; simp
        rw [hus2] at N14
        refine For_invVF F14 rfl rfl ?_
        repeat' ((fail_if_success (first | (with_reducible show wpAny _ _ (pyIter _) _ _ _))); (first | (with_reducible refine ite_t ?_) | (with_reducible refine ite_f ?_) | (with_reducible refine ite_str_t (by with_reducible assumption) ?_) | (with_reducible refine ite_str_f (by with_reducible assumption) ?_) | (with_reducible refine ite_str (fun hc => ?_) (fun hc => ?_)) | (with_reducible refine ite_strne (fun hc => ?_) (fun hc => ?_)) | (with_reducible refine ite_dt (by omega) ?_) | (with_reducible refine ite_df (by omega) ?_) | (with_reducible refine ite_dby (fun hc => ?_) (fun hc => ?_)) | (with_reducible refine ite_by (fun hc => ?_) (fun hc => ?_)) | (k_unfold; (try dsimp only)) | ((with_reducible show wpAny _ _ (execs _ _) _ _ _); (try dsimp only); walk1) | walk1 | (dsimp only; walk1)))
        dsimp only
        rename_i h15 tk15 t15 u15 v15 R15 F15 N15 k15
        dsimp only at R15
        clear k15
        refine iter_rng (n := ys.size + 1) (news := (s.heap.objs.size + 1 + 1, o') :: (s.heap.objs.size + 1, o2') :: (aS, listOf SS 0) :: (aT, listOf TT 0) :: (aW, listOf ((lw1 :: Ts).map Value.ref).toArray 0) :: (lw1, listOf #[Value.ref lw0] 0) :: (lw0, listOf #[] 0) :: Ts.map fun T => (T, objAt h11 T))
          (fun i m news => CI x t s.heap.objs.size aS aT aW SS TT (lw1 :: Ts) (Wy x.cps.toList i) m news) rfl R15 (small_one (by omega) (by omega) (by omega) (by omega)) (by rw [rangeSize_nat]; omega) F15 ?_ ?_ ?_ ?_
        · intro p hp
          rcases List.mem_cons.mp hp with rfl | hp
          · exact N15 _ (by simp)
          rcases List.mem_cons.mp hp with rfl | hp
          · exact N15 _ (by simp)
          rcases List.mem_cons.mp hp with rfl | hp
          · exact N15 _ (by simp)
          rcases List.mem_cons.mp hp with rfl | hp
          · exact N15 _ (by simp)
          rcases List.mem_cons.mp hp with rfl | hp
          · exact N15 _ (.head _)
          rcases List.mem_cons.mp hp with rfl | hp
          · exact N15 _ (by simp)
          rcases List.mem_cons.mp hp with rfl | hp
          · exact N15 _ (by simp)
          exact N15 _ (by simp only [List.mem_cons]; simp [hp])
        · refine ⟨rfl, rfl, rfl, ⟨_, _, _, _, rfl, ⟨_, d1'⟩, d2', ?_⟩, List.nodup_cons.mpr ⟨fun hm => (hlw0 lw1 hm).1 rfl, hnd⟩, ?_⟩
          · intro p hp
            have hall : ∀ q, q ∈ (s.heap.objs.size + 1, o2') :: (aS, listOf SS 0) :: (aT, listOf TT 0) :: (aW, listOf ((lw1 :: Ts).map Value.ref).toArray 0) :: (lw1, listOf #[Value.ref lw0] 0) :: (lw0, listOf #[] 0) :: (Ts.map fun T => (T, objAt h11 T)) → h15.get? q.1 = some q.2 := by
              intro q hq
              refine (N15 q ?_).1
              simp only [List.mem_cons] at hq ⊢
              rcases hq with h | h | h | h | h | h | h <;> simp [h]
            have hcell := (N15 (s.heap.objs.size + 1 + 1, o') (by simp)).1
            intro e
            have hq := hall p hp
            rw [e] at hq
            have hoe : o' = p.2 := by have := hcell.symm.trans hq; injection this
            rcases List.mem_cons.mp hp with rfl | hp
            · exact absurd e (Nat.ne_of_lt (Nat.lt_succ_self _))
            · have hseq : ∃ its n, p.2.data = .seq its n := by
                simp only [List.mem_cons] at hp
                rcases hp with rfl | rfl | rfl | rfl | rfl | hp
                · exact ⟨_, _, rfl⟩
                · exact ⟨_, _, rfl⟩
                · exact ⟨_, _, rfl⟩
                · exact ⟨_, _, rfl⟩
                · exact ⟨_, _, rfl⟩
                · obtain ⟨T, hT, rfl⟩ := List.mem_map.mp hp
                  obtain ⟨_, _, n, h3⟩ := objAt_get (hTs T hT).2
                  exact ⟨_, _, h3⟩
              obtain ⟨its, n, hs⟩ := hseq
              rw [← hoe, d1'] at hs
              cases hs
          refine reps_init (h11 := h11) (.tail _ (.tail _ (.tail _ (.tail _ (.tail _ (.head _)))))) (.tail _ (.tail _ (.tail _ (.tail _ (.tail _ (.tail _ (.head _))))))) (fun T hT => by simp only [List.mem_cons, List.mem_map]; exact .inr (.inr (.inr (.inr (.inr (.inr (.inr ⟨T, hT, rfl⟩))))))) (fun T hT => (hTs T hT).2) ?_
          intro hm
          rcases List.mem_cons.mp hm with e | hm
          · exact h10' e.symm
          · exact (hlw0 lw0 hm).2 rfl
        · intro i ti m₁ news₁ h16 tk16 I oI hi hoff C F16 N16
          obtain ⟨q1, q2, q3, ⟨ow, o2, nW, rest, rfl, ⟨vo, hvo⟩, ho2, hofw⟩, hnod, hreps⟩ := C
          rw [frame3 q1 q2 q3, Int.zero_add] at F16
          replace F16 : Fr s.heap s.heap.objs.size h16 _ := F16
          replace N16 : News s.heap s.heap.objs.size h16 _ := N16
          dsimp only at F16
          obtain ⟨a, ha⟩ : ∃ a, (lw1 :: Ts)[i]? = some a := ⟨_, List.getElem?_eq_getElem (by omega)⟩
          have hra := hreps i a ha
          repeat' ((fail_if_success (first | (with_reducible show wpAny _ _ (subscriptTail _ _ (Value.ref _) (Value.int _ _)) _ _ _) | (with_reducible show wpAny _ _ (compareOp _ (Value.ref _) (Value.ref _)) _ _ _) | (with_reducible show wpAny _ _ (exec (Stmt.For _ _ _ _ _) _) _ _ _) | (with_reducible show RPost _ _ _ _ _ _ _ _))); (first | (with_reducible refine ite_t ?_) | (with_reducible refine ite_f ?_) | (with_reducible refine ite_str_t (by with_reducible assumption) ?_) | (with_reducible refine ite_str_f (by with_reducible assumption) ?_) | (with_reducible refine ite_str (fun hc => ?_) (fun hc => ?_)) | (with_reducible refine ite_strne (fun hc => ?_) (fun hc => ?_)) | (with_reducible refine ite_dt (by omega) ?_) | (with_reducible refine ite_df (by omega) ?_) | (with_reducible refine ite_dby (fun hc => ?_) (fun hc => ?_)) | (with_reducible refine ite_by (fun hc => ?_) (fun hc => ?_)) | (k_unfold; (try dsimp only)) | ((with_reducible show wpAny _ _ (execs _ _) _ _ _); (try dsimp only); walk1) | walk1 | (dsimp only; walk1)))
          refine item_lst (vs := ((lw1 :: Ts).map Value.ref).toArray) (v := .ref a) ?_ (by omega) (by omega) (refs_get ha) ?_
          · exact News.isListK (by assumption) (.tail _ (.tail _ (.tail _ (.tail _ (.tail _ (.head _))))))
          repeat' ((fail_if_success (first | (with_reducible show wpAny _ _ (subscriptTail _ _ (Value.ref _) (Value.int _ _)) _ _ _) | (with_reducible show wpAny _ _ (compareOp _ (Value.ref _) (Value.ref _)) _ _ _) | (with_reducible show wpAny _ _ (exec (Stmt.For _ _ _ _ _) _) _ _ _) | (with_reducible show RPost _ _ _ _ _ _ _ _))); (first | (with_reducible refine ite_t ?_) | (with_reducible refine ite_f ?_) | (with_reducible refine ite_str_t (by with_reducible assumption) ?_) | (with_reducible refine ite_str_f (by with_reducible assumption) ?_) | (with_reducible refine ite_str (fun hc => ?_) (fun hc => ?_)) | (with_reducible refine ite_strne (fun hc => ?_) (fun hc => ?_)) | (with_reducible refine ite_dt (by omega) ?_) | (with_reducible refine ite_df (by omega) ?_) | (with_reducible refine ite_dby (fun hc => ?_) (fun hc => ?_)) | (with_reducible refine ite_by (fun hc => ?_) (fun hc => ?_)) | (k_unfold; (try dsimp only)) | ((with_reducible show wpAny _ _ (execs _ _) _ _ _); (try dsimp only); walk1) | walk1 | (dsimp only; walk1)))
          rename_i l17 h17 F17 N17 l18
          clear l18
          obtain ⟨o, hmem, hcl, hrep⟩ := hra
          have hoa := N17 (a, o) (.tail _ (.tail _ hmem))
          rcases hrep with ⟨⟨n0, hd0⟩, hno⟩ | ⟨ws, b, ob, vsb, n0, n2, hd0, hb, hbm, hbc, hbd, hsv, hw⟩
          · refine eq_nil_t ⟨o, hoa.1, hcl, n0, hd0⟩ (News.isListK N17 (.head _)) (Nat.le_of_ble_eq_true rfl) ?_
            repeat' ((fail_if_success (first | (with_reducible show wpAny _ _ (subscriptTail _ _ (Value.ref _) (Value.int _ _)) _ _ _) | (with_reducible show wpAny _ _ (compareOp _ (Value.ref _) (Value.ref _)) _ _ _) | (with_reducible show wpAny _ _ (exec (Stmt.For _ _ _ _ _) _) _ _ _) | (with_reducible show RPost _ _ _ _ _ _ _ _))); (first | (with_reducible refine ite_t ?_) | (with_reducible refine ite_f ?_) | (with_reducible refine ite_str_t (by with_reducible assumption) ?_) | (with_reducible refine ite_str_f (by with_reducible assumption) ?_) | (with_reducible refine ite_str (fun hc => ?_) (fun hc => ?_)) | (with_reducible refine ite_strne (fun hc => ?_) (fun hc => ?_)) | (with_reducible refine ite_dt (by omega) ?_) | (with_reducible refine ite_df (by omega) ?_) | (with_reducible refine ite_dby (fun hc => ?_) (fun hc => ?_)) | (with_reducible refine ite_by (fun hc => ?_) (fun hc => ?_)) | (k_unfold; (try dsimp only)) | ((with_reducible show wpAny _ _ (execs _ _) _ _ _); (try dsimp only); walk1) | walk1 | (dsimp only; walk1)))
            (try dsimp only)
            refine ⟨_, _, _, _, rfl, F17, News.tail1 N17, hoff, ⟨rfl, rfl, rfl, ⟨_, _, _, _, rfl, ⟨_, hvo⟩, ho2, hofw⟩, hnod, fun j a' ha' => RepA.congr (fun ws => ?_) (hreps j a' ha')⟩⟩
            exact (wy_skip (fun ws hf => hno ws ((full_iff (by have := hT1.length; simp at this; omega)).mp hf))).symm
          · refine eq_nil_f (items := #[.ref b]) ⟨o, hoa.1, hcl, n0, hd0⟩ (News.isListK N17 (.head _)) (Nat.le_of_ble_eq_true rfl) (by simp) ?_
            replace N17 := News.tail1 N17
            repeat' ((fail_if_success (first | (with_reducible show wpAny _ _ (subscriptTail _ _ (Value.ref _) (Value.int _ _)) _ _ _) | (with_reducible show wpAny _ _ (compareOp _ (Value.ref _) (Value.ref _)) _ _ _) | (with_reducible show wpAny _ _ (exec (Stmt.For _ _ _ _ _) _) _ _ _) | (with_reducible show RPost _ _ _ _ _ _ _ _))); (first | (with_reducible refine ite_t ?_) | (with_reducible refine ite_f ?_) | (with_reducible refine ite_str_t (by with_reducible assumption) ?_) | (with_reducible refine ite_str_f (by with_reducible assumption) ?_) | (with_reducible refine ite_str (fun hc => ?_) (fun hc => ?_)) | (with_reducible refine ite_strne (fun hc => ?_) (fun hc => ?_)) | (with_reducible refine ite_dt (by omega) ?_) | (with_reducible refine ite_df (by omega) ?_) | (with_reducible refine ite_dby (fun hc => ?_) (fun hc => ?_)) | (with_reducible refine ite_by (fun hc => ?_) (fun hc => ?_)) | (k_unfold; (try dsimp only)) | ((with_reducible show wpAny _ _ (execs _ _) _ _ _); (try dsimp only); walk1) | walk1 | (dsimp only; walk1)))
            refine For_invVF F17 rfl rfl ?_
            repeat' ((fail_if_success (first | (with_reducible show wpAny _ _ (pyIter _) _ _ _))); (first | (with_reducible refine ite_t ?_) | (with_reducible refine ite_f ?_) | (with_reducible refine ite_str_t (by with_reducible assumption) ?_) | (with_reducible refine ite_str_f (by with_reducible assumption) ?_) | (with_reducible refine ite_str (fun hc => ?_) (fun hc => ?_)) | (with_reducible refine ite_strne (fun hc => ?_) (fun hc => ?_)) | (with_reducible refine ite_dt (by omega) ?_) | (with_reducible refine ite_df (by omega) ?_) | (with_reducible refine ite_dby (fun hc => ?_) (fun hc => ?_)) | (with_reducible refine ite_by (fun hc => ?_) (fun hc => ?_)) | (k_unfold; (try dsimp only)) | ((with_reducible show wpAny _ _ (execs _ _) _ _ _); (try dsimp only); walk1) | walk1 | (dsimp only; walk1)))
            dsimp only
            rename_i h18 tk18 t18 u18 v18 R18 F18 N18 k18
            dsimp only at R18
            clear k18
            refine iter_rng (n := TT.size - i) (fun c m news => CIn x t s.heap.objs.size aS aT aW SS TT (lw1 :: Ts) i ti I oI (Vy x.cps.toList i (i + c)) m news) rfl R18 (small_one (by omega) (by omega) (by omega) (by omega)) (by rw [rangeSize_nat]; omega) F18 N18 ?_ ?_ ?_
            · refine ⟨rfl, rfl, ⟨rfl, rfl, rfl, ⟨_, _, _, _, rfl, ⟨_, hvo⟩, ho2, hofw⟩, hnod, ?_⟩, ?_⟩
              · exact fun j a' ha' => RepA.congr (fun ws => vy_start.symm) (hreps j a' ha')
              · exact hoff
            · intro c tc m₂ news₂ h19 tk19 I2 oI2 hc hoff2 C2 F19 N19
              obtain ⟨hiAt, htl, ⟨p1, p2, p3, ⟨ow2, o22, nW2, rest2, hled, ⟨vo2, hvo2⟩, ho22, hofw2⟩, hnod2, hreps2⟩, hoff3⟩ := C2
              generalize news₂.tail = tl at *
              subst hled htl
              have ejj : ((i : Int) + (c : Int)) = ((i + c : Nat) : Int) := by omega
              rw [frame4 hiAt p1 p2 p3, ejj] at F19
              replace F19 : Fr s.heap s.heap.objs.size h19 _ := F19
              replace N19 : News s.heap s.heap.objs.size h19 _ := N19
              dsimp only at F19
              generalize hjj : i + c = jj at *
              have hj1 : i ≤ jj := by omega
              have hj2 : jj < TT.size := by omega
              obtain ⟨va, hva⟩ : ∃ v, SS[i]? = some v := ⟨_, Array.getElem?_eq_getElem (by omega)⟩
              obtain ⟨pa, tpa, hpa, rfl⟩ := hS1.at hva
              obtain ⟨vb, hvb⟩ : ∃ v, TT[jj]? = some v := ⟨_, Array.getElem?_eq_getElem hj2⟩
              obtain ⟨pb, tpb, hpb, rfl⟩ := hT1.at hvb
              repeat' ((fail_if_success (first | (with_reducible show wpAny _ _ (subscriptTail _ _ (Value.ref _) (Value.int _ _)) _ _ _) | (with_reducible show wpAny _ _ (compareOp _ (Value.ref _) (Value.ref _)) _ _ _) | (with_reducible show wpAny _ _ (call (Value.ref _) _) _ _ _) | (with_reducible show wpAny _ _ (storeName _ (Str.ofString "word") _) _ _ _) | (with_reducible show RPost _ _ _ _ _ _ _ _))); (first | (with_reducible refine ite_t ?_) | (with_reducible refine ite_f ?_) | (with_reducible refine ite_str_t (by with_reducible assumption) ?_) | (with_reducible refine ite_str_f (by with_reducible assumption) ?_) | (with_reducible refine ite_str (fun hc => ?_) (fun hc => ?_)) | (with_reducible refine ite_strne (fun hc => ?_) (fun hc => ?_)) | (with_reducible refine ite_dt (by omega) ?_) | (with_reducible refine ite_df (by omega) ?_) | (with_reducible refine ite_dby (fun hc => ?_) (fun hc => ?_)) | (with_reducible refine ite_by (fun hc => ?_) (fun hc => ?_)) | (k_unfold; (try dsimp only)) | ((with_reducible show wpAny _ _ (execs _ _) _ _ _); (try dsimp only); walk1) | walk1 | (dsimp only; walk1)))
              refine item_lst (vs := SS) (v := .int (pa : Int) tpa) ?_ (by omega) (by omega) (by rw [show ((i : Int)).toNat = i by omega]; exact hva) ?_
              · exact News.isListK N19 (.tail _ (.tail _ (.tail _ (.tail _ (.head _)))))
              repeat' ((fail_if_success (first | (with_reducible show wpAny _ _ (subscriptTail _ _ (Value.ref _) (Value.int _ _)) _ _ _) | (with_reducible show wpAny _ _ (compareOp _ (Value.ref _) (Value.ref _)) _ _ _) | (with_reducible show wpAny _ _ (call (Value.ref _) _) _ _ _) | (with_reducible show wpAny _ _ (storeName _ (Str.ofString "word") _) _ _ _) | (with_reducible show RPost _ _ _ _ _ _ _ _))); (first | (with_reducible refine ite_t ?_) | (with_reducible refine ite_f ?_) | (with_reducible refine ite_str_t (by with_reducible assumption) ?_) | (with_reducible refine ite_str_f (by with_reducible assumption) ?_) | (with_reducible refine ite_str (fun hc => ?_) (fun hc => ?_)) | (with_reducible refine ite_strne (fun hc => ?_) (fun hc => ?_)) | (with_reducible refine ite_dt (by omega) ?_) | (with_reducible refine ite_df (by omega) ?_) | (with_reducible refine ite_dby (fun hc => ?_) (fun hc => ?_)) | (with_reducible refine ite_by (fun hc => ?_) (fun hc => ?_)) | (k_unfold; (try dsimp only)) | ((with_reducible show wpAny _ _ (execs _ _) _ _ _); (try dsimp only); walk1) | walk1 | (dsimp only; walk1)))
              refine item_lst (vs := TT) (v := .int (pb : Int) tpb) ?_ (by omega) (by omega) (by rw [show ((jj : Int)).toNat = jj by omega]; exact hvb) ?_
              · exact News.isListK N19 (.tail _ (.tail _ (.tail _ (.tail _ (.tail _ (.head _))))))
              repeat' ((fail_if_success (first | (with_reducible show wpAny _ _ (subscriptTail _ _ (Value.ref _) (Value.int _ _)) _ _ _) | (with_reducible show wpAny _ _ (compareOp _ (Value.ref _) (Value.ref _)) _ _ _) | (with_reducible show wpAny _ _ (call (Value.ref _) _) _ _ _) | (with_reducible show wpAny _ _ (storeName _ (Str.ofString "word") _) _ _ _) | (with_reducible show RPost _ _ _ _ _ _ _ _))); (first | (with_reducible refine ite_t ?_) | (with_reducible refine ite_f ?_) | (with_reducible refine ite_str_t (by with_reducible assumption) ?_) | (with_reducible refine ite_str_f (by with_reducible assumption) ?_) | (with_reducible refine ite_str (fun hc => ?_) (fun hc => ?_)) | (with_reducible refine ite_strne (fun hc => ?_) (fun hc => ?_)) | (with_reducible refine ite_dt (by omega) ?_) | (with_reducible refine ite_df (by omega) ?_) | (with_reducible refine ite_dby (fun hc => ?_) (fun hc => ?_)) | (with_reducible refine ite_by (fun hc => ?_) (fun hc => ?_)) | (k_unfold; (try dsimp only)) | ((with_reducible show wpAny _ _ (execs _ _) _ _ _); (try dsimp only); walk1) | walk1 | (dsimp only; walk1)))
              have hsl : (Txt.slice x (some (pa : Int)) (some (pb : Int))).length ≤ 40 := Nat.le_trans (Txt.slice_le _ _ _) hx
              generalize hpart : Txt.slice x (some (pa : Int)) (some (pb : Int)) = part at *
              refine call_word (by omega) KX T (by with_reducible assumption) (by with_reducible assumption) rfl (Nat.le_of_ble_eq_true rfl) (Nat.le_of_ble_eq_true rfl) (fun tw h20 tk20 F20 N20 => ?_)
              repeat' ((fail_if_success (first | (with_reducible show wpAny _ _ (subscriptTail _ _ (Value.ref _) (Value.int _ _)) _ _ _) | (with_reducible show wpAny _ _ (compareOp _ (Value.ref _) (Value.ref _)) _ _ _) | (with_reducible show wpAny _ _ (call (Value.ref _) _) _ _ _) | (with_reducible show wpAny _ _ (storeName _ (Str.ofString "word") _) _ _ _) | (with_reducible show RPost _ _ _ _ _ _ _ _))); (first | (with_reducible refine ite_t ?_) | (with_reducible refine ite_f ?_) | (with_reducible refine ite_str_t (by with_reducible assumption) ?_) | (with_reducible refine ite_str_f (by with_reducible assumption) ?_) | (with_reducible refine ite_str (fun hc => ?_) (fun hc => ?_)) | (with_reducible refine ite_strne (fun hc => ?_) (fun hc => ?_)) | (with_reducible refine ite_dt (by omega) ?_) | (with_reducible refine ite_df (by omega) ?_) | (with_reducible refine ite_dby (fun hc => ?_) (fun hc => ?_)) | (with_reducible refine ite_by (fun hc => ?_) (fun hc => ?_)) | (k_unfold; (try dsimp only)) | ((with_reducible show wpAny _ _ (execs _ _) _ _ _); (try dsimp only); walk1) | walk1 | (dsimp only; walk1)))
              refine stCN (own := [(I2, oI2), (I, oI)]) (c := s.heap.objs.size + 1 + 1) (o := ow2) F20 N20 rfl hvo2 ?_ ?_ (fun h21 o21 F21 N21 hd21 => ?_)
              · intro p hp
                rcases List.mem_cons.mp hp with rfl | hp
                · exact Ne.symm (hoff2 (s.heap.objs.size + 1 + 1, ow2) (.tail _ (.head _)))
                · rw [List.mem_singleton.mp hp]; exact Ne.symm (hoff3 (s.heap.objs.size + 1 + 1, ow2) (.head _))
              · exact hofw2
              simp only [List.cons_append, List.nil_append] at N21
              clear N20 F20
              repeat' ((fail_if_success (first | (with_reducible show wpAny _ _ (subscriptTail _ _ (Value.ref _) (Value.int _ _)) _ _ _) | (with_reducible show wpAny _ _ (compareOp _ (Value.ref _) (Value.ref _)) _ _ _) | (with_reducible show wpAny _ _ (call (Value.ref _) _) _ _ _) | (with_reducible show wpAny _ _ (storeName _ (Str.ofString "word") _) _ _ _) | (with_reducible show RPost _ _ _ _ _ _ _ _))); (first | (with_reducible refine ite_t ?_) | (with_reducible refine ite_f ?_) | (with_reducible refine ite_str_t (by with_reducible assumption) ?_) | (with_reducible refine ite_str_f (by with_reducible assumption) ?_) | (with_reducible refine ite_str (fun hc => ?_) (fun hc => ?_)) | (with_reducible refine ite_strne (fun hc => ?_) (fun hc => ?_)) | (with_reducible refine ite_dt (by omega) ?_) | (with_reducible refine ite_df (by omega) ?_) | (with_reducible refine ite_dby (fun hc => ?_) (fun hc => ?_)) | (with_reducible refine ite_by (fun hc => ?_) (fun hc => ?_)) | (k_unfold; (try dsimp only)) | ((with_reducible show wpAny _ _ (execs _ _) _ _ _); (try dsimp only); walk1) | walk1 | (dsimp only; walk1)))
              have hwl : (wordS part).length ≤ 200 := by
                have := wordL_len part.cps.toList
                simp only [Str.length] at hsl
                simp only [wordS, toS, Str.length, List.size_toArray]
                simp at this; omega
              refine call_quote hwl KX T (by with_reducible assumption) (by with_reducible assumption) rfl (Nat.le_of_ble_eq_true rfl) (Nat.le_of_ble_eq_true rfl) (fun tq h22 tk22 F22 N22 => ?_)
              clear N21 F21
              repeat' ((fail_if_success (first | (with_reducible show wpAny _ _ (subscriptTail _ _ (Value.ref _) (Value.int _ _)) _ _ _) | (with_reducible show wpAny _ _ (compareOp _ (Value.ref _) (Value.ref _)) _ _ _) | (with_reducible show wpAny _ _ (call (Value.ref _) _) _ _ _) | (with_reducible show wpAny _ _ (storeName _ (Str.ofString "word") _) _ _ _) | (with_reducible show RPost _ _ _ _ _ _ _ _) | (with_reducible show wpAny _ _ (exec (Stmt.AugAssign _ _ _ _) _) _ _ _))); (first | (with_reducible refine ite_t ?_) | (with_reducible refine ite_f ?_) | (with_reducible refine ite_str_t (by with_reducible assumption) ?_) | (with_reducible refine ite_str_f (by with_reducible assumption) ?_) | (with_reducible refine ite_str (fun hc => ?_) (fun hc => ?_)) | (with_reducible refine ite_strne (fun hc => ?_) (fun hc => ?_)) | (with_reducible refine ite_dt (by omega) ?_) | (with_reducible refine ite_df (by omega) ?_) | (with_reducible refine ite_dby (fun hc => ?_) (fun hc => ?_)) | (with_reducible refine ite_by (fun hc => ?_) (fun hc => ?_)) | (k_unfold; (try dsimp only)) | ((with_reducible show wpAny _ _ (execs _ _) _ _ _); (try dsimp only); walk1) | walk1 | (dsimp only; walk1)))
              · obtain ⟨a2, ha2⟩ : ∃ a, (lw1 :: Ts)[jj + 1]? = some a := ⟨_, List.getElem?_eq_getElem (by omega)⟩
                obtain ⟨oA, hAm, hAc, hArep⟩ := hreps2 (jj + 1) a2 ha2
                obtain ⟨oB, hBm, hBc, hBrep⟩ := hreps2 i a ha
                have hbl : i ≤ (spL x.cps.toList).length := by have := hT1.length; simp at this; omega
                rcases hBrep with ⟨_, hno⟩ | ⟨wsi, bi, obi, vsi, ni, ni2, hid, hib, him, hic, hidd, hisv, hiw⟩
                · exact absurd ((vy_self hj1).mpr hw) (hno ws)
                have hfu : Full x.cps.toList i wsi := (full_iff hbl).mpr ((vy_self hj1).mp hiw)
                have hvsz : vsi.size ≤ 40 := by
                  have e1 := full_len hfu
                  have e2 := hisv.length
                  simp only [Str.length] at hx
                  simp at e1 e2; omega
                have hyes := vy_yes (w := wordL part.cps.toList) hj1 hpa hpb hfu (yes_quote hpart hc)
                obtain ⟨nA, hAd⟩ : ∃ nA, oA.data = .seq #[] nA := by
                  rcases hArep with ⟨hAd, _⟩ | ⟨ws3, _, _, _, _, _, _, _, _, _, _, _, hw3⟩
                  · exact hAd
                  · exact absurd hw3 (hyes.1 ws3)
                have hAm2 := mem_seq hAm hvo2 hAd
                have hBm2 := mem_seq hBm hvo2 hid
                have him2 := mem_seq him hvo2 hidd
                have hWl := News.isListK N22 (.tail _ (.tail _ (.tail _ (.tail _ (.tail _ (.tail _ (.head _)))))))
                have hAg := N22 (a2, oA) (.tail _ (.tail _ (.tail _ hAm2)))
                have hBg := N22 (a, oB) (.tail _ (.tail _ (.tail _ hBm2)))
                have hbg := N22 (bi, obi) (.tail _ (.tail _ (.tail _ him2)))
                have hcg := N22 (s.heap.objs.size + 1 + 1, o21) (.tail _ (.tail _ (.head _)))
                refine wpAny_AugAssign_Subscript_any ?_
                repeat' ((fail_if_success (first | (with_reducible show wpAny _ _ (getItem (Value.ref _) (Value.int _ _)) _ _ _))); (first | (with_reducible refine ite_t ?_) | (with_reducible refine ite_f ?_) | (with_reducible refine ite_str_t (by with_reducible assumption) ?_) | (with_reducible refine ite_str_f (by with_reducible assumption) ?_) | (with_reducible refine ite_str (fun hc => ?_) (fun hc => ?_)) | (with_reducible refine ite_strne (fun hc => ?_) (fun hc => ?_)) | (with_reducible refine ite_dt (by omega) ?_) | (with_reducible refine ite_df (by omega) ?_) | (with_reducible refine ite_dby (fun hc => ?_) (fun hc => ?_)) | (with_reducible refine ite_by (fun hc => ?_) (fun hc => ?_)) | (k_unfold; (try dsimp only)) | ((with_reducible show wpAny _ _ (execs _ _) _ _ _); (try dsimp only); walk1) | walk1 | (dsimp only; walk1)))
                refine wpAny_getItem_list hWl (by omega) (by omega) (by rw [show ((jj : Int) + 1) = ((jj + 1 : Nat) : Int) by omega]; exact refs_get ha2) ?_
                dsimp only
                refine wpAny_ListComp_freeO (cl := [(Str.ofString "word", s.heap.objs.size + 1 + 1)]) (fun _ => true) (fun v its => its = vsi ++ #[.str (wordS part) tw]) rfl (by decide) rfl (by decide) rfl ?_
                repeat' ((fail_if_success (first | (with_reducible show wpAny _ _ (subscriptTail _ _ (Value.ref _) (Value.int _ _)) _ _ _))); (first | (with_reducible refine ite_t ?_) | (with_reducible refine ite_f ?_) | (with_reducible refine ite_str_t (by with_reducible assumption) ?_) | (with_reducible refine ite_str_f (by with_reducible assumption) ?_) | (with_reducible refine ite_str (fun hc => ?_) (fun hc => ?_)) | (with_reducible refine ite_strne (fun hc => ?_) (fun hc => ?_)) | (with_reducible refine ite_dt (by omega) ?_) | (with_reducible refine ite_df (by omega) ?_) | (with_reducible refine ite_dby (fun hc => ?_) (fun hc => ?_)) | (with_reducible refine ite_by (fun hc => ?_) (fun hc => ?_)) | (k_unfold; (try dsimp only)) | ((with_reducible show wpAny _ _ (execs _ _) _ _ _); (try dsimp only); walk1) | walk1 | (dsimp only; walk1)))
                refine item_lst (vs := ((lw1 :: Ts).map Value.ref).toArray) (v := .ref a) hWl (by omega) (by omega) (refs_get ha) ?_
                refine wpAny_pyIter_list (l := a) ⟨_, hBg.1, hBc, _, hid⟩ ?_
                refine ⟨_, _, _, _, _, _, rfl, Walks.list rfl _ a (Nat.ne_of_lt (Heap.lt_size hBg.1)) _, by rw [sizeLine_eq]; simp, ?_, ⟨⟨_, Heap.get?_push_size _ rfl, rfl, rfl⟩, ⟨_, Heap.get?_push_of_some _ hBg.1, hBc, _, hid⟩⟩, ?_, ⟨?_, ?_⟩, ?_⟩
                · rintro i h ⟨⟨o, ho, _⟩, _⟩ b hb
                  rw [List.mem_singleton.mp hb]
                  exact ⟨o, ho⟩
                · intro b hb
                  rw [Heap.size_push]
                  rcases List.mem_cons.mp hb with rfl | hb
                  · exact Nat.lt_succ_self _
                  · rw [List.mem_singleton.mp hb]; exact Nat.lt_succ_of_lt (Heap.lt_size hBg.1)
                · intro C i v s₃ m₃ E' hC hP hns hm hk htk
                  rw [List.forIn_nil]
                  exact wpAny_pure ⟨rfl, s₃.heap, s₃.toks, rfl, fun _ _ e => e⟩
                · intro C i v s₃ m₃ E' hC hP hpv hns hm hk htk
                  obtain ⟨hi1, rfl⟩ := one_at hP
                  have up : ∀ z o, h22.get? z = some o → s₃.heap.get? z = some o := fun z o e => hk z o (fun hm => absurd (Heap.lt_size e) ((List.mem_singleton.mp hm) ▸ Nat.lt_irrefl _)) (Heap.get?_push_of_some _ e)
                  have hlb : s₃.heap.IsList bi vsi := ⟨_, up _ _ hbg.1, hic, _, hidd⟩
                  have hcw : s₃.heap.IsCell (s.heap.objs.size + 1 + 1) (some (.str (wordS part) tw)) := ⟨_, up _ _ hcg.1, hd21⟩
                  walk1
                  refine wpAny_Name (wpAny_loadName_local rfl rfl hns hm ?_)
                  walk1
                  walk1
                  refine wpAny_Name (wpAny_loadName_cell rfl rfl rfl hcw ?_)
                  walk1
                  refine wpAny_newObj_type ?_
                  refine addH (IsList.push hlb) ⟨_, Heap.get?_push_size _ rfl, rfl, _, rfl⟩ (by rw [sizeLine_eq]; simp; omega) ?_
                  refine ⟨⟨_, _, rfl, none_of_push (get_size_none _), ⟨_, Heap.get?_push_size _ rfl, rfl, _, rfl⟩, rfl⟩, _, _, rfl, fun _ _ e => Heap.get?_push_of_some _ (Heap.get?_push_of_some _ e)⟩
                · intro D4 h23 tk23 ys4 vs4 hD4 hl4 hpl4 hlen4 hP4 hpair4 hpw4 hne4 hk4
                  obtain ⟨ep4, hDo4⟩ := hpl4
                  obtain ⟨F23, N23⟩ := comp_afterE F22 N22 hk4 hD4 hDo4
                  obtain ⟨T4, its4, rfl, hTn, hTl4, rfl⟩ := one_new hlen4 hP4 hpair4
                  obtain ⟨hTg, hTc, nT, hTd⟩ := objAt_get hTl4
                  have N24 := News.add F22 N23 hTg (none_of_push hTn)
                  have hTne : ∀ q ∈ (I2, oI2) :: (I, oI) :: (s.heap.objs.size + 1 + 1, o21) :: (s.heap.objs.size + 1, o22) :: (aS, listOf SS 0) :: (aT, listOf TT 0) :: (aW, listOf ((lw1 :: Ts).map Value.ref).toArray nW2) :: rest2, T4 ≠ q.1 := fun q hq => ne_of_push hTn (N22 q hq).1
                  dsimp only
                  refine iadd_nil (oS := oA) (c₀ := nA) ?_ hAc hAd hDo4 rfl rfl (by rw [sizeLine_eq]; simp) ?_
                  · exact (N23 (a2, oA) (.tail _ (.tail _ (.tail _ (.tail _ hAm2))))).1
                  obtain ⟨nA', hAd'⟩ := Obj.data_mapSeq hAd (· ++ #[Value.ref T4])
                  have hA1 := N23 (a2, oA) (.tail _ (.tail _ (.tail _ (.tail _ hAm2))))
                  have hAg' := Heap.get?_update_self (Obj.mapSeq (· ++ #[Value.ref T4])) hA1.1 (Obj.isFreed_of_seq hAd')
                  have hSg := N22 (aS, listOf SS 0) (.tail _ (.tail _ (.tail _ (.tail _ (.head _)))))
                  have hTTg := N22 (aT, listOf TT 0) (.tail _ (.tail _ (.tail _ (.tail _ (.tail _ (.head _))))))
                  have hWg := N22 (aW, listOf ((lw1 :: Ts).map Value.ref).toArray nW2) (.tail _ (.tail _ (.tail _ (.tail _ (.tail _ (.tail _ (.head _)))))))
                  have h2g := N22 (s.heap.objs.size + 1, o22) (.tail _ (.tail _ (.tail _ (.head _))))
                  have hAne : ∀ q ∈ [(I2, oI2), (I, oI), (s.heap.objs.size + 1 + 1, o21), (s.heap.objs.size + 1, o22), (aS, listOf SS 0), (aT, listOf TT 0), (aW, listOf ((lw1 :: Ts).map Value.ref).toArray nW2), (T4, objAt h23 T4)], q.1 ≠ a2 := by
                    refine off_cons (Ne.symm (hoff2 (a2, oA) (.tail _ (.tail _ hAm2)))) (off_cons (Ne.symm (hoff3 (a2, oA) (.tail _ hAm2))) (off_cons (Ne.symm (hofw2 (a2, oA) hAm2)) (off_cons ?_ (off_cons ?_ (off_cons ?_ (off_cons ?_ (off_cons ?_ (fun p hp => nomatch hp))))))))
                    · exact ne_data h2g.1 hAg.1 (by rw [ho22, hAd]; intro e; cases e)
                    · exact ne_data hSg.1 hAg.1 (by rw [hAd]; intro e; injection e with e1 e2; rw [e1] at hva; simp at hva)
                    · exact ne_data hTTg.1 hAg.1 (by rw [hAd]; intro e; injection e with e1 e2; rw [e1] at hvb; simp at hvb)
                    · exact ne_data hWg.1 hAg.1 (by rw [hAd]; intro e; injection e with e1 e2; simp at e1)
                    · exact hTne (a2, oA) (.tail _ (.tail _ (.tail _ hAm2)))
                  obtain ⟨F25, N25⟩ := aug_upd F23 N24 hAm2 (Heap.SameBut.update ..) hAg' hAne
                  refine setItem_same (N25.get (.tail _ (.tail _ (.tail _ (.tail _ (.tail _ (.tail _ (.head _)))))))) rfl rfl (by omega) (by omega) (by rw [show ((jj : Int) + 1) = ((jj + 1 : Nat) : Int) by omega]; exact refs_get ha2) (fun h26 hk26 => ?_)
                  replace F25 := Fr.grow F25 hk26
                  replace N25 := News.grow N25 hk26
                  dsimp only
                  repeat' ((fail_if_success (first | (with_reducible show RPost _ _ _ _ _ _ _ _))); (first | (with_reducible refine ite_t ?_) | (with_reducible refine ite_f ?_) | (with_reducible refine ite_str_t (by with_reducible assumption) ?_) | (with_reducible refine ite_str_f (by with_reducible assumption) ?_) | (with_reducible refine ite_str (fun hc => ?_) (fun hc => ?_)) | (with_reducible refine ite_strne (fun hc => ?_) (fun hc => ?_)) | (with_reducible refine ite_dt (by omega) ?_) | (with_reducible refine ite_df (by omega) ?_) | (with_reducible refine ite_dby (fun hc => ?_) (fun hc => ?_)) | (with_reducible refine ite_by (fun hc => ?_) (fun hc => ?_)) | (k_unfold; (try dsimp only)) | ((with_reducible show wpAny _ _ (execs _ _) _ _ _); (try dsimp only); walk1) | walk1 | (dsimp only; walk1)))
                  have ec : i + (c + 1) = jj + 1 := by omega
                  refine ⟨h26, tk23, _, _, rfl, F25, N25, ?_, ⟨rfl, rfl, ⟨rfl, rfl, rfl, ⟨_, _, _, _, rfl, ⟨_, hd21⟩, ho22, ?_⟩, hnod2, fun j a' ha' => ?_⟩, ?_⟩⟩
                  · refine off_cons ?_ (off_cons ?_ (off_new ?_ ?_ ?_))
                    · exact hoff2 _ (.head _)
                    · exact hoff2 (_, ow2) (.tail _ (.head _))
                    · exact fun p hp => hoff2 p (.tail _ (.tail _ hp))
                    · exact hTne (I2, oI2) (.head _)
                    · exact hoff2 (a2, oA) (.tail _ (.tail _ hAm2))
                  · exact off_new hofw2 (hTne (_, o21) (.tail _ (.tail _ (.head _)))) (hofw2 (a2, oA) hAm2)
                  · rw [ec]
                    by_cases e : j = jj + 1
                    · subst e
                      rw [ha2] at ha'
                      injection ha' with ha'
                      subst ha'
                      refine ⟨_, .tail _ (.tail _ (.tail _ (.tail _ (.tail _ (.tail _ (.head _)))))), (Obj.cls_mapSeq ..).trans hAc, .inr ⟨_, T4, _, _, nA', nT, hAd', ?_, .tail _ (.tail _ (.tail _ (.tail _ (.tail _ (.head _))))), hTc, hTd, ?_, hyes.2⟩⟩
                      · intro hm
                        obtain ⟨j', hj', e'⟩ := List.mem_iff_getElem.mp hm
                        obtain ⟨oZ, hZ, _, hZ3⟩ := hreps2 j' T4 (by rw [← e']; exact List.getElem?_eq_getElem hj')
                        have hZs : ∃ its n, oZ.data = .seq its n := by
                          rcases hZ3 with ⟨⟨n, hd⟩, _⟩ | ⟨_, _, _, _, n, _, hd, _⟩
                          · exact ⟨_, _, hd⟩
                          · exact ⟨_, _, hd⟩
                        obtain ⟨its, nz, hZd⟩ := hZs
                        exact hTne (T4, oZ) (.tail _ (.tail _ (.tail _ (mem_seq hZ hvo2 hZd)))) rfl
                      · have := SV.snoc (t := tw) (w := wordL part.cps.toList) hisv
                        simpa [wordS] using this
                    · refine RepA.congr (fun ws => (vy_other e).symm) (RepA.mono (ok := fun z => z ≠ a2) ?_ ?_ ?_ (hreps2 j a' ha'))
                      · intro e'
                        subst e'
                        exact e ((List.getElem?_inj (List.getElem?_eq_some_iff.mp ha').1 hnod2).mp (ha'.trans ha2.symm))
                      · rintro b hb rfl
                        exact hb (List.mem_of_getElem? ha2)
                      · rintro p hp ⟨its, n, hd⟩ hne'
                        exact .tail _ (mem_upd (mem_seq hp hvo2 hd) hne')
                  · refine off_cons ?_ (off_new ?_ ?_ ?_)
                    · exact hoff3 (_, ow2) (.head _)
                    · exact fun p hp => hoff3 p (.tail _ hp)
                    · exact hTne (I, oI) (.tail _ (.head _))
                    · exact hoff3 (a2, oA) (.tail _ hAm2)
              · have ec : i + (c + 1) = jj + 1 := by omega
                refine ⟨h22, tk22, _, _, rfl, F22, N22, off2 hoff2, ⟨rfl, rfl, ⟨rfl, rfl, rfl, ⟨_, _, _, _, rfl, ⟨_, hd21⟩, ho22, hofw2⟩, hnod2, fun j a' ha' => ?_⟩, off1 hoff3⟩⟩
                have r := hreps2 j a' ha'
                rw [ec]
                refine RepA.congr (fun ws => ?_) (RepA.mono (news' := (s.heap.objs.size + 1 + 1, o21) :: (s.heap.objs.size + 1, o22) :: (aS, listOf SS 0) :: (aT, listOf TT 0) :: (aW, listOf ((lw1 :: Ts).map Value.ref).toArray nW2) :: rest2) (ok := fun _ => True) trivial (fun _ _ => trivial) (fun p hp hseq _ => ?_) r)
                · by_cases e : j = jj + 1
                  · subst e
                    exact (vy_no hpa hpb (no_quote hpart hc)).symm
                  · exact (vy_other e).symm
                · rcases List.mem_cons.mp hp with rfl | hp
                  · obtain ⟨its, n, hs⟩ := hseq
                    rw [hvo2] at hs; cases hs
                  · exact .tail _ hp
            · intro m₂ news₂ h19 tk19 C2 F19 N19
              obtain ⟨hiAt, htl, ⟨p1, p2, p3, ⟨ow2, o22, nW2, rest2, hled, ⟨vo2, hvo2⟩, ho22, hofw2⟩, hnod2, hreps2⟩, hoff3⟩ := C2
              generalize news₂.tail = tl at *
              subst hled htl
              replace F19 : Fr s.heap s.heap.objs.size h19 _ := F19
              replace N19 : News s.heap s.heap.objs.size h19 _ := N19
              repeat' ((fail_if_success (first | (with_reducible show RPost _ _ _ _ _ _ _ _))); (first | (with_reducible refine ite_t ?_) | (with_reducible refine ite_f ?_) | (with_reducible refine ite_str_t (by with_reducible assumption) ?_) | (with_reducible refine ite_str_f (by with_reducible assumption) ?_) | (with_reducible refine ite_str (fun hc => ?_) (fun hc => ?_)) | (with_reducible refine ite_strne (fun hc => ?_) (fun hc => ?_)) | (with_reducible refine ite_dt (by omega) ?_) | (with_reducible refine ite_df (by omega) ?_) | (with_reducible refine ite_dby (fun hc => ?_) (fun hc => ?_)) | (with_reducible refine ite_by (fun hc => ?_) (fun hc => ?_)) | (k_unfold; (try dsimp only)) | ((with_reducible show wpAny _ _ (execs _ _) _ _ _); (try dsimp only); walk1) | walk1 | (dsimp only; walk1)))
              (try dsimp only)
              refine ⟨_, _, _, _, rfl, F19, N19, hoff3, ⟨p1, p2, p3, ⟨_, _, _, _, rfl, ⟨_, hvo2⟩, ho22, hofw2⟩, hnod2, fun j a' ha' => RepA.congr (fun ws => ?_) (hreps2 j a' ha')⟩⟩
              have hjl : j < (lw1 :: Ts).length := (List.getElem?_eq_some_iff.mp ha').1
              exact vy_end (by simp at hjl; omega)
        · intro m₁ news₁ h16 tk16 C F16 N16
          obtain ⟨q1, q2, q3, ⟨ow, o2, nW, rest, rfl, ⟨vo, hvo⟩, ho2, hofw⟩, hnod, hreps⟩ := C
          rw [frame3 q1 q2 q3] at F16
          replace F16 : Fr s.heap s.heap.objs.size h16 _ := F16
          replace N16 : News s.heap s.heap.objs.size h16 _ := N16
          repeat' ((fail_if_success (first | (with_reducible show wpAny _ _ (subscriptTail _ _ (Value.ref _) (Value.int _ _)) _ _ _))); (first | (with_reducible refine ite_t ?_) | (with_reducible refine ite_f ?_) | (with_reducible refine ite_str_t (by with_reducible assumption) ?_) | (with_reducible refine ite_str_f (by with_reducible assumption) ?_) | (with_reducible refine ite_str (fun hc => ?_) (fun hc => ?_)) | (with_reducible refine ite_strne (fun hc => ?_) (fun hc => ?_)) | (with_reducible refine ite_dt (by omega) ?_) | (with_reducible refine ite_df (by omega) ?_) | (with_reducible refine ite_dby (fun hc => ?_) (fun hc => ?_)) | (with_reducible refine ite_by (fun hc => ?_) (fun hc => ?_)) | (k_unfold; (try dsimp only)) | ((with_reducible show wpAny _ _ (execs _ _) _ _ _); (try dsimp only); walk1) | walk1 | (dsimp only; walk1)))
          obtain ⟨a, ha⟩ : ∃ a, (lw1 :: Ts)[ys.size + 1]? = some a := ⟨_, List.getElem?_eq_getElem (by simp; omega)⟩
          refine item_lst (vs := ((lw1 :: Ts).map Value.ref).toArray) (v := .ref a) ?_ (by omega) (by omega) (refs_get ha) ?_
          · exact News.isListK N16 (.tail _ (.tail _ (.tail _ (.tail _ (.head _)))))
          (try dsimp only)
          refine RetS.mk F16 ?_
          have hsp : (spL x.cps.toList).length = ys.size + 1 := by have := hT1.length; simp at this; omega
          refine RepA.res N16 hne hsp (List.mem_of_getElem? ha) ?_
          exact hreps _ a ha
end Mine

set_option maxRecDepth 100000
namespace Mine
set_option maxHeartbeats 8000000 in
theorem quote_specR {w : World} {s : Shared} {x : Str} {t : Tok} {mg mb} (hx : x.length ≤ 200) (KX : (Mine.hd.heap_39 w.params).In s.heap) (T : TopRead Mine.hd.view_39 LS mg mb s.heap) :
    codeAny (model prg w) AA (.call (.ref 51) ⟨[.str x t], []⟩) (RetS s fun v _ => ∃ t', v = .str (quoteS x) t') s := by
  refine call_plain_ret (by decide) (KX 51 _ rfl) rfl T.nolimit (codeRec_of KX rfl) (binds := [(Str.ofString "s", .str x t)]) rfl (locs rfl) (fun h₁ F => ?_)
  have N : News s.heap s.heap.objs.size h₁ [] := News.nil
  have hr := quote_repl_len x hx
  w_on
  k_steps
  · refine find_callWith KX ?_
    k_steps
    refine find_callF hx KX (by assumption) (by assumption) (fun hs => ?_) (fun hs a' h' F' N' => ?_)
    · k_steps
      dsimp only
      exact RetS.mk (by assumption) ⟨_, by rw [quoteS_safe (toList_ne (by assumption)) hs]⟩
    · k_steps
      dsimp only
      exact RetS.mk (by assumption) ⟨_, by rw [quoteS_un hs]⟩
  · dsimp only
    exact RetS.mk (by assumption) ⟨_, by rw [quoteS_empty (toList_nil (by assumption))]⟩
end Mine

set_option maxRecDepth 100000
namespace Mine
def RetJ (s : Shared) (P : Addr) (y : Str) (r : Result) (s' : Shared) : Prop :=
  ∃ t ps, r = .ok (.ret (.str y t)) ∧ Based s.heap (regrown s.heap P ps) 42 P ps ∧ (∀ b o, (regrown s.heap P ps).get? b = some o → s'.heap.get? b = some o) ∧ AllBare s'.gens ∧ s'.os = s.os
theorem sv_at {vs : List Value} {ws : List (List Nat)} {i : Nat} {v : Value} (sv : SV vs ws) (h : vs[i]? = some v) : ∃ wd t, ws[i]? = some wd ∧ v = .str (toS wd) t := by
  have hl := sv.length
  have hi : i < ws.length := by rw [← hl]; exact (List.getElem?_eq_some_iff.mp h).1
  obtain ⟨t, e⟩ := Paired.get sv h (List.getElem?_eq_getElem hi)
  exact ⟨_, t, List.getElem?_eq_getElem hi, e⟩
theorem pass_all (n : Nat) : passing (fun _ => true) n 0 = List.range n := by simp [passing]
theorem range_get (ws : List (List Nat)) : (List.range ws.length).map (fun j => toS (quoteL (ws[j]?.getD []))) = ws.map (fun w => toS (quoteL w)) := by
  apply List.ext_getElem
  · simp
  · intro i h1 h2
    have hi : i < ws.length := by simpa using h2
    simp [List.getElem?_eq_getElem hi]
theorem quoteL_len (w : List Nat) (h : w.length ≤ 200) : (quoteL w).length ≤ 1202 := by
  unfold quoteL
  split
  · simp
  · split
    · omega
    · have := replL_len1 39 escL w
      simp only [List.length_cons, List.length_append, List.length_nil]
      have e : escL.length = 5 := rfl
      rw [e] at this
      omega
theorem join_ok {ws : List (List Nat)} (hn : ws.length ≤ 200) (hw : ∀ w ∈ ws, w.length ≤ 200) : JoinOk (Str.ofString " ") (ws.map (fun w => toS (quoteL w))) = true := by
  unfold JoinOk
  rw [StrLaws.joinFits (B := 1202)]
  · rfl
  · intro y hy
    obtain ⟨w, h1, rfl⟩ := List.mem_map.mp hy
    have := quoteL_len w (hw w h1)
    simpa [toS, Str.length] using this
  · have e : (Str.ofString " ").length = 1 := by decide
    rw [e, List.length_map]; omega
theorem join_txt (ws : List (List Nat)) : Txt.join (Str.ofString " ") (ws.map (fun w => toS (quoteL w))) = toS (joinQ ws) := by
  unfold Txt.join
  rw [StrLaws.glued_eq_join]
  have e : (Str.ofString " ").cps.toList = [32] := by decide
  induction ws with
  | nil => rfl
  | cons w r ih =>
    cases r with
    | nil => rfl
    | cons v q =>
      rw [List.map_cons] at ih
      rw [List.map_cons, List.map_cons, join_cons_cons, ih]
      apply str_ext
      simp only [Str.cps_append, Array.toList_append, e, toS_toList, joinQ]
      simp
theorem join_based {w : World} {h : Heap} {mean mg mb} (KX : (Mine.hd.heap_39 w.params).In h) (T : Top Mine.hd.view_39 LS mean mg mb h) : ∃ P, Based h h 42 P #[] := by
  obtain ⟨c, P, hc, B⟩ := based_of_top (name := Str.ofString "join") T rfl (mg_of KX T.g rfl) (KX 43 _ rfl) rfl
  cases hc
  exact ⟨P, B⟩
set_option maxHeartbeats 4000000 in
theorem join_spec {w : World} {s : Shared} {b : Addr} {vs : List Value} {ws : List (List Nat)} {mean mg mb} (hb : s.heap.IsList b vs.toArray) (sv : SV vs ws) (hn : ws.length ≤ 200) (hw : ∀ w ∈ ws, w.length ≤ 200) (hg : AllBare s.gens) {P : Addr} (B : Based s.heap s.heap 42 P #[])
    (KX : (Mine.hd.heap_39 w.params).In s.heap) (T : Top Mine.hd.view_39 LS mean mg mb s.heap) :
    codeAny (model prg w) AB (.call (.ref 43) ⟨[.ref b], []⟩) (RetJ s P (toS (joinQ ws))) s := by
  refine call_plain_ret (by decide) (KX 43 _ rfl) rfl T.nolimit (codeRec_of KX rfl) (binds := [(Str.ofString "split_command", .ref b)]) rfl (locs rfl) (fun h₁ F => ?_)
  have N : News s.heap s.heap.objs.size h₁ [] := News.nil
  obtain ⟨bm, ob, M⟩ := bmod_of_top T
  w_on
  repeat' ((fail_if_success (first | (with_reducible show wpAny _ _ (eval (Expr.GeneratorExp _ _ _ _) _) _ _ _))); (first | (with_reducible refine ite_t ?_) | (with_reducible refine ite_f ?_) | (with_reducible refine ite_str_t (by with_reducible assumption) ?_) | (with_reducible refine ite_str_f (by with_reducible assumption) ?_) | (with_reducible refine ite_str (fun hc => ?_) (fun hc => ?_)) | (with_reducible refine ite_strne (fun hc => ?_) (fun hc => ?_)) | (with_reducible refine ite_dt (by omega) ?_) | (with_reducible refine ite_df (by omega) ?_) | (with_reducible refine ite_dby (fun hc => ?_) (fun hc => ?_)) | (with_reducible refine ite_by (fun hc => ?_) (fun hc => ?_)) | (k_unfold; (try dsimp only)) | ((with_reducible show wpAny _ _ (execs _ _) _ _ _); (try dsimp only); walk1) | walk1 | (dsimp only; walk1)))
  refine GeneratorExp_list_rowsF (L := s.heap.objs.size) (m := fun x => List.lookup x [(Str.ofString "split_command", Value.ref b)].reverse) B M rfl rfl rfl rfl rfl (by decide) rfl rfl rfl (by simp only [depth_deeper]; decide) ?_ (fun _ => rfl)
  refine wpAny_Name (wpAny_loadName_local rfl rfl F.ns rfl ?_)
  refine ⟨b, vs.toArray, rfl, F.lst hb, F, hg, T.nolimit.keeps F.keep, s.heap.objs.size, fun _ => true, fun i y => ∃ w t, ws[i]? = some w ∧ y = .str (toS (quoteL w)) t, Nat.le_refl _, F.ns.lt, ?_, ?_, ?_⟩
  · intro c' C A' E' i v u m₂ hA hD hU hP hF hm hLC hk
    rw [List.forIn_nil]
    exact wpAny_pure ⟨rfl, u.heap, u.toks, rfl, fun _ _ e => e⟩
  · intro c' C A' E' i v u m₂ hA hD hU hP hpz hF hm hLC hk
    have KX' := kb_in_regrown (ps' := #[] ++ #[rawInt 5, rawInt 20, .ref c']) B KX T.g rfl
    have T' := LGe.top_regrown (ps' := #[] ++ #[rawInt 5, rawInt 20, .ref c']) hF (topRead_of T) B
    walk1
    refine nameG_K hF KX' T' rfl ?_ rfl rfl rfl (by decide)
    walk1
    walk1
    refine wpAny_Name (wpAny_loadName_local rfl rfl hF.ns hm ?_)
    walk1
    obtain ⟨wd, tv, hwi, rfl⟩ := sv_at sv (by simpa using hP)
    refine ⟨KX'.keeps hF.keep, ?_⟩
    refine call_of_spec (P := fun v _ => ∃ t', v = .str (quoteS (toS wd)) t') (quote_specR (x := toS wd) (t := tv) ?_ (KX'.keeps hF.keep) (T'.keeps hF.keep)) hA ?_ ?_ rfl rfl (fun y h' tk k hy => ?_)
    · have := hw wd (List.mem_of_getElem? hwi)
      simpa [toS, Str.length] using this
    · simp only [depth_deeper] at hD
      exact Nat.le_trans hD (Nat.le_of_ble_eq_true rfl)
    · exact Nat.le_trans hU (Nat.le_of_ble_eq_true rfl)
    · obtain ⟨t', rfl⟩ := hy
      exact ⟨⟨wd, t', hwi, rfl⟩, h', tk, rfl, k⟩
  · intro c' a s₅ B' F' G' hos hk X
    have hsz : vs.toArray.size = ws.length := by have := sv.length; simpa using this
    repeat' ((fail_if_success (with_reducible show wpAny _ _ (call _ _) _ _ _)); walk1)
    dsimp only [List.cons_append, List.nil_append]
    refine join_rowsK F' G' X (Nat.le_refl _) (fun j => toS (quoteL ((ws[j]?).getD []))) ?_ ?_ ?_ ?_
    · rintro j v ⟨i, hi, wd, t', hwi, rfl⟩
      rw [pass_all] at hi
      have : i = j := by
        rw [List.getElem?_eq_some_iff] at hi
        obtain ⟨_, hi⟩ := hi
        simpa using hi.symm
      subst this
      exact ⟨t', by rw [hwi]; rfl⟩
    · rw [pass_all, List.length_range, hsz, range_get]
      exact join_ok hn hw
    · intro s' t' F'' G'' hos' hk'
      rw [pass_all, List.length_range, hsz, range_get, join_txt]
      exact ⟨t', _, rfl, B', F''.keep, G'', hos'.trans hos⟩
    · rw [pass_all, List.length_range, hsz, sizeLine_eq]; omega
end Mine

set_option maxRecDepth 100000
namespace Mine
section
variable {prog : Program} {w : World} {A : Around} {E : Value → Shared → Prop} {s : Shared} {env : Env} {h₀ : Heap} {x : Str} {body : List Stmt} {Q : Flow → Shared → Prop}
theorem iter_lst {l : Addr} {items : Array Value} {n0 : Nat} {m₀ : Str → Option Value} {news : List (Addr × Obj)} (J : Nat → (Str → Option Value) → List (Addr × Obj) → Prop)
    (hh : A.handled = none) (F : Fr h₀ env.locals s.heap m₀) (N : News h₀ env.locals s.heap news) (hj : J 0 m₀ news) (hJl : ∀ i m nw, J i m nw → (l, listOf items n0) ∈ nw)
    (turn : ∀ i v m₁ news₁ h tk (I : Addr) (oI : Obj), items[i]? = some v → (∀ p ∈ news₁, p.1 ≠ I) → J i m₁ news₁ → Fr h₀ env.locals h (fun y => if y = x then some v else m₁ y) → News h₀ env.locals h ((I, oI) :: news₁) →
      wpAny (model prog w) A (execs body env) (RPost h₀ env.locals (J (i + 1)) (I, oI) s Q) E { s with heap := h, toks := tk })
    (done : ∀ m₁ news₁ h tk, J items.size m₁ news₁ → Fr h₀ env.locals h m₁ → News h₀ env.locals h news₁ → Q .next { s with heap := h, toks := tk }) :
    wpAny (model prog w) A (pyIter (.ref l)) (fun it s₂ => LoopAtV prog w A h₀ env x body Q E it s₂) E s := by
  have hl := N _ (hJl 0 m₀ news hj)
  refine wpAny_pyIter_list (l := l) (items := items) ⟨_, hl.1, rfl, _, rfl⟩ ?_
  refine ⟨_, _, _, items.size, _, _, m₀, news, J, rfl, Walks.list hh s.heap.objs.size l (Nat.ne_of_lt (Heap.lt_size hl.1)) items, ?_, ?_, ?_, ⟨⟨_, Heap.get?_push_size _ rfl, rfl, rfl⟩, ⟨_, Heap.get?_push_of_some _ hl.1, rfl, _, rfl⟩⟩, F.push _, (fun p hp => ⟨Heap.get?_push_of_some _ (N p hp).1, (N p hp).2⟩), hj, ?_, ?_⟩
  · intro hm
    rcases List.mem_cons.mp hm with e | hm
    · exact absurd F.ns.lt (e ▸ Nat.lt_irrefl _)
    · exact hl.2.1 (List.mem_singleton.mp hm).symm
  · intro b hb
    rw [List.mem_singleton.mp hb]
    exact next_is_new F
  · intro p hp hI
    exact absurd (Heap.lt_size (N p hp).1) ((List.mem_singleton.mp hI) ▸ Nat.lt_irrefl _)
  · rintro i v m₁ news₁ s₁ own ⟨hh', tk', rfl⟩ hin hP hJ hoff hown hget hall hst F₁ N₁
    obtain ⟨oI, hI⟩ : ∃ oI, hh'.get? s.heap.objs.size = some oI := by
      obtain ⟨⟨o, ho, _⟩, _⟩ := hst
      exact ⟨o, ho⟩
    have hIn := hall s.heap.objs.size (.head _) (next_is_new F) _ hI
    have hlg := N₁ _ (List.mem_append_right own (hJl _ _ _ hJ))
    have hone : ∀ p ∈ own, p = (s.heap.objs.size, oI) ∨ p = (l, listOf items n0) := fun p hp => by
      have e2 := hget p hp
      rcases List.mem_cons.mp (hown p hp) with e1 | e1
      · rw [e1] at e2
        have e3 := hI.symm.trans e2
        injection e3 with e3
        exact .inl (Prod.ext e1 e3.symm)
      · have e1 := List.mem_singleton.mp e1
        rw [e1] at e2
        have e3 := hlg.1.symm.trans e2
        injection e3 with e3
        exact .inr (Prod.ext e1 e3.symm)
    refine wpAny_mono (turn i v m₁ news₁ hh' tk' _ oI hP (fun p hp e => hoff p hp (List.mem_singleton.mpr e)) hJ F₁ (fun p hp => ?_)) (fun f s₂ q => ?_) fun _ _ e => e
    · rcases List.mem_cons.mp hp with rfl | hp
      · exact N₁ _ (List.mem_append_left _ hIn)
      · exact N₁ _ (List.mem_append_right _ hp)
    · have fin : (∃ h' tk m' news', s₂ = { s with heap := h', toks := tk } ∧ Fr h₀ env.locals h' m' ∧ News h₀ env.locals h' ((s.heap.objs.size, oI) :: news') ∧ (∀ q ∈ news', q.1 ≠ s.heap.objs.size) ∧ J (i + 1) m' news') →
          LoopStepU h₀ env.locals [s.heap.objs.size] own (J (i + 1)) { s with heap := hh', toks := tk' } .next s₂ := by
        rintro ⟨h', tk, m', news', e, F', N', ha, hm⟩
        refine ⟨rfl, h', tk, m', news', e, F', fun p hp => ?_, fun p hp hq => ha p hp (List.mem_singleton.mp hq), hm⟩
        rcases List.mem_append.mp hp with hp | hp
        · rcases hone p hp with e | e
          · rw [e]; exact N' _ (.head _)
          · rw [e]; exact N' _ (.tail _ (hJl _ _ _ hm))
        · exact N' _ (.tail _ hp)
      cases f with
      | ret v => exact .ret q
      | brk => exact .brk q
      | next => exact .next (fin q)
      | cont => exact .cont (fin q)
  · rintro h' tk m' news' F' N' _ hJ
    exact done m' news' h' tk hJ F' N'
end
theorem ints_at {vs : List Value} {ns : List Int} {i : Nat} {v : Value} (h : IntsAre vs ns) (hv : vs[i]? = some v) : ∃ k t, v = .int k t := by
  induction h generalizing i with
  | nil => simp at hv
  | cons n t _ ih =>
    cases i with
    | zero => simp at hv; subst hv; exact ⟨_, _, rfl⟩
    | succ j => exact ih (by simpa using hv)
def okStr (lo hi : Nat) (v : Value) : Bool := match v with | .str y _ => decide (lo ≤ y.length) && decide (y.length ≤ hi) | _ => false
theorem pick {prog : Program} {w : World} {A : Around} {E : Value → Shared → Prop} {s : Shared} {value slice : Expr} {l : Addr} {vs : List Value} {k : Int} {u : Tok} {Q : Value → Shared → Prop} (lo hi : Nat)
    (hl : s.heap.IsList l vs.toArray) (hall : vs.all (okStr lo hi) = true) (h0 : 0 ≤ k) (h1 : k < vs.length) (h2 : vs.length ≤ 100) (h : ∀ y t, lo ≤ y.length → y.length ≤ hi → Q (.str y t) s)
    (hs : subscripted slice false (.ref l) (.int k u) = operate [.ref l, .int k u] (getItem (.ref l) (.int k u)) := by with_unfolding_all rfl) :
    wpAny (model prog w) A (subscriptTail value slice (.ref l) (.int k u)) Q E s := by
  obtain ⟨j, rfl⟩ := Int.eq_ofNat_of_zero_le h0
  have hj : j < vs.length := by omega
  have hv : vs[j]? = some vs[j] := List.getElem?_eq_getElem hj
  have hk := List.all_eq_true.mp hall _ (List.getElem_mem hj)
  revert hv hk
  generalize vs[j] = v
  intro hv hk
  cases v with
  | str y t =>
    simp only [okStr, Bool.and_eq_true, decide_eq_true_eq] at hk
    refine item_lst (v := .str y t) hl (by omega) (by omega) (by rw [show ((j : Int)).toNat = j by omega]; simpa using hv) (h y t hk.1 hk.2) hs
  | _ => cases hk
theorem len_app (a b : Str) : (a ++ b).length = a.length + b.length := by
  simp [Str.length, Str.cps_append]
structure TI (D : Addr) (ws : List Value) (i : Nat) (m : Str → Option Value) (news : List (Addr × Obj)) : Prop where
  led : news = [(D, listOf ws.toArray 0)]
  text : ∃ tx tt, m (Str.ofString "text") = some (.str tx tt) ∧ tx.length ≤ 7 * i
theorem frame1 {m : Str → Option Value} {x1 : Str} {v1 : Value} (h1 : m x1 = some v1) : m = fun y => if y = x1 then some v1 else m y := by
  funext y
  by_cases e1 : y = x1
  · rw [if_pos e1, e1, h1]
  · rw [if_neg e1]
set_option maxHeartbeats 4000000 in
theorem text_spec {w : World} {s : Shared} {b : Addr} {vs : List Value} {ns : List Int} {mean mg mb} (hb : s.heap.IsList b vs.toArray) (sv : IntsAre vs ns) (hn : ns.length ≤ 63)
    (KX : (Mine.hd.heap_39 w.params).In s.heap) (T : Top Mine.hd.view_39 LS mean mg mb s.heap) :
    codeAny (model prg w) AB (.call (.ref 58) ⟨[.ref b], []⟩) (RetS s fun v _ => ∃ x t, v = .str x t ∧ x.length ≤ 40) s := by
  refine call_plain_ret (by decide) (KX 58 _ rfl) rfl T.nolimit (codeRec_of KX rfl) (binds := [(Str.ofString "script", .ref b)]) rfl (locs rfl) (fun h₁ F => ?_)
  have N : News s.heap s.heap.objs.size h₁ [] := News.nil
  w_on
  repeat' ((fail_if_success (first | (with_reducible show wpAny _ _ (exec (Stmt.For _ _ _ _ _) _) _ _ _))); (first | (with_reducible refine ite_t ?_) | (with_reducible refine ite_f ?_) | (with_reducible refine ite_str_t (by with_reducible assumption) ?_) | (with_reducible refine ite_str_f (by with_reducible assumption) ?_) | (with_reducible refine ite_str (fun hc => ?_) (fun hc => ?_)) | (with_reducible refine ite_strne (fun hc => ?_) (fun hc => ?_)) | (with_reducible refine ite_dt (by omega) ?_) | (with_reducible refine ite_df (by omega) ?_) | (with_reducible refine ite_dby (fun hc => ?_) (fun hc => ?_)) | (with_reducible refine ite_by (fun hc => ?_) (fun hc => ?_)) | (k_unfold; (try dsimp only)) | ((with_reducible show wpAny _ _ (execs _ _) _ _ _); (try dsimp only); walk1) | walk1 | (dsimp only; walk1)))
  refine For_invVF (by assumption) rfl rfl ?_
  repeat' ((fail_if_success (first | (with_reducible show wpAny _ _ (pyIter _) _ _ _))); (first | (with_reducible refine ite_t ?_) | (with_reducible refine ite_f ?_) | (with_reducible refine ite_str_t (by with_reducible assumption) ?_) | (with_reducible refine ite_str_f (by with_reducible assumption) ?_) | (with_reducible refine ite_str (fun hc => ?_) (fun hc => ?_)) | (with_reducible refine ite_strne (fun hc => ?_) (fun hc => ?_)) | (with_reducible refine ite_dt (by omega) ?_) | (with_reducible refine ite_df (by omega) ?_) | (with_reducible refine ite_dby (fun hc => ?_) (fun hc => ?_)) | (with_reducible refine ite_by (fun hc => ?_) (fun hc => ?_)) | (k_unfold; (try dsimp only)) | ((with_reducible show wpAny _ _ (execs _ _) _ _ _); (try dsimp only); walk1) | walk1 | (dsimp only; walk1)))
  rename_i D ws h3 F3 N3 hI hC hL _
  have hwl : ws.length ≤ 60 := by
    have := hI.length
    omega
  refine iter_lst (TI D ws) rfl F3 N3 ⟨rfl, _, _, rfl, Nat.le_refl _⟩ (fun i m nw j => by rw [j.led]; exact .head _) ?_ ?_
  · intro i v m₁ news₁ h4 tk4 I oI hv hoff C F4 N4
    obtain ⟨rfl, tx, tt, htx, hlen⟩ := C
    rw [frame1 htx] at F4
    replace F4 : Fr s.heap s.heap.objs.size h4 _ := F4
    replace N4 : News s.heap s.heap.objs.size h4 _ := N4
    have hi : i < 60 := by
      have := (Array.getElem?_eq_some_iff.mp hv).1
      simp at this; omega
    obtain ⟨k, tk, rfl⟩ : ∃ k t, v = .int k t := ints_at hI (by simpa using hv)
    dsimp only at F4
    have f0 := Int.fmod_nonneg_of_pos k (b := 16) (by decide)
    have f1 := Int.fmod_lt_of_pos k (b := 16) (by decide)
    have g0 := Int.fmod_nonneg_of_pos (k.fdiv 16) (b := 1114112) (by decide)
    have g1 := Int.fmod_lt_of_pos (k.fdiv 16) (b := 1114112) (by decide)
    repeat' ((fail_if_success (first | (with_reducible show wpAny _ _ (subscriptTail _ _ (Value.ref _) (Value.int _ _)) _ _ _) | (with_reducible show RPost _ _ _ _ _ _ _ _) | (with_reducible show wpAny _ _ (call (Value.builtin "chr") _) _ _ _))); (first | (with_reducible refine ite_t ?_) | (with_reducible refine ite_f ?_) | (with_reducible refine ite_str_t (by with_reducible assumption) ?_) | (with_reducible refine ite_str_f (by with_reducible assumption) ?_) | (with_reducible refine ite_str (fun hc => ?_) (fun hc => ?_)) | (with_reducible refine ite_strne (fun hc => ?_) (fun hc => ?_)) | (with_reducible refine ite_dt (by omega) ?_) | (with_reducible refine ite_df (by omega) ?_) | (with_reducible refine ite_dby (fun hc => ?_) (fun hc => ?_)) | (with_reducible refine ite_by (fun hc => ?_) (fun hc => ?_)) | (k_unfold; (try dsimp only)) | ((with_reducible show wpAny _ _ (execs _ _) _ _ _); (try dsimp only); walk1) | walk1 | (dsimp only; walk1)))
    · refine chr_of_range (by omega) (by omega) ?_
      repeat' ((fail_if_success (first | (with_reducible show wpAny _ _ (subscriptTail _ _ (Value.ref _) (Value.int _ _)) _ _ _) | (with_reducible show RPost _ _ _ _ _ _ _ _) | (with_reducible show wpAny _ _ (call (Value.builtin "chr") _) _ _ _))); (first | (with_reducible refine ite_t ?_) | (with_reducible refine ite_f ?_) | (with_reducible refine ite_str_t (by with_reducible assumption) ?_) | (with_reducible refine ite_str_f (by with_reducible assumption) ?_) | (with_reducible refine ite_str (fun hc => ?_) (fun hc => ?_)) | (with_reducible refine ite_strne (fun hc => ?_) (fun hc => ?_)) | (with_reducible refine ite_dt (by omega) ?_) | (with_reducible refine ite_df (by omega) ?_) | (with_reducible refine ite_dby (fun hc => ?_) (fun hc => ?_)) | (with_reducible refine ite_by (fun hc => ?_) (fun hc => ?_)) | (k_unfold; (try dsimp only)) | ((with_reducible show wpAny _ _ (execs _ _) _ _ _); (try dsimp only); walk1) | walk1 | (dsimp only; walk1)))
      (with_reducible rename Fr _ _ _ _ => FF)
      (with_reducible rename News _ _ _ _ => NN)
      refine ⟨_, _, _, [(D, listOf ws.toArray 0)], rfl, FF, NN, hoff, ⟨rfl, _, _, rfl, ?_⟩⟩
      rw [len_app]
      have e : (⟨#[((k.fdiv 16).fmod 1114112).toNat]⟩ : Str).length = 1 := rfl
      rw [e]; omega
    · have hk15 : k.fmod 16 ≠ 15 := fun e => absurd (beq_iff_eq.mpr e) (by assumption)
      refine pick 1 30 (News.isListK (by with_reducible assumption) (.head _)) rfl (by omega) (by simp; omega) (by simp) (fun y ty hy0 hy1 => ?_)
      repeat' ((fail_if_success (first | (with_reducible show wpAny _ _ (subscriptTail _ _ (Value.str _ _) (Value.int _ _)) _ _ _) | (with_reducible show RPost _ _ _ _ _ _ _ _) | (with_reducible show wpAny _ _ (call (Value.builtin "chr") _) _ _ _))); (first | (with_reducible refine ite_t ?_) | (with_reducible refine ite_f ?_) | (with_reducible refine ite_str_t (by with_reducible assumption) ?_) | (with_reducible refine ite_str_f (by with_reducible assumption) ?_) | (with_reducible refine ite_str (fun hc => ?_) (fun hc => ?_)) | (with_reducible refine ite_strne (fun hc => ?_) (fun hc => ?_)) | (with_reducible refine ite_dt (by omega) ?_) | (with_reducible refine ite_df (by omega) ?_) | (with_reducible refine ite_dby (fun hc => ?_) (fun hc => ?_)) | (with_reducible refine ite_by (fun hc => ?_) (fun hc => ?_)) | (k_unfold; (try dsimp only)) | ((with_reducible show wpAny _ _ (execs _ _) _ _ _); (try dsimp only); walk1) | walk1 | (dsimp only; walk1)))
      refine item_str_fmod (by omega) (by omega) (by omega) (fun hl1 => ?_)
      repeat' ((fail_if_success (first | (with_reducible show wpAny _ _ (subscriptTail _ _ (Value.str _ _) (Value.int _ _)) _ _ _) | (with_reducible show RPost _ _ _ _ _ _ _ _) | (with_reducible show wpAny _ _ (call (Value.builtin "chr") _) _ _ _))); (first | (with_reducible refine ite_t ?_) | (with_reducible refine ite_f ?_) | (with_reducible refine ite_str_t (by with_reducible assumption) ?_) | (with_reducible refine ite_str_f (by with_reducible assumption) ?_) | (with_reducible refine ite_str (fun hc => ?_) (fun hc => ?_)) | (with_reducible refine ite_strne (fun hc => ?_) (fun hc => ?_)) | (with_reducible refine ite_dt (by omega) ?_) | (with_reducible refine ite_df (by omega) ?_) | (with_reducible refine ite_dby (fun hc => ?_) (fun hc => ?_)) | (with_reducible refine ite_by (fun hc => ?_) (fun hc => ?_)) | (k_unfold; (try dsimp only)) | ((with_reducible show wpAny _ _ (execs _ _) _ _ _); (try dsimp only); walk1) | walk1 | (dsimp only; walk1)))
      (with_reducible rename Fr _ _ _ _ => FF)
      (with_reducible rename News _ _ _ _ => NN)
      refine ⟨_, _, _, [(D, listOf ws.toArray 0)], rfl, FF, News.tail1 NN, hoff, ⟨rfl, _, _, rfl, ?_⟩⟩
      rw [len_app]
      omega
    · refine pick 0 7 (News.isListK (by with_reducible assumption) (.head _)) rfl (by omega) (by simp; omega) (by simp) (fun y ty hy0 hy1 => ?_)
      repeat' ((fail_if_success (first | (with_reducible show wpAny _ _ (subscriptTail _ _ (Value.ref _) (Value.int _ _)) _ _ _) | (with_reducible show RPost _ _ _ _ _ _ _ _) | (with_reducible show wpAny _ _ (call (Value.builtin "chr") _) _ _ _))); (first | (with_reducible refine ite_t ?_) | (with_reducible refine ite_f ?_) | (with_reducible refine ite_str_t (by with_reducible assumption) ?_) | (with_reducible refine ite_str_f (by with_reducible assumption) ?_) | (with_reducible refine ite_str (fun hc => ?_) (fun hc => ?_)) | (with_reducible refine ite_strne (fun hc => ?_) (fun hc => ?_)) | (with_reducible refine ite_dt (by omega) ?_) | (with_reducible refine ite_df (by omega) ?_) | (with_reducible refine ite_dby (fun hc => ?_) (fun hc => ?_)) | (with_reducible refine ite_by (fun hc => ?_) (fun hc => ?_)) | (k_unfold; (try dsimp only)) | ((with_reducible show wpAny _ _ (execs _ _) _ _ _); (try dsimp only); walk1) | walk1 | (dsimp only; walk1)))
      (with_reducible rename Fr _ _ _ _ => FF)
      (with_reducible rename News _ _ _ _ => NN)
      refine ⟨_, _, _, [(D, listOf ws.toArray 0)], rfl, FF, News.tail1 NN, hoff, ⟨rfl, _, _, rfl, ?_⟩⟩
      rw [len_app]
      omega
  · intro m₁ news₁ h4 tk4 C F4 N4
    obtain ⟨rfl, tx, tt, htx, hlen⟩ := C
    rw [frame1 htx] at F4
    replace F4 : Fr s.heap s.heap.objs.size h4 _ := F4
    replace N4 : News s.heap s.heap.objs.size h4 _ := N4
    repeat' ((fail_if_success (first | (with_reducible show wpAny _ _ (subscriptTail _ _ (Value.ref _) (Value.int _ _)) _ _ _) | (with_reducible show RPost _ _ _ _ _ _ _ _))); (first | (with_reducible refine ite_t ?_) | (with_reducible refine ite_f ?_) | (with_reducible refine ite_str_t (by with_reducible assumption) ?_) | (with_reducible refine ite_str_f (by with_reducible assumption) ?_) | (with_reducible refine ite_str (fun hc => ?_) (fun hc => ?_)) | (with_reducible refine ite_strne (fun hc => ?_) (fun hc => ?_)) | (with_reducible refine ite_dt (by omega) ?_) | (with_reducible refine ite_df (by omega) ?_) | (with_reducible refine ite_dby (fun hc => ?_) (fun hc => ?_)) | (with_reducible refine ite_by (fun hc => ?_) (fun hc => ?_)) | (k_unfold; (try dsimp only)) | ((with_reducible show wpAny _ _ (execs _ _) _ _ _); (try dsimp only); walk1) | walk1 | (dsimp only; walk1)))
    dsimp only
    refine RetS.mk (by with_reducible assumption) ⟨_, _, rfl, ?_⟩
    have e := congrArg List.length (slice_none tx 40)
    rw [List.length_take] at e
    have e2 : (Txt.slice tx none (some ((40 : Nat) : Int))).length ≤ 40 := by
      simp only [Str.length]
      rw [← Array.length_toList, e]; omega
    exact e2
end Mine

set_option maxRecDepth 100000
namespace Mine
noncomputable abbrev AC : Around := { handled := none, depth := 350, frames := none, guards := none, units := 3000 }
def RetL (s : Shared) (r : Result) (s' : Shared) : Prop := r = .ok (.ret (.bool true)) ∧ OldK s.heap s'.heap ∧ s'.os = s.os ∧ AllBare s'.gens
theorem RetL.mk {s : Shared} {h' : Heap} {tk : Nat} {L m} (F : Fr s.heap L h' m) (hg : AllBare s.gens) : RetL s (.ok (.ret (.bool true))) { s with heap := h', toks := tk } :=
  ⟨rfl, .of_keep F.keep, rfl, hg⟩
theorem all_true (n : Nat) : (List.range n).all (fun _ => true) = true := by simp
theorem ne_same {prog : Program} {w : World} {A : Around} {E : Value → Shared → Prop} {s : Shared} {Q : Value → Shared → Prop} {l c b d : Addr} {vs us : List Value} {ws : List (List Nat)}
    (h1 : s.heap.IsList l #[.ref b]) (h2 : s.heap.IsList c #[.ref d]) (h3 : s.heap.IsList b vs.toArray) (h4 : s.heap.IsList d us.toArray) (sv : SV vs ws) (su : SV us ws) (hu : A.units + 10 < cLine)
    (h : Q (.bool false) s) : wpAny (model prog w) A (compareOp .NotEq (.ref l) (.ref c)) Q E s := by
  refine SeqAt.RcNeAt.lists (e := fun _ => true) h1 h2 rfl (by omega) (fun j hj1 hj2 => ?_) prog w E Q ?_
  · have : j = 0 := by simp at hj1; omega
    subst this
    show SeqAt.EqAt A.in1 s (.ref b) (.ref d) true
    by_cases e : b = d
    · subst e; exact SeqAt.EqAt.same _
    · have e1 := sv.length
      have e2 := su.length
      have hR := SeqAt.RcAt.lists (A := A.in1) (e := fun _ => true) h3 h4 (by simp; omega) (by rw [units_in1]; omega) (fun j hj1 hj2 => by
        have hj1' : j < vs.length := by simpa using hj1
        have hj2' : j < us.length := by simpa using hj2
        have hw : j < ws.length := by omega
        obtain ⟨t, e3⟩ := Paired.get sv (List.getElem?_eq_getElem hj1') (List.getElem?_eq_getElem hw)
        obtain ⟨u, e4⟩ := Paired.get su (List.getElem?_eq_getElem hj2') (List.getElem?_eq_getElem hw)
        have e5 : vs.toArray[j] = vs[j] := by simp
        have e6 : us.toArray[j] = us[j] := by simp
        rw [e5, e6, e3, e4]
        have := SeqAt.EqAt.str_str (A := A.in1.in1) (s := s) (toS ws[j]) t (toS ws[j]) u
        simpa using this)
      rw [all_true] at hR
      exact SeqAt.EqAt.of_refs e hR
  · have : (!(List.range (#[Value.ref b] : Array Value).size).all fun _ => true) = false := by simp
    rw [this]; exact h
theorem ne_nil_f {prog : Program} {w : World} {A : Around} {E : Value → Shared → Prop} {s : Shared} {l b : Addr} {Q : Value → Shared → Prop} (hl : s.heap.IsList l #[]) (hb : s.heap.IsList b #[]) (hu : A.units < cLine)
    (h : Q (.bool false) s) : wpAny (model prog w) A (compareOp .NotEq (.ref l) (.ref b)) Q E s := ne_nil hl hb hu h
theorem ne_empty {x : Str} (hc : Hid (x ≠ Str.ofString "")) : x.cps.toList ≠ [] := fun e => hc.out (str_ext (by rw [e]; rfl))
theorem based_keeps {h h' : Heap} {c P : Addr} {ps : Array Value} (B : Based h h c P ps) (k : ∀ b o, h.get? b = some o → h'.get? b = some o) : Based h' h' c P ps :=
  .start (B.code.keeps k) (B.tab.keeps k) B.notStatics
theorem oldK_of {h h1 h2 : Heap} {P : Addr} {ps : Array Value} (B : Based h h 42 P #[]) (k : ∀ b o, h.get? b = some o → h1.get? b = some o) (B' : Based h1 (regrown h1 P ps) 42 P ps) (k2 : ∀ b o, (regrown h1 P ps).get? b = some o → h2.get? b = some o) : OldK h h2 := by
  have e : #[] ++ ps = ps := by simp
  refine (OldK.step_table (OldK.of_keep k) B.tab (B.tab.keeps k) (more := ps) (by rw [e]; exact B'.tab) (fun b o hb e => ?_) B.notStatics).step_keeps k2
  exact regrown_other _ _ _ _ _ hb e
theorem str_same {x : Str} {l : List Nat} (h : l = x.cps.toList) : (toS l == x) = true := by
  rw [beq_iff_eq]
  exact str_ext (by rw [toS_toList, h])
def LMid (s : Shared) (L : Addr) (l : Addr) (f : Flow) (s' : Shared) : Prop :=
  f = .next ∧ ∃ h tk x t, s' = { s with heap := h, toks := tk } ∧ x.length ≤ 40 ∧ Fr s.heap L h (fun y => if y = Str.ofString "text" then some (.str x t) else List.lookup y [(Str.ofString "script", Value.ref l)].reverse) ∧ News s.heap L h []
set_option maxHeartbeats 4000000 in
theorem law_spec {w : World} {s : Shared} {l : Addr} {vs : List Value} {ns : List Int} {mean mg mb} (hl : s.heap.IsList l vs.toArray) (hI : IntsAre vs ns) (hn : ns.length ≤ 63) (hg : AllBare s.gens)
    (KX : (Mine.hd.heap_39 w.params).In s.heap) (T : Top Mine.hd.view_39 LS mean mg mb s.heap) :
    codeAny (model prg w) AC (.call (.ref 89) ⟨[.ref l], []⟩) (RetL s) s := by
  refine call_plain_ret (by decide) (KX 89 _ rfl) rfl T.nolimit (codeRec_of KX rfl) (binds := [(Str.ofString "script", .ref l)]) rfl (locs rfl) (fun h₁ F => ?_)
  have N : News s.heap s.heap.objs.size h₁ [] := News.nil
  obtain ⟨P, BJ⟩ := join_based KX T
  w_on
  refine wpAny_execs_cons (wpAny_mono (Q := LMid s s.heap.objs.size l) ?_ (fun f s' hf => ?_) (fun _ _ e => e))
  · repeat' ((fail_if_success (first | (with_reducible show wpAny _ _ (compareOp _ (Value.ref _) (Value.ref _)) _ _ _))); (first | (with_reducible refine ite_t ?_) | (with_reducible refine ite_f ?_) | (with_reducible refine ite_str_t (by with_reducible assumption) ?_) | (with_reducible refine ite_str_f (by with_reducible assumption) ?_) | (with_reducible refine ite_str (fun hc => ?_) (fun hc => ?_)) | (with_reducible refine ite_strne (fun hc => ?_) (fun hc => ?_)) | (with_reducible refine ite_dt (by omega) ?_) | (with_reducible refine ite_df (by omega) ?_) | (with_reducible refine ite_dby (fun hc => ?_) (fun hc => ?_)) | (with_reducible refine ite_by (fun hc => ?_) (fun hc => ?_)) | (k_unfold; (try dsimp only)) | ((with_reducible show wpAny _ _ (execs _ _) _ _ _); (try dsimp only); walk1) | walk1 | (dsimp only; walk1)))
    rename_i l2 h2 F2 N2 _
    refine ne_nil (F2.lst hl) (News.isListK N2 (.head _)) (Nat.le_of_ble_eq_true rfl) ?_
    repeat' ((fail_if_success (first | (with_reducible show wpAny _ _ (call (Value.ref _) _) _ _ _) | (with_reducible show LMid _ _ _ _ _))); (first | (with_reducible refine ite_t ?_) | (with_reducible refine ite_f ?_) | (with_reducible refine ite_str_t (by with_reducible assumption) ?_) | (with_reducible refine ite_str_f (by with_reducible assumption) ?_) | (with_reducible refine ite_str (fun hc => ?_) (fun hc => ?_)) | (with_reducible refine ite_strne (fun hc => ?_) (fun hc => ?_)) | (with_reducible refine ite_dt (by omega) ?_) | (with_reducible refine ite_df (by omega) ?_) | (with_reducible refine ite_dby (fun hc => ?_) (fun hc => ?_)) | (with_reducible refine ite_by (fun hc => ?_) (fun hc => ?_)) | (k_unfold; (try dsimp only)) | ((with_reducible show wpAny _ _ (execs _ _) _ _ _); (try dsimp only); walk1) | walk1 | (dsimp only; walk1)))
    · refine call_of_spec (text_spec (F2.lst hl) hI hn (KX.keeps F2.keep) (T.keeps F2.keep)) rfl (Nat.le_of_ble_eq_true rfl) (Nat.le_of_ble_eq_true rfl) rfl rfl (fun v h3 tk3 k3 hv => ?_)
      obtain ⟨x, t, rfl, hx⟩ := hv
      replace F2 := Fr.grow F2 k3
      replace N2 := News.grow N2 k3
      repeat' ((fail_if_success (first | (with_reducible show wpAny _ _ (call (Value.ref _) _) _ _ _) | (with_reducible show LMid _ _ _ _ _))); (first | (with_reducible refine ite_t ?_) | (with_reducible refine ite_f ?_) | (with_reducible refine ite_str_t (by with_reducible assumption) ?_) | (with_reducible refine ite_str_f (by with_reducible assumption) ?_) | (with_reducible refine ite_str (fun hc => ?_) (fun hc => ?_)) | (with_reducible refine ite_strne (fun hc => ?_) (fun hc => ?_)) | (with_reducible refine ite_dt (by omega) ?_) | (with_reducible refine ite_df (by omega) ?_) | (with_reducible refine ite_dby (fun hc => ?_) (fun hc => ?_)) | (with_reducible refine ite_by (fun hc => ?_) (fun hc => ?_)) | (k_unfold; (try dsimp only)) | ((with_reducible show wpAny _ _ (execs _ _) _ _ _); (try dsimp only); walk1) | walk1 | (dsimp only; walk1)))
      (with_reducible rename Fr _ _ _ _ => FF)
      exact ⟨rfl, _, _, _, _, rfl, hx, FF, News.nil⟩
    · (with_reducible rename Fr _ _ _ _ => FF)
      exact ⟨rfl, _, _, _, _, rfl, by decide, FF, News.nil⟩
  · obtain ⟨rfl, h2, tk2, x, t, rfl, hx, F2, N2⟩ := hf
    dsimp only
    repeat' ((fail_if_success (first | (with_reducible show wpAny _ _ (call (Value.ref _) _) _ _ _) | (with_reducible show wpAny _ _ (compareOp _ (Value.ref _) (Value.ref _)) _ _ _))); (first | (with_reducible refine ite_t ?_) | (with_reducible refine ite_f ?_) | (with_reducible refine ite_str_t (by with_reducible assumption) ?_) | (with_reducible refine ite_str_f (by with_reducible assumption) ?_) | (with_reducible refine ite_str (fun hc => ?_) (fun hc => ?_)) | (with_reducible refine ite_strne (fun hc => ?_) (fun hc => ?_)) | (with_reducible refine ite_dt (by omega) ?_) | (with_reducible refine ite_df (by omega) ?_) | (with_reducible refine ite_dby (fun hc => ?_) (fun hc => ?_)) | (with_reducible refine ite_by (fun hc => ?_) (fun hc => ?_)) | (k_unfold; (try dsimp only)) | ((with_reducible show wpAny _ _ (execs _ _) _ _ _); (try dsimp only); walk1) | walk1 | (dsimp only; walk1)))
    refine call_of_spec (normal_spec (by omega) (KX.keeps F2.keep) (T.keeps F2.keep)) rfl (Nat.le_of_ble_eq_true rfl) (Nat.le_of_ble_eq_true rfl) rfl rfl (fun v h3 tk3 k3 hv => ?_)
    have F3 := Fr.grow F2 k3
    have N3 := News.grow N2 k3
    cases hr : nrm true x.cps.toList with
    | none =>
      rw [hr] at hv
      obtain ⟨a, rfl, ha, haL⟩ := hv
      obtain ⟨hag, hac, na, had⟩ := objAt_get haL
      replace N3 := News.add F2 N3 hag ha
      generalize objAt h3 a = oa at *
      clear F2 N2
      repeat' ((fail_if_success (first | (with_reducible show wpAny _ _ (call (Value.ref _) _) _ _ _) | (with_reducible show wpAny _ _ (compareOp _ (Value.ref _) (Value.ref _)) _ _ _))); (first | (with_reducible refine ite_t ?_) | (with_reducible refine ite_f ?_) | (with_reducible refine ite_str_t (by with_reducible assumption) ?_) | (with_reducible refine ite_str_f (by with_reducible assumption) ?_) | (with_reducible refine ite_str (fun hc => ?_) (fun hc => ?_)) | (with_reducible refine ite_strne (fun hc => ?_) (fun hc => ?_)) | (with_reducible refine ite_dt (by omega) ?_) | (with_reducible refine ite_df (by omega) ?_) | (with_reducible refine ite_dby (fun hc => ?_) (fun hc => ?_)) | (with_reducible refine ite_by (fun hc => ?_) (fun hc => ?_)) | (k_unfold; (try dsimp only)) | ((with_reducible show wpAny _ _ (execs _ _) _ _ _); (try dsimp only); walk1) | walk1 | (dsimp only; walk1)))
      · (with_reducible rename Fr _ _ _ _ => F4)
        (with_reducible rename News _ _ _ _ => N4)
        refine call_of_spec (cuts_spec hx (ne_empty hc) (KX.keeps F4.keep) (T.keeps F4.keep)) rfl (Nat.le_of_ble_eq_true rfl) (Nat.le_of_ble_eq_true rfl) rfl rfl (fun v h5 tk5 k5 hv5 => ?_)
        rw [hr] at hv5
        replace F4 := Fr.grow F4 k5
        replace N4 := News.grow N4 k5
        obtain ⟨c, rfl, _, hcL⟩ := hv5
        repeat' ((fail_if_success (first | (with_reducible show wpAny _ _ (compareOp _ (Value.ref _) (Value.ref _)) _ _ _))); (first | (with_reducible refine ite_t ?_) | (with_reducible refine ite_f ?_) | (with_reducible refine ite_str_t (by with_reducible assumption) ?_) | (with_reducible refine ite_str_f (by with_reducible assumption) ?_) | (with_reducible refine ite_str (fun hc => ?_) (fun hc => ?_)) | (with_reducible refine ite_strne (fun hc => ?_) (fun hc => ?_)) | (with_reducible refine ite_dt (by omega) ?_) | (with_reducible refine ite_df (by omega) ?_) | (with_reducible refine ite_dby (fun hc => ?_) (fun hc => ?_)) | (with_reducible refine ite_by (fun hc => ?_) (fun hc => ?_)) | (k_unfold; (try dsimp only)) | ((with_reducible show wpAny _ _ (execs _ _) _ _ _); (try dsimp only); walk1) | walk1 | (dsimp only; walk1)))
        refine ne_nil_f hcL ⟨oa, N4.get (.head _), hac, na, had⟩ (Nat.le_of_ble_eq_true rfl) ?_
        repeat' ((fail_if_success (first | (with_reducible show wpAny _ _ (compareOp _ (Value.ref _) (Value.ref _)) _ _ _))); (first | (with_reducible refine ite_t ?_) | (with_reducible refine ite_f ?_) | (with_reducible refine ite_str_t (by with_reducible assumption) ?_) | (with_reducible refine ite_str_f (by with_reducible assumption) ?_) | (with_reducible refine ite_str (fun hc => ?_) (fun hc => ?_)) | (with_reducible refine ite_strne (fun hc => ?_) (fun hc => ?_)) | (with_reducible refine ite_dt (by omega) ?_) | (with_reducible refine ite_df (by omega) ?_) | (with_reducible refine ite_dby (fun hc => ?_) (fun hc => ?_)) | (with_reducible refine ite_by (fun hc => ?_) (fun hc => ?_)) | (k_unfold; (try dsimp only)) | ((with_reducible show wpAny _ _ (execs _ _) _ _ _); (try dsimp only); walk1) | walk1 | (dsimp only; walk1)))
        (with_reducible rename Fr _ _ _ _ => F5)
        (with_reducible rename News _ _ _ _ => N5)
        refine eq_nil_t ⟨oa, N5.get (.tail _ (.head _)), hac, na, had⟩ (News.isListK N5 (.head _)) (Nat.le_of_ble_eq_true rfl) ?_
        repeat' ((fail_if_success (first | (with_reducible show RetL _ _ _))); (first | (with_reducible refine ite_t ?_) | (with_reducible refine ite_f ?_) | (with_reducible refine ite_str_t (by with_reducible assumption) ?_) | (with_reducible refine ite_str_f (by with_reducible assumption) ?_) | (with_reducible refine ite_str (fun hc => ?_) (fun hc => ?_)) | (with_reducible refine ite_strne (fun hc => ?_) (fun hc => ?_)) | (with_reducible refine ite_dt (by omega) ?_) | (with_reducible refine ite_df (by omega) ?_) | (with_reducible refine ite_dby (fun hc => ?_) (fun hc => ?_)) | (with_reducible refine ite_by (fun hc => ?_) (fun hc => ?_)) | (k_unfold; (try dsimp only)) | ((with_reducible show wpAny _ _ (execs _ _) _ _ _); (try dsimp only); walk1) | walk1 | (dsimp only; walk1)))
        (try dsimp only)
        exact RetL.mk F5 hg
      · (with_reducible rename Fr _ _ _ _ => F5)
        (with_reducible rename News _ _ _ _ => N5)
        refine eq_nil_t ⟨oa, N5.get (.tail _ (.head _)), hac, na, had⟩ (News.isListK N5 (.head _)) (Nat.le_of_ble_eq_true rfl) ?_
        repeat' ((fail_if_success (first | (with_reducible show RetL _ _ _))); (first | (with_reducible refine ite_t ?_) | (with_reducible refine ite_f ?_) | (with_reducible refine ite_str_t (by with_reducible assumption) ?_) | (with_reducible refine ite_str_f (by with_reducible assumption) ?_) | (with_reducible refine ite_str (fun hc => ?_) (fun hc => ?_)) | (with_reducible refine ite_strne (fun hc => ?_) (fun hc => ?_)) | (with_reducible refine ite_dt (by omega) ?_) | (with_reducible refine ite_df (by omega) ?_) | (with_reducible refine ite_dby (fun hc => ?_) (fun hc => ?_)) | (with_reducible refine ite_by (fun hc => ?_) (fun hc => ?_)) | (k_unfold; (try dsimp only)) | ((with_reducible show wpAny _ _ (execs _ _) _ _ _); (try dsimp only); walk1) | walk1 | (dsimp only; walk1)))
        (try dsimp only)
        exact RetL.mk F5 hg
    | some ws =>
      rw [hr] at hv
      obtain ⟨a, b, us, rfl, ha, hb, hab, haL, hbL, su⟩ := hv
      obtain ⟨hag, hac, na, had⟩ := objAt_get haL
      obtain ⟨hbg, hbc, nb, hbd⟩ := objAt_get hbL
      replace N3 := News.add F2 (News.add F2 N3 hbg hb) hag ha
      generalize objAt h3 a = oa at *
      generalize objAt h3 b = ob at *
      clear F2 N2
      have hX := nrm_join hr
      have hn1 : ws.length ≤ 200 := by
        have e := joinQ_len ws
        rw [hX] at e
        simp only [Str.length] at hx
        simp at e; omega
      have hw1 : ∀ w ∈ ws, w.length ≤ 200 := fun w hw => by
        have e := word_le hw
        rw [hX] at e
        simp only [Str.length] at hx
        simp at e; omega
      repeat' ((fail_if_success (first | (with_reducible show wpAny _ _ (call (Value.ref _) _) _ _ _) | (with_reducible show wpAny _ _ (compareOp _ (Value.ref _) (Value.ref _)) _ _ _))); (first | (with_reducible refine ite_t ?_) | (with_reducible refine ite_f ?_) | (with_reducible refine ite_str_t (by with_reducible assumption) ?_) | (with_reducible refine ite_str_f (by with_reducible assumption) ?_) | (with_reducible refine ite_str (fun hc => ?_) (fun hc => ?_)) | (with_reducible refine ite_strne (fun hc => ?_) (fun hc => ?_)) | (with_reducible refine ite_dt (by omega) ?_) | (with_reducible refine ite_df (by omega) ?_) | (with_reducible refine ite_dby (fun hc => ?_) (fun hc => ?_)) | (with_reducible refine ite_by (fun hc => ?_) (fun hc => ?_)) | (k_unfold; (try dsimp only)) | ((with_reducible show wpAny _ _ (execs _ _) _ _ _); (try dsimp only); walk1) | walk1 | (dsimp only; walk1)))
      · (with_reducible rename Fr _ _ _ _ => F4)
        (with_reducible rename News _ _ _ _ => N4)
        refine call_of_spec (cuts_spec hx (ne_empty hc) (KX.keeps F4.keep) (T.keeps F4.keep)) rfl (Nat.le_of_ble_eq_true rfl) (Nat.le_of_ble_eq_true rfl) rfl rfl (fun v h5 tk5 k5 hv5 => ?_)
        rw [hr] at hv5
        replace F4 := Fr.grow F4 k5
        replace N4 := News.grow N4 k5
        obtain ⟨c, d, us2, rfl, _, _, _, hcL, hdL, su2⟩ := hv5
        repeat' ((fail_if_success (first | (with_reducible show wpAny _ _ (compareOp _ (Value.ref _) (Value.ref _)) _ _ _))); (first | (with_reducible refine ite_t ?_) | (with_reducible refine ite_f ?_) | (with_reducible refine ite_str_t (by with_reducible assumption) ?_) | (with_reducible refine ite_str_f (by with_reducible assumption) ?_) | (with_reducible refine ite_str (fun hc => ?_) (fun hc => ?_)) | (with_reducible refine ite_strne (fun hc => ?_) (fun hc => ?_)) | (with_reducible refine ite_dt (by omega) ?_) | (with_reducible refine ite_df (by omega) ?_) | (with_reducible refine ite_dby (fun hc => ?_) (fun hc => ?_)) | (with_reducible refine ite_by (fun hc => ?_) (fun hc => ?_)) | (k_unfold; (try dsimp only)) | ((with_reducible show wpAny _ _ (execs _ _) _ _ _); (try dsimp only); walk1) | walk1 | (dsimp only; walk1)))
        refine ne_same hcL ⟨oa, N4.get (.head _), hac, na, had⟩ hdL ⟨ob, N4.get (.tail _ (.head _)), hbc, nb, hbd⟩ su2 su (Nat.le_of_ble_eq_true rfl) ?_
        repeat' ((fail_if_success (first | (with_reducible show wpAny _ _ (compareOp _ (Value.ref _) (Value.ref _)) _ _ _))); (first | (with_reducible refine ite_t ?_) | (with_reducible refine ite_f ?_) | (with_reducible refine ite_str_t (by with_reducible assumption) ?_) | (with_reducible refine ite_str_f (by with_reducible assumption) ?_) | (with_reducible refine ite_str (fun hc => ?_) (fun hc => ?_)) | (with_reducible refine ite_strne (fun hc => ?_) (fun hc => ?_)) | (with_reducible refine ite_dt (by omega) ?_) | (with_reducible refine ite_df (by omega) ?_) | (with_reducible refine ite_dby (fun hc => ?_) (fun hc => ?_)) | (with_reducible refine ite_by (fun hc => ?_) (fun hc => ?_)) | (k_unfold; (try dsimp only)) | ((with_reducible show wpAny _ _ (execs _ _) _ _ _); (try dsimp only); walk1) | walk1 | (dsimp only; walk1)))
        (with_reducible rename Fr _ _ _ _ => F5)
        (with_reducible rename News _ _ _ _ => N5)
        refine eq_nil_f (items := #[.ref b]) ⟨oa, N5.get (.tail _ (.head _)), hac, na, had⟩ (News.isListK N5 (.head _)) (Nat.le_of_ble_eq_true rfl) (by simp) ?_
        replace N5 := News.tail1 N5
        repeat' ((fail_if_success (first | (with_reducible show wpAny _ _ (subscriptTail _ _ (Value.ref _) (Value.int _ _)) _ _ _))); (first | (with_reducible refine ite_t ?_) | (with_reducible refine ite_f ?_) | (with_reducible refine ite_str_t (by with_reducible assumption) ?_) | (with_reducible refine ite_str_f (by with_reducible assumption) ?_) | (with_reducible refine ite_str (fun hc => ?_) (fun hc => ?_)) | (with_reducible refine ite_strne (fun hc => ?_) (fun hc => ?_)) | (with_reducible refine ite_dt (by omega) ?_) | (with_reducible refine ite_df (by omega) ?_) | (with_reducible refine ite_dby (fun hc => ?_) (fun hc => ?_)) | (with_reducible refine ite_by (fun hc => ?_) (fun hc => ?_)) | (k_unfold; (try dsimp only)) | ((with_reducible show wpAny _ _ (execs _ _) _ _ _); (try dsimp only); walk1) | walk1 | (dsimp only; walk1)))
        refine item_lst (vs := #[.ref b]) (v := .ref b) ⟨oa, N5.get (.head _), hac, na, had⟩ (by omega) (by omega) rfl ?_
        repeat' ((fail_if_success (first | (with_reducible show wpAny _ _ (call (Value.ref _) _) _ _ _))); (first | (with_reducible refine ite_t ?_) | (with_reducible refine ite_f ?_) | (with_reducible refine ite_str_t (by with_reducible assumption) ?_) | (with_reducible refine ite_str_f (by with_reducible assumption) ?_) | (with_reducible refine ite_str (fun hc => ?_) (fun hc => ?_)) | (with_reducible refine ite_strne (fun hc => ?_) (fun hc => ?_)) | (with_reducible refine ite_dt (by omega) ?_) | (with_reducible refine ite_df (by omega) ?_) | (with_reducible refine ite_dby (fun hc => ?_) (fun hc => ?_)) | (with_reducible refine ite_by (fun hc => ?_) (fun hc => ?_)) | (k_unfold; (try dsimp only)) | ((with_reducible show wpAny _ _ (execs _ _) _ _ _); (try dsimp only); walk1) | walk1 | (dsimp only; walk1)))
        have B5 := based_keeps BJ F5.keep
        refine wpAny_call (codeAny_mono (codeAny_le (join_spec (ws := ws) ⟨ob, N5.get (.tail _ (.head _)), hbc, nb, hbd⟩ su hn1 hw1 (by exact hg) B5 (KX.keeps F5.keep) (T.keeps F5.keep)) rfl (Nat.le_of_ble_eq_true rfl) (Nat.le_of_ble_eq_true rfl) rfl rfl) fun r s' hrr => ?_)
        obtain ⟨t', ps, rfl, B', hk', hg', hos'⟩ := hrr
        have hns := (LGe.ns_regrown (ps' := ps) B5 F5.ns).keeps hk'
        dsimp only
        refine wpAny_Name (wpAny_loadName_local rfl rfl hns rfl ?_)
        walk1
        rw [str_same hX]
        exact ⟨rfl, oldK_of BJ F5.keep B' hk', hos', hg'⟩
      · skip
        (with_reducible rename Fr _ _ _ _ => F5)
        (with_reducible rename News _ _ _ _ => N5)
        refine eq_nil_f (items := #[.ref b]) ⟨oa, N5.get (.tail _ (.head _)), hac, na, had⟩ (News.isListK N5 (.head _)) (Nat.le_of_ble_eq_true rfl) (by simp) ?_
        replace N5 := News.tail1 N5
        repeat' ((fail_if_success (first | (with_reducible show wpAny _ _ (subscriptTail _ _ (Value.ref _) (Value.int _ _)) _ _ _))); (first | (with_reducible refine ite_t ?_) | (with_reducible refine ite_f ?_) | (with_reducible refine ite_str_t (by with_reducible assumption) ?_) | (with_reducible refine ite_str_f (by with_reducible assumption) ?_) | (with_reducible refine ite_str (fun hc => ?_) (fun hc => ?_)) | (with_reducible refine ite_strne (fun hc => ?_) (fun hc => ?_)) | (with_reducible refine ite_dt (by omega) ?_) | (with_reducible refine ite_df (by omega) ?_) | (with_reducible refine ite_dby (fun hc => ?_) (fun hc => ?_)) | (with_reducible refine ite_by (fun hc => ?_) (fun hc => ?_)) | (k_unfold; (try dsimp only)) | ((with_reducible show wpAny _ _ (execs _ _) _ _ _); (try dsimp only); walk1) | walk1 | (dsimp only; walk1)))
        refine item_lst (vs := #[.ref b]) (v := .ref b) ⟨oa, N5.get (.head _), hac, na, had⟩ (by omega) (by omega) rfl ?_
        repeat' ((fail_if_success (first | (with_reducible show wpAny _ _ (call (Value.ref _) _) _ _ _))); (first | (with_reducible refine ite_t ?_) | (with_reducible refine ite_f ?_) | (with_reducible refine ite_str_t (by with_reducible assumption) ?_) | (with_reducible refine ite_str_f (by with_reducible assumption) ?_) | (with_reducible refine ite_str (fun hc => ?_) (fun hc => ?_)) | (with_reducible refine ite_strne (fun hc => ?_) (fun hc => ?_)) | (with_reducible refine ite_dt (by omega) ?_) | (with_reducible refine ite_df (by omega) ?_) | (with_reducible refine ite_dby (fun hc => ?_) (fun hc => ?_)) | (with_reducible refine ite_by (fun hc => ?_) (fun hc => ?_)) | (k_unfold; (try dsimp only)) | ((with_reducible show wpAny _ _ (execs _ _) _ _ _); (try dsimp only); walk1) | walk1 | (dsimp only; walk1)))
        have B5 := based_keeps BJ F5.keep
        refine wpAny_call (codeAny_mono (codeAny_le (join_spec (ws := ws) ⟨ob, N5.get (.tail _ (.head _)), hbc, nb, hbd⟩ su hn1 hw1 (by exact hg) B5 (KX.keeps F5.keep) (T.keeps F5.keep)) rfl (Nat.le_of_ble_eq_true rfl) (Nat.le_of_ble_eq_true rfl) rfl rfl) fun r s' hrr => ?_)
        obtain ⟨t', ps, rfl, B', hk', hg', hos'⟩ := hrr
        have hns := (LGe.ns_regrown (ps' := ps) B5 F5.ns).keeps hk'
        dsimp only
        refine wpAny_Name (wpAny_loadName_local rfl rfl hns rfl ?_)
        walk1
        rw [str_same hX]
        exact ⟨rfl, oldK_of BJ F5.keep B' hk', hos', hg'⟩
end Mine

set_option maxRecDepth 100000 in
set_option maxHeartbeats 8000000 in
theorem PySem.Challenge.cw_dz0102_01_holds : PySem.Challenge.rw_dz0102_01.Holds := by
  refine Mine.hd ?_
  k_fill
  intro w s₀ s₁ mg mb G Y fa o pm cd doc dV kV ho hd hcd hD hmg hg args vals as hpre hlay hrd hwl hlo
  have KX := kIn_of Y
  refine Ground.open G ?_
  intro T B D TE TW
  try (refine guard_noD D (by decide +kernel) ?_; clear D)
  have hfa : fa = 89 := by
    have e := mg_of (n := Str.ofString "law") KX T.g rfl
    have e2 := hmg.symm.trans e
    injection e2 with e2
    injection e2
  subst hfa
  clear hmg
  wrow_args hpre hlay hrd hwl hlo
  all_goals (first | refine callC_kw (enter_call ?_) | refine enter_call ?_ | refine callC_kw (enter_callW ?_) | refine enter_callW ?_ | w_how)
  rename_i ns hs hlay0 hL1 hr1 hl2 a1 a2 l vs a3 hL ra w1 r0 hI hr2 hc1 hc2
  have hn : ns.length ≤ 63 := by omega
  refine codeAny_mono (Mine.codeAny_le (Mine.law_spec hL hI hn (AllBare.of_eq hg) KX T) rfl (Nat.le_of_ble_eq_true rfl) (Nat.le_of_ble_eq_true rfl) rfl rfl) fun r s' hr => ?_
  obtain ⟨rfl, hold, hos, hg'⟩ := hr
  refine ⟨.inl ⟨_, .bool true, [], rfl, fun _ => rfl, .bool true, ?_, fun _ => ⟨.nil, fun _ ha => nomatch ha⟩⟩, hold, hos, hg'⟩
  first | (with_unfolding_all rfl) | decide | (simp [PySem.Challenge.rw_dz0102_01]; done)
