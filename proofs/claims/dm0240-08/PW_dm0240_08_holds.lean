import PyProof.Rows.All
import Wide.All
import OpenK.AllK
import Wide.FinOn
import PySem.Challenge.RW_dm0240_08
set_option Elab.async false
section
open PySem PySem.W PyProof.Rows PySem.Calls PySem.Builtin PySem.Builtin.Re
set_option Elab.async false
set_option maxRecDepth 100000
set_option maxHeartbeats 1000000
namespace Mine

/-- the control signs that the pattern finds -/
def ctl (c : Nat) : Bool := decide (c < 32) && c != 9 && c != 10 && c != 13

def reVals : Array Value := #[.int 14 0, .int 14 0, .int 4 0, .int 1 0, .int 1 0, .int 9 0, .int 4294957567 0, .int 0 0, .int 0 0, .int 0 0, .int 0 0, .int 0 0, .int 0 0, .int 0 0, .int 0 0, .int 13 0, .int 11 0, .int 9 0, .int 4294957567 0, .int 0 0, .int 0 0, .int 0 0, .int 0 0, .int 0 0, .int 0 0, .int 0 0, .int 0 0, .int 1 0]
def reCode : Array Nat := #[14, 14, 4, 1, 1, 9, 4294957567, 0, 0, 0, 0, 0, 0, 0, 0, 13, 11, 9, 4294957567, 0, 0, 0, 0, 0, 0, 0, 0, 1]

theorem ctl_bits (c : Nat) (hc : c < 32) : (4294957567 : Nat).testBit c = (c != 9 && c != 10 && c != 13) := by
  have : ∀ c : Fin 32, (4294957567 : Nat).testBit c.val = (c.val != 9 && c.val != 10 && c.val != 13) := by decide +kernel
  exact this ⟨c, hc⟩

theorem inSet_at (i : Nat) (hi : i = 5 ∨ i = 17) (c : Nat) (seen : Sre.Seen) : ∃ seen', Sre.inSet reCode c 28 i true seen = .ok (ctl c, seen') := by
  have key : ∀ i : Nat, (i = 5 ∨ i = 17) → ∀ seen, Sre.inSet reCode c 28 i true seen =
      (if (decide (c < 256) && (reCode.getD (i + (1 + c / 32)) 0).testBit (c % 32)) = true then .ok (true, seen.add 9) else .ok (false, (seen.add 9).add 0)) := by
    rintro i (rfl | rfl) seen
    · rfl
    · rfl
  rw [key i hi seen]
  have hb : (decide (c < 256) && (reCode.getD (i + (1 + c / 32)) 0).testBit (c % 32)) = ctl c := by
    by_cases h : c < 32
    · have e1 : c / 32 = 0 := by omega
      have e2 : c % 32 = c := by omega
      have e3 : reCode.getD (i + (1 + 0)) 0 = 4294957567 := by rcases hi with rfl | rfl <;> rfl
      rw [e1, e2, e3, ctl_bits c h]
      unfold ctl
      simp [h, show c < 256 by omega]
    · have hn : ctl c = false := by unfold ctl; simp [h]
      rw [hn]
      by_cases h2 : c < 256
      · have e1 : 1 ≤ c / 32 ∧ c / 32 ≤ 7 := by omega
        have : ∀ k : Fin 8, k.val ≠ 0 → reCode.getD (i + (1 + k.val)) 0 = 0 := by rcases hi with rfl | rfl <;> decide +kernel
        have e3 := this ⟨c / 32, by omega⟩ (by show c / 32 ≠ 0; omega)
        simp only at e3
        rw [e3]; simp
      · simp [h2]
  rw [hb]
  cases hcc : ctl c with
  | true => exact ⟨_, rfl⟩
  | false => exact ⟨_, rfl⟩

theorem admitted_spec (m : Sre.M) (hcode : m.code = reCode) (hlim : m.lim = m.text.size) : ∀ (fuel s : Nat) (seen : Sre.Seen), m.lim < fuel + s →
    (∃ seen', m.admitted fuel s seen = .ok (none, seen') ∧ ∀ j, s ≤ j → j < m.lim → ctl (m.text.getD j 0) = false) ∨
    (∃ j seen', m.admitted fuel s seen = .ok (some j, seen') ∧ j < m.lim ∧ ctl (m.text.getD j 0) = true)
  | 0, s, seen, h => .inl ⟨_, rfl, fun j h1 h2 => absurd (Nat.lt_of_le_of_lt h1 h2) (by omega)⟩
  | fuel + 1, s, seen, h => by
    unfold Sre.M.admitted
    by_cases hs : s ≥ m.lim
    · rw [if_pos hs]; exact .inl ⟨_, rfl, fun j h1 h2 => absurd h2 (by omega)⟩
    · rw [if_neg hs, hcode]
      obtain ⟨seen', e⟩ := inSet_at 5 (.inl rfl) (m.text.getD s 0) seen
      have esz : reCode.size = 28 := rfl
      rw [esz, e]
      cases hc : ctl (m.text.getD s 0) with
      | true => exact .inr ⟨s, _, rfl, by omega, hc⟩
      | false =>
        rcases admitted_spec m hcode hlim fuel (s + 1) seen' (by omega) with ⟨x, h1, h2⟩ | ⟨j, x, h1, h2, h3⟩
        · refine .inl ⟨x, h1, fun j h3 h4 => ?_⟩
          by_cases hj : j = s
          · subst hj; exact hc
          · exact h2 j (by omega) h4
        · exact .inr ⟨j, x, h1, h2, h3⟩


def m0 (x : Array Nat) : Sre.M :=
  { code := reCode, text := x, lim := x.size, start := 0, pc := 15, pos := 0, handed := 0, marks := #[], seen := ({} : Sre.Seen).add 14 }
theorem forSearch_eq (x : Array Nat) : Sre.forSearch reCode x 0 0 x.size false =
    if (decide (0 > x.size) || decide (x.size - 0 < 1)) = true then (m0 x).say false else ({ m0 x with lastStart := x.size } : Sre.M).attemptFrom 0 true := rfl

theorem forSearch_none (x : Array Nat) (h : ∀ j, j < x.size → ctl (x.getD j 0) = false) : ((Sre.forSearch reCode x 0 0 x.size false).runFor 4).outcome = some .failed := by
  rw [forSearch_eq]
  split
  · rfl
  · unfold Sre.M.attemptFrom
    have hf : ({ m0 x with lastStart := x.size } : Sre.M).hasFirstSet = true := rfl
    rw [hf]
    rcases admitted_spec { m0 x with lastStart := x.size } rfl rfl (x.size + 1 - 0) 0 ({ m0 x with lastStart := x.size } : Sre.M).seen (by show x.size < _; omega) with ⟨s', h1, _⟩ | ⟨j, s', h1, h2, h3⟩
    · show ((match ({ m0 x with lastStart := x.size } : Sre.M).admitted (x.size + 1 - 0) 0 ({ m0 x with lastStart := x.size } : Sre.M).seen with
        | .ok (some s, seen) => ({ m0 x with lastStart := x.size, mustAdvance := false, seen } : Sre.M).attemptAt s true
        | .ok (none, seen) => ({ m0 x with lastStart := x.size, seen } : Sre.M).say false
        | .error why => ({ m0 x with lastStart := x.size } : Sre.M).stick why).runFor 4).outcome = some .failed
      rw [h1]; rfl
    · exact absurd (h j h2) (by show ¬ ctl (x.getD j 0) = false; rw [show ctl (x.getD j 0) = true from h3]; simp)

theorem accepts_at (c : Nat) (seen : Sre.Seen) (h : ctl c = true) : ∃ seen', Sre.accepts reCode 15 c seen = .ok (true, seen') := by
  obtain ⟨s', e⟩ := inSet_at 17 (.inr rfl) c seen
  exact ⟨s', by rw [← h]; exact e⟩

theorem step_in (m : Sre.M) (h0 : m.outcome = none) (h1 : m.answer = none) (h2 : m.code = reCode) (h3 : m.pc = 15) (h4 : m.pos < m.lim) (h5 : ctl (m.text.getD m.pos 0) = true) :
    ∃ seen', m.step = { m with seen := seen', pc := 27, pos := m.pos + 1 } := by
  obtain ⟨code, text, lim, start, ls, wt, ma, pc, pos, handed, om, marks, lm, li, loops, inner, frames, weight, answer, seen, outcome⟩ := m
  dsimp only at h0 h1 h2 h3 h4 h5
  subst h0 h1 h2 h3
  obtain ⟨s', e⟩ := accepts_at (text.getD pos 0) (seen.add 13) h5
  refine ⟨s', ?_⟩
  show (if pos ≥ lim then _ else (match Sre.accepts reCode 15 (text.getD pos 0) (seen.add 13) with
    | .error why => _
    | .ok (false, seen) => _
    | .ok (true, seen) => _) : Sre.M) = _
  rw [if_neg (by omega), e]
  rfl

theorem forSearch_some (x : Array Nat) (h : ∃ j, j < x.size ∧ ctl (x.getD j 0) = true) : ((Sre.forSearch reCode x 0 0 x.size false).runFor 4).outcome = some .matched := by
  obtain ⟨j0, hj0, hc0⟩ := h
  rw [forSearch_eq]
  rw [if_neg (by rw [Bool.or_eq_true, decide_eq_true_eq, decide_eq_true_eq]; omega)]
  unfold Sre.M.attemptFrom
  have hf : ({ m0 x with lastStart := x.size } : Sre.M).hasFirstSet = true := rfl
  rw [hf]
  rcases admitted_spec { m0 x with lastStart := x.size } rfl rfl (x.size + 1 - 0) 0 ({ m0 x with lastStart := x.size } : Sre.M).seen (by show x.size < _; omega) with ⟨s', h1, h2⟩ | ⟨j, s', h1, h2, h3⟩
  · exact absurd (h2 j0 (Nat.zero_le _) hj0) (by show ¬ ctl (x.getD j0 0) = false; rw [hc0]; simp)
  · show ((match ({ m0 x with lastStart := x.size } : Sre.M).admitted (x.size + 1 - 0) 0 ({ m0 x with lastStart := x.size } : Sre.M).seen with
        | .ok (some s, seen) => ({ m0 x with lastStart := x.size, mustAdvance := false, seen } : Sre.M).attemptAt s true
        | .ok (none, seen) => ({ m0 x with lastStart := x.size, seen } : Sre.M).say false
        | .error why => ({ m0 x with lastStart := x.size } : Sre.M).stick why).runFor 4).outcome = some .matched
    rw [h1]
    show ((({ m0 x with lastStart := x.size, mustAdvance := false, seen := s' } : Sre.M).attemptAt j true).runFor 4).outcome = some .matched
    have e2 : ({ m0 x with lastStart := x.size, mustAdvance := false, seen := s' } : Sre.M).attemptAt j true =
      { m0 x with lastStart := x.size, mustAdvance := false, seen := s', start := j, pos := j, frames := [{ wait := .nextStart, pc := 15, pos := j, outermost := true }], weight := 1, pc := 15, handed := j, outermost := true } := rfl
    rw [e2]
    obtain ⟨s2, e3⟩ := step_in { m0 x with lastStart := x.size, mustAdvance := false, seen := s', start := j, pos := j, frames := [{ wait := .nextStart, pc := 15, pos := j, outermost := true }], weight := 1, pc := 15, handed := j, outermost := true } rfl rfl rfl rfl h2 h3
    show (Sre.M.runFor 3 (Sre.M.step { m0 x with lastStart := x.size, mustAdvance := false, seen := s', start := j, pos := j, frames := [{ wait := .nextStart, pc := 15, pos := j, outermost := true }], weight := 1, pc := 15, handed := j, outermost := true })).outcome = some .matched
    rw [e3]
    rfl


theorem slot_re_search : Slot "re.Pattern" "search" "re.Pattern.search" :=
  .of (owner := "re.Pattern") (n := "search") (by rw [typeLookup_type, builtinLookup_eq_fast]; kernel_rfl) (by decide +kernel) (by decide +kernel) (by decide +kernel)
    (by first | exact .inl (by decide +kernel) | exact .inr (by decide +kernel)) (by rw [isSubtype_type]; kernel_rfl)
theorem type_re_search : typeOf (.builtin "re.Pattern.search") = pure (.type "method_descriptor") := by show builtinType _ = _; rw [builtinType_eq_fast]; kernel_rfl
theorem entry_re_search : entryFor table "re.Pattern.search" = some Builtin.«re.Pattern.search» := entryFor_of_tree (by kernel_rfl)
theorem args_re_search (a b : Value) : argsOk "re.Pattern.search" ⟨[a, b], []⟩ := by unfold argsOk; kernel_rfl
theorem plainAttrs_re : PlainAttrs "re.Pattern" :=
  ⟨⟨"object.__getattribute__", by rw [typeLookup_type, builtinLookup_eq_fast]; kernel_rfl, by decide +kernel⟩, by rw [typeLookup_type, builtinLookup_eq_fast]; kernel_rfl⟩

section
variable {prog : Program} {w : World} {A : Around} {E : Value → Shared → Prop} {s : Shared}

theorem reRunToEnd_spec {m : Sre.M} {Q : Option Sre.M → Shared → Prop} (h : ((m.runFor 4).outcome = some .failed ∧ Q none s) ∨ ((m.runFor 4).outcome = some .matched ∧ Q (some (m.runFor 4)) s)) :
    wpAny (model prog w) A (reRunToEnd m) Q E s := by
  have hs : (m.runFor 4).outcome.isSome = true := by rcases h with h | h <;> rw [h.1] <;> rfl
  unfold reRunToEnd
  have e : reDrive (2 ^ 64) m = pure (m.runFor 4) := by
    show reDrive ((2 ^ 64 - 1) + 1) m = _
    unfold reDrive
    show (if ((m.runFor 4).outcome.isSome = true) then _ else _) = _
    rw [if_pos hs]; rfl
  rw [e]
  refine wpAny_bind (wpAny_pure ?_)
  refine wpAny_bind (wpAny_forIn_list _ (fun _ _ s' => s' = s) _ ?_ ?_ _ _ rfl)
  · rintro i rest b s' rfl
    split
    · exact wpAny_bind (wpAny_rule (wpAny_pure rfl))
    · exact wpAny_pure rfl
  · rintro b s' rfl
    rcases h with ⟨h1, h2⟩ | ⟨h1, h2⟩
    · rw [h1]; exact wpAny_pure h2
    · rw [h1]; exact wpAny_pure h2

/-- the pattern's object and its code's tuple -/
structure IsPat (h : Heap) (p T : Addr) : Prop where
  pat : ∃ a b, h.get? p = some { cls := .type "re.Pattern", data := .fields #[a, b, .int 0 0, .none, .none, .ref T, .int 0 0] }
  code : ∃ n, h.get? T = some { cls := .type "tuple", data := .seq reVals n }

theorem IsPat.keeps {h h' : Heap} {p T : Addr} (x : IsPat h p T) (k : ∀ b o, h.get? b = some o → h'.get? b = some o) : IsPat h' p T :=
  ⟨let ⟨a, b, e⟩ := x.pat; ⟨a, b, k _ _ e⟩, let ⟨n, e⟩ := x.code; ⟨n, k _ _ e⟩⟩

def hasCtl (x : Str) : Bool := x.cps.toList.any ctl

theorem reSearch {p T : Addr} {x : Str} {t : Tok} {Q : Value → Shared → Prop} (P : IsPat s.heap p T) (hx : x.length ≤ sizeLine) (hno : hasCtl x = false → Q .none s)
    (hyes : hasCtl x = true → ∀ a o1 o2, Q (.ref a) { s with heap := (s.heap.push o1).push o2 }) :
    wpAny (model prog w) A (call (.builtin "re.Pattern.search") [.ref p, .str x t]) Q E s := by
  obtain ⟨fa, fb, hp⟩ := P.pat
  obtain ⟨n, hT⟩ := P.code
  refine wpAny_call_entry slot_re_search ⟨_, hp, rfl⟩ entry_re_search ?_ (args_re_search _ _)
  unfold Builtin.«re.Pattern.search»
  have hn : reNamed "re.Pattern.search" "search" ["string", "pos", "endpos"] 1 [.str x t] [] = pure [some (.str x t), none, none] := by rfl
  have ht : reTarget "re.Pattern.search" "search" ⟨[.ref p, .str x t], []⟩ = (do
      let fs ← fieldsOf (.ref p)
      let want := reRawNat (fs.getD 6 .none)
      if want == 0 && (0 : Nat) == 1 then raiseError "TypeError" "cannot use a string pattern on a bytes-like object"
      if want == 1 && (0 : Nat) == 0 then raiseError "TypeError" "cannot use a bytes pattern on a string-like object"
      let code ← reRawItems (fs.getD 5 .none)
      pure ({ pattern := .ref p, string := .str x t, code := code.map (·.toNat), text := x.cps, kind := 0, groups := reRawNat (fs.getD 2 .none), pos := min 0 x.cps.size, lim := min (2 ^ 63 - 1 : Int).toNat x.cps.size } : ReTarget)) := by
    rfl
  have hsz : min (2 ^ 63 - 1 : Int).toNat x.cps.size = x.cps.size := by
    have : x.cps.size ≤ 2 ^ 24 := hx
    have h2 : (2 ^ 63 - 1 : Int).toNat = 9223372036854775807 := by decide
    rw [h2]; omega
  rw [hsz] at ht
  show wpAny (model prog w) A.in1 (reTarget "re.Pattern.search" "search" ⟨[.ref p, .str x t], []⟩ >>= fun t => reAnswer t (Sre.forSearch t.code t.text t.groups t.pos t.lim false)) _ _ s
  rw [ht]
  refine wpAny_bind (wpAny_bind (wpAny_fieldsOf hp rfl ?_))
  refine wpAny_bind (wpAny_bind ?_)
  refine wpAny_seqItems hT rfl ?_
  refine wpAny_pure (wpAny_pure ?_)
  have hcode : Array.map (fun x : Int => x.toNat) (Array.map reRawOf (Option.getD (some reVals) #[])) = reCode := by decide +kernel
  have hmin : min 0 x.cps.size = 0 := Nat.zero_min _
  show wpAny (model prog w) A.in1 (reAnswer ⟨.ref p, .str x t, Array.map (fun x : Int => x.toNat) (Array.map reRawOf (Option.getD (some reVals) #[])), x.cps, 0, 0, min 0 x.cps.size, x.cps.size⟩
    (Sre.forSearch (Array.map (fun x : Int => x.toNat) (Array.map reRawOf (Option.getD (some reVals) #[]))) x.cps 0 (min 0 x.cps.size) x.cps.size false)) _ _ s
  rw [hcode, hmin]
  unfold reAnswer
  refine wpAny_bind (reRunToEnd_spec ?_)
  have hget : ∀ j, j < x.cps.size → ctl (x.cps.getD j 0) = true → hasCtl x = true := by
    intro j hj hc
    unfold hasCtl
    rw [List.any_eq_true]
    refine ⟨x.cps.getD j 0, ?_, hc⟩
    rw [Array.getD_eq_getD_getElem?, Array.getElem?_eq_getElem hj]
    exact Array.mem_toList_iff.mpr (Array.getElem_mem hj)
  cases hcc : hasCtl x with
  | false =>
    refine .inl ⟨forSearch_none _ fun j hj => ?_, wpAny_pure ⟨_, rfl, hno hcc⟩⟩
    cases hq : ctl (x.cps.getD j 0) with
    | false => rfl
    | true => rw [hget j hj hq] at hcc; cases hcc
  | true =>
    have hex : ∃ j, j < x.cps.size ∧ ctl (x.cps.getD j 0) = true := by
      unfold hasCtl at hcc
      obtain ⟨c, hc, h2⟩ := List.any_eq_true.mp hcc
      obtain ⟨j, hj, e⟩ := Array.mem_iff_getElem.mp (Array.mem_toList_iff.mp hc)
      refine ⟨j, hj, ?_⟩
      rw [Array.getD_eq_getD_getElem?, Array.getElem?_eq_getElem hj]
      show ctl x.cps[j] = true
      rw [e]; exact h2
    refine .inr ⟨forSearch_some _ hex, ?_⟩
    refine wpAny_bind ?_
    unfold reNewMatch
    dsimp only [List.range, List.range.loop, List.flatMap_nil, List.any_nil]
    refine wpAny_bind (wpAny_newTuple ?_ ?_)
    · refine wpAny_newObj_type ?_ ?_
      · exact wpAny_pure ⟨_, rfl, hyes hcc _ _ _⟩
      · size_fits
    · show 2 ≤ sizeLine; decide
end
end Mine

end
section
open PySem PySem.W PyProof.Rows PySem.Calls PySem.Builtin PySem.Builtin.Re
set_option Elab.async false
set_option maxRecDepth 100000
set_option maxHeartbeats 1000000
namespace Mine

abbrev atop (dp un : Nat) (gd : Option (List Code)) (fr : List Env) : Around := { handled := none, depth := dp, frames := some fr, guards := gd, units := un }

/-- a call that changes nothing that stands -/
def PF (prog : Program) (w : World) (K : Frag) (p : Program) (loose : List Str) (mean : ExcName → Option Value) (mg mb : Str → Option Value) (d u : Nat) (f : Addr) (vs : List Value) (R : Value → Prop) : Prop :=
  ∀ (dp un : Nat) (gd : Option (List Code)) (fr : List Env) (base : Heap) (s : Shared) (Q E : Value → Shared → Prop),
    Below (atop dp un gd fr) base fr s.heap → K.In s.heap → Top p loose mean mg mb s.heap → dp + d < recursionLimit → un + u < cLine → 0 < s.toks →
    (∀ v h' tk', R v → s.heap.StaysIn h' → 0 < tk' → Q v { s with heap := h', toks := tk' }) →
    wpAny (model prog w) (atop dp un gd fr) (call (.ref f) vs) Q E s

/-- the end of such a call's body -/
def PEnd (g : Heap) (s : Shared) (R : Value → Prop) (v : Value) (s' : Shared) : Prop := ∃ h' tk', s' = { s with heap := h', toks := tk' } ∧ g.StaysIn h' ∧ 0 < tk' ∧ R v

theorem PEnd.mk {g : Heap} {s : Shared} {R : Value → Prop} {v : Value} {h' : Heap} {tk' : Nat} {L : Addr} {m : Str → Option Value} (F : Fr g L h' m) (ht : 0 < tk') (hR : R v) : PEnd g s R v { s with heap := h', toks := tk' } :=
  ⟨h', tk', rfl, F.keep, ht, hR⟩

section
variable {prog : Program} {w : World} {K : Frag} {p : Program} {loose : List Str} {mean : ExcName → Option Value} {mg mb : Str → Option Value} {d u : Nat} {f : Addr} {vs : List Value} {R : Value → Prop}

theorem PF.enter {name qual : Str} {params : Arguments} {body : List Stmt} {scope : Scope} {dV kV doc pm cdv ct oc : Value} {an od : Option Addr} {osl : Array (Option Value)} {binds : List (Str × Value)}
    (ho : K.lookup f = some ⟨oc, od, .func (fnOf name qual params body scope dV kV doc pm an cdv ct), osl⟩) (hcd : codeIn K cdv qual = true)
    (hbind : bindArgs (fnOf name qual params body scope dV kV doc pm an cdv ct) ⟨vs, []⟩ = pure binds) (hloc : (binds.all fun x => decide (scope.names.lookup x.1 = some .local)) = true)
    (hcell : ∀ x ∈ scope.names, x.2 ≠ .cell) (hco : scope.isCoroutine = false) (hgen : scope.isGenerator = false) (hk : scope.kind = .function)
    (h : ∀ (dp un : Nat) (gd : Option (List Code)) (fr : List Env) (base g : Heap) (L : Addr) (h₁ : Heap) (s : Shared),
      Below (atop dp un gd fr) base fr g → K.In g → Top p loose mean mg mb g → Fr g L h₁ (fun y => binds.reverse.lookup y) → News g L h₁ [] → dp + d < recursionLimit → un + u < cLine → ∀ tk, 0 < tk →
      wpAny (model prog w) ((atop dp un gd fr).deeper (envOf qual scope L f cdv)) (execs body (envOf qual scope L f cdv))
        (fun fl s' => PEnd g s R (match fl with | .ret v => v | _ => .none) s') (fun _ _ => False) { s with heap := h₁, toks := tk })
    (hd : 0 < d) : PF prog w K p loose mean mg mb d u f vs R := by
  intro dp un gd fr base s Q E B X T h1 h2 h3 hq
  refine wpAny_call (codeAny_call_def (fd := fnOf name qual params body scope dV kV doc pm an cdv ct) (body := body) (binds := binds) (by show dp < _; omega) (X _ _ ho) rfl T.nolimit (codeRec_of X hcd) rfl (BindsTo.of_eq hbind) hcell (locs hloc) (fun h₁ hns hk₁ => ?_) hco hgen hk)
  refine wpAny_mono (h dp un gd fr base s.heap s.heap.objs.size h₁ s B X T ⟨hns, hk₁, Nat.le_refl _⟩ News.nil h1 h2 _ (Nat.lt_of_lt_of_le h3 (Nat.le_add_right _ _))) (fun fl s' hp => ?_) fun _ _ y => y.elim
  obtain ⟨h', tk', e, hst, ht, hR⟩ := hp
  subst e
  exact hq _ h' tk' hR hst ht

/-- a call of a contract's def out of a def's frame -/
theorem PF.call {dp un : Nat} {gd : Option (List Code)} {fr : List Env} {base g : Heap} {L a : Addr} {m : Str → Option Value} {news : List (Addr × Obj)} {name : Str} {scope : Scope} {cd : Value} {s : Shared} {Q E : Value → Shared → Prop}
    (C : PF prog w K p loose mean mg mb d u f vs R) (B : Below (atop dp un gd fr) base fr g) (X : K.In g) (T : Top p loose mean mg mb g) (F : Fr g L s.heap m) (N : News g L s.heap news)
    (hd : dp + 1 + d < recursionLimit) (hu : un + 3 + u < cLine) (ht : 0 < s.toks)
    (h : ∀ v h' tk', R v → Fr g L h' m → News g L h' news → 0 < tk' → Q v { s with heap := h', toks := tk' }) (hk : scope.kind = .function := by rfl) :
    wpAny (model prog w) ((atop dp un gd fr).deeper (envOf name scope L a cd)) (call (.ref f) vs) Q E s :=
  C (dp + 1) (un + 3) gd (envOf name scope L a cd :: fr) base s Q E (B.push F hk) (X.keeps F.keep) (T.keeps F.keep) hd hu ht fun v h' tk' r k =>
    h v h' tk' r (F.keeps k) fun q hq => ⟨k _ _ (N q hq).1, (N q hq).2⟩
end

theorem gen_toks {α : Type} {M : Model} {A : Around} {t : Sem α} {Q : α → Shared → Prop} {E : Value → Shared → Prop} {h : Heap} {g : Array GenState} {d : Drawn} {o : OsState} {n : Nat} (h0 : 0 < n) (k : ∀ tk, 0 < tk → wpAny M A t Q E ⟨h, g, d, tk, o⟩) :
    wpAny M A t Q E ⟨h, g, d, n, o⟩ := k n h0

theorem getMethod_search {M : Model} {A : Around} {E : Value → Shared → Prop} {s : Shared} {p T : Addr} {pl : Sem Bool} {Q : Value × List Value → Shared → Prop} (P : IsPat s.heap p T)
   (h : Q (.builtin "re.Pattern.search", [.ref p]) s) : wpAny M A (getMethod (.ref p) "search" pl) Q E s := by
  obtain ⟨a, b, e⟩ := P.pat
  exact getMethod_builtin ⟨_, e, rfl⟩ plainAttrs_re slot_re_search type_re_search (fun x hx => by cases hx; exact ⟨_, e, rfl⟩) h

section
open Builtin.Str
variable {prog : Program} {w : World} {A : Around} {E : Value → Shared → Prop} {s : Shared} {x y z : Str} {t u v : Tok} {Q : Value → Shared → Prop}
/-- str.replace, with what is known of the token -/
theorem replaceT (hu : 0 < u) (hv : 0 < v) (huv : u ≠ v) (hyz : (y == z) = false) (hb : x.length + (x.length + 1) * z.length ≤ 16777216) (hs : 0 < s.toks)
    (hq : ∀ t' k, 0 < k → Q (.str (Txt.replace x y z) t') { s with toks := k }) : wpAny (model prog w) A (call (.builtin "str.replace") [.str x t, .str y u, .str z v]) Q E s := by
  have hl : tooLong (x.length + (occurrences x y 0 x.length (x.length + 1)).length * z.length) = false := by
    have h1 := StrLaws.occ_length_le x y 0 x.length (x.length + 1)
    have h2 : (occurrences x y 0 x.length (x.length + 1)).length * z.length ≤ (x.length + 1) * z.length := Nat.mul_le_mul_right _ h1
    unfold tooLong sizeLine
    exact decide_eq_false (by omega)
  have hu' : u ≠ 0 := Nat.ne_of_gt hu
  have hv' : v ≠ 0 := Nat.ne_of_gt hv
  refine call_gives F.slot_str_replace (typeIs_str _ _ _) F.entry_str_replace (F.args_str_replace_3 _ _ _)
    (gives_str_replace x y z t u v fun _ => ⟨by simp [hu', hv'], by simp [huv], hyz, hl⟩) ?_
  have hq' := hq
  unfold Txt.replace at hq'
  cases hc : ((occurrences x y 0 x.length (x.length + 1)).isEmpty || (y.length == 0 && z.length == 0))
  · rw [hc] at hq'
    simp only [Bool.false_eq_true, if_false] at hq' ⊢
    exact ⟨fits_replaced y hb, hq' _ _ (Nat.succ_pos _)⟩
  · rw [hc] at hq'
    simp only [if_true] at hq' ⊢
    exact hq' t s.toks hs
end
end Mine

end
section
open PySem PySem.W PyProof.Rows PySem.Calls PySem.Builtin PySem.Builtin.Re
set_option Elab.async false
set_option maxRecDepth 100000
set_option maxHeartbeats 1000000
namespace Mine
open StrLaws Builtin.Str

/-- replace, sign by sign; the number says how many signs are still to be passed over -/
def replGo (y z : List Nat) : Nat → List Nat → List Nat
  | _, [] => []
  | k + 1, _ :: r => replGo y z k r
  | 0, c :: r => if y.isPrefixOf (c :: r) then z ++ replGo y z (y.length - 1) r else c :: replGo y z 0 r

theorem replGo_nil (y z : List Nat) (k : Nat) : replGo y z k [] = [] := by cases k <;> rfl
theorem replGo_skip (y z : List Nat) : ∀ (k : Nat) (l : List Nat), replGo y z k l = replGo y z 0 (l.drop k)
  | 0, l => by simp
  | k + 1, [] => by simp [replGo_nil]
  | k + 1, _ :: r => by rw [List.drop_succ_cons]; exact replGo_skip y z k r
theorem replGo_none (y z : List Nat) : ∀ l : List Nat, (∀ k, y.isPrefixOf (l.drop k) = false ∨ l.length ≤ k) → replGo y z 0 l = l
  | [], _ => rfl
  | c :: r, h => by
    have h0 := (h 0).resolve_right (by simp)
    rw [List.drop_zero] at h0
    unfold replGo
    rw [h0, if_neg Bool.false_ne_true, replGo_none y z r fun k => (h (k + 1)).imp (fun e => by simpa using e) fun e => by simpa using e]
theorem replGo_at (y z : List Nat) (hy : 1 ≤ y.length) : ∀ (c : Nat) (l : List Nat), c + y.length ≤ l.length → (∀ k, k < c → y.isPrefixOf (l.drop k) = false) → y.isPrefixOf (l.drop c) = true →
    replGo y z 0 l = l.take c ++ z ++ replGo y z 0 (l.drop (c + y.length))
  | 0, [], hl, _, _ => by have : (0 : Nat) + y.length ≤ 0 := hl; omega
  | 0, a :: r, _, _, h => by
    rw [List.drop_zero] at h
    rw [replGo, h, if_pos rfl, replGo_skip]
    obtain ⟨n, hn⟩ : ∃ n, y.length = n + 1 := ⟨y.length - 1, by omega⟩
    rw [hn]
    have e1 : n + 1 - 1 = n := rfl
    have e2 : 0 + (n + 1) = n + 1 := by omega
    rw [e1, e2, List.drop_succ_cons, List.take_zero, List.nil_append]
  | c + 1, [], hl, _, _ => by simp at hl
  | c + 1, a :: r, hl, hn, h => by
    have h0 := hn 0 (by omega)
    rw [List.drop_zero] at h0
    have hl' : c + y.length ≤ r.length := by simp at hl; omega
    rw [replGo, h0, if_neg Bool.false_ne_true, replGo_at y z hy c r hl' (fun k hk => by simpa using hn (k + 1) (by omega)) (by simpa using h)]
    have e : c + 1 + y.length = (c + y.length) + 1 := by omega
    rw [e]; simp

theorem at_iff (x y : Str) (hw : 1 ≤ y.length) (i : Nat) : At x y x.length i ↔ y.cps.toList.isPrefixOf (x.cps.toList.drop i) = true := by
  unfold At
  rw [subAt_eq, beq_iff_eq, List.isPrefixOf_iff_prefix]
  have hyl : y.cps.toList.length = y.length := by simp [Str.length]
  have hxl : x.cps.toList.length = x.length := by simp [Str.length]
  constructor
  · rintro ⟨_, h2⟩
    rw [← h2]; exact List.take_prefix _ _
  · intro h
    have hlen := h.length_le
    rw [List.length_drop, hyl, hxl] at hlen
    refine ⟨by omega, ?_⟩
    have := List.prefix_iff_eq_take.mp h
    rw [hyl] at this
    exact this.symm

theorem replace_toList (x y z : Str) (hw : 1 ≤ y.length) : (Txt.replace x y z).cps.toList = replGo y.cps.toList z.cps.toList 0 x.cps.toList := by
  obtain ⟨f, hch, hno⟩ := occ_tight x y hw
  have hyl : y.cps.toList.length = y.length := by simp [Str.length]
  have hxl : x.cps.toList.length = x.length := by simp [Str.length]
  have key : ∀ (cuts : List Nat) (a : Nat), ChainG x y x.length a cuts f → (Str.join z (partsFrom x y.length a cuts)).cps.toList = replGo y.cps.toList z.cps.toList 0 (x.cps.toList.drop a) := by
    intro cuts
    induction cuts with
    | nil =>
      intro a h
      have e : f = a := h
      subst e
      show (strSub x f x.length).cps.toList = _
      rw [strSub_toList, replGo_none]
      · rw [List.take_of_length_le]; rw [List.length_drop, hxl]; exact Nat.le_refl _
      · intro k
        left
        have := hno (f + k) (by omega)
        rw [at_iff x y hw] at this
        rw [List.drop_drop]
        exact Bool.eq_false_iff.mpr this
    | cons c r ih =>
      intro a h
      obtain ⟨h1, h2, h3, h4⟩ := h
      have ih' := ih _ h4
      have hj : Str.join z (partsFrom x y.length a (c :: r)) = strSub x a c ++ z ++ Str.join z (partsFrom x y.length (c + y.length) r) := by
        show Str.join z (strSub x a c :: partsFrom x y.length (c + y.length) r) = _
        obtain ⟨p, q, e⟩ := partsFrom_ne x y.length (c + y.length) r
        rw [e]; rfl
      rw [hj]
      simp only [Str.cps_append, Array.toList_append]
      rw [ih', strSub_toList]
      have hin : c + y.length ≤ x.length := h2.1
      rw [replGo_at y.cps.toList z.cps.toList (by rw [hyl]; exact hw) (c - a) (x.cps.toList.drop a)]
      · rw [List.drop_drop, hyl]
        have e : a + (c - a + y.length) = c + y.length := by omega
        rw [e]
      · rw [List.length_drop, hyl, hxl]; omega
      · intro k hk
        have := h3 (a + k) (by omega) (by omega)
        rw [at_iff x y hw] at this
        rw [List.drop_drop]
        exact Bool.eq_false_iff.mpr this
      · rw [List.drop_drop]
        have e : a + (c - a) = c := by omega
        rw [e]; exact (at_iff x y hw c).mp h2
  unfold Txt.replace
  have h10 : (y.length == 0) = false := by
    cases hh : (y.length == 0) with
    | false => rfl
    | true => have := beq_iff_eq.mp hh; omega
  rw [h10, Bool.false_and, Bool.or_false]
  cases he : (occurrences x y 0 x.length (x.length + 1)).isEmpty
  · rw [if_neg Bool.false_ne_true, glued_eq_join, partsBetween_eq]
    have := key _ 0 hch
    rwa [List.drop_zero] at this
  · rw [if_pos rfl]
    have he' : occurrences x y 0 x.length (x.length + 1) = [] := List.isEmpty_iff.mp he
    rw [he'] at hch
    have := key [] 0 hch
    rw [List.drop_zero] at this
    rw [← this]
    show x.cps.toList = (strSub x 0 x.length).cps.toList
    rw [sub_whole]

theorem replGo_one (c : Nat) (z : List Nat) : ∀ l : List Nat, replGo [c] z 0 l = l.flatMap fun k => if k = c then z else [k]
  | [] => rfl
  | a :: r => by
    rw [replGo, List.flatMap_cons]
    have e : List.isPrefixOf [c] (a :: r) = decide (a = c) := by
      simp [List.isPrefixOf]
      by_cases h : a = c
      · simp [h]
      · simp [h]; exact fun e => h e.symm
    rw [e]
    by_cases h : a = c
    · simp only [h, decide_true, if_true]
      show z ++ replGo [c] z 0 r = _
      rw [replGo_one c z r]
    · simp only [h, decide_false, if_false, Bool.false_eq_true]
      rw [replGo_one c z r]; rfl

/-- CR LF as LF -/
def crlf : List Nat → List Nat
  | [] => []
  | 13 :: 10 :: r => 10 :: crlf r
  | c :: r => c :: crlf r

def escC (k : Nat) : List Nat := if k = 13 then [10] else if k = 38 then [38, 97, 109, 112, 59] else if k = 60 then [38, 108, 116, 59] else if k = 62 then [38, 103, 116, 59] else [k]
def escL (l : List Nat) : List Nat := (crlf l).flatMap escC
def escS (x : Str) : Str := ⟨(escL x.cps.toList).toArray⟩

theorem crlf_eq : ∀ l : List Nat, replGo [13, 10] [10] 0 l = crlf l
  | [] => rfl
  | [a] => by unfold replGo; simp [List.isPrefixOf, replGo]; unfold crlf; simp [crlf]
  | a :: b :: r => by
    unfold replGo
    by_cases h : a = 13 ∧ b = 10
    · obtain ⟨rfl, rfl⟩ := h
      have e : List.isPrefixOf [13, 10] (13 :: 10 :: r) = true := by simp [List.isPrefixOf]
      rw [e, if_pos rfl]
      show 10 :: replGo [13, 10] [10] 1 (10 :: r) = 10 :: crlf r
      rw [replGo_skip]
      show 10 :: replGo [13, 10] [10] 0 r = _
      rw [crlf_eq r]
    · have e : List.isPrefixOf [13, 10] (a :: b :: r) = false := by
        simp [List.isPrefixOf]
        intro h1 h2
        exact h ⟨h1.symm, h2.symm⟩
      rw [e, if_neg Bool.false_ne_true, crlf_eq (b :: r)]
      symm
      apply crlf.eq_3
      intro r' h1 h2
      apply h
      simp at h2
      exact ⟨h1, h2.1⟩

theorem escS_eq (x : Str) : Txt.replace (Txt.replace (Txt.replace (Txt.replace (Txt.replace x ⟨#[13, 10]⟩ ⟨#[10]⟩) ⟨#[13]⟩ ⟨#[10]⟩) ⟨#[38]⟩ ⟨#[38, 97, 109, 112, 59]⟩) ⟨#[60]⟩ ⟨#[38, 108, 116, 59]⟩) ⟨#[62]⟩ ⟨#[38, 103, 116, 59]⟩ = escS x := by
  refine Str.ext' ?_
  apply Array.ext'
  rw [replace_toList _ _ _ (by decide), replace_toList _ _ _ (by decide), replace_toList _ _ _ (by decide), replace_toList _ _ _ (by decide), replace_toList _ _ _ (by decide)]
  show replGo [62] [38, 103, 116, 59] 0 (replGo [60] [38, 108, 116, 59] 0 (replGo [38] [38, 97, 109, 112, 59] 0 (replGo [13] [10] 0 (replGo [13, 10] [10] 0 x.cps.toList)))) = (escL x.cps.toList).toArray.toList
  rw [crlf_eq, replGo_one, replGo_one, replGo_one, replGo_one, List.flatMap_assoc, List.flatMap_assoc, List.flatMap_assoc]
  show _ = escL x.cps.toList
  unfold escL
  congr 1
  funext k
  unfold escC
  by_cases h1 : k = 13
  · subst h1; decide
  by_cases h2 : k = 38
  · subst h2; decide
  by_cases h3 : k = 60
  · subst h3; decide
  by_cases h4 : k = 62
  · subst h4; decide
  simp [h1, h2, h3, h4]
theorem lit_crlf : Str.ofString "\u000d\n" = ⟨#[13, 10]⟩ := by decide
theorem lit_cr : Str.ofString "\u000d" = ⟨#[13]⟩ := by decide
theorem lit_lf : Str.ofString "\n" = ⟨#[10]⟩ := by decide
theorem lit_am : Str.ofString "&" = ⟨#[38]⟩ := by decide
theorem lit_amp : Str.ofString "&amp;" = ⟨#[38, 97, 109, 112, 59]⟩ := by decide
theorem lit_l : Str.ofString "<" = ⟨#[60]⟩ := by decide
theorem lit_lt : Str.ofString "&lt;" = ⟨#[38, 108, 116, 59]⟩ := by decide
theorem lit_g : Str.ofString ">" = ⟨#[62]⟩ := by decide
theorem lit_gt : Str.ofString "&gt;" = ⟨#[38, 103, 116, 59]⟩ := by decide

abbrev es1 (x : Str) : Str := Txt.replace x (Str.ofString "\u000d\n") (Str.ofString "\n")
abbrev es2 (x : Str) : Str := Txt.replace (es1 x) (Str.ofString "\u000d") (Str.ofString "\n")
abbrev es3 (x : Str) : Str := Txt.replace (es2 x) (Str.ofString "&") (Str.ofString "&amp;")
abbrev es4 (x : Str) : Str := Txt.replace (es3 x) (Str.ofString "<") (Str.ofString "&lt;")
abbrev es5 (x : Str) : Str := Txt.replace (es4 x) (Str.ofString ">") (Str.ofString "&gt;")

theorem es5_eq (x : Str) : es5 x = escS x := by
  unfold es5 es4 es3 es2 es1
  rw [lit_crlf, lit_cr, lit_lf, lit_am, lit_amp, lit_l, lit_lt, lit_g, lit_gt]
  exact escS_eq x

theorem str_len (x : Str) : x.length = x.cps.toList.length := by simp [Str.length]

theorem replGo_len (y z : List Nat) (c : Nat) (hc : 1 ≤ c) (hz : z.length ≤ c) : ∀ (k : Nat) (l : List Nat), (replGo y z k l).length ≤ c * l.length
  | _, [] => by rw [replGo_nil]; simp
  | k + 1, _ :: r => by
    have := replGo_len y z c hc hz k r
    rw [replGo, List.length_cons, Nat.mul_add]; omega
  | 0, a :: r => by
    have h1 := replGo_len y z c hc hz (y.length - 1) r
    have h2 := replGo_len y z c hc hz 0 r
    rw [replGo, List.length_cons, Nat.mul_add]
    split
    · rw [List.length_append]; omega
    · rw [List.length_cons]; omega

theorem replace_len (x y z : Str) (c : Nat) (hy : 1 ≤ y.length) (hc : 1 ≤ c) (hz : z.length ≤ c) : (Txt.replace x y z).length ≤ c * x.length := by
  rw [str_len, str_len x, replace_toList x y z hy]
  exact replGo_len _ _ c hc (by rw [← str_len]; exact hz) 0 _

section
variable {prog : Program} {w : World} {A : Around} {E : Value → Shared → Prop} {s : Shared} {x y z : Str} {t u v : Tok} {Q : Value → Shared → Prop}
/-- the same, its text a letter -/
theorem replaceE (c B : Nat) (hu : 0 < u) (hv : 0 < v) (huv : u ≠ v) (hs : 0 < s.toks) (hx : x.length ≤ B) (hy : 1 ≤ y.length) (hc : 1 ≤ c) (hz : z.length ≤ c) (hB : B + (B + 1) * c ≤ 16777216) (hyz : (y == z) = false)
    (hq : ∀ r t' k, r = Txt.replace x y z → r.length ≤ c * B → 0 < k → Q (.str r t') { s with toks := k }) : wpAny (model prog w) A (call (.builtin "str.replace") [.str x t, .str y u, .str z v]) Q E s := by
  refine replaceT hu hv huv hyz ?_ hs fun t' k => hq _ t' k rfl ?_
  · have h1 : (x.length + 1) * z.length ≤ (B + 1) * c := Nat.mul_le_mul (by omega) hz
    omega
  · exact Nat.le_trans (replace_len x y z c hy hc hz) (Nat.mul_le_mul_left _ hx)
end
end Mine

end
section
open PySem PySem.W PyProof.Rows PySem.Calls
set_option Elab.async false
set_option maxRecDepth 100000
set_option maxHeartbeats 1000000
namespace Mine

theorem runs_toks {M : Model} {Γ : Ctx} {p : Pos} {t : Sem Fin} {fs : List Frame} {s : Shared} {e : End} {s' : Shared} (h : Runs M Γ p t fs s e s') : s.toks ≤ s'.toks := by
  induction h <;> first
    | exact Nat.le_refl _
    | assumption
    | (simp only [Shared.setGen] at *; omega)
    | omega

theorem wp_toks {α : Type} (M : Model) (Γ : Ctx) (t : Sem α) : ∀ (Q : α → Pos → Shared → Prop) (E : Value → Pos → Shared → Prop) (p : Pos) (s : Shared), Sem.wp M Γ t Q E p s →
    Sem.wp M Γ t (fun a p' s' => Q a p' s' ∧ s.toks ≤ s'.toks) (fun e p' s' => E e p' s' ∧ s.toks ≤ s'.toks) p s := by
  induction t with
  | pure a => intro Q E p s h; unfold Sem.wp at h ⊢; exact ⟨h, Nat.le_refl _⟩
  | raise e => intro Q E p s h; unfold Sem.wp at h ⊢; exact ⟨h, Nat.le_refl _⟩
  | unsupported w => intro Q E p s h; unfold Sem.wp at h ⊢; exact h
  | finish w => intro Q E p s h; unfold Sem.wp at h ⊢; exact h
  | rule t k ih => intro Q E p s h; unfold Sem.wp at h ⊢; exact ih _ _ _ _ _ h
  | «at» t k ih => intro Q E p s h; unfold Sem.wp at h ⊢; exact ih _ _ _ _ _ h
  | load a q k ih => intro Q E p s h; unfold Sem.wp at h ⊢; obtain ⟨o, h1, h2⟩ := h; exact ⟨o, h1, ih _ _ _ _ _ h2⟩
  | update a q f k ih => intro Q E p s h; unfold Sem.wp at h ⊢; exact ⟨h.1, ih _ _ _ _ _ h.2⟩
  | alloc o k ih => intro Q E p s h; unfold Sem.wp at h ⊢; exact ih _ _ _ _ _ h
  | loadIfAlive a k ih => intro Q E p s h; unfold Sem.wp at h ⊢; exact ih _ _ _ _ _ h
  | point l k ih => intro Q E p s h; unfold Sem.wp at h ⊢; exact ih _ _ _ _ _ h
  | register a k ih => intro Q E p s h; unfold Sem.wp at h ⊢; exact h
  | fresh k ih =>
    intro Q E p s h; unfold Sem.wp at h ⊢
    exact Sem.wp_mono M Γ _ (fun a p' s' h' => ⟨h'.1, Nat.le_trans (Nat.le_succ _) h'.2⟩) (fun a p' s' h' => ⟨h'.1, Nat.le_trans (Nat.le_succ _) h'.2⟩) _ _ (ih _ _ _ _ _ h)
  | ask k ih => intro Q E p s h; unfold Sem.wp at h ⊢; exact ih _ _ _ _ _ h
  | choose src n k ih => intro Q E p s h; unfold Sem.wp at h ⊢; exact ⟨h.1, ih _ _ _ _ _ h.2⟩
  | os q l k ih => intro Q E p s h; unfold Sem.wp at h ⊢; exact ih _ _ _ _ _ h
  | call c hd g l k ih =>
    intro Q E p s h; unfold Sem.wp at h ⊢
    obtain ⟨r, s₁, h1, h2⟩ := h
    have hle := runs_toks h1
    exact ⟨r, s₁, h1, Sem.wp_mono M Γ _ (fun a p' s' h' => ⟨h'.1, Nat.le_trans hle h'.2⟩) (fun a p' s' h' => ⟨h'.1, Nat.le_trans hle h'.2⟩) _ _ (ih _ _ _ _ _ h2)⟩
  | handled own k ih => intro Q E p s h; unfold Sem.wp at h ⊢; exact ih _ _ _ _ _ h
  | newGen c k ih => intro Q E p s h; unfold Sem.wp at h ⊢; exact ih _ _ _ _ _ h
  | genState g k ih => intro Q E p s h; unfold Sem.wp at h ⊢; obtain ⟨o, h1, h2⟩ := h; exact ⟨o, h1, ih _ _ _ _ _ h2⟩
  | resume g r l k ih =>
    intro Q E p s h; unfold Sem.wp at h ⊢
    obtain ⟨r', s₁, h1, h2⟩ := h
    have hle : s.toks ≤ s₁.toks := by
      unfold Wakes at h1
      split at h1
      · exact h1.elim
      · split at h1
        · obtain ⟨e1, s2, h3, _, _, rfl⟩ := h1
          have := runs_toks h3
          simp only [Shared.setGen] at *; exact this
        · obtain ⟨_, rfl⟩ := h1; exact Nat.le_refl _
        · obtain ⟨_, rfl⟩ := h1; simp only [Shared.setGen]; exact Nat.le_refl _
      all_goals first
        | (obtain ⟨e1, s2, h3, _, _, rfl⟩ := h1
           have := runs_toks h3
           simp only [Shared.setGen] at *; exact this)
        | (obtain ⟨_, rfl⟩ := h1; first | exact Nat.le_refl _ | (simp only [Shared.setGen]; exact Nat.le_refl _))
    exact ⟨r', s₁, h1, Sem.wp_mono M Γ _ (fun a p' s' h' => ⟨h'.1, Nat.le_trans hle h'.2⟩) (fun a p' s' h' => ⟨h'.1, Nat.le_trans hle h'.2⟩) _ _ (ih _ _ _ _ _ h2)⟩
  | yield v g l k ih => intro Q E p s h; unfold Sem.wp at h ⊢; exact h
  | stack k ih => intro Q E p s h; unfold Sem.wp at h ⊢; exact ih _ _ _ _ _ h
  | fork c k ih => intro Q E p s h; unfold Sem.wp at h ⊢; exact h
  | thread k ih => intro Q E p s h; unfold Sem.wp at h ⊢; exact ih _ _ _ _ _ h
  | await a t d l k ih => intro Q E p s h; unfold Sem.wp at h ⊢; exact h

/-- tokens never fall -/
theorem wpAny_toks {α : Type} {M : Model} {A : Around} {t : Sem α} {Q : α → Shared → Prop} {E : Value → Shared → Prop} {s : Shared} (h : wpAny M A t Q E s) :
    wpAny M A t (fun a s' => Q a s' ∧ s.toks ≤ s'.toks) (fun e s' => E e s' ∧ s.toks ≤ s'.toks) s := fun Γ p hΓ => wp_toks M Γ t _ _ p s (h Γ p hΓ)

theorem wpAny_pos {α : Type} {M : Model} {A : Around} {t : Sem α} {Q : α → Shared → Prop} {E : Value → Shared → Prop} {s : Shared} (h0 : 0 < s.toks) (h : wpAny M A t (fun a s' => 0 < s'.toks → Q a s') (fun e s' => 0 < s'.toks → E e s') s) :
    wpAny M A t Q E s := wpAny_mono (wpAny_toks h) (fun _ _ h' => h'.1 (Nat.lt_of_lt_of_le h0 h'.2)) fun _ _ h' => h'.1 (Nat.lt_of_lt_of_le h0 h'.2)
end Mine

end
section
open PySem PySem.W PyProof.Rows PySem.Calls
set_option Elab.async false
set_option maxRecDepth 100000
set_option maxHeartbeats 1000000
namespace Mine

/-- a mark at which the walk stands still -/
def Halt (P : Prop) : Prop := P
theorem halt {P : Prop} (h : Halt P) : P := h
theorem go_on {P : Prop} (h : P) : Halt P := h

abbrev NoE : Value → Shared → Prop := fun _ _ => False

/-- the locals of a loop: those named, those forgotten, the rest -/
abbrev locs4 (m₀ u : Str → Option Value) (stored : List Str) (ps : List (Str × Value)) : Str → Option Value := kstB (fun z => if stored.contains z then u z else m₀ z) ps

def AllNe (I : Addr) : List (Addr × Obj) → Prop
  | [] => True
  | p :: r => @Ne Nat p.1 I ∧ AllNe I r
theorem allNe_iff {I : Addr} : ∀ {l : List (Addr × Obj)}, AllNe I l ↔ ∀ p ∈ l, p.1 ≠ I
  | [] => by simp [AllNe]
  | p :: r => by unfold AllNe; rw [allNe_iff, List.forall_mem_cons]

section
variable {prog : Program} {w : World} {A : Around} {s : Shared} {env : Env} {h₀ : Heap} {x : Str} {px : Pos} {body : List Stmt} {Q : Flow → Shared → Prop}

/-- behind a turn -/
def SEnd {σ : Type} (h₀ : Heap) (L : Addr) (Led : σ → List (Addr × Obj)) (ps : σ → List (Str × Value)) (nm : Str → Prop) (stored : List Str) (m₀ : Str → Option Value) (own : List (Addr × Obj)) (P : σ → Prop) (s s₂ : Shared) : Prop :=
  ∃ c' h' tk' m', s₂ = { s with heap := h', toks := tk' } ∧ Fr h₀ L h' m' ∧ News h₀ L h' (own ++ Led c') ∧ (∀ q ∈ own, AllNe q.1 (Led c')) ∧ (∀ p ∈ ps c', m' p.1 = some p.2) ∧ (∀ z, ¬ nm z → (∀ p ∈ ps c', z ≠ p.1) → stored.contains z = false → m' z = m₀ z) ∧ P c'

def SPost {σ : Type} (h₀ : Heap) (L : Addr) (Led : σ → List (Addr × Obj)) (ps : σ → List (Str × Value)) (nm : Str → Prop) (stored : List Str) (m₀ : Str → Option Value) (own : List (Addr × Obj)) (P : σ → Prop) (s : Shared) (Q : Flow → Shared → Prop) (f : Flow) (s₂ : Shared) : Prop :=
  match f with
  | .ret v => Q (.ret v) s₂
  | .brk => Q .next s₂
  | _ => SEnd h₀ L Led ps nm stored m₀ own P s s₂

theorem SEnd.mk {σ : Type} {L : Addr} {Led : σ → List (Addr × Obj)} {ps : σ → List (Str × Value)} {nm : Str → Prop} {stored : List Str} {m₀ : Str → Option Value} {own : List (Addr × Obj)} {P : σ → Prop} {s : Shared} (c' : σ) {h' : Heap} {tk' : Nat} {m' : Str → Option Value} {news : List (Addr × Obj)}
    (F : Fr h₀ L h' m') (N : News h₀ L h' news) (hs : ∀ p ∈ own ++ Led c', p ∈ news) (hne : ∀ q ∈ own, AllNe q.1 (Led c')) (hk : ∀ p ∈ ps c', m' p.1 = some p.2) (hr : ∀ z, ¬ nm z → (∀ p ∈ ps c', z ≠ p.1) → stored.contains z = false → m' z = m₀ z) (hP : P c') :
    SEnd h₀ L Led ps nm stored m₀ own P s { s with heap := h', toks := tk' } := ⟨c', h', tk', m', rfl, F, kst_newsOf N hs, hne, hk, hr, hP⟩

theorem locs_eq {nm : Str → Prop} {ps : List (Str × Value)} {stored : List Str} {m₀ m₁ : Str → Option Value} (h1 : ∀ p ∈ ps, m₁ p.1 = some p.2) (h2 : ∀ z, ¬ nm z → (∀ p ∈ ps, z ≠ p.1) → stored.contains z = false → m₁ z = m₀ z) {y : Str} (hy : ¬ nm y) :
    locs4 m₀ m₁ stored ps y = m₁ y := by
  refine kstB_eq h1 fun hn => ?_
  show (if stored.contains y = true then m₁ y else m₀ y) = m₁ y
  cases h3 : stored.contains y with
  | true => simp
  | false => simp only [Bool.false_eq_true, if_false]; exact (h2 y hy hn h3).symm

/-- a for loop over what walks by an iterator of its own; the ledger may grow -/
theorem sloop {σ : Type} {I : Addr} {fp : List Addr} {n : Nat} {Pv : Nat → Value → Prop} {St : Nat → Heap → Prop} {m₀ : Str → Option Value} (Led : σ → List (Addr × Obj)) (ps : σ → List (Str × Value)) (stored : List Str) (P : Nat → σ → Prop) (c₀ : σ)
    (W : Walks prog w A I fp [I] n Pv St) (hx : env.kindOf x = some .local) (hp : (env.scope.kind == .class || (env.scope.kind == .module && env.locals != env.globals)) = false)
    (hI : I ≠ env.locals) (hI₀ : h₀.get? I = none) (hSt : ∀ i h, St i h → ∃ o, h.get? I = some o)
    (hfp : ∀ b ∈ fp, b = I ∨ (∃ o, h₀.get? b = some o) ∨ ∃ o, ∀ c, (b, o) ∈ Led c)
    (hst : St 0 s.heap) (F : Fr h₀ env.locals s.heap m₀) (N : News h₀ env.locals s.heap (Led c₀)) (hne : AllNe I (Led c₀)) (ht : 0 < s.toks)
    (hk : ∀ p ∈ ps c₀, m₀ p.1 = some p.2) (h0 : P 0 c₀)
    (turn : ∀ (c : σ) i v (u : Str → Option Value) h tk oI, i < n → Pv i v → P i c → 0 < tk → AllNe I (Led c) →
      Fr h₀ env.locals h (fun y => if y = x then some v else locs4 m₀ u stored (ps c) y) → News h₀ env.locals h ((I, oI) :: Led c) →
      wpAny (model prog w) A (execs body env) (SPost h₀ env.locals Led ps (· = x) stored m₀ [(I, oI)] (P (i + 1)) s Q) NoE { s with heap := h, toks := tk })
    (done : ∀ (c : σ) (u : Str → Option Value) h tk, P n c → 0 < tk → Fr h₀ env.locals h (fun y => if y = x then u y else locs4 m₀ u stored (ps c) y) → News h₀ env.locals h (Led c) → Q .next { s with heap := h, toks := tk }) :
    codeAny (model prog w) A (.forLoop (.Name x px) (.ref I) body [] env) (fun r s' => match r with | .ok f => Q f s' | .error e => cameBackBy (model prog w) A env NoE e s') s := by
  have hIf : I ∈ fp := W.sub I (List.mem_singleton.mpr rfl)
  refine codeAny_forLoop (fun k s' => ∃ c h' tk m' i, s' = { s with heap := h', toks := tk } ∧ 0 < tk ∧ St i h' ∧ Fr h₀ env.locals h' m' ∧ News h₀ env.locals h' (Led c) ∧ AllNe I (Led c) ∧ (∀ p ∈ ps c, m' p.1 = some p.2) ∧ (∀ z, ¬ z = x → (∀ p ∈ ps c, z ≠ p.1) → stored.contains z = false → m' z = m₀ z) ∧ P i c ∧ i ≤ n ∧ k = n + 1 - i) ?_ (n + 1)
    ⟨c₀, s.heap, s.toks, m₀, 0, rfl, ht, hst, F, N, hne, hk, fun _ _ _ _ => rfl, h0, Nat.zero_le _, rfl⟩
  rintro k s' ⟨c, h', tk, m', i, rfl, htk, hst', F', N', hne', hk', hr', hP, hi, rfl⟩
  have old : ∀ b o, h₀.get? b = some o → b ∉ [I] := fun b o e hb => by rw [List.mem_singleton.mp hb, hI₀] at e; cases e
  have next : ∀ h₁ : Heap, (∀ b o, b ∉ [I] → h'.get? b = some o → h₁.get? b = some o) → Fr h₀ env.locals h₁ m' ∧ News h₀ env.locals h₁ (Led c) := fun h₁ hk₁ =>
    ⟨⟨F'.ns.at' fun o e => hk₁ _ o (fun q => hI (List.mem_singleton.mp q).symm) e, fun b o e => hk₁ b o (old b o e) (F'.keep b o e), F'.above⟩,
      fun p hp => ⟨hk₁ _ _ (fun q => (allNe_iff.mp hne' p hp) (List.mem_singleton.mp q)) (N' p hp).1, (N' p hp).2⟩⟩
  by_cases hlt : i < n
  · refine wpAny_pos htk (W.item i _ _ _ hlt hst' fun v h₁ tk₁ hv hst₁ hk₁ htk₁ => ?_)
    obtain ⟨F₁, N₁⟩ := next h₁ hk₁
    refine wpAny_assign_Name (wpAny_storeName_local hx F₁.ns (fun h₂ hn₂ hs₂ => ?_) hp)
    have F₂ := F₁.set hn₂ hs₂
    have N₂ := N₁.set hs₂
    obtain ⟨oI, hoI⟩ := hSt _ _ hst₁
    have hoI₂ : h₂.get? I = some oI := (hs₂.2 I hI).trans hoI
    have F₂' : Fr h₀ env.locals h₂ (fun y => if y = x then some v else locs4 m₀ m' stored (ps c) y) := by
      have em : (fun y => if y = x then some v else locs4 m₀ m' stored (ps c) y) = fun y => if y = x then some v else m' y := by
        funext y
        by_cases hy : y = x
        · rw [if_pos hy, if_pos hy]
        · rw [if_neg hy, if_neg hy]; exact locs_eq (nm := (· = x)) hk' hr' hy
      rw [em]; exact F₂
    have hst₂ : St (i + 1) h₂ := W.frame _ _ _ hst₁ fun b hb o e => by
      by_cases hbL : b = env.locals
      · rcases hfp b hb with rfl | ⟨o', e'⟩ | ⟨o', e'⟩
        · exact absurd hbL hI
        · have := F₁.above
          exact absurd (Heap.lt_size e') (by rw [hbL]; exact Nat.not_lt.mpr this)
        · exact absurd hbL ((N₁ _ (e' c)).2.1)
      · exact (hs₂.2 b hbL).trans e
    refine wpAny_mono (wpAny_pos (Nat.succ_pos _) (wpAny_mono (turn c i v m' h₂ _ oI hlt hv hP (Nat.succ_pos _) hne' F₂' (fun p hp => ?_)) (fun f s₃ h₃ => ?_) fun _ _ y _ => y)) (fun _ _ y => y) fun _ _ y => y.elim
    · rcases List.mem_cons.mp hp with rfl | hp
      · exact ⟨hoI₂, hI, hI₀⟩
      · exact N₂ p hp
    intro htk₃
    have fin : SEnd h₀ env.locals Led ps (· = x) stored m₀ [(I, oI)] (P (i + 1)) s s₃ → ∃ m, m < n + 1 - i ∧ ∃ c h' tk m' i, s₃ = { s with heap := h', toks := tk } ∧ 0 < tk ∧ St i h' ∧ Fr h₀ env.locals h' m' ∧ News h₀ env.locals h' (Led c) ∧ AllNe I (Led c) ∧ (∀ p ∈ ps c, m' p.1 = some p.2) ∧ (∀ z, ¬ z = x → (∀ p ∈ ps c, z ≠ p.1) → stored.contains z = false → m' z = m₀ z) ∧ P i c ∧ i ≤ n ∧ m = n + 1 - i := by
      clear h₃
      rintro ⟨c', H₃, tk₃, m₃, rfl, F₃, N₃, hne₃, hk₃, hr₃, hP₃⟩
      refine ⟨n + 1 - (i + 1), by omega, c', H₃, tk₃, m₃, i + 1, rfl, htk₃, ?_, F₃, fun p hp => N₃ p (List.mem_append_right _ hp), hne₃ _ (List.mem_singleton.mpr rfl), hk₃, hr₃, hP₃, hlt, rfl⟩
      refine W.frame _ _ _ hst₂ fun b hb o e => ?_
      rcases hfp b hb with rfl | ⟨o', e'⟩ | ⟨o', e'⟩
      · rw [hoI₂] at e; cases e
        exact (N₃ _ (List.mem_append_left _ (List.mem_singleton.mpr rfl))).1
      · have h5 := F₂.keep b o' e'
        have h6 : o = o' := Option.some.inj (e.symm.trans h5)
        rw [h6]
        exact F₃.keep b o' e'
      · have h5 := (N₂ _ (e' c)).1
        have h6 : o = o' := Option.some.inj (e.symm.trans h5)
        rw [h6]
        exact (N₃ _ (List.mem_append_right _ (e' c'))).1
    cases f with
    | ret v => exact h₃
    | brk => exact h₃
    | next => exact fin h₃
    | cont => exact fin h₃
  · have hin : i = n := by omega
    subst hin
    refine wpAny_pos htk (W.done _ _ _ hst' fun h₁ tk₁ hk₁ htk₁ => wpAny_execs_nil ?_)
    obtain ⟨F₁, N₁⟩ := next h₁ hk₁
    refine done c m' h₁ tk₁ hP htk₁ ?_ N₁
    have em : (fun y => if y = x then m' y else locs4 m₀ m' stored (ps c) y) = m' := by
      funext y
      by_cases hy : y = x
      · rw [if_pos hy]
      · rw [if_neg hy]; exact locs_eq (nm := (· = x)) hk' hr' hy
    rw [em]; exact F₁

/-- over a list that stood before -/
theorem for_list {σ : Type} {l : Addr} {items : Array Value} {m₀ : Str → Option Value} (Led : σ → List (Addr × Obj)) (ps : σ → List (Str × Value)) (stored : List Str) (P : Nat → σ → Prop) (c₀ : σ)
    (hl : (h₀.IsList l items) ∨ ∃ n, ∀ c, (l, (⟨.type "list", none, .seq items n, #[]⟩ : Obj)) ∈ Led c)
    (hh : A.handled = none) (hx : env.kindOf x = some .local) (hp : (env.scope.kind == .class || (env.scope.kind == .module && env.locals != env.globals)) = false)
    (F : Fr h₀ env.locals s.heap m₀) (N : News h₀ env.locals s.heap (Led c₀)) (ht : 0 < s.toks) (hk : ∀ p ∈ ps c₀, m₀ p.1 = some p.2) (h0 : P 0 c₀)
    (turn : ∀ (c : σ) (i : Nat) (v : Value) (u : Str → Option Value) h tk (I : Addr) oI, items.toList[i]? = some v → P i c → 0 < tk → AllNe I (Led c) →
      Fr h₀ env.locals h (fun y => if y = x then some v else locs4 m₀ u stored (ps c) y) → News h₀ env.locals h ((I, oI) :: Led c) →
      wpAny (model prog w) A (execs body env) (SPost h₀ env.locals Led ps (· = x) stored m₀ [(I, oI)] (P (i + 1)) s Q) NoE { s with heap := h, toks := tk })
    (done : ∀ (c : σ) (u : Str → Option Value) h tk, P items.size c → 0 < tk → Fr h₀ env.locals h (fun y => if y = x then u y else locs4 m₀ u stored (ps c) y) → News h₀ env.locals h (Led c) → Q .next { s with heap := h, toks := tk }) :
    wpAny (model prog w) A (pyIter (.ref l)) (fun it s₂ => codeAny (model prog w) A (.forLoop (.Name x px) it body [] env) (fun r s' => match r with | .ok f => Q f s' | .error e => cameBackBy (model prog w) A env NoE e s') s₂) NoE s := by
  have hls : s.heap.IsList l items := hl.elim (fun h => h.at fun o e => F.keep l o e) fun ⟨n, h⟩ => ⟨_, (N _ (h c₀)).1, rfl, n, rfl⟩
  obtain ⟨ol, hol, _⟩ := id hls
  have hne : l ≠ s.heap.objs.size := Nat.ne_of_lt (Heap.lt_size hol)
  refine wpAny_pyIter_list hls ?_
  have W := Walks.list (prog := prog) (w := w) hh s.heap.objs.size l hne items
  refine sloop (s := { s with heap := s.heap.push _ }) Led ps stored P c₀ W hx hp (Nat.ne_of_gt F.ns.lt) (next_is_new F) (fun i h st => let ⟨o, e, _⟩ := st.1; ⟨o, e⟩) (fun b hb => ?_) ?_ (F.push _) (fun p hp => ⟨Heap.get?_push_of_some _ (N p hp).1, (N p hp).2⟩)
      (allNe_iff.mpr fun p hp => Nat.ne_of_lt (Heap.lt_size (N p hp).1)) ht hk h0 ?_ ?_
  · rcases List.mem_cons.mp hb with rfl | hb
    · exact .inl rfl
    · rw [List.mem_singleton.mp hb]
      exact .inr (hl.imp (fun ⟨o, e, _⟩ => ⟨o, e⟩) fun ⟨n, h⟩ => ⟨_, h⟩)
  · exact ⟨⟨_, Heap.get?_push_size _ rfl, rfl, rfl⟩, hls.at fun o e => Heap.get?_push_of_some _ e⟩
  · rintro c i v u h tk oI hi hv hP htk hne F' N'
    refine turn c i v u h tk _ oI ?_ hP htk hne F' N'
    have : items[i]? = some v := hv
    rw [← this]; simp
  · intro c u h tk hP htk F' N'
    exact done c u h tk hP htk F' N'

/-- over a range by ones -/
theorem for_range {σ : Type} {r : Addr} {a₀ b₀ : Int} {t₀ u₀ v₀ : Tok} {n : Nat} {m₀ : Str → Option Value} (Led : σ → List (Addr × Obj)) (ps : σ → List (Str × Value)) (stored : List Str) (P : Nat → σ → Prop) (c₀ : σ)
    (hr : IsRange s.heap r a₀ b₀ 1 t₀ u₀ v₀) (hsmall : Builtin.Range.small a₀ b₀ 1 = true) (hn : Builtin.Range.rangeSize a₀ b₀ 1 = (n : Int))
    (hh : A.handled = none) (hx : env.kindOf x = some .local) (hp : (env.scope.kind == .class || (env.scope.kind == .module && env.locals != env.globals)) = false)
    (F : Fr h₀ env.locals s.heap m₀) (N : News h₀ env.locals s.heap (Led c₀)) (ht : 0 < s.toks) (hk : ∀ p ∈ ps c₀, m₀ p.1 = some p.2) (h0 : P 0 c₀)
    (turn : ∀ (c : σ) (i : Nat) (t : Tok) (u : Str → Option Value) h tk (I : Addr) oI, i < n → P i c → 0 < tk → AllNe I (Led c) →
      Fr h₀ env.locals h (fun y => if y = x then some (.int (a₀ + (i : Int)) t) else locs4 m₀ u stored (ps c) y) → News h₀ env.locals h ((I, oI) :: Led c) →
      wpAny (model prog w) A (execs body env) (SPost h₀ env.locals Led ps (· = x) stored m₀ [(I, oI)] (P (i + 1)) s Q) NoE { s with heap := h, toks := tk })
    (done : ∀ (c : σ) (u : Str → Option Value) h tk, P n c → 0 < tk → Fr h₀ env.locals h (fun y => if y = x then u y else locs4 m₀ u stored (ps c) y) → News h₀ env.locals h (Led c) → Q .next { s with heap := h, toks := tk }) :
    wpAny (model prog w) A (pyIter (.ref r)) (fun it s₂ => codeAny (model prog w) A (.forLoop (.Name x px) it body [] env) (fun r s' => match r with | .ok f => Q f s' | .error e => cameBackBy (model prog w) A env NoE e s') s₂) NoE s := by
  refine wpAny_pyIter_range hr hsmall ?_
  have W : Walks prog w A s.heap.objs.size [s.heap.objs.size] [s.heap.objs.size] n (fun i v => i < n ∧ ∃ t, v = .int (a₀ + i * 1) t)
      (fun i h => IsRangeIter h s.heap.objs.size (a₀ + (i : Nat) * 1) ((n : Int) - (i : Nat)) 1) := (Walks.range hh _ a₀ 1 n).bound
  refine sloop (s := { s with heap := s.heap.push _ }) Led ps stored P c₀ W hx hp (Nat.ne_of_gt F.ns.lt) (next_is_new F) (fun i h st => ⟨_, st⟩) (fun b hb => .inl (List.mem_singleton.mp hb)) (by show IsRangeIter _ _ _ _ _; rw [hn]; simpa using Heap.get?_push_size _ rfl) (F.push _) (fun p hp => ⟨Heap.get?_push_of_some _ (N p hp).1, (N p hp).2⟩)
      (allNe_iff.mpr fun p hp => Nat.ne_of_lt (Heap.lt_size (N p hp).1)) ht hk h0 ?_ ?_
  · rintro c i v u h tk oI hi ⟨_, t, rfl⟩ hP htk hne F' N'
    have e1 : a₀ + (i : Int) * 1 = a₀ + (i : Int) := by omega
    rw [e1] at F'
    exact turn c i t u h tk _ oI hi hP htk hne F' N'
  · intro c u h tk hP htk F' N'
    exact done c u h tk hP htk F' N'

end
end Mine
namespace Mine
theorem const_str {M : Model} {A : Around} {env : Env} {x : Str} {kk : Nat} {pos : Pos} {Q : Value → Shared → Prop} {E : Value → Shared → Prop} {h : Heap} {g : Array GenState} {d : Drawn} {o : OsState} {n : Nat}
    (k : ∀ t tk, n ≤ t → t < tk → Q (.str x t) ⟨h, g, d, tk, o⟩) : wpAny M A (eval (.Constant (.str x) kk pos) env) Q E ⟨h, g, d, n, o⟩ := wpAny_Constant_str (k n (n + 1) (Nat.le_refl _) (Nat.lt_succ_self _))
theorem const_int {M : Model} {A : Around} {env : Env} {x : Int} {kk : Nat} {pos : Pos} {Q : Value → Shared → Prop} {E : Value → Shared → Prop} {h : Heap} {g : Array GenState} {d : Drawn} {o : OsState} {n : Nat}
    (k : ∀ t tk, n ≤ t → t < tk → Q (.int x t) ⟨h, g, d, tk, o⟩) : wpAny M A (eval (.Constant (.int x) kk pos) env) Q E ⟨h, g, d, n, o⟩ := wpAny_Constant_int (k n (n + 1) (Nat.le_refl _) (Nat.lt_succ_self _))
end Mine

end
section
open PySem PySem.W PyProof.Rows PySem.Calls
set_option Elab.async false
set_option maxRecDepth 100000
set_option maxHeartbeats 1000000
namespace Mine

def catL (xs : List Str) : List Nat := xs.flatMap (·.cps.toList)
def mkS (l : List Nat) : Str := ⟨l.toArray⟩
theorem mkS_toList (l : List Nat) : (mkS l).cps.toList = l := rfl
theorem mkS_length (l : List Nat) : (mkS l).length = l.length := by simp [mkS, Str.length]
theorem str_append (a b : Str) : a ++ b = mkS (a.cps.toList ++ b.cps.toList) := by
  refine Str.ext' ?_
  rw [Str.cps_append]; simp [mkS]

def nl (c : Nat) : Nat := if c = 13 then 10 else c
/-- the line ends as one sign -/
def norm (l : List Nat) : List Nat := (crlf l).map nl

def endsStep (st : List Nat × Option Nat) (c : Nat) : List Nat × Option Nat :=
  (if c = 13 then st.1 ++ [10] else if c ≠ 10 ∨ st.2 ≠ some 13 then st.1 ++ [c] else st.1, some c)
def endsF (l : List Nat) : List Nat × Option Nat := l.foldl endsStep ([], none)
def optS (o : Option Nat) : Str := match o with | none => mkS [] | some c => mkS [c]

end Mine
namespace Mine
section
variable {prog : Program} {w : World} {A : Around} {E : Value → Shared → Prop} {s : Shared} {t : Tok} {Q : Value → Shared → Prop}
end
end Mine

end
section
open PySem PySem.W PyProof.Rows PySem.Calls
set_option Elab.async false
set_option maxRecDepth 100000
set_option maxHeartbeats 1000000
namespace Mine
open StrLaws

def nameOf (l : List Nat) : Option Nat := if l = [97, 109, 112] then some 38 else if l = [108, 116] then some 60 else if l = [103, 116] then some 62 else none

def readF : Nat → List Nat → Option (List Nat)
  | 0, _ => some []
  | _ + 1, [] => some []
  | n + 1, c :: r =>
    if c = 60 ∨ c = 62 ∨ c = 13 then none
    else if c = 38 then
      (match nameOf (r.takeWhile (· != 59)), r.dropWhile (· != 59) with
       | some k, _ :: r' => (readF n r').map (k :: ·)
       | _, _ => none)
    else (readF n r).map (c :: ·)
def readL (l : List Nat) : Option (List Nat) := readF (l.length + 1) l

end Mine
namespace Mine
theorem same_strs (a b : Str) : Spec.same (.str a) (.str b) = decide (a = b) := by
  have : Spec.same (.str a) (.str b) = (a == b) := by simp [Spec.same]
  rw [this]
  by_cases h : a = b
  · subst h; simp
  · rw [beq_eq_false_iff_ne.mpr h]; simp [h]
/-- what the reader hands back -/
def RRead (l : List Nat) (v : Value) : Prop := (readL l = none ∧ v = .none) ∨ ∃ y t', readL l = some y ∧ v = .str (mkS y) t'
/-- the reader's word between its turns -/
def RdInv (x : Str) (vs : List Value) (xs : List Str) (at' : Nat) : Prop :=
  StrsAre vs xs ∧ vs.length ≤ at' ∧ at' ≤ x.length ∧ readL x.cps.toList = (readL (x.cps.toList.drop at')).map (catL xs ++ ·) ∧ ∀ y ∈ xs, y.length = 1
end Mine
namespace Mine
section
variable {prog : Program} {w : World} {A : Around} {E : Value → Shared → Prop} {s : Shared} {Q : Value → Shared → Prop}
end
/-- a piece of a written text: what it is read as, and that this is written so -/
def PieceOk (l : List Nat) : Prop := ∃ y : List Nat, (∀ v, readL (l ++ v) = (readL v).map (y ++ ·)) ∧ (∀ c ∈ y, ctl c = false ∧ c ≠ 13) ∧ y.flatMap escC = l ∧ l.length ≤ 5 ∧ y.length ≤ l.length
def plainC (c : Nat) : Bool := !ctl c && c != 38 && c != 60 && c != 62 && c != 13
end Mine

end
section
open PySem PySem.W PyProof.Rows PySem.Calls
set_option Elab.async false
set_option maxRecDepth 100000
set_option maxHeartbeats 1000000
namespace Mine
section
variable {prog : Program} {w : World} {A : Around} {s : Shared} {env : Env} {elt iter : Expr} {x : Str} {px : Pos} {ifs : List Expr} {scope : Scope} {pos : Pos} {Q : Value → Shared → Prop}

end
end Mine
namespace Mine
section
variable {prog : Program} {w : World} {A : Around} {s : Shared} {env : Env} {elt iter : Expr} {x : Str} {px : Pos} {ifs : List Expr} {scope : Scope} {pos : Pos} {Q : Value → Shared → Prop}
theorem ints_mem {vs : List Value} {ns : List Int} (h : IntsAre vs ns) {v : Value} (hv : v ∈ vs) : ∃ n t, v = .int n t := by
  obtain ⟨i, hi⟩ := List.getElem?_of_mem hv
  have hlt : i < ns.length := by have := (List.getElem?_eq_some_iff.mp hi).1; have := h.length; omega
  obtain ⟨t, ht⟩ := h.get i ns[i] (by simp [hlt])
  rw [hi] at ht
  exact ⟨_, t, Option.some.inj ht⟩
end
end Mine

end
section
open PySem PySem.W PyProof.Rows PySem.Calls
set_option Elab.async false
set_option maxRecDepth 100000
set_option maxHeartbeats 1000000
namespace Mine
def noCtl (l : List Nat) : Prop := ∀ c ∈ l, ctl c = false
end Mine
namespace Mine
end Mine
namespace Mine
end Mine
namespace Mine
end Mine
namespace Mine
end Mine
namespace Mine
end Mine

end
section
open PySem PySem.W PyProof.Rows PySem.Calls
set_option Elab.async false
set_option maxRecDepth 100000
set_option maxHeartbeats 1000000
namespace Mine

/-- a call that raises -/
def PX (prog : Program) (w : World) (K : Frag) (p : Program) (loose : List Str) (mean : ExcName → Option Value) (mg mb : Str → Option Value) (d u : Nat) (f : Addr) (vs : List Value) (cls : String) (A : List Value → Prop) : Prop :=
  ∀ (dp un : Nat) (gd : Option (List Code)) (fr : List Env) (base g : Heap) (news : List (Addr × Obj)) (s : Shared) (Q E : Value → Shared → Prop),
    Below (atop dp un gd fr) base fr g → K.In g → Top p loose mean mg mb g → g.StaysIn s.heap → g.objs.size = s.heap.objs.size → (∀ q ∈ news, s.heap.get? q.1 = some q.2 ∧ g.get? q.1 = none) →
    dp + d < recursionLimit → un + u < cLine → 0 < s.toks →
    (∀ e t ws h' tk', A ws → RaisedS base g fr e (.type cls) t ws news h' → g.UpToSlots h' → 0 < tk' → E (.ref e) { s with heap := h', toks := tk' }) →
    wpAny (model prog w) (atop dp un gd fr) (call (.ref f) vs) Q E s

def PXEnd (g : Heap) (L : Addr) (news : List (Addr × Obj)) (s : Shared) (cls : String) (A : List Value → Prop) (e : Value) (s' : Shared) : Prop :=
  ∃ a m h ws h' tk', e = .ref a ∧ s' = { s with heap := h', toks := tk' } ∧ 0 < tk' ∧ Fr g L h m ∧ News g L h news ∧ Heap.MadeExcOf h h' a (.type cls) ws ∧ A ws

section
variable {prog : Program} {w : World} {K : Frag} {p : Program} {loose : List Str} {mean : ExcName → Option Value} {mg mb : Str → Option Value} {d u : Nat} {f : Addr} {vs : List Value} {R : Value → Prop} {cls : String} {AX : List Value → Prop}

/-- a call that changes nothing that stands but the slots of the frames below -/
def PT (prog : Program) (w : World) (K : Frag) (p : Program) (loose : List Str) (mean : ExcName → Option Value) (mg mb : Str → Option Value) (d u : Nat) (f : Addr) (vs : List Value) (R : Value → Prop) : Prop :=
  ∀ (dp un : Nat) (gd : Option (List Code)) (fr : List Env) (base : Heap) (s : Shared) (Q E : Value → Shared → Prop),
    Below (atop dp un gd fr) base fr s.heap → K.In base → Top p loose mean mg mb base → KtsDicts (fr.filterMap (·.frame)) s.heap → dp + d < recursionLimit → un + u < cLine → 0 < s.toks →
    (∀ v g' h' tk', R v → KtsTurn (fr.filterMap (·.frame)) s.heap g' → g'.StaysIn h' → 0 < tk' → Q v { s with heap := h', toks := tk' }) →
    wpAny (model prog w) (atop dp un gd fr) (call (.ref f) vs) Q E s

def PTEnd (fs : List Addr) (g : Heap) (s : Shared) (R : Value → Prop) (v : Value) (s' : Shared) : Prop := ∃ g' h' tk', s' = { s with heap := h', toks := tk' } ∧ KtsTurn fs g g' ∧ g'.StaysIn h' ∧ 0 < tk' ∧ R v

end
end Mine

end
section
open PySem PySem.W PyProof.Rows PySem.Calls
set_option Elab.async false
set_option maxRecDepth 100000
set_option maxHeartbeats 1000000
namespace Mine
section
variable {prog : Program} {w : World} {A : Around} {s : Shared} {env : Env} {elt iter : Expr} {x : Str} {px : Pos} {ifs : List Expr} {scope : Scope} {pos : Pos} {Q : Value → Shared → Prop}
end
end Mine

end
section
open PySem PySem.W PyProof.Rows PySem.Calls
set_option Elab.async false
set_option maxRecDepth 100000
set_option maxHeartbeats 1000000
namespace Mine
section
variable {prog : Program} {w : World} {A : Around} {s : Shared} {env : Env} {elt iter : Expr} {x : Str} {px : Pos} {ifs : List Expr} {scope : Scope} {pos : Pos} {Q : Value → Shared → Prop}
/-- what is to be shown behind a comprehension's source -/
def LC (prog : Program) (w : World) (A : Around) (env : Env) (elt : Expr) (x : Str) (ifs : List Expr) (scope : Scope) (cl : List (Str × Addr)) (p : Value → Bool) (G : Value → Value → Prop) (Q : Value → Shared → Prop) (xv : Value) (s : Shared) : Prop :=
  ∃ l items, xv = .ref l ∧ s.heap.IsList l items ∧ items.size ≤ sizeLine ∧ 0 < s.toks ∧
    (∀ C v s₃ m₃, v ∈ items.toList → s₃.heap.Ns C m₃ → m₃ x = some v → s.heap.StaysIn s₃.heap → s.heap.objs.size ≤ C → 0 < s₃.toks →
      wpAny (model prog w) A (forIn ifs true fun c r => if r = true then do let ok ← isTrue c (compEnvC scope cl C env) (eval c (compEnvC scope cl C env)); pure (ForInStep.yield ok) else pure (ForInStep.yield r)) (fun ok s₄ => ok = p v ∧ Keeps s₃ s₄) NoE s₃) ∧
    (∀ C v s₃ m₃, v ∈ items.toList → p v = true → s₃.heap.Ns C m₃ → m₃ x = some v → s.heap.StaysIn s₃.heap → s.heap.objs.size ≤ C → 0 < s₃.toks →
      wpAny (model prog w) A (eval elt (compEnvC scope cl C env)) (fun y s₄ => G v y ∧ Keeps s₃ s₄) NoE s₃) ∧
    (∀ D h' tk (ys : List Value) n, s.heap.get? D = none → h'.get? D = some (listOf ys.toArray n) → Paired G (items.toList.filter p) ys → s.heap.StaysIn h' → 0 < tk → Q (.ref D) { s with heap := h', toks := tk })
end
end Mine

end
section
open PySem PySem.W PyProof.Rows PySem.Calls
set_option Elab.async false
set_option maxRecDepth 100000
set_option maxHeartbeats 1000000
namespace Mine
section
variable {prog : Program} {w : World} {A : Around} {s : Shared} {env : Env} {h₀ : Heap} {x : Str} {px : Pos} {body : List Stmt} {Q : Flow → Shared → Prop}
/-- behind a while's test that fails -/
def SDone (h₀ : Heap) (L : Addr) (m : Str → Option Value) (news : List (Addr × Obj)) (X : Prop) (s s₂ : Shared) : Prop :=
  ∃ h' tk', s₂ = { s with heap := h', toks := tk' } ∧ 0 < tk' ∧ Fr h₀ L h' m ∧ News h₀ L h' news ∧ X
end
end Mine

end
section
open PySem PySem.W PyProof.Rows PySem.Calls
set_option Elab.async false
set_option maxRecDepth 100000
set_option maxHeartbeats 1000000
namespace Mine
section
variable {prog : Program} {w : World} {A : Around} {s : Shared} {env : Env} {h₀ : Heap} {x : Str} {px : Pos} {body : List Stmt} {Q : Flow → Shared → Prop}
/-- the common end of a loop that may break -/
def BEnd {σ : Type} (h₀ : Heap) (L : Addr) (Led : σ → List (Addr × Obj)) (ps : σ → List (Str × Value)) (x : Str) (stored : List Str) (m₀ : Str → Option Value) (X : σ → Prop) (s s₂ : Shared) : Prop :=
  ∃ c' h' tk' m', s₂ = { s with heap := h', toks := tk' } ∧ 0 < tk' ∧ Fr h₀ L h' m' ∧ News h₀ L h' (Led c') ∧ (∀ p ∈ ps c', m' p.1 = some p.2) ∧ (∀ z, ¬ z = x → (∀ p ∈ ps c', z ≠ p.1) → stored.contains z = false → m' z = m₀ z) ∧ X c'
theorem BEnd.mk {σ : Type} {L : Addr} {Led : σ → List (Addr × Obj)} {ps : σ → List (Str × Value)} {stored : List Str} {m₀ : Str → Option Value} {X : σ → Prop} {s : Shared} (c' : σ) {h' : Heap} {tk' : Nat} {m' : Str → Option Value} {news : List (Addr × Obj)}
    (F : Fr h₀ L h' m') (N : News h₀ L h' news) (ht : 0 < tk') (hs : ∀ p ∈ Led c', p ∈ news) (hk : ∀ p ∈ ps c', m' p.1 = some p.2) (hr : ∀ z, ¬ z = x → (∀ p ∈ ps c', z ≠ p.1) → stored.contains z = false → m' z = m₀ z) (hX : X c') :
    BEnd h₀ L Led ps x stored m₀ X s { s with heap := h', toks := tk' } := ⟨c', h', tk', m', rfl, ht, F, kst_newsOf N hs, hk, hr, hX⟩
def NEnd {σ : Type} (h₀ : Heap) (L : Addr) (Led : σ → List (Addr × Obj)) (ps : σ → List (Str × Value)) (x : Str) (stored : List Str) (m₀ : Str → Option Value) (X : σ → Prop) (s : Shared) (f : Flow) (s₂ : Shared) : Prop :=
  match f with
  | .next => BEnd h₀ L Led ps x stored m₀ X s s₂
  | _ => False
theorem NEnd.out {σ : Type} {L : Addr} {Led : σ → List (Addr × Obj)} {ps : σ → List (Str × Value)} {stored : List Str} {m₀ : Str → Option Value} {X : σ → Prop} {f : Flow} {s₂ : Shared} (h : NEnd h₀ L Led ps x stored m₀ X s f s₂)
    (done : ∀ (c : σ) (u : Str → Option Value) h tk, X c → 0 < tk → Fr h₀ L h (fun y => if y = x then u y else locs4 m₀ u stored (ps c) y) → News h₀ L h (Led c) → Q .next { s with heap := h, toks := tk }) : Q f s₂ := by
  cases f with
  | next =>
    obtain ⟨c', h', tk', m', rfl, ht, F, N, hk, hr, hX⟩ := h
    refine done c' m' h' tk' hX ht ?_ N
    have em : (fun y => if y = x then m' y else locs4 m₀ m' stored (ps c') y) = m' := by
      funext y
      by_cases hy : y = x
      · rw [if_pos hy]
      · rw [if_neg hy]; exact locs_eq (nm := (· = x)) hk hr hy
    rw [em]; exact F
  | ret v => exact h.elim
  | brk => exact h.elim
  | cont => exact h.elim
end
end Mine

end
section
open PySem PySem.W PyProof.Rows PySem.Calls PySem.Builtin PySem.Builtin.Str PySem.Builtin._codecs
set_option Elab.async false
set_option maxRecDepth 100000
set_option maxHeartbeats 1000000
namespace Mine
abbrev utfL (l : List Nat) : List UInt8 := l.flatMap Str.utf8Of
abbrev utfB (x : Str) : Array UInt8 := (utfL x.cps.toList).toArray
theorem utfL_len : ∀ l : List Nat, (utfL l).length ≤ 4 * l.length
  | [] => Nat.le_refl _
  | c :: l => by
    have h := utfL_len l
    have h1 : (Str.utf8Of c).length ≤ 4 := by
      unfold Str.utf8Of
      split
      · simp
      · split
        · simp
        · split <;> simp
    simp only [utfL, List.flatMap_cons, List.length_append, List.length_cons] at *
    omega
theorem fold_utf (f : Nat → List UInt8) : ∀ (l : List Nat) (acc : Array UInt8), l.foldl (fun a y => a ++ (f y).toArray) acc = acc ++ (l.flatMap f).toArray
  | [], acc => by simp
  | c :: l, acc => by
    rw [List.foldl_cons, fold_utf f l]
    simp
theorem encTree8 (x : Str) (t u : Tok) : «str.encode» ⟨[.str x t, .str (Str.ofString "utf-8") u], []⟩ = (do ret (← encodeRoad "str.encode" (.str x t) x (Str.ofString "utf-8") none)) := by kernel_rfl
theorem encTreeA (x : Str) (t u : Tok) : «str.encode» ⟨[.str x t, .str (Str.ofString "ascii") u], []⟩ = (do ret (← encodeRoad "str.encode" (.str x t) x (Str.ofString "ascii") none)) := by kernel_rfl
theorem roadA (id : String) (self : Value) (x : Str) (errors : Option Str) : encodeRoad id self x (Str.ofString "ascii") errors = (do mkBytes (← encodeNarrow id asciiCodec errors self x)) := by
  first | rfl | (unfold encodeRoad; rfl) | (unfold encodeRoad; simp only []; rfl) | decide
theorem road8 (id : String) (self : Value) (x : Str) (errors : Option Str) : encodeRoad id self x (Str.ofString "utf-8") errors = (do mkBytes (← encodeNarrow id utf8Codec errors self x)) := encodeRoad_utf8 id self x errors
section
variable {M : Model} {A : Around} {E : Value → Shared → Prop} {s : Shared}
theorem enc_narrow {id : String} {c : TextCodec} {self : Value} {x : Str} {Q : Array UInt8 → Shared → Prop} (hb : ∀ y ∈ x.cps.toList, c.bad y = false) (hQ : Q (x.cps.toList.flatMap c.bytesOf).toArray s) (hlen : (x.cps.toList.flatMap c.bytesOf).length ≤ sizeLine) : wpAny M A (encodeNarrow id c none self x) Q E s := by
  unfold encodeNarrow
  simp only [KPc.range_list]
  rcases hx : x.length with _ | n
  · have e : x.cps.toList = [] := by
      have : x.cps.size = 0 := hx
      have h2 : x.cps.toList.length = 0 := this
      exact List.length_eq_zero_iff.mp h2
    rw [e] at hQ
    exact wpAny_bind (by rw [List.range'_zero, List.forIn_nil]; exact wpAny_pure (wpAny_pure hQ))
  · have hs : x.cps.size = n + 1 := hx
    have h0 : x.cps[0]? = some (x.cps[0]'(by omega)) := Array.getElem?_eq_getElem (by omega)
    have hbad : c.bad (x.cps[0]'(by omega)) = false := hb _ (by simp)
    have hnone : x.cps.findIdx? c.bad = none := by
      rw [Array.findIdx?_eq_none_iff]
      intro y hy
      exact hb y (by simpa using hy)
    have hex : x.cps.extract 0 x.cps.size = x.cps := by simp
    refine wpAny_bind ?_
    rw [List.range'_succ]
    refine KPc.turn ?_
    dsimp only
    refine wpAny_ite (KPc.ite_no (by simp) ?_)
    rw [h0]
    dsimp only
    rw [hex, hnone, hbad]
    dsimp only [Bool.not_false, Option.getD_none]
    rw [hex]
    refine wpAny_ite (KPc.ite_yes rfl ?_)
    refine wpAny_pure ?_
    dsimp only
    have ef : Array.foldl (fun acc y => acc ++ (c.bytesOf y).toArray) #[] x.cps = (x.cps.toList.flatMap c.bytesOf).toArray := by
      rw [← Array.foldl_toList, fold_utf]; simp
    rw [ef]
    cases n with
    | zero => 
      rw [List.range'_zero, List.forIn_nil]
      exact wpAny_pure (wpAny_pure hQ)
    | succ n =>
      rw [List.range'_succ]
      refine KPc.turn ?_
      dsimp only
      refine wpAny_ite (KPc.ite_no (by rw [List.size_toArray]; exact Nat.not_lt.mpr hlen) ?_)
      have h1 : x.cps[0 + x.cps.size]? = none := by simp
      rw [h1]
      dsimp only
      refine wpAny_pure ?_
      exact wpAny_pure hQ
theorem asciiU : ∀ {l : List Nat}, (∀ y ∈ l, y < 128) → l.flatMap asciiCodec.bytesOf = utfL l
  | [], _ => rfl
  | y :: l, h => by
    have h1 : asciiCodec.bytesOf y = Str.utf8Of y := by
      have := h y (.head _)
      show [y.toUInt8] = Str.utf8Of y
      unfold Str.utf8Of
      rw [if_pos (by omega)]
    show asciiCodec.bytesOf y ++ l.flatMap asciiCodec.bytesOf = Str.utf8Of y ++ utfL l
    rw [h1, asciiU fun z hz => h z (.tail _ hz)]
theorem encode_wp {prog : Program} {w : World} {x : Str} {t u : Tok} {Q : Value → Shared → Prop} (hx : x.length ≤ 1000000) (hn : ∀ y ∈ x.cps.toList, Str.isSurrogate y = false) (hs : 0 < s.toks)
   (h : ∀ t' k, 0 < k → Q (.bytes (utfB x) t') { s with toks := k }) : wpAny (model prog w) A (call (.builtin "str.encode") [.str x t, .str (Str.ofString "utf-8") u]) Q E s := by
  have hl : (x.cps.toList.flatMap utf8Codec.bytesOf).length ≤ sizeLine := by
    have h1 := utfL_len x.cps.toList
    have h2 : x.cps.toList.length = x.length := rfl
    rw [sizeLine_eq]
    show (utfL x.cps.toList).length ≤ _
    omega
  refine call_meets F.slot_str_encode (typeIs_str _ _ _) F.entry_str_encode (F.args_str_encode_2 _ _) (S := fun _ R s => 0 < s.toks ∧ ∀ t' k, 0 < k → R (.ok (.ret (.bytes (utfB x) t'))) { s with toks := k }) ?_ ⟨hs, h⟩
  intro prog w A R s hS
  rw [encTree8, road8]
  refine wpAny_bind (wpAny_bind (enc_narrow hn (wpAny_mkBytes (wpAny_pure ?_) hl) hl))
  exact hS.2 _ _ (Nat.succ_pos _)
theorem encodeA_wp {prog : Program} {w : World} {x : Str} {t u : Tok} {Q : Value → Shared → Prop} (hx : x.length ≤ 1000000) (hn : ∀ y ∈ x.cps.toList, y < 128) (hs : 0 < s.toks)
   (h : ∀ t' k, 0 < k → Q (.bytes (utfB x) t') { s with toks := k }) : wpAny (model prog w) A (call (.builtin "str.encode") [.str x t, .str (Str.ofString "ascii") u]) Q E s := by
  have e : x.cps.toList.flatMap asciiCodec.bytesOf = utfL x.cps.toList := asciiU hn
  have hl : (x.cps.toList.flatMap asciiCodec.bytesOf).length ≤ sizeLine := by
    have h1 := utfL_len x.cps.toList
    have h2 : x.cps.toList.length = x.length := rfl
    rw [sizeLine_eq, e]
    omega
  refine call_meets F.slot_str_encode (typeIs_str _ _ _) F.entry_str_encode (F.args_str_encode_2 _ _) (S := fun _ R s => 0 < s.toks ∧ ∀ t' k, 0 < k → R (.ok (.ret (.bytes (utfB x) t'))) { s with toks := k }) ?_ ⟨hs, h⟩
  intro prog w A R s hS
  rw [encTreeA, roadA]
  refine wpAny_bind (wpAny_bind (enc_narrow (fun y hy => by have := hn y hy; show decide (y ≥ 128) = false; exact decide_eq_false (by omega)) (wpAny_mkBytes (wpAny_pure ?_) hl) hl))
  rw [e]
  exact hS.2 _ _ (Nat.succ_pos _)
end
end Mine

end
section
open PySem PySem.W PyProof.Rows PySem.Calls
set_option Elab.async false
set_option maxRecDepth 100000
set_option maxHeartbeats 1000000
namespace Mine
section
variable {prog : Program} {w : World} {A : Around} {E : Value → Shared → Prop} {s : Shared} {Q : Value → Shared → Prop}
end
end Mine

end
section
open PySem PySem.W PyProof.Rows PySem.Calls
set_option Elab.async false
set_option maxRecDepth 100000
set_option maxHeartbeats 1000000
namespace Mine
section
variable {prog : Program} {w : World} {A : Around} {s : Shared} {env : Env} {elt iter : Expr} {x : Str} {px : Pos} {ifs : List Expr} {scope : Scope} {pos : Pos} {Q : Value → Shared → Prop}
/-- what is to be shown behind a comprehension's source, a range -/
def LCR (prog : Program) (w : World) (A : Around) (env : Env) (elt : Expr) (x : Str) (scope : Scope) (cl : List (Str × Addr)) (G : Value → Value → Prop) (Q : Value → Shared → Prop) (xv : Value) (s : Shared) : Prop :=
  ∃ r a₀ b₀ t₀ u₀ v₀, ∃ n : Nat, xv = .ref r ∧ IsRange s.heap r a₀ b₀ 1 t₀ u₀ v₀ ∧ Builtin.Range.small a₀ b₀ 1 = true ∧ Builtin.Range.rangeSize a₀ b₀ 1 = (n : Int) ∧ n ≤ sizeLine ∧ 0 < s.toks ∧
    (∀ C (i : Nat) t s₃ m₃, i < n → s₃.heap.Ns C m₃ → m₃ x = some (.int (a₀ + (i : Int) * 1) t) → s.heap.StaysIn s₃.heap → s.heap.objs.size ≤ C → 0 < s₃.toks →
      wpAny (model prog w) A (eval elt (compEnvC scope cl C env)) (fun y s₄ => G (.int (a₀ + (i : Int) * 1) t) y ∧ Keeps s₃ s₄) NoE s₃) ∧
    (∀ D h' tk (vs ys : List Value) k, s.heap.get? D = none → h'.get? D = some (listOf ys.toArray k) → vs.length = n → (∀ (j : Nat) v, vs[j]? = some v → ∃ t, v = .int (a₀ + (j : Int) * 1) t) → Paired G vs ys → s.heap.StaysIn h' → 0 < tk → Q (.ref D) { s with heap := h', toks := tk })
end
end Mine

end
section
open PySem PySem.W PyProof.Rows PySem.Calls
set_option Elab.async false
set_option maxRecDepth 100000
set_option maxHeartbeats 1000000
namespace Mine
section
variable {prog : Program} {w : World} {A : Around} {s : Shared} {env : Env} {scope : Scope} {E : Value → Shared → Prop}
theorem sliceH {value slice : Expr} {l : Addr} {items : Array Value} {vl vu vk : Value} {lo hi st : Option Int} {ops : List Value} {Q : Value → Shared → Prop}
    (hl : s.heap.IsList l items) (pl : IsPart vl lo) (pu : IsPart vu hi) (pk : IsPart vk st) (h0 : st ≠ some 0)
    (h : ∀ h' D, s.heap.StaysIn h' → h'.IsList D (slicePick items lo hi st) → Q (.ref D) { s with heap := h' })
    (hs : subscripted slice false (.ref l) (.ref s.heap.objs.size) = operate ops (getItem (.ref l) (.ref s.heap.objs.size)))
    (ht : ∀ r, letTemporaryGo value (.ref l) r = pure ())
    (hsz : items.size ≤ sizeLine) :
    wpAny (model prog w) A (subscriptTail value slice (.ref l) (.ref s.heap.objs.size)) Q E { s with heap := s.heap.push { cls := .type "slice", data := .fields #[vl, vu, vk] } } := by
  refine subscriptTail_ops (Heap.IsList.typeIs (s := { s with heap := s.heap.push { cls := .type "slice", data := .fields #[vl, vu, vk] } }) (hl.push _)) list_getitem_lookup
    (wpAny_getItem_list_slice (hl.push _) (Heap.IsSliceOf.new ..) pl pu pk h0 ?_ hsz) hs ht
  exact h _ _ (fun b o e => Heap.get?_push_of_some _ (Heap.get?_push_of_some _ e)) ⟨_, Heap.get?_push_size _ rfl, rfl, _, rfl⟩
end
end Mine

end
section
open PySem PySem.W PyProof.Rows PySem.Calls
set_option Elab.async false
set_option maxRecDepth 100000
set_option maxHeartbeats 1000000
namespace Mine
section
variable {prog : Program} {w : World} {A : Around} {E : Value → Shared → Prop} {s : Shared} {h₀ : Heap} {L D : Addr} {m : Str → Option Value} {news news' : List (Addr × Obj)} {p : List Value} {y v : Value} {n : Nat} {t u : Tok}
theorem lastGet {Q : Value → Shared → Prop} (N : News h₀ L s.heap news) (hm : (D, listOf (p ++ [y]).toArray n) ∈ news) (h : Q y s) : wpAny (model prog w) A (getItem (.ref D) (.int (-1) u)) Q E s :=
  wpAny_getItem_list_neg (PySem.IsL.isList (n := n) (N _ hm).1) (by decide) (by rw [List.size_toArray, List.length_append]; simp; omega) (by decide) (x := y) (by
    have : ((-1 : Int) + ((p ++ [y]).toArray.size : Int)).toNat = p.length := by rw [List.size_toArray, List.length_append]; simp; omega
    rw [this]; simp) h
theorem lastSub {value slice : PySem.Expr} {Q : Value → Shared → Prop} (N : News h₀ L s.heap news) (hm : (D, listOf (p ++ [y]).toArray n) ∈ news) (h : Q y s)
    (hs : subscripted slice false (.ref D) (.int (-1) u) = operate [.ref D, .int (-1) u] (getItem (.ref D) (.int (-1) u)) := by with_unfolding_all rfl) :
    wpAny (model prog w) A (subscriptTail value slice (.ref D) (.int (-1) u)) Q E s := by
  refine subscriptTail_builtinR (Heap.IsList.typeIs (PySem.IsL.isList (n := n) (N _ hm).1)) list_getitem_lookup (x := y) (lastGet N hm ⟨rfl, h⟩) hs
theorem lastPop {Q : Value → Shared → Prop} (F : Fr h₀ L s.heap m) (N : News h₀ L s.heap news) (U : Upd D (listOf (p ++ [y]).toArray n) (listOf p.toArray (n + 1)) news news') (hz : p.length ≤ 1000)
    (h : ∀ h', Fr h₀ L h' m → News h₀ L h' news' → Q y { s with heap := h' }) : wpAny (model prog w) A (call (.builtin "list.pop") [.ref D]) Q E s :=
  kl_pop F N (by simpa using kpa_last y p) U (by simp [sizeLine_eq]; omega) h
theorem lenL {vs : List Value} {Q : Value → Shared → Prop} (N : News h₀ L s.heap news) (hm : (D, listOf vs.toArray n) ∈ news) (hz : vs.length ≤ 100000) (ht : 0 < s.toks) (h : ∀ t tk, 0 < tk → Q (.int (vs.length : Int) t) { s with toks := tk }) : wpAny (model prog w) A (call (.builtin "len") [.ref D]) Q E s := by
  have e : vs.toArray.size = vs.length := List.size_toArray
  refine len_list (PySem.IsL.isList (n := n) (N _ hm).1) (by rw [e]; omega) ?_
  rw [e]
  exact h _ _ (by omega)
theorem strs_snoc {vs : List Value} {ys : List Str} {y : Str} (h : StrsAre vs (ys ++ [y])) : ∃ p t, vs = p ++ [.str y t] ∧ StrsAre p ys := by
  induction ys generalizing vs with
  | nil =>
    cases h with
    | cons _ t r => cases r; exact ⟨[], t, rfl, .nil⟩
  | cons a ys ih =>
    cases h with
    | cons _ t r =>
      obtain ⟨p, t', rfl, hp⟩ := ih r
      exact ⟨_ :: p, t', rfl, .cons _ _ hp⟩
end
end Mine

end
section
open PySem PySem.W PyProof.Rows PySem.Calls PyProof.V PySem.Spec
set_option Elab.async false
set_option maxRecDepth 100000
set_option maxHeartbeats 1000000
namespace Mine
theorem layS : ∀ ns : List Str, (∀ x ∈ ns, PyData.strOk x = true) → PyData.canLayAll0 (ns.map PyData.str) = true
  | [], _ => rfl
  | x :: r, h => by simp [PyData.canLayAll0, PyData.canLay0, layS r (fun y hy => h y (.tail _ hy)), h x (.head _)]
theorem depthS : ∀ ns : List Str, PyData.depthAll (ns.map PyData.str) = 0
  | [] => rfl
  | _ :: r => by simp [PyData.depthAll, PyData.depth, depthS r]
theorem shapedS {ns : List Str} (h : ∀ x ∈ ns, PyData.strOk x = true) : SeqAt.shaped (.list (ns.map PyData.str)) = true := by
  simp [SeqAt.shaped, PyData.canLay0, PyData.depth, layS ns h, depthS]
theorem sameAllS : ∀ ns ms : List Str, PySem.Spec.sameAll (ns.map PyData.str) (ms.map PyData.str) = decide (ns = ms)
  | [], [] => by simp [PySem.Spec.sameAll]
  | [], _ :: _ => by simp [PySem.Spec.sameAll]
  | _ :: _, [] => by simp [PySem.Spec.sameAll]
  | a :: r, b :: t => by
    simp only [List.map_cons, PySem.Spec.sameAll, same_strs, sameAllS r t]
    by_cases h : a = b <;> by_cases h' : r = t <;> simp [h, h']
theorem sameS (ns ms : List Str) : PySem.Spec.same (.list (ns.map PyData.str)) (.list (ms.map PyData.str)) = decide (ns = ms) := by
  simp only [PySem.Spec.same]; exact sameAllS ns ms
theorem carriedS : ∀ {vs : List Value} {ns : List Str}, StrsAre vs ns → CarriedAll vs (ns.map PyData.str)
  | _, _, .nil => .nil
  | _, _, .cons _ t r => .cons (.str _ t) (carriedS r)
section
variable {prog : Program} {w : World} {A : Around} {E : Value → Shared → Prop} {s : Shared} {a b : Addr} {xs ys : List Value} {ns ms : List Str} {Q : Value → Shared → Prop}
theorem ne_strs (ha : s.heap.IsList a xs.toArray) (hb : s.heap.IsList b ys.toArray) (hi : StrsAre xs ns) (hj : StrsAre ys ms) (hok : ∀ x ∈ ns, PyData.strOk x = true) (hok2 : ∀ x ∈ ms, PyData.strOk x = true) (hu : A.units + 64 < cLine) (h : Q (.bool (!decide (ns = ms))) s) :
    wpAny (model prog w) A (compareOp .NotEq (.ref a) (.ref b)) Q E s :=
  ne_dataH_same (reads_newData ha (carriedS hi)) (reads_newData hb (carriedS hj)) (shapedS hok) (shapedS hok2) hu (SeqAt.noMix_of_shape (.list .str) rfl _ _ (list_map_has fun _ => rfl) (list_map_has fun _ => rfl)) (by rw [sameS]; exact h)
end
end Mine

end
section
open PySem PySem.W PyProof.Rows PySem.Calls PySem.Builtin
set_option Elab.async false
set_option maxRecDepth 100000
set_option maxHeartbeats 1000000
namespace Mine
inductive BytsAre : List Value → List (List UInt8) → Prop
  | nil : BytsAre [] []
  | cons (b : List UInt8) (t : Tok) {vs bs} : BytsAre vs bs → BytsAre (.bytes b.toArray t :: vs) (b :: bs)
theorem BytsAre.length {vs bs} (h : BytsAre vs bs) : vs.length = bs.length := by induction h <;> simp_all
theorem joined_eq : ∀ (l : List (List UInt8)) (k : Nat) (acc : Array UInt8), ((l.map List.toArray).zipIdx k).foldl (fun out (x : Array UInt8 × Nat) => (if x.2 > 0 then out ++ (#[] : Array UInt8) else out) ++ x.1) acc = acc ++ l.flatten.toArray
  | [], _, acc => by simp
  | b :: l, k, acc => by
    rw [List.map_cons, List.zipIdx_cons, List.foldl_cons, joined_eq l]
    have : (if k > 0 then acc ++ (#[] : Array UInt8) else acc) = acc := by split <;> simp
    dsimp only
    rw [this]; simp
theorem bufferF {b : Array UInt8} {t : Tok} {id : String} {full : Bool} : Bytes.buffer? id (.bytes b t) full = pure (some b) := by
  unfold Bytes.buffer?
  rw [KBy.special_eq KBy.look_buffer, KBy.own_buffer, KBy.own_release]
  kernel_rfl
theorem quietT {b : Array UInt8} {t : Tok} {id : String} : Bytes.takeBufferQuiet? id (.bytes b t) 0 = pure (some (b, none)) := by
  unfold Bytes.takeBufferQuiet? Bytes.takeBuffer?
  rw [KBy.special_eq KBy.look_buffer, KBy.own_buffer]
  simp only [bufferF]
  kernel_rfl
theorem slot_join : Slot "bytes" "join" "bytes.join" :=
  .of (owner := "bytes") (n := "join") (by rw [typeLookup_type, builtinLookup_eq_fast]; kernel_rfl) (by decide +kernel) (by decide +kernel) (by decide +kernel)
    (by first | exact .inl (by decide +kernel) | exact .inr (by decide +kernel)) (by rw [isSubtype_type]; kernel_rfl)
theorem entry_join : entryFor table "bytes.join" = some Builtin.«bytes.join» := by first | exact entryFor_of_tree (by kernel_rfl) | exact entryFor_of_fast (by kernel_rfl)
theorem args_join (a b : Value) : argsOk "bytes.join" ⟨[a, b], []⟩ := by
  unfold argsOk; rw [signature?_of (id := "bytes.join") (n := ['n', 'i', 'o', 'j']) (o := ['s', 'e', 't', 'y', 'b']) (by kernel_rfl) FB.owner_bytes]; kernel_rfl
section
variable {M : Model} {A : Around} {E : Value → Shared → Prop} {s : Shared}
theorem letgo_join : ∀ (taken : List (Value × Option Value)) (keep : List Value) {Q : Unit → Shared → Prop}, (∀ p ∈ taken, p.2 = none) → Q () s → wpAny M A (Bytes.joinLetGo taken keep) Q E s
  | [], _, _, _, h => by rw [Bytes.joinLetGo]; exact wpAny_pure h
  | (x, w) :: r, keep, Q, hn, h => by
    have e : w = none := hn _ (.head _)
    subst e
    unfold Bytes.joinLetGo
    dsimp only
    refine wpAny_bind (wpAny_letGo ?_)
    exact letgo_join r keep (fun p hp => hn p (.tail _ hp)) h
end
section
variable {M : Model} {A : Around} {E : Value → Shared → Prop} {s : Shared}
theorem loop_rule {β : Type} (n : Nat) (f : Nat → β → Sem (ForInStep β)) (I : Nat → β → Prop) (hstep : ∀ i b, i < n → I i b → wpAny M A (f i b) (fun r s' => s' = s ∧ ∃ b', r = .yield b' ∧ I (i + 1) b') E s) {Q : β → Shared → Prop} :
    ∀ (k j : Nat) b, j + k = n → I j b → (∀ b, I n b → Q b s) → wpAny M A (forIn (List.range' j k 1) b f) Q E s
  | 0, j, b, hj, hb, hq => by
    rw [List.range'_zero, List.forIn_nil]
    have : j = n := by omega
    subst this
    exact wpAny_pure (hq _ hb)
  | k + 1, j, b, hj, hb, hq => by
    rw [List.range'_succ]
    refine KPc.turn (wpAny_mono (hstep j b (by omega) hb) (fun r s' hr => ?_) fun _ _ e => e)
    obtain ⟨e, b', rfl, hb'⟩ := hr
    rw [e]
    exact loop_rule n f I hstep k (j + 1) b' (by omega) hb' hq
end
theorem BytsAre.at {vs bs} (h : BytsAre vs bs) : ∀ {i : Nat}, i < vs.length → ∃ b t, bs[i]? = some b ∧ vs[i]? = some (.bytes b.toArray t) := by
  induction h with
  | nil => intro i hi; exact absurd hi (Nat.not_lt_zero _)
  | cons b t _ ih =>
    intro i hi
    cases i with
    | zero => exact ⟨b, t, rfl, rfl⟩
    | succ i => exact ih (by simpa using hi)
section
variable {prog : Program} {w : World} {A : Around} {E : Value → Shared → Prop} {s : Shared} {Q : Value → Shared → Prop}
theorem joinB {l : Addr} {vs : List Value} {bs : List (List UInt8)} {t : Tok} (hl : s.heap.IsList l vs.toArray) (hb : BytsAre vs bs) (hz : bs.flatten.length ≤ 16777216) (ht : 0 < s.toks)
   (h : ∀ t' k, 0 < k → Q (.bytes bs.flatten.toArray t') { s with toks := k }) : wpAny (model prog w) A (call (.builtin "bytes.join") [.bytes #[] t, .ref l]) Q E s := by
  refine wpAny_pos ht (call_meets slot_join (typeIs_bytes _ _ _) entry_join (args_join _ _) (S := fun _ R s => s.heap.IsList l vs.toArray ∧ ∀ t' k, R (.ok (.ret (.bytes bs.flatten.toArray t'))) { s with toks := k }) ?_ ⟨hl, fun t' k hk => h t' k hk⟩)
  clear h hl ht
  intro prog w A R s hS
  obtain ⟨hl, h⟩ := hS
  unfold Builtin.«bytes.join» Bytes.joinM
  dsimp only
  refine wpAny_bind ?_
  refine wpAny_of_eq (a := (Value.bytes #[] t, Value.ref l)) rfl ?_
  dsimp only
  refine wpAny_ite (KPc.ite_yes rfl ?_)
  refine wpAny_bind ?_
  unfold Bytes.joinItems
  refine wpAny_bind (wpAny_typeOf hl.typeIs ?_)
  refine wpAny_ite (KPc.ite_yes (by decide) ?_)
  refine wpAny_pure ?_
  obtain ⟨ol, hol, hcl, nl, hdl⟩ := id hl
  refine wpAny_bind (wpAny_seqItems hol hdl ?_)
  dsimp only
  refine wpAny_ite (KPc.ite_yes rfl ?_)
  have one : ∀ (v : Value) (rest : Sem Fin) (Q : Fin → Shared → Prop) (E : Value → Shared → Prop), (∃ b t, v = .bytes b t ∧ Q (.done (.ret v)) s) → wpAny (model prog w) A.in1 (do
      let d ← typeOf v
      if (d == Value.type "bytes") = true then do
          rule "bytes.join.one-item"
          ret v
        else rest) Q E s := by
    rintro v rest Q E ⟨b, t, rfl, hq⟩
    refine wpAny_bind (wpAny_typeOf (typeIs_bytes _ _ _) ?_)
    refine wpAny_ite (KPc.ite_yes (by decide) ?_)
    exact wpAny_bind (wpAny_rule (wpAny_pure hq))
  have hsz : vs.toArray.size = vs.length := List.size_toArray
  have loop : ∀ (f : Nat → Array (Array UInt8) × List (Value × Option Value) → Sem (ForInStep (Array (Array UInt8) × List (Value × Option Value)))) (rest : Array (Array UInt8) × List (Value × Option Value) → Sem Fin) (Q : Fin → Shared → Prop) (E : Value → Shared → Prop),
      (∀ i b t parts taken, i < vs.length → vs.toArray.getD i Value.none = .bytes b t → (∀ p ∈ taken, p.2 = none ∧ p.1.onHeap = false) → wpAny (model prog w) A.in1 (f i (parts, taken)) (fun r s' => s' = s ∧ r = .yield (parts.push b, taken ++ [(.bytes b t, none)])) E s) →
      (∀ taken, (∀ p ∈ taken, p.2 = none ∧ p.1.onHeap = false) → wpAny (model prog w) A.in1 (rest ((bs.map List.toArray).toArray, taken)) Q E s) →
      wpAny (model prog w) A.in1 (do
        let r ← forIn [:vs.toArray.size] (#[], []) f
        rest r) Q E s := by
    intro f rest Q E h1 h2
    rw [KPc.range_list, hsz]
    refine wpAny_bind (loop_rule vs.length f (fun i x => x.1 = ((bs.take i).map List.toArray).toArray ∧ ∀ p ∈ x.2, p.2 = none ∧ p.1.onHeap = false) ?_ vs.length 0 (#[], []) (by omega) ⟨by simp, by simp⟩ ?_)
    · rintro i ⟨parts, taken⟩ hi ⟨hp, ht⟩
      obtain ⟨b, t, e1, e2⟩ := hb.at hi
      have e3 : vs.toArray.getD i Value.none = .bytes b.toArray t := by rw [Array.getD_eq_getD_getElem?, List.getElem?_toArray, e2]; rfl
      refine wpAny_mono (h1 i b.toArray t parts taken hi e3 ht) (fun r s' hr => ?_) fun _ _ e => e
      refine ⟨hr.1, _, hr.2, ?_, ?_⟩
      · dsimp only at hp ⊢
        rw [hp, List.take_add_one, e1]; simp
      · intro p hp
        rcases List.mem_append.mp hp with hp | hp
        · exact ht p hp
        · rw [List.mem_singleton.mp hp]; exact ⟨rfl, rfl⟩
    · rintro ⟨parts, taken⟩ ⟨hp, ht⟩
      dsimp only at hp
      rw [hb.length, List.take_length] at hp
      rw [hp]
      exact h2 taken ht
  have fin : ∀ (X : Sem Fin) (f : Nat → Array (Array UInt8) × List (Value × Option Value) → Sem (ForInStep (Array (Array UInt8) × List (Value × Option Value)))) (rest : Array (Array UInt8) × List (Value × Option Value) → Sem Fin) (Q : Fin → Shared → Prop) (E : Value → Shared → Prop),
      X = (do
        let r ← forIn [:vs.toArray.size] (#[], []) f
        rest r) →
      (∀ i b t parts taken, i < vs.length → vs.toArray.getD i Value.none = .bytes b t → (∀ p ∈ taken, p.2 = none ∧ p.1.onHeap = false) → wpAny (model prog w) A.in1 (f i (parts, taken)) (fun r s' => s' = s ∧ r = .yield (parts.push b, taken ++ [(.bytes b t, none)])) E s) →
      (∀ taken, (∀ p ∈ taken, p.2 = none ∧ p.1.onHeap = false) → wpAny (model prog w) A.in1 (rest ((bs.map List.toArray).toArray, taken)) Q E s) →
      wpAny (model prog w) A.in1 X Q E s := fun X f rest Q E e h1 h2 => by rw [e]; exact loop f rest Q E h1 h2
  rcases vs with _ | ⟨x, _ | ⟨y, r⟩⟩
  case cons.nil =>
    cases hb with
    | cons b t' hr =>
      cases hr
      refine one _ _ _ _ ⟨_, _, rfl, ?_⟩
      have := h t' s.toks
      rw [List.flatten_cons, List.flatten_nil, List.append_nil] at this
      exact this
  all_goals
    refine fin _ _ _ _ _ rfl ?_ ?_
    · intro i b tb parts taken hi e1 ht
      refine wpAny_bind (wpAny_seqItems hol hdl ?_)
      dsimp only
      rw [e1]
      refine wpAny_ite (KPc.ite_no ?_ ?_)
      · have : (taken.any fun x => x.1.onHeap) = false := List.any_eq_false.mpr fun p hp => by rw [(ht p hp).2]; exact Bool.false_ne_true
        rw [this]; decide
      refine wpAny_bind (wpAny_holding (wpAny_of_eq quietT ?_))
      dsimp only
      refine wpAny_bind (wpAny_seqItems hol hdl ?_)
      dsimp only
      refine wpAny_ite (KPc.ite_no (by simp) ?_)
      exact wpAny_pure ⟨rfl, rfl⟩
    · intro taken ht
      dsimp only
      refine wpAny_bind (wpAny_of_eq (a := (#[] : Array UInt8)) rfl ?_)
      have e2 : (List.map List.toArray bs).toArray.foldl (fun x1 x2 => x1 + x2.size) ((#[] : Array UInt8).size * ((List.map List.toArray bs).toArray.size - 1)) = bs.flatten.length := by
        have : ∀ (l : List (List UInt8)) (n : Nat), (l.map List.toArray).foldl (fun x1 x2 => x1 + x2.size) n = n + l.flatten.length := by
          intro l
          induction l with
          | nil => intro n; simp
          | cons a l ih => intro n; rw [List.map_cons, List.foldl_cons, ih, List.flatten_cons, List.length_append]; simp; omega
        rw [List.foldl_toArray, this]; simp
      have e3 : Bytes.joined #[] (List.map List.toArray bs) = bs.flatten.toArray := by
        have := joined_eq bs 0 #[]
        rw [Array.empty_append] at this
        exact this
      rw [e2]
      refine wpAny_ite (KPc.ite_no (by rw [KBy.tooLong_not hz]; exact Bool.false_ne_true) ?_)

      rw [e3]
      refine wpAny_bind (wpAny_mkBytes ?_ (by rw [sizeLine_eq, List.size_toArray]; exact hz))
      refine wpAny_bind (wpAny_holding (wpAny_point ?_))
      refine wpAny_bind (letgo_join _ _ (fun p hp => (ht p hp).1) ?_)
      exact wpAny_pure (h _ _)
/-- bytes + bytes -/
theorem addBy {b c : List UInt8} {t u : Tok} (hz : b.length + c.length ≤ 16777216) (ht : 0 < s.toks) (h : ∀ t' k, 0 < k → Q (.bytes (b ++ c).toArray t') { s with toks := k }) : wpAny (model prog w) A (binaryOp .Add (.bytes b.toArray t) (.bytes c.toArray u)) Q E s := by
  refine wpAny_pos ht (KBy.add_bytes (by simpa using hz) fun t' k hk => ?_)
  rw [List.append_toArray]
  exact h t' k hk
theorem fits_slack {n : Int} (h1 : -1048576 ≤ n) (h2 : n ≤ 1048576) : Builtin.Bytes.fitsIndex n = true := by
  simp only [Builtin.Bytes.fitsIndex, Bool.and_eq_true, decide_eq_true_eq]
  omega
/-- bytes * int -/
theorem mulBI {b : List UInt8} {n : Int} {t u : Tok} (hb : b ≠ []) (hlo : -1048576 ≤ n) (hn : n ≤ 1048576) (hs : b.length ≤ 16) (ht : 0 < s.toks) (h : ∀ t' k, 0 < k → Q (.bytes ((List.replicate n.toNat b).flatten).toArray t') { s with toks := k }) :
    wpAny (model prog w) A (binaryOp .Mult (.bytes b.toArray t) (.int n u)) Q E s := wpAny_pos ht (bytes_mul_any hb hlo hn hs fun t' k hk => h t' k hk)
theorem int_mul_declines (a : Int) (t : Tok) (b : Array UInt8) (u : Tok) : Gives (Builtin.«int.__mul__» ⟨[.int a t, .bytes b u], []⟩) (.val (Value.notImplemented)) :=
  .of_wp fun M A E s Q h => by obtain ⟨hp, g, d, tk, os⟩ := s; wp_walk; exact ⟨_, rfl, h⟩
/-- int * bytes -/
theorem mulIB {b : List UInt8} {n : Int} {t u : Tok} (hb : b ≠ []) (hlo : -1048576 ≤ n) (hn : n ≤ 1048576) (hs : b.length ≤ 16) (ht : 0 < s.toks) (h : ∀ t' k, 0 < k → Q (.bytes ((List.replicate n.toNat b).flatten).toArray t') { s with toks := k }) :
    wpAny (model prog w) A (binaryOp .Mult (.int n u) (.bytes b.toArray t)) Q E s := by
  refine wpAny_pos ht ?_
  have e3 : b.toArray.size = b.length := by simp
  have hle : b.length * n.toNat ≤ 16777216 := by
    have e2 : b.length * n.toNat ≤ 16 * n.toNat := Nat.mul_le_mul_right _ hs
    omega
  by_cases h1 : n = 1
  · subst h1
    refine lm_binaryOp_repeat_right (T := "bytes") (U := "int") (by decide) (fun s' => typeIs_int s' 1 u) (typeIs_bytes s _ t) F.fills_int_mul BMul.noFill F.slot_int_mul lm_noRepeat_int BMul.repeats F.slot_int_index.lookup
      (call_gives F.slot_int_mul (typeIs_int s 1 u) F.entry_int_mul (F.args_int_mul_2 _ _) (int_mul_declines 1 u _ t)
        ⟨rfl, typeIs_bytes _ _ _, call_gives BMul.slot_mul (typeIs_bytes s _ t) BMul.entry_mul (BMul.args_mul _ _) (BMul.gives_mul1 (by rw [e3]; omega)) ?_⟩)
    have h' := h t s.toks ht
    have e : (List.replicate (1 : Int).toNat b).flatten = b := by simp
    rw [e] at h'
    exact fun _ => h'
  · have hpos : 0 < b.length := List.length_pos_iff.mpr hb
    have h63 : ¬ b.toArray.size * n.toNat ≥ 2 ^ 63 := by rw [e3]; omega
    have hne : (b.toArray.size * n.toNat == b.toArray.size) = false := by
      rw [e3]
      refine beq_false_of_ne fun e => ?_
      rcases Nat.lt_or_ge n.toNat 2 with h2 | h2
      · have h0 : n.toNat = 0 := by omega
        rw [h0] at e
        omega
      · have e2 : b.length * 2 ≤ b.length * n.toNat := Nat.mul_le_mul_left _ h2
        omega
    have hl : Builtin.Bytes.tooLong (b.toArray.size * n.toNat) = false := by rw [e3]; exact KBy.tooLong_not hle
    refine lm_binaryOp_repeat_right (T := "bytes") (U := "int") (by decide) (fun s' => typeIs_int s' n u) (typeIs_bytes s _ t) F.fills_int_mul BMul.noFill F.slot_int_mul lm_noRepeat_int BMul.repeats F.slot_int_index.lookup
      (call_gives F.slot_int_mul (typeIs_int s n u) F.entry_int_mul (F.args_int_mul_2 _ _) (int_mul_declines n u _ t)
        ⟨rfl, typeIs_bytes _ _ _, call_gives BMul.slot_mul (typeIs_bytes s _ t) BMul.entry_mul (BMul.args_mul _ _) (BMul.gives_mul (fits_slack hlo hn) h63 hne hl) ?_⟩)
    rw [BMul.repeated_list hb]
    refine ⟨?_, fun hk => h _ _ hk⟩
    rw [sizeLine_eq]
    have e4 : ((List.replicate n.toNat b).flatten.toArray).size = n.toNat * b.length := by simp
    rw [e4, Nat.mul_comm]
    exact hle
end
section
variable {M : Model} {A : Around} {E : Value → Shared → Prop} {s : Shared}
theorem getMethod_enc {x : Str} {t : Tok} {pl : Sem Bool} {Q : Value × List Value → Shared → Prop} (h : Q (.builtin "str.encode", [.str x t]) s) : wpAny M A (getMethod (.str x t) "encode" pl) Q E s :=
  getMethod_builtin (typeIs_str _ _ _) F.plainAttrs_str F.slot_str_encode F.type_str_encode (fun _ hx => by cases hx) h
theorem getMethod_joinB {x : Array UInt8} {t : Tok} {pl : Sem Bool} {Q : Value × List Value → Shared → Prop} (h : Q (.builtin "bytes.join", [.bytes x t]) s) : wpAny M A (getMethod (.bytes x t) "join" pl) Q E s :=
  getMethod_builtin (typeIs_bytes _ _ _) FB.plainAttrs_bytes slot_join (by show builtinType _ = _; rw [builtinType_eq_fast]; kernel_rfl) (fun _ hx => by cases hx) h
end
theorem const_bytes {M : Model} {A : Around} {env : Env} {x : List UInt8} {kk : Nat} {pos : Pos} {Q : Value → Shared → Prop} {E : Value → Shared → Prop} {h : Heap} {g : Array GenState} {d : Drawn} {o : OsState} {n : Nat}
    (k : ∀ t tk, n ≤ t → t < tk → Q (.bytes x.toArray t) ⟨h, g, d, tk, o⟩) : wpAny M A (eval (.Constant (.bytes x) kk pos) env) Q E ⟨h, g, d, n, o⟩ := Constant_bytes (k n (n + 1) (Nat.le_refl _) (Nat.lt_succ_self _))
end Mine

end
section
open PySem PySem.W PyProof.Rows PySem.Calls
set_option Elab.async false
set_option maxRecDepth 100000
set_option maxHeartbeats 1000000
namespace Mine

/-- a call with a ledger of its own: what it may change; all else stands, but for the slots of the frames below -/
def PM (prog : Program) (w : World) (K : Frag) (p : Program) (loose : List Str) (mean : ExcName → Option Value) (mg mb : Str → Option Value) (d u : Nat) (f : Addr) (vs : List Value) (nc : List (Addr × Obj)) (R : Value → List (Addr × Obj) → Prop) : Prop :=
  ∀ (dp un : Nat) (gd : Option (List Code)) (fr : List Env) (base g : Heap) (s : Shared) (Q E : Value → Shared → Prop),
    Below (atop dp un gd fr) base fr g → K.In base → Top p loose mean mg mb base → KtsDicts (fr.filterMap (·.frame)) g → g.StaysIn s.heap → g.objs.size = s.heap.objs.size → (∀ q ∈ nc, s.heap.get? q.1 = some q.2 ∧ g.get? q.1 = none) →
    dp + d < recursionLimit → un + u < cLine → 0 < s.toks →
    (∀ v nc' g' h' tk', R v nc' → KtsTurn (fr.filterMap (·.frame)) g g' → g'.StaysIn h' → (∀ q ∈ nc', h'.get? q.1 = some q.2 ∧ g'.get? q.1 = none) → 0 < tk' → Q v { s with heap := h', toks := tk' }) →
    wpAny (model prog w) (atop dp un gd fr) (call (.ref f) vs) Q E s

def PMEnd (fs : List Addr) (g : Heap) (L : Addr) (s : Shared) (R : Value → List (Addr × Obj) → Prop) (v : Value) (s' : Shared) : Prop :=
  ∃ g' h' tk' m nc', s' = { s with heap := h', toks := tk' } ∧ KtsTurn fs g g' ∧ Fr g' L h' m ∧ News g' L h' nc' ∧ 0 < tk' ∧ R v nc'

theorem PMEnd.mk {fs : List Addr} {g g' : Heap} {L : Addr} {s : Shared} {R : Value → List (Addr × Obj) → Prop} {v : Value} {h' : Heap} {tk' : Nat} {m : Str → Option Value} {news : List (Addr × Obj)} (nc' : List (Addr × Obj)) (T : KtsTurn fs g g') (F : Fr g' L h' m) (N : News g' L h' news) (hs : ∀ q ∈ nc', q ∈ news) (ht : 0 < tk') (hR : R v nc') :
    PMEnd fs g L s R v { s with heap := h', toks := tk' } := ⟨g', h', tk', m, nc', rfl, T, F, kst_newsOf N hs, ht, hR⟩

section
variable {prog : Program} {w : World} {K : Frag} {p : Program} {loose : List Str} {mean : ExcName → Option Value} {mg mb : Str → Option Value} {d u : Nat} {f : Addr} {vs : List Value} {nc : List (Addr × Obj)} {R : Value → List (Addr × Obj) → Prop}

theorem PM.mono {R' : Value → List (Addr × Obj) → Prop} {d' u' : Nat} (C : PM prog w K p loose mean mg mb d u f vs nc R) (hR : ∀ v n, R v n → R' v n) (hd : d ≤ d') (hu : u ≤ u') : PM prog w K p loose mean mg mb d' u' f vs nc R' :=
  fun dp un gd fr base g s Q E B X T D st sz hn h1 h2 h3 hq => C dp un gd fr base g s Q E B X T D st sz hn (by omega) (by omega) h3 fun v nc' g' h' tk' r => hq v nc' g' h' tk' (hR v nc' r)

theorem PM.enter {name qual : Str} {params : Arguments} {body : List Stmt} {scope : Scope} {dV kV doc pm cdv ct oc : Value} {an od : Option Addr} {osl : Array (Option Value)} {binds : List (Str × Value)}
    (ho : K.lookup f = some ⟨oc, od, .func (fnOf name qual params body scope dV kV doc pm an cdv ct), osl⟩) (hcd : codeIn K cdv qual = true)
    (hbind : bindArgs (fnOf name qual params body scope dV kV doc pm an cdv ct) ⟨vs, []⟩ = pure binds) (hloc : (binds.all fun x => decide (scope.names.lookup x.1 = some .local)) = true)
    (hcell : ∀ x ∈ scope.names, x.2 ≠ .cell) (hco : scope.isCoroutine = false) (hgen : scope.isGenerator = false) (hk : scope.kind = .function)
    (h : ∀ (dp un : Nat) (gd : Option (List Code)) (fr : List Env) (base g : Heap) (L : Addr) (h₁ : Heap) (s : Shared),
      Below (atop dp un gd fr) base fr g → K.In base → Top p loose mean mg mb base → K.In g → Top p loose mean mg mb g → KtsDicts (fr.filterMap (·.frame)) g → KtsTurn (fr.filterMap (·.frame)) g g → Fr g L h₁ (fun y => binds.reverse.lookup y) → News g L h₁ nc → dp + d < recursionLimit → un + u < cLine → ∀ tk, 0 < tk →
      wpAny (model prog w) ((atop dp un gd fr).deeper (envOf qual scope L f cdv)) (execs body (envOf qual scope L f cdv))
        (fun fl s' => PMEnd (fr.filterMap (·.frame)) g L s R (match fl with | .ret v => v | _ => .none) s') (fun _ _ => False) { s with heap := h₁, toks := tk })
    (hd : 0 < d) : PM prog w K p loose mean mg mb d u f vs nc R := by
  intro dp un gd fr base g s Q E B XB TB D hst hsz hnews h1 h2 h3 hq
  have X := XB.keeps B.stays
  have T := TB.keeps B.stays
  refine wpAny_call (codeAny_call_def (fd := fnOf name qual params body scope dV kV doc pm an cdv ct) (body := body) (binds := binds) (by show dp < _; omega) ((X.keeps hst) _ _ ho) rfl ((T.keeps hst).nolimit) (codeRec_of (X.keeps hst) hcd) rfl (BindsTo.of_eq hbind) hcell (locs hloc) (fun h₁ hns hk₁ => ?_) hco hgen hk)
  refine wpAny_mono (h dp un gd fr base g s.heap.objs.size h₁ s B XB TB X T D KtsTurn.refl ⟨hns, fun b o e => hk₁ b o (hst b o e), Nat.le_of_eq hsz⟩ (fun q hq => ⟨hk₁ _ _ (hnews q hq).1, Nat.ne_of_lt (Heap.lt_size (hnews q hq).1), (hnews q hq).2⟩) h1 h2 _ (Nat.lt_of_lt_of_le h3 (Nat.le_add_right _ _))) (fun fl s' hp => ?_) fun _ _ y => y.elim
  obtain ⟨g', h', tk', m, nc', e, hT, F, N, ht, hR⟩ := hp
  subst e
  exact hq _ nc' g' h' tk' hR hT F.keep (fun q hq => ⟨(N q hq).1, (N q hq).2.2⟩) ht

/-- such a call out of a def's frame: `nc` out of the ledger, `rest` of it stays -/
theorem PM.call {dp un : Nat} {gd : Option (List Code)} {fr : List Env} {base g₀ g : Heap} {L a : Addr} {m : Str → Option Value} {news : List (Addr × Obj)} {name : Str} {scope : Scope} {cd : Value} {s : Shared} {Q E : Value → Shared → Prop}
    (C : PM prog w K p loose mean mg mb d u f vs nc R) (rest : List (Addr × Obj)) (B : Below (atop dp un gd fr) base fr g) (XB : K.In base) (TB : Top p loose mean mg mb base) (D : KtsDicts (fr.filterMap (·.frame)) g) (T0 : KtsTurn (fr.filterMap (·.frame)) g₀ g) (F : Fr g L s.heap m) (N : News g L s.heap news)
    (hsub : ∀ q ∈ nc, q ∈ news) (hrest : ∀ q ∈ rest, q ∈ news ∧ ∀ r ∈ nc, @Ne Nat r.1 q.1) (hd : dp + 1 + d < recursionLimit) (hu : un + 3 + u < cLine) (ht : 0 < s.toks)
    (h : ∀ v nc' g' h' tk', R v nc' → Below (atop dp un gd fr) base fr g' → K.In g' → Top p loose mean mg mb g' → KtsDicts (fr.filterMap (·.frame)) g' → KtsTurn (fr.filterMap (·.frame)) g₀ g' → Fr g' L h' m → News g' L h' (nc' ++ rest) → 0 < tk' → Q v { s with heap := h', toks := tk' }) (hk : scope.kind = .function := by rfl) :
    wpAny (model prog w) ((atop dp un gd fr).deeper (envOf name scope L a cd)) (PySem.call (.ref f) vs) Q E s := by
  have Nc : News g L s.heap nc := kst_newsOf N hsub
  obtain ⟨oL, es, ep, hLg, hLd, hN, hNs, st, B₂⟩ := kts_enter (A := atop (dp + 1) (un + 3) gd (envOf name scope L a cd :: fr)) (cn := name) (cs := scope) (a := a) (ccd := cd) B F Nc rfl hk
  have nL₀ : g.get? L = none := kts_self F
  refine C (dp + 1) (un + 3) gd (envOf name scope L a cd :: fr) base _ s Q E B₂ XB TB (fun b hb => ?_) (fun b o e => of_hideAll _ e) (hideAll_size _ _) (fun q hq => ⟨(Nc q hq).1, hideAll_none _ (List.mem_map_of_mem hq)⟩) hd hu ht fun v nc' g'' h' tk' r T' hst hn' ht' => ?_
  · rcases kts_mem hb with rfl | hb
    · exact ⟨oL, es, ep, hLg, hLd⟩
    · obtain ⟨o, es', n', ho', hd'⟩ := D b hb
      exact ⟨o, es', n', st b o ho', hd'⟩
  obtain ⟨sl, hs⟩ := T'.up hLg
  obtain ⟨T₁, S₁⟩ := kts_turn_at (h := h') (fs := fr.filterMap (·.frame)) (g := g)
    (fun b hb => by
      obtain ⟨_, o, ho', _⟩ := B.frames.mem hb
      exact ⟨o, ho'⟩)
    (fun b o e nmem => hst b o (T'.other b o (st b o e) (fun q => by
      rcases kts_mem q with z | z
      · rw [z, nL₀] at e
        cases e
      · exact nmem z)))
    (fun b o e hm => by
      obtain ⟨sl', hs'⟩ := T'.up (st b o e)
      exact ⟨sl', hst _ _ hs'⟩)
  have B₃ : Below (atop dp un gd fr) base fr (ktsHeap h' (fr.filterMap (·.frame)) g) := ⟨B.stack, fun b o e => T₁.other b o (B.stays b o e) (fun hm => by
    rw [(B.frames.mem hm).1] at e
    cases e), B.frames.of_keeps fun b o e _ => by
    obtain ⟨sl', hs'⟩ := T₁.up e
    exact ⟨_, hs', rfl⟩⟩
  refine h v nc' _ h' tk' r B₃ (XB.keeps B₃.stays) (TB.keeps B₃.stays) (D.turn T₁) (T0.trans T₁) ⟨hNs sl h' (hst _ _ hs), S₁, by rw [T₁.size]; exact F.above⟩ (fun q hq => ?_) ht'
  rcases List.mem_append.mp hq with hq | hq
  · have h1 := hn' q hq
    have hg : g.get? q.1 = none := by
      cases e : g.get? q.1 with
      | none => rfl
      | some o =>
        obtain ⟨sl', hs'⟩ := T'.up (st _ _ e)
        rw [h1.2] at hs'; cases hs'
    refine ⟨h1.1, ?_, T₁.none_ _ hg⟩
    intro e
    rw [e, hs] at h1
    cases h1.2
  · obtain ⟨hin, hne⟩ := hrest q hq
    have h1 := N q hin
    have hg : (hideAll s.heap (nc.map (·.1))).get? q.1 = some q.2 := hideAll_get _ h1.1 fun z => by
      obtain ⟨r, hr, e⟩ := List.mem_map.mp z
      exact hne r hr e
    refine ⟨hst _ _ (T'.other _ _ hg fun z => ?_), h1.2.1, T₁.none_ _ h1.2.2⟩
    rcases kts_mem z with z | z
    · exact h1.2.1 z
    · obtain ⟨_, o, ho', _⟩ := B.frames.mem z
      rw [h1.2.2] at ho'; cases ho'
end
end Mine

end
section
open PySem PySem.W PyProof.Rows PySem.Calls
set_option Elab.async false
set_option maxRecDepth 100000
set_option maxHeartbeats 1000000
namespace Mine

/-- a raising call with a ledger of its own, which stays -/
def PXM (prog : Program) (w : World) (K : Frag) (p : Program) (loose : List Str) (mean : ExcName → Option Value) (mg mb : Str → Option Value) (d u : Nat) (f : Addr) (vs : List Value) (nc : List (Addr × Obj)) (cls : String) (A : List Value → Prop) : Prop :=
  ∀ (dp un : Nat) (gd : Option (List Code)) (fr : List Env) (base g : Heap) (rest : List (Addr × Obj)) (s : Shared) (Q E : Value → Shared → Prop),
    Below (atop dp un gd fr) base fr g → K.In g → Top p loose mean mg mb g → g.StaysIn s.heap → g.objs.size = s.heap.objs.size → (∀ q ∈ nc ++ rest, s.heap.get? q.1 = some q.2 ∧ g.get? q.1 = none) →
    dp + d < recursionLimit → un + u < cLine → 0 < s.toks →
    (∀ e t ws h' tk', A ws → RaisedS base g fr e (.type cls) t ws (nc ++ rest) h' → g.UpToSlots h' → 0 < tk' → E (.ref e) { s with heap := h', toks := tk' }) →
    wpAny (model prog w) (atop dp un gd fr) (call (.ref f) vs) Q E s

section
variable {prog : Program} {w : World} {K : Frag} {p : Program} {loose : List Str} {mean : ExcName → Option Value} {mg mb : Str → Option Value} {d u : Nat} {f : Addr} {vs : List Value} {nc : List (Addr × Obj)} {cls : String} {AX : List Value → Prop} {R : Value → List (Addr × Obj) → Prop}

/-- a closure that the ledger holds -/
theorem PM.enterX {name qual : Str} {params : Arguments} {body : List Stmt} {scope : Scope} {cl : List (Str × Addr)} {doc pm ctv : Value} {c' : Addr} {oc : Obj} {vs' : Array Value} {tq : Tok} {binds : List (Str × Value)}
    (ho : (f, fnMade name qual params body scope cl doc pm c' ctv) ∈ nc) (hc : (c', oc) ∈ nc) (hoc : oc.data = .fields vs') (hoq : vs'[1]? = some (.str qual tq))
    (hbind : bindArgs (fnX name qual params body scope cl .none .none doc pm none (.ref c') ctv) ⟨vs, []⟩ = pure binds) (hloc : (binds.all fun x => decide (scope.names.lookup x.1 = some .local)) = true)
    (hcell : ∀ x ∈ scope.names, x.2 ≠ .cell) (hco : scope.isCoroutine = false) (hgen : scope.isGenerator = false) (hk : scope.kind = .function)
    (h : ∀ (dp un : Nat) (gd : Option (List Code)) (fr : List Env) (base g : Heap) (L : Addr) (h₁ : Heap) (s : Shared),
      Below (atop dp un gd fr) base fr g → K.In base → Top p loose mean mg mb base → K.In g → Top p loose mean mg mb g → KtsDicts (fr.filterMap (·.frame)) g → KtsTurn (fr.filterMap (·.frame)) g g → Fr g L h₁ (fun y => binds.reverse.lookup y) → News g L h₁ nc → dp + d < recursionLimit → un + u < cLine → ∀ tk, 0 < tk →
      wpAny (model prog w) ((atop dp un gd fr).deeper (envX qual scope L f (.ref c') cl)) (execs body (envX qual scope L f (.ref c') cl))
        (fun fl s' => PMEnd (fr.filterMap (·.frame)) g L s R (match fl with | .ret v => v | _ => .none) s') (fun _ _ => False) { s with heap := h₁, toks := tk })
    (hd : 0 < d) : PM prog w K p loose mean mg mb d u f vs nc R := by
  intro dp un gd fr base g s Q E B XB TB D hst hsz hnews h1 h2 h3 hq
  have X := XB.keeps B.stays
  have T := TB.keeps B.stays
  refine wpAny_call (codeAny_call_def (fd := fnX name qual params body scope cl .none .none doc pm none (.ref c') ctv) (body := body) (binds := binds) (by show dp < _; omega) ((hnews _ ho).1) rfl ((T.keeps hst).nolimit) ⟨c', oc, vs', tq, rfl, (hnews _ hc).1, hoc, hoq⟩ rfl (BindsTo.of_eq hbind) hcell (locs hloc) (fun h₁ hns hk₁ => ?_) hco hgen hk)
  refine wpAny_mono (h dp un gd fr base g s.heap.objs.size h₁ s B XB TB X T D KtsTurn.refl ⟨hns, fun b o e => hk₁ b o (hst b o e), Nat.le_of_eq hsz⟩ (fun q hq => ⟨hk₁ _ _ (hnews q hq).1, Nat.ne_of_lt (Heap.lt_size (hnews q hq).1), (hnews q hq).2⟩) h1 h2 _ (Nat.lt_of_lt_of_le h3 (Nat.le_add_right _ _))) (fun fl s' hp => ?_) fun _ _ y => y.elim
  obtain ⟨g', h', tk', m, nc', e, hT, F, N, ht, hR⟩ := hp
  subst e
  exact hq _ nc' g' h' tk' hR hT F.keep (fun q hq => ⟨(N q hq).1, (N q hq).2.2⟩) ht
end
theorem rest_of {rest nc news : List (Addr × Obj)} (h1 : ∀ q ∈ rest, q ∈ news) (h2 : ∀ q ∈ rest, ∀ r ∈ nc, @Ne Nat r.1 q.1) : ∀ q ∈ rest, q ∈ news ∧ ∀ r ∈ nc, @Ne Nat r.1 q.1 := fun q hq => ⟨h1 q hq, h2 q hq⟩
end Mine

end
section
open PySem PySem.W PyProof.Rows PySem.Calls
set_option Elab.async false
set_option maxRecDepth 100000
set_option maxHeartbeats 1000000
namespace Mine

/-- a call that the interpreter makes raise; the ledger stays -/
def PXN (prog : Program) (w : World) (K : Frag) (p : Program) (loose : List Str) (mean : ExcName → Option Value) (mg mb : Str → Option Value) (d u : Nat) (f : Addr) (vs : List Value) (nc : List (Addr × Obj)) (cls : String) : Prop :=
  ∀ (dp un : Nat) (gd : Option (List Code)) (fr : List Env) (base g : Heap) (rest : List (Addr × Obj)) (s : Shared) (Q E : Value → Shared → Prop),
    Below (atop dp un gd fr) base fr g → K.In g → Top p loose mean mg mb g → g.StaysIn s.heap → g.objs.size = s.heap.objs.size → (∀ q ∈ nc ++ rest, s.heap.get? q.1 = some q.2 ∧ g.get? q.1 = none) →
    dp + d < recursionLimit → un + u < cLine → 0 < s.toks →
    (∀ e h' tk', RaisedSN base g fr e (.type cls) (nc ++ rest) h' → g.UpToSlots h' → 0 < tk' → E (.ref e) { s with heap := h', toks := tk' }) →
    wpAny (model prog w) (atop dp un gd fr) (call (.ref f) vs) Q E s

def PXNEnd (g : Heap) (L : Addr) (news : List (Addr × Obj)) (s : Shared) (cls : String) (e : Value) (s' : Shared) : Prop :=
  ∃ a m h h' tk', e = .ref a ∧ s' = { s with heap := h', toks := tk' } ∧ 0 < tk' ∧ Fr g L h m ∧ News g L h news ∧ Heap.NewExc h h' a cls

section
variable {prog : Program} {w : World} {K : Frag} {p : Program} {loose : List Str} {mean : ExcName → Option Value} {mg mb : Str → Option Value} {d u : Nat} {f : Addr} {vs : List Value} {nc : List (Addr × Obj)} {cls : String}

theorem PXN.enter {name qual : Str} {params : Arguments} {body : List Stmt} {scope : Scope} {dV kV doc pm cdv ct oc : Value} {an od : Option Addr} {osl : Array (Option Value)} {binds : List (Str × Value)}
    (ho : K.lookup f = some ⟨oc, od, .func (fnOf name qual params body scope dV kV doc pm an cdv ct), osl⟩) (hcd : codeIn K cdv qual = true)
    (hbind : bindArgs (fnOf name qual params body scope dV kV doc pm an cdv ct) ⟨vs, []⟩ = pure binds) (hloc : (binds.all fun x => decide (scope.names.lookup x.1 = some .local)) = true)
    (hcell : ∀ x ∈ scope.names, x.2 ≠ .cell) (hco : scope.isCoroutine = false) (hgen : scope.isGenerator = false) (hk : scope.kind = .function)
    (h : ∀ (dp un : Nat) (gd : Option (List Code)) (fr : List Env) (base g : Heap) (L : Addr) (h₁ : Heap) (s : Shared) (rest : List (Addr × Obj)),
      Below (atop dp un gd fr) base fr g → K.In g → Top p loose mean mg mb g → Fr g L h₁ (fun y => binds.reverse.lookup y) → News g L h₁ (nc ++ rest) → dp + d < recursionLimit → un + u < cLine → ∀ tk, 0 < tk →
      wpAny (model prog w) ((atop dp un gd fr).deeper (envOf qual scope L f cdv)) (execs body (envOf qual scope L f cdv))
        (fun _ _ => False) (PXNEnd g L (nc ++ rest) s cls) { s with heap := h₁, toks := tk })
    (hd : 0 < d) : PXN prog w K p loose mean mg mb d u f vs nc cls := by
  intro dp un gd fr base g rest s Q E B X T hst hsz hnews h1 h2 h3 hE
  refine wpAny_call (codeAny_call_def (fd := fnOf name qual params body scope dV kV doc pm an cdv ct) (body := body) (binds := binds) (by show dp < _; omega) ((X.keeps hst) _ _ ho) rfl ((T.keeps hst).nolimit) (codeRec_of (X.keeps hst) hcd) rfl (BindsTo.of_eq hbind) hcell (locs hloc) (fun h₁ hns hk₁ => ?_) hco hgen hk)
  refine wpAny_mono (h dp un gd fr base g s.heap.objs.size h₁ s rest B X T ⟨hns, fun b o e => hk₁ b o (hst b o e), Nat.le_of_eq hsz⟩ (fun q hq => ⟨hk₁ _ _ (hnews q hq).1, Nat.ne_of_lt (Heap.lt_size (hnews q hq).1), (hnews q hq).2⟩) h1 h2 _ (Nat.lt_of_lt_of_le h3 (Nat.le_add_right _ _))) (fun fl s' hp => hp.elim) fun e s' hp => ?_
  obtain ⟨a, m, h, h', tk', rfl, rfl, ht, F, N, hx⟩ := hp
  exact leave_newS B hx F N (fun h'' RS _ hup => hE a h'' tk' RS hup ht) hk

theorem PXN.call {dp un : Nat} {gd : Option (List Code)} {fr : List Env} {base g : Heap} {L a : Addr} {m : Str → Option Value} {news : List (Addr × Obj)} {name : Str} {scope : Scope} {cd : Value} {s : Shared} {Q E : Value → Shared → Prop}
    (C : PXN prog w K p loose mean mg mb d u f vs nc cls) (rest : List (Addr × Obj)) (B : Below (atop dp un gd fr) base fr g) (X : K.In g) (T : Top p loose mean mg mb g) (F : Fr g L s.heap m) (N : News g L s.heap news)
    (hsub : ∀ q ∈ nc ++ rest, q ∈ news) (hd : dp + 1 + d < recursionLimit) (hu : un + 3 + u < cLine) (ht : 0 < s.toks)
    (h : ∀ e G h' tk', Fr g L G m → RaisedSN base G (envOf name scope L a cd :: fr) e (.type cls) (nc ++ rest) h' → G.UpToSlots h' → 0 < tk' → E (.ref e) { s with heap := h', toks := tk' }) (hk : scope.kind = .function := by rfl) :
    wpAny (model prog w) ((atop dp un gd fr).deeper (envOf name scope L a cd)) (PySem.call (.ref f) vs) Q E s := by
  have N := kst_newsOf N hsub
  obtain ⟨oL, es, ep, hLg, hLd, hN, hNs, st, B₂⟩ := kts_enter (A := atop (dp + 1) (un + 3) gd (envOf name scope L a cd :: fr)) (cn := name) (cs := scope) (a := a) (ccd := cd) B F N rfl hk
  exact C (dp + 1) (un + 3) gd (envOf name scope L a cd :: fr) base _ rest s Q E B₂ (X.keeps st) (T.keeps st) (fun b o e => of_hideAll _ e) (hideAll_size _ _) (fun q hq => ⟨(N q hq).1, hideAll_none _ (List.mem_map_of_mem hq)⟩) hd hu ht
    fun e h' tk' R U ht' => h e _ h' tk' ⟨hN _ hLg, st, F.above⟩ R U ht'
end
section
open Builtin
variable {prog : Program} {w : World} {A : Around} {E : Value → Shared → Prop} {s : Shared} {h₀ : Heap} {L D : Addr} {news : List (Addr × Obj)} {n : Nat}
theorem popEmpty {Q : Value → Shared → Prop} (N : News h₀ L s.heap news) (hm : (D, listOf #[] n) ∈ news) (hA : A.handled = none) (ht : 0 < s.toks)
    (hE : ∀ h' tk e, 0 < tk → Heap.NewExc s.heap h' e "IndexError" → E (.ref e) { s with heap := h', toks := tk }) : wpAny (model prog w) A (call (.builtin "list.pop") [.ref D]) Q E s := by
  have hl : s.heap.IsList D #[] := PySem.IsL.isList (n := n) (N _ hm).1
  refine wpAny_pos ht (call_meets F.slot_list_pop hl.typeIs F.entry_list_pop (F.args_list_pop_1 _) (S := fun A R s => A.handled = none ∧ s.heap.IsList D #[] ∧ ∀ h' tk e, Heap.NewExc s.heap h' e "IndexError" → R (.error (.ref e)) { s with heap := h', toks := tk }) ?_ ⟨hA, hl, fun h' tk e x hk => hE h' tk e hk x⟩)
  clear hE ht hl hA N hm
  intro prog w A R s hS
  obtain ⟨hA, hl, hE⟩ := hS
  obtain ⟨o, ho, hc, ne, hd⟩ := id hl
  unfold Builtin.«list.pop»
  refine wpAny_bind (wpAny_of_eq (a := (Value.ref D, [])) rfl ?_)
  dsimp only
  refine wpAny_bind (wpAny_pure ?_)
  refine wpAny_ite (KPc.ite_no (by decide) ?_)
  refine wpAny_bind ?_
  show wpAny _ _ (seqItems? (.ref D) >>= _) _ _ s
  refine wpAny_bind (wpAny_seqItems ho hd (wpAny_pure ?_))
  refine wpAny_ite (KPc.ite_yes (by decide) ?_)
  refine wpAny_bind (wpAny_rule ?_)
  exact wpAny_bind (by exact_raiseError plainExc_IndexError hA hE)
end
section
variable {prog : Program} {w : World} {K : Frag} {p : Program} {loose : List Str} {mean : ExcName → Option Value} {mg mb : Str → Option Value} {d u : Nat} {f : Addr} {vs : List Value} {nc : List (Addr × Obj)} {R : Value → List (Addr × Obj) → Prop}
/-- a def with defaults -/
theorem PM.enterB {name qual : Str} {params : Arguments} {body : List Stmt} {scope : Scope} {dV kV doc pm cdv ct oc : Value} {an od : Option Addr} {osl : Array (Option Value)} {binds : List (Str × Value)}
    (ho : K.lookup f = some ⟨oc, od, .func (fnOf name qual params body scope dV kV doc pm an cdv ct), osl⟩) (hcd : codeIn K cdv qual = true)
    (hbind : ∀ s : Shared, K.In s.heap → BindsTo s (fnOf name qual params body scope dV kV doc pm an cdv ct) ⟨vs, []⟩ binds) (hloc : (binds.all fun x => decide (scope.names.lookup x.1 = some .local)) = true)
    (hcell : ∀ x ∈ scope.names, x.2 ≠ .cell) (hco : scope.isCoroutine = false) (hgen : scope.isGenerator = false) (hk : scope.kind = .function)
    (h : ∀ (dp un : Nat) (gd : Option (List Code)) (fr : List Env) (base g : Heap) (L : Addr) (h₁ : Heap) (s : Shared),
      Below (atop dp un gd fr) base fr g → K.In base → Top p loose mean mg mb base → K.In g → Top p loose mean mg mb g → KtsDicts (fr.filterMap (·.frame)) g → KtsTurn (fr.filterMap (·.frame)) g g → Fr g L h₁ (fun y => binds.reverse.lookup y) → News g L h₁ nc → dp + d < recursionLimit → un + u < cLine → ∀ tk, 0 < tk →
      wpAny (model prog w) ((atop dp un gd fr).deeper (envOf qual scope L f cdv)) (execs body (envOf qual scope L f cdv))
        (fun fl s' => PMEnd (fr.filterMap (·.frame)) g L s R (match fl with | .ret v => v | _ => .none) s') (fun _ _ => False) { s with heap := h₁, toks := tk })
    (hd : 0 < d) : PM prog w K p loose mean mg mb d u f vs nc R := by
  intro dp un gd fr base g s Q E B XB TB D hst hsz hnews h1 h2 h3 hq
  have X := XB.keeps B.stays
  have T := TB.keeps B.stays
  refine wpAny_call (codeAny_call_def (fd := fnOf name qual params body scope dV kV doc pm an cdv ct) (body := body) (binds := binds) (by show dp < _; omega) ((X.keeps hst) _ _ ho) rfl ((T.keeps hst).nolimit) (codeRec_of (X.keeps hst) hcd) rfl (hbind s (X.keeps hst)) hcell (locs hloc) (fun h₁ hns hk₁ => ?_) hco hgen hk)
  refine wpAny_mono (h dp un gd fr base g s.heap.objs.size h₁ s B XB TB X T D KtsTurn.refl ⟨hns, fun b o e => hk₁ b o (hst b o e), Nat.le_of_eq hsz⟩ (fun q hq => ⟨hk₁ _ _ (hnews q hq).1, Nat.ne_of_lt (Heap.lt_size (hnews q hq).1), (hnews q hq).2⟩) h1 h2 _ (Nat.lt_of_lt_of_le h3 (Nat.le_add_right _ _))) (fun fl s' hp => ?_) fun _ _ y => y.elim
  obtain ⟨g', h', tk', m, nc', e, hT, F, N, ht, hR⟩ := hp
  subst e
  exact hq _ nc' g' h' tk' hR hT F.keep (fun q hq => ⟨(N q hq).1, (N q hq).2.2⟩) ht

end
end Mine

end
section
open PySem PySem.W PyProof.Rows PySem.Calls
set_option Elab.async false
set_option maxRecDepth 100000
set_option maxHeartbeats 1000000
namespace Mine
section
variable {prog : Program} {w : World} {A : Around} {E : Value → Shared → Prop} {s : Shared}
/-- a remainder that is known -/
theorem mod_known {a b r : Int} {t u : Tok} {Q : Value → Shared → Prop} (h : a.fmod b = r) (hb : b ≠ 0) (ht : 0 < s.toks) (hq : ∀ t' k, 0 < k → Q (.int r t') { s with toks := k }) : wpAny (model prog w) A (binaryOp .Mod (.int a t) (.int b u)) Q E s := by
  refine mod_int' hb ?_
  rw [h]
  exact hq _ _ (by omega)
/-- a list's item at a written place -/
theorem itemL {value slice : PySem.Expr} {D : Addr} {items : Array Value} {n : Nat} {k : Int} {u : Tok} {v : Value} {h₀ : Heap} {L : Addr} {news : List (Addr × Obj)} {Q : Value → Shared → Prop} (N : News h₀ L s.heap news) (hm : (D, listOf items n) ∈ news)
    (h0 : 0 ≤ k) (hhi : k < 2 ^ 63) (hx : items[k.toNat]? = some v) (h : Q v s)
    (hs : subscripted slice false (.ref D) (.int k u) = operate [.ref D, .int k u] (getItem (.ref D) (.int k u)) := by with_unfolding_all rfl) :
    wpAny (model prog w) A (subscriptTail value slice (.ref D) (.int k u)) Q E s :=
  have hl := PySem.IsL.isList (n := n) (N _ hm).1
  tail_any hl.typeIs slot_list_getitem.lookup (wpAny_getItem_list hl h0 hhi hx h) hs
theorem item20 {value slice : PySem.Expr} {D : Addr} {a b : Value} {n : Nat} {u : Tok} {h₀ : Heap} {L : Addr} {news : List (Addr × Obj)} {Q : Value → Shared → Prop} (N : News h₀ L s.heap news) (hm : (D, listOf #[a, b] n) ∈ news) (h : Q a s)
    (hs : subscripted slice false (.ref D) (.int 0 u) = operate [.ref D, .int 0 u] (getItem (.ref D) (.int 0 u)) := by with_unfolding_all rfl) :
    wpAny (model prog w) A (subscriptTail value slice (.ref D) (.int 0 u)) Q E s := itemL N hm (by decide) (by decide) rfl h hs
theorem item21 {value slice : PySem.Expr} {D : Addr} {a b : Value} {n : Nat} {u : Tok} {h₀ : Heap} {L : Addr} {news : List (Addr × Obj)} {Q : Value → Shared → Prop} (N : News h₀ L s.heap news) (hm : (D, listOf #[a, b] n) ∈ news) (h : Q b s)
    (hs : subscripted slice false (.ref D) (.int 1 u) = operate [.ref D, .int 1 u] (getItem (.ref D) (.int 1 u)) := by with_unfolding_all rfl) :
    wpAny (model prog w) A (subscriptTail value slice (.ref D) (.int 1 u)) Q E s := itemL N hm (by decide) (by decide) rfl h hs
theorem menuV {value slice : PySem.Expr} {D : Addr} {a b e : Value} {n : Nat} {k : Int} {u : Tok} {h₀ : Heap} {L : Addr} {news : List (Addr × Obj)} {Q : Value → Shared → Prop} (N : News h₀ L s.heap news) (hm : (D, listOf #[a, b, e] n) ∈ news) (h0 : 0 ≤ k) (h3 : k < 3)
    (h : ∀ v, (k = 0 ∧ v = a) ∨ (k = 1 ∧ v = b) ∨ (k = 2 ∧ v = e) → Q v s)
    (hs : subscripted slice false (.ref D) (.int k u) = operate [.ref D, .int k u] (getItem (.ref D) (.int k u)) := by with_unfolding_all rfl) :
    wpAny (model prog w) A (subscriptTail value slice (.ref D) (.int k u)) Q E s := by
  have hk : k = 0 ∨ k = 1 ∨ k = 2 := by omega
  rcases hk with rfl | rfl | rfl
  · exact itemL N hm (by decide) (by decide) rfl (h _ (.inl ⟨rfl, rfl⟩)) hs
  · exact itemL N hm (by decide) (by decide) rfl (h _ (.inr (.inl ⟨rfl, rfl⟩))) hs
  · exact itemL N hm (by decide) (by decide) rfl (h _ (.inr (.inr ⟨rfl, rfl⟩))) hs
theorem menuB {value slice : PySem.Expr} {D : Addr} {x y z : List UInt8} {tx ty tz : Tok} {n : Nat} {k : Int} {u : Tok} {h₀ : Heap} {L : Addr} {news : List (Addr × Obj)} {Q : Value → Shared → Prop} (N : News h₀ L s.heap news) (hm : (D, listOf #[.bytes x.toArray tx, .bytes y.toArray ty, .bytes z.toArray tz] n) ∈ news) (h0 : 0 ≤ k) (h3 : k < 3)
    (hl : x.length ≤ 17000 ∧ y.length ≤ 17000 ∧ z.length ≤ 17000)
    (h : ∀ b t, b.length ≤ 17000 → (k = 0 ∧ b = x) ∨ (k = 1 ∧ b = y) ∨ (k = 2 ∧ b = z) → Q (.bytes b.toArray t) s)
    (hs : subscripted slice false (.ref D) (.int k u) = operate [.ref D, .int k u] (getItem (.ref D) (.int k u)) := by with_unfolding_all rfl) :
    wpAny (model prog w) A (subscriptTail value slice (.ref D) (.int k u)) Q E s := by
  refine menuV N hm h0 h3 (fun v hv => ?_) hs
  rcases hv with ⟨e, rfl⟩ | ⟨e, rfl⟩ | ⟨e, rfl⟩
  · exact h _ _ hl.1 (.inl ⟨e, rfl⟩)
  · exact h _ _ hl.2.1 (.inr (.inl ⟨e, rfl⟩))
  · exact h _ _ hl.2.2 (.inr (.inr ⟨e, rfl⟩))
theorem item2m0 {value slice : PySem.Expr} {D : Addr} {a b : Value} {n : Nat} {u : Tok} {h₀ : Heap} {L : Addr} {news : List (Addr × Obj)} {Q : Value → Shared → Prop} (N : News h₀ L s.heap news) (hm : (D, listOf #[a, b] n) ∈ news) (h : Q b s)
    (hs : subscripted slice false (.ref D) (.int (1 - 0) u) = operate [.ref D, .int (1 - 0) u] (getItem (.ref D) (.int (1 - 0) u)) := by with_unfolding_all rfl) :
    wpAny (model prog w) A (subscriptTail value slice (.ref D) (.int (1 - 0) u)) Q E s := itemL N hm (by decide) (by decide) rfl h hs
theorem item2m1 {value slice : PySem.Expr} {D : Addr} {a b : Value} {n : Nat} {u : Tok} {h₀ : Heap} {L : Addr} {news : List (Addr × Obj)} {Q : Value → Shared → Prop} (N : News h₀ L s.heap news) (hm : (D, listOf #[a, b] n) ∈ news) (h : Q a s)
    (hs : subscripted slice false (.ref D) (.int (1 - 1) u) = operate [.ref D, .int (1 - 1) u] (getItem (.ref D) (.int (1 - 1) u)) := by with_unfolding_all rfl) :
    wpAny (model prog w) A (subscriptTail value slice (.ref D) (.int (1 - 1) u)) Q E s := itemL N hm (by decide) (by decide) rfl h hs
theorem truSnoc {D : Addr} {p : List Value} {y : Value} {n : Nat} {h₀ : Heap} {L : Addr} {news : List (Addr × Obj)} {Q : Bool → Shared → Prop} (N : News h₀ L s.heap news) (hm : (D, listOf (p ++ [y]).toArray n) ∈ news) (hz : p.length ≤ 1000) (ht : 0 < s.toks) (h : ∀ k, 0 < k → Q true { s with toks := k }) :
    wpAny (model prog w) A (truthy (.ref D)) Q E s := by
  refine wpAny_pos ht (wpAny_truthy_list (PySem.IsL.isList (n := n) (N _ hm).1) (by rw [List.size_toArray, List.length_append]; simp; omega) ?_)
  intro hk
  have e : (!(p ++ [y]).toArray.isEmpty) = true := by simp
  rw [e]
  exact h _ hk
theorem truNil {D : Addr} {n : Nat} {h₀ : Heap} {L : Addr} {news : List (Addr × Obj)} {Q : Bool → Shared → Prop} (N : News h₀ L s.heap news) (hm : (D, listOf #[] n) ∈ news) (ht : 0 < s.toks) (h : ∀ k, 0 < k → Q false { s with toks := k }) :
    wpAny (model prog w) A (truthy (.ref D)) Q E s := by
  refine wpAny_pos ht (wpAny_truthy_list (PySem.IsL.isList (n := n) (N _ hm).1) (by decide) ?_)
  intro hk
  exact h _ hk
theorem ne_strsN {h₀ : Heap} {L : Addr} {news : List (Addr × Obj)} {a b : Addr} {xs ys : List Value} {ka kb : Nat} {ns : List Str} {Q : Value → Shared → Prop} (N : News h₀ L s.heap news) (ha : (a, listOf xs.toArray ka) ∈ news) (hb : (b, listOf ys.toArray kb) ∈ news) (hi : StrsAre xs ns) (hj : StrsAre ys ns) (hok : ∀ x ∈ ns, PyData.strOk x = true) (hu : A.units + 64 < cLine) (h : Q (.bool false) s) :
    wpAny (model prog w) A (compareOp .NotEq (.ref a) (.ref b)) Q E s :=
  ne_strs (PySem.IsL.isList (n := ka) (N _ ha).1) (PySem.IsL.isList (n := kb) (N _ hb).1) hi hj hok hok hu (by simpa using h)
theorem turn0F' {g g' h : Heap} {L : Addr} {m : Str → Option Value} (T : KtsTurn [] g g') (F : Fr g' L h m) : Fr g L h m := ⟨F.ns, fun b o e => F.keep b o (T.other b o e (by simp)), by rw [← T.size]; exact F.above⟩
theorem turn0N' {g g' h : Heap} {L : Addr} {news : List (Addr × Obj)} (T : KtsTurn [] g g') (N : News g' L h news) : News g L h news := fun q hq => ⟨(N q hq).1, (N q hq).2.1, by
  cases e : g.get? q.1 with
  | none => rfl
  | some o => have := (N q hq).2.2; rw [T.other _ _ e (by simp)] at this; cases this⟩
/-- pieces[mark:] -/
theorem tailFrom {value slice : Expr} {l : Addr} {h₀ : Heap} {L : Addr} {m : Str → Option Value} {news : List (Addr × Obj)} {xs ys : List Value} {n : Nat} {i : Int} {t : Tok} {ops : List Value} {Q : Value → Shared → Prop}
    (F : Fr h₀ L s.heap m) (N : News h₀ L s.heap news) (hm : (l, listOf (xs ++ ys).toArray n) ∈ news) (hi : i = (xs.length : Int)) (hsz : (xs ++ ys).length ≤ 16777216)
    (h : ∀ h' D, Fr h₀ L h' m → News h₀ L h' news → h'.IsList D ys.toArray → Q (.ref D) { s with heap := h' })
    (hs : subscripted slice false (.ref l) (.ref s.heap.objs.size) = operate ops (getItem (.ref l) (.ref s.heap.objs.size)))
    (ht : ∀ r, letTemporaryGo value (.ref l) r = pure ()) :
    wpAny (model prog w) A (subscriptTail value slice (.ref l) (.ref s.heap.objs.size)) Q E { s with heap := s.heap.push { cls := .type "slice", data := .fields #[.int i t, .none, .none] } } := by
  subst hi
  refine sliceH (PySem.IsL.isList (n := n) (N _ hm).1) (.int _ t) .none .none (by decide) (fun h' D hst hD => ?_) hs ht (by rw [sizeLine_eq, List.size_toArray]; exact hsz)
  rw [slicePick_from', List.drop_left] at hD
  exact h h' D (F.keeps hst) (fun q hq => ⟨hst _ _ (N q hq).1, (N q hq).2⟩) hD
end
section
variable {prog : Program} {w : World} {A : Around} {s : Shared} {env : Env} {h₀ : Heap} {x : Str} {st : Stmt} {Q : Flow → Shared → Prop}
/-- the ways through a statement, joined -/
theorem join_stmt {σ : Type} {L : Addr} {m₀ : Str → Option Value} (Led : σ → List (Addr × Obj)) (ps : σ → List (Str × Value)) (stored : List Str) (X : σ → Prop)
    (F0 : Fr h₀ L s.heap m₀) (h : wpAny (model prog w) A (exec st env) (NEnd h₀ L Led ps x stored m₀ X s) NoE s)
    (done : ∀ (c : σ) (u : Str → Option Value) h tk, X c → 0 < tk → Fr h₀ L h (fun y => if y = x then u y else locs4 m₀ u stored (ps c) y) → News h₀ L h (Led c) → Q .next { s with heap := h, toks := tk }) :
    wpAny (model prog w) A (exec st env) Q NoE s := wpAny_mono h (fun _ _ h' => h'.out done) fun _ _ y => y
end
theorem NEnd.next {σ : Type} {h₀ : Heap} {L : Addr} {Led : σ → List (Addr × Obj)} {ps : σ → List (Str × Value)} {x : Str} {stored : List Str} {m₀ : Str → Option Value} {X : σ → Prop} {s s₂ : Shared} (h : BEnd h₀ L Led ps x stored m₀ X s s₂) : NEnd h₀ L Led ps x stored m₀ X s .next s₂ := h
end Mine

end
section
open PySem PySem.W PyProof.Rows PySem.Calls
set_option Elab.async false
namespace Mine
/-- a stands before b -/
inductive Bef : List Nat → Nat → Nat → Prop
  | head {a b : Nat} {r : List Nat} : b ∈ r → Bef (a :: r) a b
  | tail {a b x : Nat} {r : List Nat} : Bef r a b → Bef (x :: r) a b
/-- rising -/
def Rise (l : List Nat) : Prop := l.Pairwise (· < ·)
theorem bef_lt {l : List Nat} {a b : Nat} (h : Rise l) (q : Bef l a b) : a < b := by
  unfold Rise at h
  induction q with
  | head hb => exact List.rel_of_pairwise_cons h hb
  | tail _ ih => exact ih (List.Pairwise.of_cons h)
theorem bef_ne {l : List Nat} {a b : Nat} (h : Rise l) (q : Bef l a b) : @Ne Nat a b := Nat.ne_of_lt (bef_lt h q)
theorem bef_ne' {l : List Nat} {a b : Nat} (h : Rise l) (q : Bef l a b) : @Ne Nat b a := Nat.ne_of_gt (bef_lt h q)
theorem rise_one {a : Nat} : Rise [a] := List.pairwise_singleton ..
theorem rise_cons {a b : Nat} {r : List Nat} (h : @LT.lt Nat _ a b) (hr : Rise (b :: r)) : Rise (a :: b :: r) := by
  unfold Rise at *
  refine List.pairwise_cons.mpr ⟨fun c hc => ?_, hr⟩
  rcases List.mem_cons.mp hc with rfl | hc
  · exact h
  · exact Nat.lt_trans h (List.rel_of_pairwise_cons hr hc)
theorem const_str0 {M : Model} {A : Around} {env : Env} {x : Str} {kk : Nat} {pos : Pos} {Q : Value → Shared → Prop} {E : Value → Shared → Prop} {h : Heap} {g : Array GenState} {d : Drawn} {o : OsState} {n : Nat}
    (k : ∀ t tk, 0 < tk → Q (.str x t) ⟨h, g, d, tk, o⟩) : wpAny M A (eval (.Constant (.str x) kk pos) env) Q E ⟨h, g, d, n, o⟩ := const_str fun t tk _ h2 => k t tk (Nat.zero_lt_of_lt h2)
theorem const_int0 {M : Model} {A : Around} {env : Env} {x : Int} {kk : Nat} {pos : Pos} {Q : Value → Shared → Prop} {E : Value → Shared → Prop} {h : Heap} {g : Array GenState} {d : Drawn} {o : OsState} {n : Nat}
    (k : ∀ t tk, 0 < tk → Q (.int x t) ⟨h, g, d, tk, o⟩) : wpAny M A (eval (.Constant (.int x) kk pos) env) Q E ⟨h, g, d, n, o⟩ := const_int fun t tk _ h2 => k t tk (Nat.zero_lt_of_lt h2)
theorem const_bytes0 {M : Model} {A : Around} {env : Env} {x : List UInt8} {kk : Nat} {pos : Pos} {Q : Value → Shared → Prop} {E : Value → Shared → Prop} {h : Heap} {g : Array GenState} {d : Drawn} {o : OsState} {n : Nat}
    (k : ∀ t tk, 0 < tk → Q (.bytes x.toArray t) ⟨h, g, d, tk, o⟩) : wpAny M A (eval (.Constant (.bytes x) kk pos) env) Q E ⟨h, g, d, n, o⟩ := const_bytes fun t tk _ h2 => k t tk (Nat.zero_lt_of_lt h2)
/-- I is none of them -/
def NeAll (I : Nat) (l : List Nat) : Prop := ∀ a ∈ l, @Ne Nat a I
theorem NeAll.at {I a : Nat} {l : List Nat} (h : NeAll I l) (q : a ∈ l) : @Ne Nat a I := h a q
theorem NeAll.at' {I a : Nat} {l : List Nat} (h : NeAll I l) (q : a ∈ l) : @Ne Nat I a := (h a q).symm
theorem NeAll.of {I : Addr} {l : List (Addr × Obj)} {L : List Nat} (h : AllNe I l) (e : l.map Prod.fst = L) : NeAll I L := by
  subst e
  intro a ha
  obtain ⟨p, hp, rfl⟩ := List.mem_map.mp ha
  exact allNe_iff.mp h p hp
theorem NeAll.to {I : Addr} {l : List (Addr × Obj)} {L : List Nat} (h : NeAll I L) (e : l.map Prod.fst = L) : AllNe I l := by
  subst e
  exact allNe_iff.mpr fun p hp => h _ (List.mem_map.mpr ⟨p, hp, rfl⟩)
end Mine

end
section
open PySem PySem.W PyProof.Rows PySem.Calls
set_option Elab.async false
set_option maxRecDepth 100000
set_option maxHeartbeats 1000000
namespace Mine
section
variable {prog : Program} {w : World} {A : Around} {E : Value → Shared → Prop} {s : Shared} {Q : Value → Shared → Prop}
theorem app_mk (x y : Str) : x ++ y = mkS (x.cps.toList ++ y.cps.toList) := by
  rw [← str_append]
theorem fmtA {y : Str} {t u : Tok} (hy : y.length ≤ 1000000) (ht : 0 < s.toks) (h : ∀ t' k, 0 < k → Q (.str (mkS ([60] ++ y.cps.toList ++ [62])) t') { s with toks := k }) :
    wpAny (model prog w) A (binaryOp .Mod (.str (Str.ofString "<%s>") t) (.str y u)) Q E s := by
  refine wpAny_pos ht ?_
  refine' KPc.mod_str ?kpcF hy ?kpcm ?_
  case kpcF => kpc_eq
  case kpcm => k_dflt kpc_run_s
  intro t' k hk
  have := h t' k hk
  rw [app_mk, app_mk]
  exact this
theorem fmtC {y : Str} {t u : Tok} (hy : y.length ≤ 1000000) (ht : 0 < s.toks) (h : ∀ t' k, 0 < k → Q (.str (mkS ([60, 47] ++ y.cps.toList ++ [62])) t') { s with toks := k }) :
    wpAny (model prog w) A (binaryOp .Mod (.str (Str.ofString "</%s>") t) (.str y u)) Q E s := by
  refine wpAny_pos ht ?_
  refine' KPc.mod_str ?kpcF hy ?kpcm ?_
  case kpcF => kpc_eq
  case kpcm => k_dflt kpc_run_s
  intro t' k hk
  have := h t' k hk
  rw [app_mk, app_mk]
  exact this
theorem fmtS {y : Str} {t u : Tok} (hy : y.length ≤ 1000000) (ht : 0 < s.toks) (h : ∀ t' k, 0 < k → Q (.str (mkS ([60] ++ y.cps.toList ++ [47, 62])) t') { s with toks := k }) :
    wpAny (model prog w) A (binaryOp .Mod (.str (Str.ofString "<%s/>") t) (.str y u)) Q E s := by
  refine wpAny_pos ht ?_
  refine' KPc.mod_str ?kpcF hy ?kpcm ?_
  case kpcF => kpc_eq
  case kpcm => k_dflt kpc_run_s
  intro t' k hk
  have := h t' k hk
  rw [app_mk, app_mk]
  exact this
theorem tag_text (e z : Str) : Str.ofString "<" ++ e ++ Str.ofString ">" ++ z ++ Str.ofString "</" ++ e ++ Str.ofString ">" = mkS ([60] ++ e.cps.toList ++ [62] ++ z.cps.toList ++ [60, 47] ++ e.cps.toList ++ [62]) := by
  simp only [app_mk]
  rfl
end
end Mine

end
section
open PySem PySem.W PyProof.Rows
set_option Elab.async false
set_option maxRecDepth 100000
set_option maxHeartbeats 8000000
namespace Mine
open_top hd08 for PySem.Challenge.rw_dm0240_08
end Mine

end
section
open PySem PySem.W PyProof.Rows PySem.Calls
set_option Elab.async false
set_option maxRecDepth 100000
set_option maxHeartbeats 1000000

namespace Mine

local macro_rules | `(tactic| walk_at "go") => `(tactic| repeat' (first | (k_unfold; (try dsimp only)) | walk1 | (dsimp only; first | walk1 | (k_unfold; (try dsimp only)))))
local macro_rules | `(tactic| walk_at "exec For Name Name cons nil") => `(tactic| (refine wpAny_For ?_))
local macro_rules | `(tactic| walk_at "exec For Name Call cons nil") => `(tactic| (refine wpAny_For ?_))
local macro_rules | `(tactic| walk_at "exec For Name Subscript cons nil") => `(tactic| (refine wpAny_For ?_))
local macro_rules | `(tactic| walk_at "exec For Name BinOp cons nil") => `(tactic| (refine wpAny_For ?_))
local macro_rules | `(tactic| walk_at "exec For Name Attribute cons nil") => `(tactic| (refine wpAny_For ?_))
local macro_rules | `(tactic| walk_at "exec While Compare cons nil") => `(tactic| (refine halt ?_))
local macro_rules | `(tactic| walk_at "exec While BoolOp cons nil") => `(tactic| (refine halt ?_))
local macro_rules | `(tactic| walk_at "exec While Name cons nil") => `(tactic| (refine halt ?_))
local macro_rules | `(tactic| walk_at "execs cons Assign cons") => `(tactic| ((with_reducible show wpAny _ _ (execs (Stmt.Assign _ (Expr.List [] _) _ :: Stmt.For _ _ _ _ _ :: _) _) _ _ _); (refine wpAny_execs_cons ?_)))
local macro_rules | `(tactic| walk_at "room") => `(tactic| first | ((simp only [List.size_toArray, Array.size_push, List.length_append, List.length_cons, List.length_nil, sizeLine_eq]); omega) | (rw [sizeLine_eq]; omega))
local macro_rules | `(tactic| walk_at "call builtin:list.append") => `(tactic| (k_here; k_dflt (refine' append_K ?k1 ?k2 ?k3 ?_ ?z; (case k1 => k_asm); (case k2 => k_asm); (case k3 => k_upd); (case z => walk_at "room"); k_whole); intro h' F' N'; (try k_sweep)))
local macro_rules | `(tactic| walk_at "se_in") => `(tactic| first | (with_unfolding_all kst_in) | kst_inAny | (intro p hp; (try simp only [List.push_toArray, List.cons_append, List.nil_append, List.mem_cons, List.not_mem_nil, or_false] at hp ⊢); first | assumption | (rcases hp with hp | hp <;> simp_all; done) | (simp_all; done)))
local macro_rules | `(tactic| walk_at "se_ne") => `(tactic| (intro q hq; first | (cases hq; done) | (rw [List.mem_singleton.mp hq]; dsimp only [AllNe]; omega)))
local macro_rules | `(tactic| walk_at "se_all") => `(tactic| kst_all)
local macro_rules | `(tactic| walk_at "se_same") => `(tactic| (intro z h1 h2 h3; (simp only [List.forall_mem_cons, List.not_mem_nil, false_implies, implies_true, and_true, ne_eq] at h2); (try simp only [List.contains_cons, List.contains_nil, Bool.or_false, Bool.or_eq_false_iff, beq_eq_false_iff_ne, ne_eq] at h3); first | rfl | (simp [locs4, kstB, h1, h2, h3]; done) | (simp_all [locs4, kstB]; done)))
local macro_rules | `(tactic| walk_at "eval Constant str") => `(tactic| (with_reducible refine const_str ?_; intro tt tk hTt hTk; try dsimp only))
local macro_rules | `(tactic| walk_at "eval Constant int") => `(tactic| (with_reducible refine const_int ?_; intro tt tk hTt hTk; try dsimp only))
local macro_rules | `(tactic| walk_at "subscriptTail Name Slice str ref") => `(tactic| ((with_reducible rename Fr _ _ _ _ => F'); (with_reducible rename News _ _ _ _ => N'); refine wpAny_pos (by walk_at "toks") ?_; (first | refine slice_strN_ns (hsz := ?hsz) (s := ⟨_, _, _, _, _⟩) F' N' ?_ | refine slice_strN_sn (hsz := ?hsz) (s := ⟨_, _, _, _, _⟩) F' N' ?_ | refine slice_strN_ss (hsz := ?hsz) (s := ⟨_, _, _, _, _⟩) F' N' ?_); (case hsz => (rw [sizeLine_eq]; first | omega | (simp only [mkS_length]; omega) | (refine Nat.le_trans (Txt.length_slice_le _ _ _) ?_; omega))); clear F' N'; intro h' t' k' F' N' hk'; dsimp only at hk' ⊢))
local macro_rules | `(tactic| walk_at "subscriptTail Subscript Slice str ref") => `(tactic| (refine halt ?_))
local macro_rules | `(tactic| walk_at "slice now") => `(tactic| ((with_reducible rename Fr _ _ _ _ => F'); (with_reducible rename News _ _ _ _ => N'); refine wpAny_pos (by walk_at "toks") ?_; (first | refine slice_strN_ns (hsz := ?hsz) (s := ⟨_, _, _, _, _⟩) F' N' ?_ | refine slice_strN_sn (hsz := ?hsz) (s := ⟨_, _, _, _, _⟩) F' N' ?_ | refine slice_strN_ss (hsz := ?hsz) (s := ⟨_, _, _, _, _⟩) F' N' ?_); (case hsz => (rw [sizeLine_eq]; first | omega | (simp only [mkS_length]; omega) | (refine Nat.le_trans (Txt.length_slice_le _ _ _) ?_; omega))); clear F' N'; intro h' t' k' F' N' hk'; dsimp only at hk' ⊢))
local macro_rules | `(tactic| walk_at "SPost") => `(tactic| (dsimp only [SPost]))
local macro_rules | `(tactic| walk_at "toks") => `(tactic| first | omega | (dsimp only; omega) | ((show @Ne Nat _ _); omega) | ((show @LT.lt Nat _ _ _); omega) | ((show @Ne Nat _ _); dsimp only; omega) | ((show @LT.lt Nat _ _ _); dsimp only; omega) | (simp only [List.length_cons, List.length_nil]; omega))
local macro_rules | `(tactic| walk_at "execs cons") => `(tactic| ((with_reducible first | show wpAny _ _ _ _ _ (Shared.mk _ _ _ (_ + _) _) | show wpAny _ _ _ _ _ (Shared.mk _ _ _ (Shared.toks _) _)); refine gen_toks (by walk_at "toks") ?_; intro tk htk))
local macro_rules | `(tactic| walk_at "execs nil") => `(tactic| ((with_reducible first | show wpAny _ _ _ _ _ (Shared.mk _ _ _ (_ + _) _) | show wpAny _ _ _ _ _ (Shared.mk _ _ _ (Shared.toks _) _)); refine gen_toks (by walk_at "toks") ?_; intro tk htk))

--PART S8a
section
theorem patIn08 (w : World) {h : Heap} (X : (Mine.hd08.heap_39 w.params).In h) : IsPat h 36 35 :=
  ⟨⟨_, _, X _ _ rfl⟩, ⟨_, X _ _ rfl⟩⟩
local macro_rules | `(tactic| walk_at "getMethod ref") => `(tactic| (with_reducible refine getMethod_search (IsPat.keeps (patIn08 _ (by assumption)) (Fr.keep (by assumption))) ?_))
local macro_rules | `(tactic| walk_at "call builtin:re.Pattern.search") => `(tactic| (refine halt ?_))
local macro_rules | `(tactic| walk_at "call builtin:str.replace") => `(tactic| ((first | refine replaceE 1 _ (by walk_at "toks") (by walk_at "toks") (by walk_at "toks") (by walk_at "toks") (by with_reducible assumption) (by decide) (by decide) (by decide) (by decide) (by decide) ?_ | refine replaceE 4 _ (by walk_at "toks") (by walk_at "toks") (by walk_at "toks") (by walk_at "toks") (by with_reducible assumption) (by decide) (by decide) (by decide) (by decide) (by decide) ?_ | refine replaceE 5 _ (by walk_at "toks") (by walk_at "toks") (by walk_at "toks") (by walk_at "toks") (by with_reducible assumption) (by decide) (by decide) (by decide) (by decide) (by decide) ?_); intro r' t' k' er' hl' hk'; dsimp only))
theorem esc08 (w : World) (mean : ExcName → Option Value) (mg mb : Str → Option Value) (x : Str) (t : Tok) (hx : x.length ≤ 160000) (hc : hasCtl x = false) : PF PySem.Challenge.rw_dm0240_08.row.prog w (Mine.hd08.heap_39 w.params) topProg ((looseW Mine.hd08.view_39 [Str.ofString "_controlCharPat"]) ++ (recsOf Mine.hd08.view_39).map (·.name) ++ (litsOf Mine.hd08.view_39).map (·.1) ++ (clssOf Mine.hd08.view_39 (looseW Mine.hd08.view_39 [Str.ofString "_controlCharPat"])).map (·.name)) mean mg mb 1 8 43 [.str x t] (fun v => ∃ t', v = .str (escS x) t') := by
  w_on
  k_fill
  refine PF.enter (by k_is) (by k_is) rfl rfl (by decide) rfl rfl rfl ?_ (by decide)
  intro dp un gd fr base g L h₁ s B X T F N hd hu tk htk
  (try k_fold)
  walk_at "go"
  refine go_on (reSearch (IsPat.keeps (patIn08 _ (by assumption)) (Fr.keep (by assumption))) (by rw [sizeLine_eq]; omega) ?kno ?kyes)
  case kyes => intro hYes; rw [hc] at hYes; cases hYes
  intro hNo
  walk_at "go"
  have fin : ∀ (r : Str) (tr : Tok), r = es5 x → ∃ t', Value.str r tr = .str (escS x) t' := fun r tr e => ⟨tr, by rw [e, es5_eq]⟩
  refine PEnd.mk (by assumption) (by walk_at "toks") ?_
  refine fin _ _ ?_
  subst_vars
  rfl

end

local macro_rules | `(tactic| walk_at "eval Constant bytes") => `(tactic| (with_reducible refine const_bytes ?_; intro tt tk hTt hTk; try dsimp only))
local macro_rules | `(tactic| size_fits) => `(tactic| (rw [sizeLine_eq]; with_reducible exact Nat.le_of_ble_eq_true rfl))
local macro_rules | `(tactic| walk_at "getMethod str") => `(tactic| (with_reducible refine getMethod_enc ?_))
local macro_rules | `(tactic| walk_at "getMethod ref") => `(tactic| ((with_reducible show wpAny _ _ (getMethod (Value.ref _) (Str.ofString "write") _) _ _ _); k_here; k_dflt (refine' kmu_own ?k1 ?k2 ?k3 ?k4 ?k5 ?_; (case k1 => k_asm); (case k2 => k_asm); (case k3 => k_inst); (case k4 => k_is); (case k5 => k_is); k_whole)))
local macro_rules | `(tactic| walk_at "getMethod ref") => `(tactic| ((with_reducible first | show wpAny _ _ (getMethod (Value.ref _) (Str.ofString "writeln") _) _ _ _ | show wpAny _ _ (getMethod (Value.ref _) (Str.ofString "begin_element") _) _ _ _ | show wpAny _ _ (getMethod (Value.ref _) (Str.ofString "end_element") _) _ _ _ | show wpAny _ _ (getMethod (Value.ref _) (Str.ofString "simple_element") _) _ _ _); k_here; k_dflt (refine' method_inst ?k1 ?k2 ?k3 ?k4 ?k5 ?k6 ?k7 ?_; (case k1 => k_asm); (case k2 => k_asm); (case k3 => k_inst); (case k4 => k_is); (case k5 => k_is); (case k6 => k_is); (case k7 => k_get); k_whole)))
local macro_rules | `(tactic| walk_at "getMethod ref") => `(tactic| ((with_reducible show wpAny _ _ (getMethod (Value.ref _) (Str.ofString "append") _) _ _ _); k_here; k_dflt (refine' listMethod_K ?N ?m PySem.F.slot_list_append PySem.F.type_list_append ?_; (case N => k_asm); (case m => k_mem))))
local macro_rules | `(tactic| walk_at "getMethod ref") => `(tactic| ((with_reducible show wpAny _ _ (getMethod (Value.ref _) (Str.ofString "pop") _) _ _ _); k_here; k_dflt (refine' listMethod_K ?N ?m PySem.F.slot_list_pop PySem.F.type_list_pop ?_; (case N => k_asm); (case m => k_mem))))
local macro_rules | `(tactic| walk_at "call builtin:str.encode") => `(tactic| (refine encode_wp (by with_reducible assumption) (by with_reducible assumption) (by walk_at "toks") ?_; intro t' k' hk'; (try dsimp only)))
local macro_rules | `(tactic| walk_at "binaryOp Mult int bytes") => `(tactic| (refine mulIB (by with_reducible assumption) (by omega) (by omega) (by with_reducible assumption) (by walk_at "toks") ?_; intro t' k' hk'; (try dsimp only)))
local macro_rules | `(tactic| walk_at "binaryOp Mult bytes int") => `(tactic| (refine mulBI (by with_reducible assumption) (by omega) (by omega) (by with_reducible assumption) (by walk_at "toks") ?_; intro t' k' hk'; (try dsimp only)))
local macro_rules | `(tactic| walk_at "mem") => `(tactic| (with_reducible (repeat (first | exact List.mem_cons_self | refine List.mem_cons_of_mem _ ?_))))
local macro_rules | `(tactic| walk_at "sub") => `(tactic| (repeat' (with_reducible first | exact List.forall_mem_nil _ | (refine List.forall_mem_cons.mpr ⟨?_, ?_⟩) | exact List.mem_cons_self | refine List.mem_cons_of_mem _ ?_)))
local macro_rules | `(tactic| walk_at "rest") => `(tactic| (refine rest_of ?h1 ?h2; (case h1 => walk_at "sub"); (case h2 => (repeat' (with_reducible first | exact List.forall_mem_nil _ | (refine List.forall_mem_cons.mpr ⟨?_, ?_⟩))); all_goals ((show @Ne Nat _ _); dsimp only; omega))))


local macro_rules | `(tactic| walk_at "mem1") => `(tactic| (with_reducible first | exact List.mem_cons_self | (refine List.mem_cons_of_mem _ ?_; walk_at "mem1")))
local macro_rules | `(tactic| walk_at "bef1") => `(tactic| (with_reducible first | (refine Bef.head ?_; walk_at "mem1") | (refine Bef.tail ?_; walk_at "bef1")))
local macro_rules | `(tactic| walk_at "ne1") => `(tactic| first | with_reducible assumption | (with_reducible exact bef_ne (by assumption) (by walk_at "bef1")) | (with_reducible exact bef_ne' (by assumption) (by walk_at "bef1")) | (with_reducible exact NeAll.at (by assumption) (by walk_at "mem1")) | (with_reducible exact NeAll.at' (by assumption) (by walk_at "mem1")) | omega)
local macro_rules | `(tactic| walk_at "lt1") => `(tactic| first | (with_reducible exact bef_lt (by assumption) (by walk_at "bef1")) | omega)
local macro_rules | `(tactic| k_ne) => `(tactic| (refine neN ?_; (try dsimp only); walk_at "ne1"))
local macro_rules | `(tactic| walk_at "toks") => `(tactic| first | with_reducible assumption | (with_reducible exact Nat.succ_pos _) | (dsimp only; first | with_reducible assumption | with_reducible exact Nat.succ_pos _) | omega | (dsimp only; omega) | ((show @LT.lt Nat _ _ _); dsimp only; omega))
local macro_rules | `(tactic| walk_at "se_ne") => `(tactic| (intro q hq; first | (cases hq; done) | (rw [List.mem_singleton.mp hq]; refine' NeAll.to ?h ?e; (case h => with_reducible assumption); (case e => rfl))))
local macro_rules | `(tactic| walk_at "rest") => `(tactic| (refine rest_of ?h1 ?h2; (case h1 => walk_at "sub"); (case h2 => (repeat' (with_reducible first | exact List.forall_mem_nil _ | (refine List.forall_mem_cons.mpr ⟨?_, ?_⟩))); all_goals ((show @Ne Nat _ _); dsimp only; walk_at "ne1"))))
local macro_rules | `(tactic| walk_at "old") => `(tactic| (try ((with_reducible rename @LT.lt Nat _ 0 _ => hOld); clear hOld)))
local macro_rules | `(tactic| walk_at "eval Constant str") => `(tactic| (with_reducible refine const_str0 ?_; walk_at "old"; intro tt tk hTk; try dsimp only))
local macro_rules | `(tactic| walk_at "eval Constant int") => `(tactic| (with_reducible refine const_int0 ?_; walk_at "old"; intro tt tk hTk; try dsimp only))
local macro_rules | `(tactic| walk_at "eval Constant bytes") => `(tactic| (with_reducible refine const_bytes0 ?_; walk_at "old"; intro tt tk hTk; try dsimp only))

section
local macro_rules | `(tactic| walk_at "callWith ref") => `(tactic| ((try dsimp only); refine callWith_F (FnAt.of (by with_reducible assumption) (by k_mem)) ?_; try dsimp only [List.nil_append, List.cons_append]))
local macro_rules | `(tactic| walk_at "call ref") => `(tactic| (refine halt ?_))
--PART S8o
section
abbrev ent (P : Params) (n : Str) (t : Tok) (v : Value) : DictEntry := ⟨PyData.keyHash P n, .str n t, v⟩
/-- a writer's fields -/
abbrev wDict (P : Params) (xf l : Addr) (k : Tok × Tok × Tok × Tok) (lvl : Int) (tl : Tok) (ind : Array UInt8) (ti : Tok) : Obj :=
  dictOf [ent P (Str.ofString "file") k.1 (.ref xf), ent P (Str.ofString "stack") k.2.1 (.ref l), ent P (Str.ofString "_indent_level") k.2.2.1 (.int lvl tl), ent P (Str.ofString "indent") k.2.2.2 (.bytes ind ti)] 4
/-- the file's fields -/
abbrev fDict (P : Params) (lf fw : Addr) (k1 k2 k3 k4 k5 t1 t2 : Tok) : Obj :=
  dictOf [ent P (Str.ofString "file") k1 .none, ent P (Str.ofString "stack") k2 (.ref lf), ent P (Str.ofString "_indent_level") k3 (.int 0 t1), ent P (Str.ofString "indent") k4 (.str (Str.ofString "\t") t2), ent P (Str.ofString "write") k5 (.ref fw)] 5
abbrev fwScope : Scope := { kind := ScopeKind.function, names := [(Str.ofString "piece", NameKind.local), (Str.ofString "pieces", NameKind.free)], isGenerator := false, isCoroutine := false }
/-- the closure -/
abbrev fwObj (qual : Str) (cell c' : Addr) (dc pm ct : Value) : Obj :=
  fnMade (Str.ofString "_law_write") qual
    { posonlyargs := [], args := [{ arg := Str.ofString "piece", annotation := none, pos := { line := 50, col := 19, endLine := 50, endCol := 24 } }], vararg := none, kwonlyargs := [], kw_defaults := [], kwarg := none, defaults := [] }
    [Stmt.Expr (((Expr.Name (Str.ofString "pieces") { line := 51, col := 8, endLine := 51, endCol := 14 }).Attribute (Str.ofString "append") { line := 51, col := 8, endLine := 51, endCol := 21 }).Call [Expr.Name (Str.ofString "piece") { line := 51, col := 22, endLine := 51, endCol := 27 }] [] { line := 51, col := 8, endLine := 51, endCol := 28 }) { line := 51, col := 8, endLine := 51, endCol := 28 }]
    fwScope [(Str.ofString "pieces", cell)] dc pm c' ct
theorem lw08 (w : World) (mean : ExcName → Option Value) (mg mb : Str → Option Value) (fw c' cell lp : Addr) (oc o : Obj) (b : Array UInt8) (t : Tok) (qual : Str) (dc pm ct : Value) (ps : List Value) (np : Nat) (vs' : Array Value) (tq : Tok)
    (ho : o.data = .cell (some (.ref lp))) (hoc : oc.data = .fields vs') (hoq : vs'[1]? = some (.str qual tq)) (hps : ps.length ≤ 1000) (hlt : @LT.lt Nat _ lp cell ∧ @LT.lt Nat _ cell c' ∧ @LT.lt Nat _ c' fw) :
    PM PySem.Challenge.rw_dm0240_08.row.prog w (Mine.hd08.heap_39 w.params) topProg ((looseW Mine.hd08.view_39 [Str.ofString "_controlCharPat"]) ++ (recsOf Mine.hd08.view_39).map (·.name) ++ (litsOf Mine.hd08.view_39).map (·.1) ++ (clssOf Mine.hd08.view_39 (looseW Mine.hd08.view_39 [Str.ofString "_controlCharPat"])).map (·.name)) mean mg mb 2 16 fw [Value.bytes b t] [(fw, fwObj qual cell c' dc pm ct), (c', oc), (cell, o), (lp, W.listOf ps.toArray np)]
      (fun v nc' => v = .none ∧ nc' = [(fw, fwObj qual cell c' dc pm ct), (c', oc), (cell, o), (lp, W.listOf (ps ++ [Value.bytes b t]).toArray (np + 1))]) := by
  refine PM.enterX (name := Str.ofString "_law_write") (qual := qual) (scope := fwScope) (cl := [(Str.ofString "pieces", cell)]) (doc := dc) (pm := pm) (ctv := ct) (binds := [(Str.ofString "piece", Value.bytes b t)]) (.head _) (.tail _ (.head _)) hoc hoq rfl rfl (by decide) rfl rfl rfl ?_ (by omega)
  intro dp un gd fr base g L h₁ s B XB TB X T D T0 F N hd hu tk htk
  obtain ⟨l1, l2, l3⟩ := hlt
  have hR : Rise [lp, cell, c', fw] := rise_cons l1 (rise_cons l2 (rise_cons l3 rise_one))
  iterate 3 (all_goals try (first | (k_unfold; (try dsimp only)) | walk1 | (dsimp only; first | walk1 | (k_unfold; (try dsimp only)))))
  refine nameX_F N rfl (.tail _ (.tail _ (.head _))) ho ?_ rfl rfl
  dsimp only
  walk_at "go"
  rename Fr _ _ _ _ => F1
  rename News _ _ _ _ => N1
  rw [List.push_toArray] at N1
  exact PMEnd.mk _ T0 F1 N1 (fun q h => h) (by walk_at "toks") ⟨rfl, rfl⟩
end
--PART S8w
section
theorem wlS08 (w : World) (mean : ExcName → Option Value) (mg mb : Str → Option Value) (x d xf df fw c' cell lp l lf : Addr) (oc o : Obj) (k : Tok × Tok × Tok × Tok) (lvl : Int) (tl ti : Tok) (ind : List UInt8) (k1 k2 k3 k4 k5 t1 t2 t : Tok) (qual : Str) (dc pm ct : Value) (ps : List Value) (np : Nat) (vs' : Array Value) (tq : Tok) (y : Str)
    (hlt : @LT.lt Nat _ lp cell ∧ @LT.lt Nat _ cell c' ∧ @LT.lt Nat _ c' fw ∧ @LT.lt Nat _ fw df ∧ @LT.lt Nat _ df xf ∧ @LT.lt Nat _ xf d ∧ @LT.lt Nat _ d x) (ho : o.data = .cell (some (.ref lp))) (hoc : oc.data = .fields vs') (hoq : vs'[1]? = some (.str qual tq)) (hps : ps.length ≤ 900)
    (hi0 : ind ≠ []) (hi16 : ind.length ≤ 16) (hl1 : -1000 ≤ lvl) (hl2 : lvl ≤ 1000) (hy0 : y.length ≠ 0) (hy1 : y.length ≤ 1000000) (hy2 : ∀ c ∈ y.cps.toList, Str.isSurrogate c = false) :
    PM PySem.Challenge.rw_dm0240_08.row.prog w (Mine.hd08.heap_39 w.params) topProg ((looseW Mine.hd08.view_39 [Str.ofString "_controlCharPat"]) ++ (recsOf Mine.hd08.view_39).map (·.name) ++ (litsOf Mine.hd08.view_39).map (·.1) ++ (clssOf Mine.hd08.view_39 (looseW Mine.hd08.view_39 [Str.ofString "_controlCharPat"])).map (·.name)) mean mg mb 5 32 87 [.ref x, .str y t]
      [(x, instObj 90 d), (d, wDict w.params xf l k lvl tl ind.toArray ti), (xf, instObj 90 df), (df, fDict w.params lf fw k1 k2 k3 k4 k5 t1 t2), (fw, fwObj qual cell c' dc pm ct), (c', oc), (cell, o), (lp, W.listOf ps.toArray np)]
      (fun v nc' => v = .none ∧ ∃ pv np', BytsAre pv [(List.replicate lvl.toNat ind).flatten, utfL y.cps.toList, [10]] ∧ nc' = [(x, instObj 90 d), (d, wDict w.params xf l k lvl tl ind.toArray ti), (xf, instObj 90 df), (df, fDict w.params lf fw k1 k2 k3 k4 k5 t1 t2), (fw, fwObj qual cell c' dc pm ct), (c', oc), (cell, o), (lp, W.listOf (ps ++ pv).toArray np')]) := by
  w_on
  k_fill
  refine PM.enter (by k_is) (by k_is) rfl rfl (by decide) rfl rfl rfl ?_ (by omega)
  intro dp un gd fr base g L h₁ s B XB TB X T D T0 F N hd hu tk htk
  (try k_fold)
  obtain ⟨l1, l2, l3, l4, l5, l6, l7⟩ := hlt
  have hR : Rise [lp, cell, c', fw, df, xf, d, x] := rise_cons l1 (rise_cons l2 (rise_cons l3 (rise_cons l4 (rise_cons l5 (rise_cons l6 (rise_cons l7 rise_one))))))
  have lwc := fun (b : Array UInt8) (t : Tok) (ps : List Value) (np : Nat) (hps : ps.length ≤ 1000) => lw08 w mean mg mb fw c' cell lp oc o b t qual dc pm ct ps np vs' tq ho hoc hoq hps ⟨l1, l2, l3⟩
  have hy0' : (↑y.length : Int) ≠ 0 := by omega
  walk_at "go"
  case' refine'_4.refine_2.refine'_4.refine'_11.refine'_8.refine'_11.refine_2 => exact absurd ‹(↑y.length : Int) = 0› hy0'
  rename Fr _ _ _ _ => F1
  rename News _ _ _ _ => N1
  refine go_on (PM.call (lwc _ _ (ps) (np) (by (try simp only [List.length_append, List.length_cons, List.length_nil]); omega)) [(x, instObj 90 d), (d, wDict w.params xf l k lvl tl ind.toArray ti), (xf, instObj 90 df), (df, fDict w.params lf fw k1 k2 k3 k4 k5 t1 t2)] B XB TB D T0 F1 N1 (by walk_at "sub") (by walk_at "rest") (by omega) (by omega) (by walk_at "toks") ?_)
  clear B X T D T0 F1 N1
  rintro v nc' g h' tk' ⟨rfl, rfl⟩ B X T D T0 F N htk'
  dsimp only [List.cons_append, List.nil_append] at N ⊢
  walk_at "go"
  rename Fr _ _ _ _ => F1
  rename News _ _ _ _ => N1
  refine go_on (PM.call (lwc _ _ (ps ++ [Value.bytes _ _]) (np + 1) (by (try simp only [List.length_append, List.length_cons, List.length_nil]); omega)) [(x, instObj 90 d), (d, wDict w.params xf l k lvl tl ind.toArray ti), (xf, instObj 90 df), (df, fDict w.params lf fw k1 k2 k3 k4 k5 t1 t2)] B XB TB D T0 F1 N1 (by walk_at "sub") (by walk_at "rest") (by omega) (by omega) (by walk_at "toks") ?_)
  clear B X T D T0 F1 N1
  rintro v nc' g h' tk' ⟨rfl, rfl⟩ B X T D T0 F N htk'
  dsimp only [List.cons_append, List.nil_append] at N ⊢
  walk_at "go"
  rename Fr _ _ _ _ => F1
  rename News _ _ _ _ => N1
  refine go_on (PM.call (lwc _ _ (ps ++ [Value.bytes _ _] ++ [Value.bytes _ _]) (np + 1 + 1) (by (try simp only [List.length_append, List.length_cons, List.length_nil]); omega)) [(x, instObj 90 d), (d, wDict w.params xf l k lvl tl ind.toArray ti), (xf, instObj 90 df), (df, fDict w.params lf fw k1 k2 k3 k4 k5 t1 t2)] B XB TB D T0 F1 N1 (by walk_at "sub") (by walk_at "rest") (by omega) (by omega) (by walk_at "toks") ?_)
  clear B X T D T0 F1 N1
  rintro v nc' g h' tk' ⟨rfl, rfl⟩ B X T D T0 F N htk'
  dsimp only [List.cons_append, List.nil_append] at N ⊢
  walk_at "go"
  rename Fr _ _ _ _ => F1
  rename News _ _ _ _ => N1
  (try simp only [List.append_assoc, List.cons_append, List.nil_append] at N1)
  exact PMEnd.mk [(x, instObj 90 d), (d, wDict w.params xf l k lvl tl ind.toArray ti), (xf, instObj 90 df), (df, fDict w.params lf fw k1 k2 k3 k4 k5 t1 t2), (fw, fwObj qual cell c' dc pm ct), (c', oc), (cell, o), (lp, W.listOf (ps ++ [_, _, _]).toArray _)] T0 F1 N1 (by walk_at "sub") (by walk_at "toks") ⟨rfl, _, _, (.cons _ _ (.cons _ _ (.cons _ _ .nil))), rfl⟩
end
--PART S8wE
section
theorem wlE08 (w : World) (mean : ExcName → Option Value) (mg mb : Str → Option Value) (x d xf df fw c' cell lp l lf : Addr) (oc o : Obj) (k : Tok × Tok × Tok × Tok) (lvl : Int) (tl ti : Tok) (ind : List UInt8) (k1 k2 k3 k4 k5 t1 t2 t : Tok) (qual : Str) (dc pm ct : Value) (ps : List Value) (np : Nat) (vs' : Array Value) (tq : Tok) (y : Str)
    (hlt : @LT.lt Nat _ lp cell ∧ @LT.lt Nat _ cell c' ∧ @LT.lt Nat _ c' fw ∧ @LT.lt Nat _ fw df ∧ @LT.lt Nat _ df xf ∧ @LT.lt Nat _ xf d ∧ @LT.lt Nat _ d x) (ho : o.data = .cell (some (.ref lp))) (hoc : oc.data = .fields vs') (hoq : vs'[1]? = some (.str qual tq)) (hps : ps.length ≤ 900)
    (hy0 : y.length = 0) :
    PM PySem.Challenge.rw_dm0240_08.row.prog w (Mine.hd08.heap_39 w.params) topProg ((looseW Mine.hd08.view_39 [Str.ofString "_controlCharPat"]) ++ (recsOf Mine.hd08.view_39).map (·.name) ++ (litsOf Mine.hd08.view_39).map (·.1) ++ (clssOf Mine.hd08.view_39 (looseW Mine.hd08.view_39 [Str.ofString "_controlCharPat"])).map (·.name)) mean mg mb 5 32 87 [.ref x, .str y t]
      [(x, instObj 90 d), (d, wDict w.params xf l k lvl tl ind.toArray ti), (xf, instObj 90 df), (df, fDict w.params lf fw k1 k2 k3 k4 k5 t1 t2), (fw, fwObj qual cell c' dc pm ct), (c', oc), (cell, o), (lp, W.listOf ps.toArray np)]
      (fun v nc' => v = .none ∧ ∃ pv np', BytsAre pv [[10]] ∧ nc' = [(x, instObj 90 d), (d, wDict w.params xf l k lvl tl ind.toArray ti), (xf, instObj 90 df), (df, fDict w.params lf fw k1 k2 k3 k4 k5 t1 t2), (fw, fwObj qual cell c' dc pm ct), (c', oc), (cell, o), (lp, W.listOf (ps ++ pv).toArray np')]) := by
  w_on
  k_fill
  refine PM.enter (by k_is) (by k_is) rfl rfl (by decide) rfl rfl rfl ?_ (by omega)
  intro dp un gd fr base g L h₁ s B XB TB X T D T0 F N hd hu tk htk
  (try k_fold)
  obtain ⟨l1, l2, l3, l4, l5, l6, l7⟩ := hlt
  have hR : Rise [lp, cell, c', fw, df, xf, d, x] := rise_cons l1 (rise_cons l2 (rise_cons l3 (rise_cons l4 (rise_cons l5 (rise_cons l6 (rise_cons l7 rise_one))))))
  have lwc := fun (b : Array UInt8) (t : Tok) (ps : List Value) (np : Nat) (hps : ps.length ≤ 1000) => lw08 w mean mg mb fw c' cell lp oc o b t qual dc pm ct ps np vs' tq ho hoc hoq hps ⟨l1, l2, l3⟩
  have hy0' : (↑y.length : Int) = 0 := by omega
  walk_at "go"
  all_goals try exact absurd hy0' (by assumption)
  rename Fr _ _ _ _ => F1
  rename News _ _ _ _ => N1
  refine go_on (PM.call (lwc _ _ (ps) (np) (by (try simp only [List.length_append, List.length_cons, List.length_nil]); omega)) [(x, instObj 90 d), (d, wDict w.params xf l k lvl tl ind.toArray ti), (xf, instObj 90 df), (df, fDict w.params lf fw k1 k2 k3 k4 k5 t1 t2)] B XB TB D T0 F1 N1 (by walk_at "sub") (by walk_at "rest") (by omega) (by omega) (by walk_at "toks") ?_)
  clear B X T D T0 F1 N1
  rintro v nc' g h' tk' ⟨rfl, rfl⟩ B X T D T0 F N htk'
  dsimp only [List.cons_append, List.nil_append] at N ⊢
  walk_at "go"
  rename Fr _ _ _ _ => F1
  rename News _ _ _ _ => N1
  (try simp only [List.append_assoc, List.cons_append, List.nil_append] at N1)
  exact PMEnd.mk [(x, instObj 90 d), (d, wDict w.params xf l k lvl tl ind.toArray ti), (xf, instObj 90 df), (df, fDict w.params lf fw k1 k2 k3 k4 k5 t1 t2), (fw, fwObj qual cell c' dc pm ct), (c', oc), (cell, o), (lp, W.listOf (ps ++ [_]).toArray _)] T0 F1 N1 (by walk_at "sub") (by walk_at "toks") ⟨rfl, _, _, (.cons _ _ .nil), rfl⟩
end
--PART S8wB
section
theorem wlB08 (w : World) (mean : ExcName → Option Value) (mg mb : Str → Option Value) (x d xf df fw c' cell lp l lf : Addr) (oc o : Obj) (k : Tok × Tok × Tok × Tok) (lvl : Int) (tl ti : Tok) (ind : List UInt8) (k1 k2 k3 k4 k5 t1 t2 t : Tok) (qual : Str) (dc pm ct : Value) (ps : List Value) (np : Nat) (vs' : Array Value) (tq : Tok) (y : List UInt8)
    (hlt : @LT.lt Nat _ lp cell ∧ @LT.lt Nat _ cell c' ∧ @LT.lt Nat _ c' fw ∧ @LT.lt Nat _ fw df ∧ @LT.lt Nat _ df xf ∧ @LT.lt Nat _ xf d ∧ @LT.lt Nat _ d x) (ho : o.data = .cell (some (.ref lp))) (hoc : oc.data = .fields vs') (hoq : vs'[1]? = some (.str qual tq)) (hps : ps.length ≤ 900)
    (hi0 : ind ≠ []) (hi16 : ind.length ≤ 16) (hl1 : -1000 ≤ lvl) (hl2 : lvl ≤ 1000) (hy0 : y.length ≠ 0) (hy1 : y.length ≤ 4000000) :
    PM PySem.Challenge.rw_dm0240_08.row.prog w (Mine.hd08.heap_39 w.params) topProg ((looseW Mine.hd08.view_39 [Str.ofString "_controlCharPat"]) ++ (recsOf Mine.hd08.view_39).map (·.name) ++ (litsOf Mine.hd08.view_39).map (·.1) ++ (clssOf Mine.hd08.view_39 (looseW Mine.hd08.view_39 [Str.ofString "_controlCharPat"])).map (·.name)) mean mg mb 5 32 87 [.ref x, .bytes y.toArray t]
      [(x, instObj 90 d), (d, wDict w.params xf l k lvl tl ind.toArray ti), (xf, instObj 90 df), (df, fDict w.params lf fw k1 k2 k3 k4 k5 t1 t2), (fw, fwObj qual cell c' dc pm ct), (c', oc), (cell, o), (lp, W.listOf ps.toArray np)]
      (fun v nc' => v = .none ∧ ∃ pv np', BytsAre pv [(List.replicate lvl.toNat ind).flatten, y, [10]] ∧ nc' = [(x, instObj 90 d), (d, wDict w.params xf l k lvl tl ind.toArray ti), (xf, instObj 90 df), (df, fDict w.params lf fw k1 k2 k3 k4 k5 t1 t2), (fw, fwObj qual cell c' dc pm ct), (c', oc), (cell, o), (lp, W.listOf (ps ++ pv).toArray np')]) := by
  w_on
  k_fill
  refine PM.enter (by k_is) (by k_is) rfl rfl (by decide) rfl rfl rfl ?_ (by omega)
  intro dp un gd fr base g L h₁ s B XB TB X T D T0 F N hd hu tk htk
  (try k_fold)
  obtain ⟨l1, l2, l3, l4, l5, l6, l7⟩ := hlt
  have hR : Rise [lp, cell, c', fw, df, xf, d, x] := rise_cons l1 (rise_cons l2 (rise_cons l3 (rise_cons l4 (rise_cons l5 (rise_cons l6 (rise_cons l7 rise_one))))))
  have lwc := fun (b : Array UInt8) (t : Tok) (ps : List Value) (np : Nat) (hps : ps.length ≤ 1000) => lw08 w mean mg mb fw c' cell lp oc o b t qual dc pm ct ps np vs' tq ho hoc hoq hps ⟨l1, l2, l3⟩
  have hy0' : (↑y.toArray.size : Int) ≠ 0 := by rw [List.size_toArray]; omega
  walk_at "go"
  all_goals try exact absurd (by assumption) hy0'
  rename Fr _ _ _ _ => F1
  rename News _ _ _ _ => N1
  refine go_on (PM.call (lwc _ _ (ps) (np) (by (try simp only [List.length_append, List.length_cons, List.length_nil]); omega)) [(x, instObj 90 d), (d, wDict w.params xf l k lvl tl ind.toArray ti), (xf, instObj 90 df), (df, fDict w.params lf fw k1 k2 k3 k4 k5 t1 t2)] B XB TB D T0 F1 N1 (by walk_at "sub") (by walk_at "rest") (by omega) (by omega) (by walk_at "toks") ?_)
  clear B X T D T0 F1 N1
  rintro v nc' g h' tk' ⟨rfl, rfl⟩ B X T D T0 F N htk'
  dsimp only [List.cons_append, List.nil_append] at N ⊢
  walk_at "go"
  rename Fr _ _ _ _ => F1
  rename News _ _ _ _ => N1
  refine go_on (PM.call (lwc _ _ (ps ++ [Value.bytes _ _]) (np + 1) (by (try simp only [List.length_append, List.length_cons, List.length_nil]); omega)) [(x, instObj 90 d), (d, wDict w.params xf l k lvl tl ind.toArray ti), (xf, instObj 90 df), (df, fDict w.params lf fw k1 k2 k3 k4 k5 t1 t2)] B XB TB D T0 F1 N1 (by walk_at "sub") (by walk_at "rest") (by omega) (by omega) (by walk_at "toks") ?_)
  clear B X T D T0 F1 N1
  rintro v nc' g h' tk' ⟨rfl, rfl⟩ B X T D T0 F N htk'
  dsimp only [List.cons_append, List.nil_append] at N ⊢
  walk_at "go"
  rename Fr _ _ _ _ => F1
  rename News _ _ _ _ => N1
  refine go_on (PM.call (lwc _ _ (ps ++ [Value.bytes _ _] ++ [Value.bytes _ _]) (np + 1 + 1) (by (try simp only [List.length_append, List.length_cons, List.length_nil]); omega)) [(x, instObj 90 d), (d, wDict w.params xf l k lvl tl ind.toArray ti), (xf, instObj 90 df), (df, fDict w.params lf fw k1 k2 k3 k4 k5 t1 t2)] B XB TB D T0 F1 N1 (by walk_at "sub") (by walk_at "rest") (by omega) (by omega) (by walk_at "toks") ?_)
  clear B X T D T0 F1 N1
  rintro v nc' g h' tk' ⟨rfl, rfl⟩ B X T D T0 F N htk'
  dsimp only [List.cons_append, List.nil_append] at N ⊢
  walk_at "go"
  rename Fr _ _ _ _ => F1
  rename News _ _ _ _ => N1
  (try simp only [List.append_assoc, List.cons_append, List.nil_append] at N1)
  exact PMEnd.mk [(x, instObj 90 d), (d, wDict w.params xf l k lvl tl ind.toArray ti), (xf, instObj 90 df), (df, fDict w.params lf fw k1 k2 k3 k4 k5 t1 t2), (fw, fwObj qual cell c' dc pm ct), (c', oc), (cell, o), (lp, W.listOf (ps ++ [_, _, _]).toArray _)] T0 F1 N1 (by walk_at "sub") (by walk_at "toks") ⟨rfl, _, _, (.cons _ _ (.cons _ _ (.cons _ _ .nil))), rfl⟩
end
--PART S8wN
section
theorem wlN08 (w : World) (mean : ExcName → Option Value) (mg mb : Str → Option Value) (x d xf df fw c' cell lp l lf : Addr) (oc o : Obj) (k : Tok × Tok × Tok × Tok) (lvl : Int) (tl ti : Tok) (ind : List UInt8) (k1 k2 k3 k4 k5 t1 t2 t : Tok) (qual : Str) (dc pm ct : Value) (ps : List Value) (np : Nat) (vs' : Array Value) (tq : Tok) (y : List UInt8)
    (hlt : @LT.lt Nat _ lp cell ∧ @LT.lt Nat _ cell c' ∧ @LT.lt Nat _ c' fw ∧ @LT.lt Nat _ fw df ∧ @LT.lt Nat _ df xf ∧ @LT.lt Nat _ xf d ∧ @LT.lt Nat _ d x) (ho : o.data = .cell (some (.ref lp))) (hoc : oc.data = .fields vs') (hoq : vs'[1]? = some (.str qual tq)) (hps : ps.length ≤ 900)
    (hy0 : y.length = 0) :
    PM PySem.Challenge.rw_dm0240_08.row.prog w (Mine.hd08.heap_39 w.params) topProg ((looseW Mine.hd08.view_39 [Str.ofString "_controlCharPat"]) ++ (recsOf Mine.hd08.view_39).map (·.name) ++ (litsOf Mine.hd08.view_39).map (·.1) ++ (clssOf Mine.hd08.view_39 (looseW Mine.hd08.view_39 [Str.ofString "_controlCharPat"])).map (·.name)) mean mg mb 5 32 87 [.ref x, .bytes y.toArray t]
      [(x, instObj 90 d), (d, wDict w.params xf l k lvl tl ind.toArray ti), (xf, instObj 90 df), (df, fDict w.params lf fw k1 k2 k3 k4 k5 t1 t2), (fw, fwObj qual cell c' dc pm ct), (c', oc), (cell, o), (lp, W.listOf ps.toArray np)]
      (fun v nc' => v = .none ∧ ∃ pv np', BytsAre pv [[10]] ∧ nc' = [(x, instObj 90 d), (d, wDict w.params xf l k lvl tl ind.toArray ti), (xf, instObj 90 df), (df, fDict w.params lf fw k1 k2 k3 k4 k5 t1 t2), (fw, fwObj qual cell c' dc pm ct), (c', oc), (cell, o), (lp, W.listOf (ps ++ pv).toArray np')]) := by
  w_on
  k_fill
  refine PM.enter (by k_is) (by k_is) rfl rfl (by decide) rfl rfl rfl ?_ (by omega)
  intro dp un gd fr base g L h₁ s B XB TB X T D T0 F N hd hu tk htk
  (try k_fold)
  obtain ⟨l1, l2, l3, l4, l5, l6, l7⟩ := hlt
  have hR : Rise [lp, cell, c', fw, df, xf, d, x] := rise_cons l1 (rise_cons l2 (rise_cons l3 (rise_cons l4 (rise_cons l5 (rise_cons l6 (rise_cons l7 rise_one))))))
  have lwc := fun (b : Array UInt8) (t : Tok) (ps : List Value) (np : Nat) (hps : ps.length ≤ 1000) => lw08 w mean mg mb fw c' cell lp oc o b t qual dc pm ct ps np vs' tq ho hoc hoq hps ⟨l1, l2, l3⟩
  have hy0' : (↑y.toArray.size : Int) = 0 := by rw [List.size_toArray]; omega
  walk_at "go"
  all_goals try exact absurd hy0' (by assumption)
  rename Fr _ _ _ _ => F1
  rename News _ _ _ _ => N1
  refine go_on (PM.call (lwc _ _ (ps) (np) (by (try simp only [List.length_append, List.length_cons, List.length_nil]); omega)) [(x, instObj 90 d), (d, wDict w.params xf l k lvl tl ind.toArray ti), (xf, instObj 90 df), (df, fDict w.params lf fw k1 k2 k3 k4 k5 t1 t2)] B XB TB D T0 F1 N1 (by walk_at "sub") (by walk_at "rest") (by omega) (by omega) (by walk_at "toks") ?_)
  clear B X T D T0 F1 N1
  rintro v nc' g h' tk' ⟨rfl, rfl⟩ B X T D T0 F N htk'
  dsimp only [List.cons_append, List.nil_append] at N ⊢
  walk_at "go"
  rename Fr _ _ _ _ => F1
  rename News _ _ _ _ => N1
  (try simp only [List.append_assoc, List.cons_append, List.nil_append] at N1)
  exact PMEnd.mk [(x, instObj 90 d), (d, wDict w.params xf l k lvl tl ind.toArray ti), (xf, instObj 90 df), (df, fDict w.params lf fw k1 k2 k3 k4 k5 t1 t2), (fw, fwObj qual cell c' dc pm ct), (c', oc), (cell, o), (lp, W.listOf (ps ++ [_]).toArray _)] T0 F1 N1 (by walk_at "sub") (by walk_at "toks") ⟨rfl, _, _, (.cons _ _ .nil), rfl⟩
end
--PART S8l
section
/-- the pieces of a row -/
def rowOf (lvl : Int) (ind c : List UInt8) : List (List UInt8) := if c = [] then [[10]] else [(List.replicate lvl.toNat ind).flatten, c, [10]]
def LineIs (v : Value) (c : List UInt8) : Prop := (∃ y t, v = .str y t ∧ y.length ≤ 1000000 ∧ (∀ z ∈ y.cps.toList, Str.isSurrogate z = false) ∧ c = utfL y.cps.toList) ∨ (∃ t, v = .bytes c.toArray t ∧ c.length ≤ 4000000)
theorem utfL_nil {l : List Nat} (h : utfL l = []) : l = [] := by
  cases l with
  | nil => rfl
  | cons c l =>
    exfalso
    have h1 : 1 ≤ (Str.utf8Of c).length := by
      unfold Str.utf8Of
      split
      · simp
      · split
        · simp
        · split <;> simp
    have h2 := congrArg List.length h
    simp only [utfL, List.flatMap_cons, List.length_append, List.length_nil] at h2
    omega
theorem line_mk {l : List Nat} {t : Tok} (h : l.length ≤ 1000000) (hs : ∀ z ∈ l, Str.isSurrogate z = false) : LineIs (.str (mkS l) t) (utfL l) := .inl ⟨_, _, rfl, by rw [mkS_length]; exact h, by rw [mkS_toList]; exact hs, by rw [mkS_toList]⟩
theorem surr_tag {p q : List Nat} {e : Str} (hp : ∀ z ∈ p, Str.isSurrogate z = false) (hq : ∀ z ∈ q, Str.isSurrogate z = false) (h : ∀ z ∈ e.cps.toList, Str.isSurrogate z = false) : ∀ z ∈ p ++ e.cps.toList ++ q, Str.isSurrogate z = false := by
  intro z hz
  rcases List.mem_append.mp hz with hz | hz
  · rcases List.mem_append.mp hz with hz | hz
    · exact hp z hz
    · exact h z hz
  · exact hq z hz
theorem len_tag {p q : List Nat} {e : Str} {n : Nat} (h : e.length ≤ n) (h2 : p.length + n + q.length ≤ 1000000) : (p ++ e.cps.toList ++ q).length ≤ 1000000 := by
  have : e.cps.toList.length = e.length := rfl
  rw [List.length_append, List.length_append]; omega
theorem wl08 (w : World) (mean : ExcName → Option Value) (mg mb : Str → Option Value) (x d xf df fw c' cell lp l lf : Addr) (oc o : Obj) (k : Tok × Tok × Tok × Tok) (lvl : Int) (tl ti : Tok) (ind : List UInt8) (k1 k2 k3 k4 k5 t1 t2 : Tok) (qual : Str) (dc pm ct : Value) (ps : List Value) (np : Nat) (vs' : Array Value) (tq : Tok) (v : Value) (c : List UInt8)
    (hlt : @LT.lt Nat _ lp cell ∧ @LT.lt Nat _ cell c' ∧ @LT.lt Nat _ c' fw ∧ @LT.lt Nat _ fw df ∧ @LT.lt Nat _ df xf ∧ @LT.lt Nat _ xf d ∧ @LT.lt Nat _ d x) (ho : o.data = .cell (some (.ref lp))) (hoc : oc.data = .fields vs') (hoq : vs'[1]? = some (.str qual tq)) (hps : ps.length ≤ 900)
    (hi0 : ind ≠ []) (hi16 : ind.length ≤ 16) (hl1 : -1000 ≤ lvl) (hl2 : lvl ≤ 1000) (hv : LineIs v c) :
    PM PySem.Challenge.rw_dm0240_08.row.prog w (Mine.hd08.heap_39 w.params) topProg ((looseW Mine.hd08.view_39 [Str.ofString "_controlCharPat"]) ++ (recsOf Mine.hd08.view_39).map (·.name) ++ (litsOf Mine.hd08.view_39).map (·.1) ++ (clssOf Mine.hd08.view_39 (looseW Mine.hd08.view_39 [Str.ofString "_controlCharPat"])).map (·.name)) mean mg mb 5 32 87 [.ref x, v]
      [(x, instObj 90 d), (d, wDict w.params xf l k lvl tl ind.toArray ti), (xf, instObj 90 df), (df, fDict w.params lf fw k1 k2 k3 k4 k5 t1 t2), (fw, fwObj qual cell c' dc pm ct), (c', oc), (cell, o), (lp, W.listOf ps.toArray np)]
      (fun v nc' => v = .none ∧ ∃ pv np', BytsAre pv (rowOf lvl ind c) ∧ nc' = [(x, instObj 90 d), (d, wDict w.params xf l k lvl tl ind.toArray ti), (xf, instObj 90 df), (df, fDict w.params lf fw k1 k2 k3 k4 k5 t1 t2), (fw, fwObj qual cell c' dc pm ct), (c', oc), (cell, o), (lp, W.listOf (ps ++ pv).toArray np')]) := by
  rcases hv with ⟨y, t, rfl, h1, h2, rfl⟩ | ⟨t, rfl, h1⟩
  · by_cases hy : y.length = 0
    · have e : utfL y.cps.toList = [] := by
        have : y.cps.toList = [] := List.length_eq_zero_iff.mp hy
        rw [this]; rfl
      rw [e, show rowOf lvl ind [] = [[10]] from rfl]
      exact wlE08 w mean mg mb x d xf df fw c' cell lp l lf oc o k lvl tl ti ind k1 k2 k3 k4 k5 t1 t2 t qual dc pm ct ps np vs' tq y hlt ho hoc hoq hps hy
    · have e : rowOf lvl ind (utfL y.cps.toList) = [(List.replicate lvl.toNat ind).flatten, utfL y.cps.toList, [10]] := by
        unfold rowOf
        rw [if_neg fun q => hy (by have := utfL_nil q; show y.cps.toList.length = 0; rw [this]; rfl)]
      rw [e]
      exact wlS08 w mean mg mb x d xf df fw c' cell lp l lf oc o k lvl tl ti ind k1 k2 k3 k4 k5 t1 t2 t qual dc pm ct ps np vs' tq y hlt ho hoc hoq hps hi0 hi16 hl1 hl2 hy h1 h2
  · by_cases hy : c.length = 0
    · have e : rowOf lvl ind c = [[10]] := by unfold rowOf; rw [if_pos (List.length_eq_zero_iff.mp hy)]
      rw [e]
      exact wlN08 w mean mg mb x d xf df fw c' cell lp l lf oc o k lvl tl ti ind k1 k2 k3 k4 k5 t1 t2 t qual dc pm ct ps np vs' tq c hlt ho hoc hoq hps hy
    · have e : rowOf lvl ind c = [(List.replicate lvl.toNat ind).flatten, c, [10]] := by
        unfold rowOf
        rw [if_neg fun q => hy (by rw [q]; rfl)]
      rw [e]
      exact wlB08 w mean mg mb x d xf df fw c' cell lp l lf oc o k lvl tl ti ind k1 k2 k3 k4 k5 t1 t2 t qual dc pm ct ps np vs' tq c hlt ho hoc hoq hps hi0 hi16 hl1 hl2 hy h1
end
--PART S8e
section
local macro_rules | `(tactic| walk_at "binaryOp Mod str str") => `(tactic| ((first | refine fmtA (by omega) (by walk_at "toks") ?_ | refine fmtC (by omega) (by walk_at "toks") ?_ | refine fmtS (by omega) (by walk_at "toks") ?_); intro t' k' hk'; (try dsimp only)))
theorem be08 (w : World) (mean : ExcName → Option Value) (mg mb : Str → Option Value) (x d xf df fw c' cell lp l lf : Addr) (oc o : Obj) (k : Tok × Tok × Tok × Tok) (lvl : Int) (tl ti : Tok) (ind : List UInt8) (k1 k2 k3 k4 k5 t1 t2 : Tok) (qual : Str) (dc pm ct : Value) (ps : List Value) (np : Nat) (vs' : Array Value) (tq : Tok) (sv : List Value) (ns : Nat) (e : Str) (te : Tok)
    (hlt : @LT.lt Nat _ lp cell ∧ @LT.lt Nat _ cell c' ∧ @LT.lt Nat _ c' fw ∧ @LT.lt Nat _ fw df ∧ @LT.lt Nat _ df xf ∧ @LT.lt Nat _ xf d ∧ @LT.lt Nat _ d x ∧ @LT.lt Nat _ x l) (ho : o.data = .cell (some (.ref lp))) (hoc : oc.data = .fields vs') (hoq : vs'[1]? = some (.str qual tq)) (hps : ps.length ≤ 900) (hsv : sv.length ≤ 1000)
    (hi0 : ind ≠ []) (hi16 : ind.length ≤ 16) (hl1 : -1000 ≤ lvl) (hl2 : lvl ≤ 900)  (he : e.length ≤ 1000) (hes : ∀ z ∈ e.cps.toList, Str.isSurrogate z = false) :
    PM PySem.Challenge.rw_dm0240_08.row.prog w (Mine.hd08.heap_39 w.params) topProg ((looseW Mine.hd08.view_39 [Str.ofString "_controlCharPat"]) ++ (recsOf Mine.hd08.view_39).map (·.name) ++ (litsOf Mine.hd08.view_39).map (·.1) ++ (clssOf Mine.hd08.view_39 (looseW Mine.hd08.view_39 [Str.ofString "_controlCharPat"])).map (·.name)) mean mg mb 8 40 65 [.ref x, .str e te]
      [(x, instObj 90 d), (d, wDict w.params xf l k (lvl) tl ind.toArray ti), (xf, instObj 90 df), (df, fDict w.params lf fw k1 k2 k3 k4 k5 t1 t2), (fw, fwObj qual cell c' dc pm ct), (c', oc), (cell, o), (lp, W.listOf ps.toArray np), (l, W.listOf sv.toArray ns)]
      (fun v nc' => v = .none ∧ ∃ pv np' tl', BytsAre pv (rowOf lvl ind (utfL ([60] ++ e.cps.toList ++ [62]))) ∧ nc' = [(x, instObj 90 d), (d, wDict w.params xf l k (lvl + 1) tl' ind.toArray ti), (xf, instObj 90 df), (df, fDict w.params lf fw k1 k2 k3 k4 k5 t1 t2), (fw, fwObj qual cell c' dc pm ct), (c', oc), (cell, o), (lp, W.listOf (ps ++ pv).toArray np'), (l, W.listOf (sv ++ [Value.str e te]).toArray (ns + 1))]) := by
  w_on
  k_fill
  refine PM.enter (by k_is) (by k_is) rfl rfl (by decide) rfl rfl rfl ?_ (by omega)
  intro dp un gd fr base g L h₁ s B XB TB X T D T0 F N hd hu tk htk
  (try k_fold)
  obtain ⟨l1, l2, l3, l4, l5, l6, l7, l8⟩ := hlt
  have hR : Rise [lp, cell, c', fw, df, xf, d, x, l] := rise_cons l1 (rise_cons l2 (rise_cons l3 (rise_cons l4 (rise_cons l5 (rise_cons l6 (rise_cons l7 (rise_cons l8 rise_one)))))))
  have wlc := fun (lvl : Int) (tl : Tok) (v : Value) (c : List UInt8) (hl1 : -1000 ≤ lvl) (hl2 : lvl ≤ 1000) (hv : LineIs v c) => wl08 w mean mg mb x d xf df fw c' cell lp l lf oc o k lvl tl ti ind k1 k2 k3 k4 k5 t1 t2 qual dc pm ct ps np vs' tq v c ⟨l1, l2, l3, l4, l5, l6, l7⟩ ho hoc hoq hps hi0 hi16 hl1 hl2 hv
  walk_at "go"
  rename Fr _ _ _ _ => F1
  rename News _ _ _ _ => N1
  simp only [List.push_toArray] at N1
  refine go_on (PM.call (wlc lvl tl _ (utfL ([60] ++ e.cps.toList ++ [62])) hl1 (by omega) (line_mk (len_tag (p := [60]) (q := [62]) he (by decide)) (surr_tag (p := [60]) (q := [62]) (by decide) (by decide) hes))) [(l, W.listOf (sv ++ [Value.str e te]).toArray (ns + 1))] B XB TB D T0 F1 N1 (by walk_at "sub") (by walk_at "rest") (by omega) (by omega) (by walk_at "toks") ?_)
  clear B X T D T0 F1 N1
  rintro v nc' g h' tk' ⟨rfl, pv, np', hpv, rfl⟩ B X T D T0 F N htk'
  dsimp only [List.cons_append, List.nil_append] at N ⊢
  walk_at "go"
  rename Fr _ _ _ _ => F1
  rename News _ _ _ _ => N1
  exact PMEnd.mk [(x, instObj 90 d), (d, wDict w.params xf l k (lvl + 1) _ ind.toArray ti), (xf, instObj 90 df), (df, fDict w.params lf fw k1 k2 k3 k4 k5 t1 t2), (fw, fwObj qual cell c' dc pm ct), (c', oc), (cell, o), (lp, W.listOf (ps ++ pv).toArray np'), (l, W.listOf (sv ++ [Value.str e te]).toArray (ns + 1))] T0 F1 N1 (by walk_at "sub") (by walk_at "toks") ⟨rfl, pv, np', _, hpv, rfl⟩
end
--PART S8f
section
local macro_rules | `(tactic| walk_at "binaryOp Mod str str") => `(tactic| ((first | refine fmtA (by omega) (by walk_at "toks") ?_ | refine fmtC (by omega) (by walk_at "toks") ?_ | refine fmtS (by omega) (by walk_at "toks") ?_); intro t' k' hk'; (try dsimp only)))
local macro_rules | `(tactic| walk_at "call builtin:list.pop") => `(tactic| (k_here; k_dflt (refine' lastPop ?k1 ?k2 ?k3 ?z ?_; (case k1 => k_asm); (case k2 => k_asm); (case k3 => k_upd); (case z => omega)); intro h' F' N'; (try dsimp only [List.nil_append, List.cons_append] at N')))
theorem en08 (w : World) (mean : ExcName → Option Value) (mg mb : Str → Option Value) (x d xf df fw c' cell lp l lf : Addr) (oc o : Obj) (k : Tok × Tok × Tok × Tok) (lvl : Int) (tl ti : Tok) (ind : List UInt8) (k1 k2 k3 k4 k5 t1 t2 : Tok) (qual : Str) (dc pm ct : Value) (ps : List Value) (np : Nat) (vs' : Array Value) (tq : Tok) (sp : List Value) (ns : Nat) (e : Str) (te te2 : Tok)
    (hlt : @LT.lt Nat _ lp cell ∧ @LT.lt Nat _ cell c' ∧ @LT.lt Nat _ c' fw ∧ @LT.lt Nat _ fw df ∧ @LT.lt Nat _ df xf ∧ @LT.lt Nat _ xf d ∧ @LT.lt Nat _ d x ∧ @LT.lt Nat _ x l) (ho : o.data = .cell (some (.ref lp))) (hoc : oc.data = .fields vs') (hoq : vs'[1]? = some (.str qual tq)) (hps : ps.length ≤ 900) (hsv : sp.length ≤ 1000)
    (hi0 : ind ≠ []) (hi16 : ind.length ≤ 16) (hl1 : 0 < lvl) (hl2 : lvl ≤ 900)  (he : e.length ≤ 1000) (hes : ∀ z ∈ e.cps.toList, Str.isSurrogate z = false) :
    PM PySem.Challenge.rw_dm0240_08.row.prog w (Mine.hd08.heap_39 w.params) topProg ((looseW Mine.hd08.view_39 [Str.ofString "_controlCharPat"]) ++ (recsOf Mine.hd08.view_39).map (·.name) ++ (litsOf Mine.hd08.view_39).map (·.1) ++ (clssOf Mine.hd08.view_39 (looseW Mine.hd08.view_39 [Str.ofString "_controlCharPat"])).map (·.name)) mean mg mb 8 40 72 [.ref x, .str e te]
      [(x, instObj 90 d), (d, wDict w.params xf l k (lvl) tl ind.toArray ti), (xf, instObj 90 df), (df, fDict w.params lf fw k1 k2 k3 k4 k5 t1 t2), (fw, fwObj qual cell c' dc pm ct), (c', oc), (cell, o), (lp, W.listOf ps.toArray np), (l, W.listOf (sp ++ [Value.str e te2]).toArray ns)]
      (fun v nc' => v = .none ∧ ∃ pv np' tl', BytsAre pv (rowOf (lvl - 1) ind (utfL ([60, 47] ++ e.cps.toList ++ [62]))) ∧ nc' = [(x, instObj 90 d), (d, wDict w.params xf l k (lvl - 1) tl' ind.toArray ti), (xf, instObj 90 df), (df, fDict w.params lf fw k1 k2 k3 k4 k5 t1 t2), (fw, fwObj qual cell c' dc pm ct), (c', oc), (cell, o), (lp, W.listOf (ps ++ pv).toArray np'), (l, W.listOf sp.toArray (ns + 1))]) := by
  w_on
  k_fill
  refine PM.enter (by k_is) (by k_is) rfl rfl (by decide) rfl rfl rfl ?_ (by omega)
  intro dp un gd fr base g L h₁ s B XB TB X T D T0 F N hd hu tk htk
  (try k_fold)
  obtain ⟨l1, l2, l3, l4, l5, l6, l7, l8⟩ := hlt
  have hR : Rise [lp, cell, c', fw, df, xf, d, x, l] := rise_cons l1 (rise_cons l2 (rise_cons l3 (rise_cons l4 (rise_cons l5 (rise_cons l6 (rise_cons l7 (rise_cons l8 rise_one)))))))
  have wlc := fun (lvl : Int) (tl : Tok) (v : Value) (c : List UInt8) (hl1 : -1000 ≤ lvl) (hl2 : lvl ≤ 1000) (hv : LineIs v c) => wl08 w mean mg mb x d xf df fw c' cell lp l lf oc o k lvl tl ti ind k1 k2 k3 k4 k5 t1 t2 qual dc pm ct ps np vs' tq v c ⟨l1, l2, l3, l4, l5, l6, l7⟩ ho hoc hoq hps hi0 hi16 hl1 hl2 hv
  have hee : (e == e) = true := by simp
  walk_at "go"
  rename Fr _ _ _ _ => F1
  rename News _ _ _ _ => N1
  (try simp only [List.push_toArray] at N1)
  refine go_on (PM.call (wlc (lvl - 1) _ _ (utfL ([60, 47] ++ e.cps.toList ++ [62])) (by omega) (by omega) (line_mk (len_tag (p := [60, 47]) (q := [62]) he (by decide)) (surr_tag (p := [60, 47]) (q := [62]) (by decide) (by decide) hes))) [(l, W.listOf sp.toArray (ns + 1))] B XB TB D T0 F1 N1 (by walk_at "sub") (by walk_at "rest") (by omega) (by omega) (by walk_at "toks") ?_)
  clear B X T D T0 F1 N1
  rintro v nc' g h' tk' ⟨rfl, pv, np', hpv, rfl⟩ B X T D T0 F N htk'
  dsimp only [List.cons_append, List.nil_append] at N ⊢
  walk_at "go"
  rename Fr _ _ _ _ => F1
  rename News _ _ _ _ => N1
  exact PMEnd.mk [(x, instObj 90 d), (d, wDict w.params xf l k (lvl - 1) _ ind.toArray ti), (xf, instObj 90 df), (df, fDict w.params lf fw k1 k2 k3 k4 k5 t1 t2), (fw, fwObj qual cell c' dc pm ct), (c', oc), (cell, o), (lp, W.listOf (ps ++ pv).toArray np'), (l, W.listOf sp.toArray (ns + 1))] T0 F1 N1 (by walk_at "sub") (by walk_at "toks") ⟨rfl, pv, np', _, hpv, rfl⟩
end
--PART S8g
section
local macro_rules | `(tactic| walk_at "other number of lines") => `(tactic| skip)


local macro_rules | `(tactic| walk_at "binaryOp Mod str str") => `(tactic| ((first | refine fmtA (by omega) (by walk_at "toks") ?_ | refine fmtC (by omega) (by walk_at "toks") ?_ | refine fmtS (by omega) (by walk_at "toks") ?_); intro t' k' hk'; (try dsimp only)))
local macro_rules | `(tactic| walk_at "call builtin:list.pop") => `(tactic| ((try dsimp only); refine popEmpty (by with_reducible assumption) (by k_mem) rfl (by walk_at "toks") ?_; intro h1 tk1 e1 htk1 hx1))
theorem enA08 (w : World) (mean : ExcName → Option Value) (mg mb : Str → Option Value) (x d xf l : Addr) (k : Tok × Tok × Tok × Tok) (lvl : Int) (tl ti : Tok) (ind : List UInt8) (sv : List Value) (ns : Nat) (e : Str) (te : Tok) (hlt : @LT.lt Nat _ d x ∧ @LT.lt Nat _ x l) (hl : lvl ≤ 0) :
    PXN PySem.Challenge.rw_dm0240_08.row.prog w (Mine.hd08.heap_39 w.params) topProg ((looseW Mine.hd08.view_39 [Str.ofString "_controlCharPat"]) ++ (recsOf Mine.hd08.view_39).map (·.name) ++ (litsOf Mine.hd08.view_39).map (·.1) ++ (clssOf Mine.hd08.view_39 (looseW Mine.hd08.view_39 [Str.ofString "_controlCharPat"])).map (·.name)) mean mg mb 3 20 72 [.ref x, .str e te] [(x, instObj 90 d), (d, wDict w.params xf l k lvl tl ind.toArray ti), (l, W.listOf sv.toArray ns)] "AssertionError" := by
  w_on
  k_fill
  refine PXN.enter (by k_is) (by k_is) rfl rfl (by decide) rfl rfl rfl ?_ (by omega)
  intro dp un gd fr base g L h₁ s rest B X T F N hd hu tk htk
  (try k_fold)
  obtain ⟨l1, l2⟩ := hlt
  have hR : Rise [d, x, l] := rise_cons l1 (rise_cons l2 rise_one)
  dsimp only [List.cons_append, List.nil_append] at N
  walk_at "go"
  exact ⟨_, _, _, _, _, rfl, rfl, by walk_at "toks", by assumption, by assumption, by assumption⟩
theorem enI08 (w : World) (mean : ExcName → Option Value) (mg mb : Str → Option Value) (x d xf l : Addr) (k : Tok × Tok × Tok × Tok) (lvl : Int) (tl ti : Tok) (ind : List UInt8) (ns : Nat) (e : Str) (te : Tok) (hlt : @LT.lt Nat _ d x ∧ @LT.lt Nat _ x l) (hl : 0 < lvl) (hl2 : lvl ≤ 1000) :
    PXN PySem.Challenge.rw_dm0240_08.row.prog w (Mine.hd08.heap_39 w.params) topProg ((looseW Mine.hd08.view_39 [Str.ofString "_controlCharPat"]) ++ (recsOf Mine.hd08.view_39).map (·.name) ++ (litsOf Mine.hd08.view_39).map (·.1) ++ (clssOf Mine.hd08.view_39 (looseW Mine.hd08.view_39 [Str.ofString "_controlCharPat"])).map (·.name)) mean mg mb 3 20 72 [.ref x, .str e te] [(x, instObj 90 d), (d, wDict w.params xf l k lvl tl ind.toArray ti), (l, W.listOf #[] ns)] "IndexError" := by
  w_on
  k_fill
  refine PXN.enter (by k_is) (by k_is) rfl rfl (by decide) rfl rfl rfl ?_ (by omega)
  intro dp un gd fr base g L h₁ s rest B X T F N hd hu tk htk
  (try k_fold)
  obtain ⟨l1, l2⟩ := hlt
  have hR : Rise [d, x, l] := rise_cons l1 (rise_cons l2 rise_one)
  dsimp only [List.cons_append, List.nil_append] at N
  walk_at "go"
  exact ⟨_, _, _, _, _, rfl, rfl, by walk_at "toks", by assumption, by assumption, by assumption⟩
end
--PART S8h
section
local macro_rules | `(tactic| walk_at "binaryOp Mod str str") => `(tactic| ((first | refine fmtA (by omega) (by walk_at "toks") ?_ | refine fmtC (by omega) (by walk_at "toks") ?_ | refine fmtS (by omega) (by walk_at "toks") ?_); intro t' k' hk'; (try dsimp only)))
theorem line_tag {e z : Str} {t : Tok} (he : e.length ≤ 1000) (hz : z.length ≤ 5000) (hes : ∀ z ∈ e.cps.toList, Str.isSurrogate z = false) (hzs : ∀ c ∈ z.cps.toList, Str.isSurrogate c = false) :
    LineIs (.str (Str.ofString "<" ++ e ++ Str.ofString ">" ++ z ++ Str.ofString "</" ++ e ++ Str.ofString ">") t) (utfL ([60] ++ e.cps.toList ++ [62] ++ z.cps.toList ++ [60, 47] ++ e.cps.toList ++ [62])) := by
  rw [tag_text]
  have h1 : e.cps.toList.length = e.length := rfl
  have h2 : z.cps.toList.length = z.length := rfl
  refine line_mk (by simp only [List.length_append, List.length_cons, List.length_nil]; omega) ?_
  intro c hc
  simp only [List.mem_append, List.mem_cons, List.not_mem_nil, or_false] at hc
  rcases hc with (((((rfl | hc) | rfl) | hc) | (rfl | rfl)) | hc) | rfl
  all_goals first | exact hes _ hc | exact hzs _ hc | decide
theorem seN08 (w : World) (mean : ExcName → Option Value) (mg mb : Str → Option Value) (x d xf df fw c' cell lp l lf : Addr) (oc o : Obj) (k : Tok × Tok × Tok × Tok) (lvl : Int) (tl ti : Tok) (ind : List UInt8) (k1 k2 k3 k4 k5 t1 t2 : Tok) (qual : Str) (dc pm ct : Value) (ps : List Value) (np : Nat) (vs' : Array Value) (tq : Tok) (e : Str) (te : Tok)
    (hlt : @LT.lt Nat _ lp cell ∧ @LT.lt Nat _ cell c' ∧ @LT.lt Nat _ c' fw ∧ @LT.lt Nat _ fw df ∧ @LT.lt Nat _ df xf ∧ @LT.lt Nat _ xf d ∧ @LT.lt Nat _ d x) (ho : o.data = .cell (some (.ref lp))) (hoc : oc.data = .fields vs') (hoq : vs'[1]? = some (.str qual tq)) (hps : ps.length ≤ 900)
    (hi0 : ind ≠ []) (hi16 : ind.length ≤ 16) (hl1 : -1000 ≤ lvl) (hl2 : lvl ≤ 1000)  (he : e.length ≤ 1000) (hes : ∀ z ∈ e.cps.toList, Str.isSurrogate z = false) :
    PM PySem.Challenge.rw_dm0240_08.row.prog w (Mine.hd08.heap_39 w.params) topProg ((looseW Mine.hd08.view_39 [Str.ofString "_controlCharPat"]) ++ (recsOf Mine.hd08.view_39).map (·.name) ++ (litsOf Mine.hd08.view_39).map (·.1) ++ (clssOf Mine.hd08.view_39 (looseW Mine.hd08.view_39 [Str.ofString "_controlCharPat"])).map (·.name)) mean mg mb 8 40 80 [.ref x, .str e te, .none]
      [(x, instObj 90 d), (d, wDict w.params xf l k lvl tl ind.toArray ti), (xf, instObj 90 df), (df, fDict w.params lf fw k1 k2 k3 k4 k5 t1 t2), (fw, fwObj qual cell c' dc pm ct), (c', oc), (cell, o), (lp, W.listOf ps.toArray np)]
      (fun v nc' => v = .none ∧ ∃ pv np', BytsAre pv (rowOf lvl ind (utfL ([60] ++ e.cps.toList ++ [47, 62]))) ∧ nc' = [(x, instObj 90 d), (d, wDict w.params xf l k lvl tl ind.toArray ti), (xf, instObj 90 df), (df, fDict w.params lf fw k1 k2 k3 k4 k5 t1 t2), (fw, fwObj qual cell c' dc pm ct), (c', oc), (cell, o), (lp, W.listOf (ps ++ pv).toArray np')]) := by
  w_on
  k_fill
  refine PM.enterB (binds := [(Str.ofString "self", .ref x), (Str.ofString "element", .str e te), (Str.ofString "value", .none)]) (by k_is) (by k_is) (fun s X => binds_K X rfl (by k_is) rfl rfl rfl) rfl (by decide) rfl rfl rfl ?_ (by omega)
  intro dp un gd fr base g L h₁ s B XB TB X T D T0 F N hd hu tk htk
  (try k_fold)
  obtain ⟨l1, l2, l3, l4, l5, l6, l7⟩ := hlt
  have hR : Rise [lp, cell, c', fw, df, xf, d, x] := rise_cons l1 (rise_cons l2 (rise_cons l3 (rise_cons l4 (rise_cons l5 (rise_cons l6 (rise_cons l7 rise_one))))))
  have wlc := fun (lvl : Int) (tl : Tok) (v : Value) (c : List UInt8) (hl1 : -1000 ≤ lvl) (hl2 : lvl ≤ 1000) (hv : LineIs v c) => wl08 w mean mg mb x d xf df fw c' cell lp l lf oc o k lvl tl ti ind k1 k2 k3 k4 k5 t1 t2 qual dc pm ct ps np vs' tq v c ⟨l1, l2, l3, l4, l5, l6, l7⟩ ho hoc hoq hps hi0 hi16 hl1 hl2 hv
  walk_at "go"
  rename Fr _ _ _ _ => F1
  rename News _ _ _ _ => N1
  refine go_on (PM.call (wlc lvl tl _ (utfL ([60] ++ e.cps.toList ++ [47, 62])) hl1 hl2 (line_mk (len_tag (p := [60]) (q := [47, 62]) he (by decide)) (surr_tag (p := [60]) (q := [47, 62]) (by decide) (by decide) hes))) [] B XB TB D T0 F1 N1 (by walk_at "sub") (by walk_at "rest") (by omega) (by omega) (by walk_at "toks") ?_)
  clear B X T D T0 F1 N1
  rintro v nc' g h' tk' ⟨rfl, pv, np', hpv, rfl⟩ B X T D T0 F N htk'
  dsimp only [List.cons_append, List.nil_append] at N ⊢
  walk_at "go"
  rename Fr _ _ _ _ => F1
  rename News _ _ _ _ => N1
  exact PMEnd.mk [(x, instObj 90 d), (d, wDict w.params xf l k lvl tl ind.toArray ti), (xf, instObj 90 df), (df, fDict w.params lf fw k1 k2 k3 k4 k5 t1 t2), (fw, fwObj qual cell c' dc pm ct), (c', oc), (cell, o), (lp, W.listOf (ps ++ pv).toArray np')] T0 F1 N1 (by walk_at "sub") (by walk_at "toks") ⟨rfl, pv, np', hpv, rfl⟩
theorem seS08 (w : World) (mean : ExcName → Option Value) (mg mb : Str → Option Value) (x d xf df fw c' cell lp l lf : Addr) (oc o : Obj) (k : Tok × Tok × Tok × Tok) (lvl : Int) (tl ti : Tok) (ind : List UInt8) (k1 k2 k3 k4 k5 t1 t2 : Tok) (qual : Str) (dc pm ct : Value) (ps : List Value) (np : Nat) (vs' : Array Value) (tq : Tok) (e y : Str) (te ty : Tok)
    (hlt : @LT.lt Nat _ lp cell ∧ @LT.lt Nat _ cell c' ∧ @LT.lt Nat _ c' fw ∧ @LT.lt Nat _ fw df ∧ @LT.lt Nat _ df xf ∧ @LT.lt Nat _ xf d ∧ @LT.lt Nat _ d x) (ho : o.data = .cell (some (.ref lp))) (hoc : oc.data = .fields vs') (hoq : vs'[1]? = some (.str qual tq)) (hps : ps.length ≤ 900)
    (hi0 : ind ≠ []) (hi16 : ind.length ≤ 16) (hl1 : -1000 ≤ lvl) (hl2 : lvl ≤ 1000)  (he : e.length ≤ 1000) (hes : ∀ z ∈ e.cps.toList, Str.isSurrogate z = false) (hy1 : y.length ≤ 1000) (hy2 : (escS y).length ≤ 5000) (hys : ∀ z ∈ (escS y).cps.toList, Str.isSurrogate z = false) (hyc : hasCtl y = false) :
    PM PySem.Challenge.rw_dm0240_08.row.prog w (Mine.hd08.heap_39 w.params) topProg ((looseW Mine.hd08.view_39 [Str.ofString "_controlCharPat"]) ++ (recsOf Mine.hd08.view_39).map (·.name) ++ (litsOf Mine.hd08.view_39).map (·.1) ++ (clssOf Mine.hd08.view_39 (looseW Mine.hd08.view_39 [Str.ofString "_controlCharPat"])).map (·.name)) mean mg mb 8 40 80 [.ref x, .str e te, .str y ty]
      [(x, instObj 90 d), (d, wDict w.params xf l k lvl tl ind.toArray ti), (xf, instObj 90 df), (df, fDict w.params lf fw k1 k2 k3 k4 k5 t1 t2), (fw, fwObj qual cell c' dc pm ct), (c', oc), (cell, o), (lp, W.listOf ps.toArray np)]
      (fun v nc' => v = .none ∧ ∃ pv np', BytsAre pv (rowOf lvl ind (utfL ([60] ++ e.cps.toList ++ [62] ++ (escS y).cps.toList ++ [60, 47] ++ e.cps.toList ++ [62]))) ∧ nc' = [(x, instObj 90 d), (d, wDict w.params xf l k lvl tl ind.toArray ti), (xf, instObj 90 df), (df, fDict w.params lf fw k1 k2 k3 k4 k5 t1 t2), (fw, fwObj qual cell c' dc pm ct), (c', oc), (cell, o), (lp, W.listOf (ps ++ pv).toArray np')]) := by
  w_on
  k_fill
  refine PM.enterB (binds := [(Str.ofString "self", .ref x), (Str.ofString "element", .str e te), (Str.ofString "value", .str y ty)]) (by k_is) (by k_is) (fun s X => binds_K X rfl (by k_is) rfl rfl rfl) rfl (by decide) rfl rfl rfl ?_ (by omega)
  intro dp un gd fr base g L h₁ s B XB TB X T D T0 F N hd hu tk htk
  (try k_fold)
  obtain ⟨l1, l2, l3, l4, l5, l6, l7⟩ := hlt
  have hR : Rise [lp, cell, c', fw, df, xf, d, x] := rise_cons l1 (rise_cons l2 (rise_cons l3 (rise_cons l4 (rise_cons l5 (rise_cons l6 (rise_cons l7 rise_one))))))
  have wlc := fun (lvl : Int) (tl : Tok) (v : Value) (c : List UInt8) (hl1 : -1000 ≤ lvl) (hl2 : lvl ≤ 1000) (hv : LineIs v c) => wl08 w mean mg mb x d xf df fw c' cell lp l lf oc o k lvl tl ti ind k1 k2 k3 k4 k5 t1 t2 qual dc pm ct ps np vs' tq v c ⟨l1, l2, l3, l4, l5, l6, l7⟩ ho hoc hoq hps hi0 hi16 hl1 hl2 hv
  walk_at "go"
  rename Fr _ _ _ _ => F1
  rename News _ _ _ _ => N1
  refine go_on (PF.call (esc08 w mean mg mb y ty (by omega) hyc) B X T F1 N1 (by omega) (by omega) (by walk_at "toks") ?_)
  clear F1 N1
  rintro v h' tk' ⟨t', rfl⟩ F' N' htk'
  dsimp only
  walk_at "go"
  rename Fr _ _ _ _ => F1
  rename News _ _ _ _ => N1
  refine go_on (PM.call (wlc lvl tl _ (utfL ([60] ++ e.cps.toList ++ [62] ++ (escS y).cps.toList ++ [60, 47] ++ e.cps.toList ++ [62])) hl1 hl2 (line_tag he hy2 hes hys)) [] B XB TB D T0 F1 N1 (by walk_at "sub") (by walk_at "rest") (by omega) (by omega) (by walk_at "toks") ?_)
  clear B X T D T0 F1 N1
  rintro v nc' g h' tk' ⟨rfl, pv, np', hpv, rfl⟩ B X T D T0 F N htk'
  dsimp only [List.cons_append, List.nil_append] at N ⊢
  walk_at "go"
  rename Fr _ _ _ _ => F1
  rename News _ _ _ _ => N1
  exact PMEnd.mk [(x, instObj 90 d), (d, wDict w.params xf l k lvl tl ind.toArray ti), (xf, instObj 90 df), (df, fDict w.params lf fw k1 k2 k3 k4 k5 t1 t2), (fw, fwObj qual cell c' dc pm ct), (c', oc), (cell, o), (lp, W.listOf (ps ++ pv).toArray np')] T0 F1 N1 (by walk_at "sub") (by walk_at "toks") ⟨rfl, pv, np', hpv, rfl⟩
end
--PART S8i
section
theorem doB08 (w : World) (mean : ExcName → Option Value) (mg mb : Str → Option Value) (x d xf df fw c' cell lp l lf : Addr) (oc o : Obj) (k : Tok × Tok × Tok × Tok) (lvl : Int) (tl ti : Tok) (ind : List UInt8) (k1 k2 k3 k4 k5 t1 t2 : Tok) (qual : Str) (dc pm ct : Value) (ps : List Value) (np : Nat) (vs' : Array Value) (tq : Tok) (sv : List Value) (ns : Nat) (e : Str) (te : Tok) (what : Int) (tw : Tok)
    (hlt : @LT.lt Nat _ lp cell ∧ @LT.lt Nat _ cell c' ∧ @LT.lt Nat _ c' fw ∧ @LT.lt Nat _ fw df ∧ @LT.lt Nat _ df xf ∧ @LT.lt Nat _ xf d ∧ @LT.lt Nat _ d x ∧ @LT.lt Nat _ x l) (ho : o.data = .cell (some (.ref lp))) (hoc : oc.data = .fields vs') (hoq : vs'[1]? = some (.str qual tq)) (hps : ps.length ≤ 900) (hsv : sv.length ≤ 1000)
    (hi0 : ind ≠ []) (hi16 : ind.length ≤ 16) (hl1 : -1000 ≤ lvl) (hl2 : lvl ≤ 900)  (he : e.length ≤ 1000) (hes : ∀ z ∈ e.cps.toList, Str.isSurrogate z = false) (hw : what < 2) :
    PM PySem.Challenge.rw_dm0240_08.row.prog w (Mine.hd08.heap_39 w.params) topProg ((looseW Mine.hd08.view_39 [Str.ofString "_controlCharPat"]) ++ (recsOf Mine.hd08.view_39).map (·.name) ++ (litsOf Mine.hd08.view_39).map (·.1) ++ (clssOf Mine.hd08.view_39 (looseW Mine.hd08.view_39 [Str.ofString "_controlCharPat"])).map (·.name)) mean mg mb 11 50 108 [.ref x, .int what tw, .str e te]
      [(x, instObj 90 d), (d, wDict w.params xf l k (lvl) tl ind.toArray ti), (xf, instObj 90 df), (df, fDict w.params lf fw k1 k2 k3 k4 k5 t1 t2), (fw, fwObj qual cell c' dc pm ct), (c', oc), (cell, o), (lp, W.listOf ps.toArray np), (l, W.listOf sv.toArray ns)]
      (fun v nc' => (∃ tv, v = .str (Str.ofString "done") tv) ∧ ∃ pv np' tl', BytsAre pv (rowOf lvl ind (utfL ([60] ++ e.cps.toList ++ [62]))) ∧ nc' = [(x, instObj 90 d), (d, wDict w.params xf l k (lvl + 1) tl' ind.toArray ti), (xf, instObj 90 df), (df, fDict w.params lf fw k1 k2 k3 k4 k5 t1 t2), (fw, fwObj qual cell c' dc pm ct), (c', oc), (cell, o), (lp, W.listOf (ps ++ pv).toArray np'), (l, W.listOf (sv ++ [Value.str e te]).toArray (ns + 1))]) := by
  w_on
  k_fill
  refine PM.enter (by k_is) (by k_is) rfl rfl (by decide) rfl rfl rfl ?_ (by omega)
  intro dp un gd fr base g L h₁ s B XB TB X T D T0 F N hd hu tk htk
  (try k_fold)
  obtain ⟨l1, l2, l3, l4, l5, l6, l7, l8⟩ := hlt
  have hR : Rise [lp, cell, c', fw, df, xf, d, x, l] := rise_cons l1 (rise_cons l2 (rise_cons l3 (rise_cons l4 (rise_cons l5 (rise_cons l6 (rise_cons l7 (rise_cons l8 rise_one)))))))
  walk_at "go"
  rename Fr _ _ _ _ => F1
  rename News _ _ _ _ => N1
  refine go_on (PM.call (be08 w mean mg mb x d xf df fw c' cell lp l lf oc o k lvl tl ti ind k1 k2 k3 k4 k5 t1 t2 qual dc pm ct ps np vs' tq sv ns e te ⟨l1, l2, l3, l4, l5, l6, l7, l8⟩ ho hoc hoq hps hsv hi0 hi16 hl1 hl2 he hes) [] B XB TB D T0 F1 N1 (by walk_at "sub") (by walk_at "rest") (by omega) (by omega) (by walk_at "toks") ?_)
  clear B X T D T0 F1 N1
  rintro v nc' g h' tk' ⟨rfl, pv, np', tl', hpv, rfl⟩ B X T D T0 F N htk'
  dsimp only [List.cons_append, List.nil_append] at N ⊢
  walk_at "go"
  rename Fr _ _ _ _ => F1
  rename News _ _ _ _ => N1
  exact PMEnd.mk [(x, instObj 90 d), (d, wDict w.params xf l k (lvl + 1) _ ind.toArray ti), (xf, instObj 90 df), (df, fDict w.params lf fw k1 k2 k3 k4 k5 t1 t2), (fw, fwObj qual cell c' dc pm ct), (c', oc), (cell, o), (lp, W.listOf (ps ++ pv).toArray np'), (l, W.listOf (sv ++ [Value.str e te]).toArray (ns + 1))] T0 F1 N1 (by walk_at "sub") (by walk_at "toks") ⟨⟨_, rfl⟩, pv, np', _, hpv, rfl⟩
end
--PART S8j
section
theorem doE08 (w : World) (mean : ExcName → Option Value) (mg mb : Str → Option Value) (x d xf df fw c' cell lp l lf : Addr) (oc o : Obj) (k : Tok × Tok × Tok × Tok) (lvl : Int) (tl ti : Tok) (ind : List UInt8) (k1 k2 k3 k4 k5 t1 t2 : Tok) (qual : Str) (dc pm ct : Value) (ps : List Value) (np : Nat) (vs' : Array Value) (tq : Tok) (sp : List Value) (ns : Nat) (e : Str) (te te2 : Tok) (what : Int) (tw : Tok)
    (hlt : @LT.lt Nat _ lp cell ∧ @LT.lt Nat _ cell c' ∧ @LT.lt Nat _ c' fw ∧ @LT.lt Nat _ fw df ∧ @LT.lt Nat _ df xf ∧ @LT.lt Nat _ xf d ∧ @LT.lt Nat _ d x ∧ @LT.lt Nat _ x l) (ho : o.data = .cell (some (.ref lp))) (hoc : oc.data = .fields vs') (hoq : vs'[1]? = some (.str qual tq)) (hps : ps.length ≤ 900) (hsv : sp.length ≤ 1000)
    (hi0 : ind ≠ []) (hi16 : ind.length ≤ 16) (hl1 : 0 < lvl) (hl2 : lvl ≤ 900)  (he : e.length ≤ 1000) (hes : ∀ z ∈ e.cps.toList, Str.isSurrogate z = false) (hw : what = 2) :
    PM PySem.Challenge.rw_dm0240_08.row.prog w (Mine.hd08.heap_39 w.params) topProg ((looseW Mine.hd08.view_39 [Str.ofString "_controlCharPat"]) ++ (recsOf Mine.hd08.view_39).map (·.name) ++ (litsOf Mine.hd08.view_39).map (·.1) ++ (clssOf Mine.hd08.view_39 (looseW Mine.hd08.view_39 [Str.ofString "_controlCharPat"])).map (·.name)) mean mg mb 11 50 108 [.ref x, .int what tw, .str e te]
      [(x, instObj 90 d), (d, wDict w.params xf l k (lvl) tl ind.toArray ti), (xf, instObj 90 df), (df, fDict w.params lf fw k1 k2 k3 k4 k5 t1 t2), (fw, fwObj qual cell c' dc pm ct), (c', oc), (cell, o), (lp, W.listOf ps.toArray np), (l, W.listOf (sp ++ [Value.str e te2]).toArray ns)]
      (fun v nc' => (∃ tv, v = .str (Str.ofString "done") tv) ∧ ∃ pv np' tl', BytsAre pv (rowOf (lvl - 1) ind (utfL ([60, 47] ++ e.cps.toList ++ [62]))) ∧ nc' = [(x, instObj 90 d), (d, wDict w.params xf l k (lvl - 1) tl' ind.toArray ti), (xf, instObj 90 df), (df, fDict w.params lf fw k1 k2 k3 k4 k5 t1 t2), (fw, fwObj qual cell c' dc pm ct), (c', oc), (cell, o), (lp, W.listOf (ps ++ pv).toArray np'), (l, W.listOf sp.toArray (ns + 1))]) := by
  w_on
  k_fill
  refine PM.enter (by k_is) (by k_is) rfl rfl (by decide) rfl rfl rfl ?_ (by omega)
  intro dp un gd fr base g L h₁ s B XB TB X T D T0 F N hd hu tk htk
  (try k_fold)
  obtain ⟨l1, l2, l3, l4, l5, l6, l7, l8⟩ := hlt
  have hR : Rise [lp, cell, c', fw, df, xf, d, x, l] := rise_cons l1 (rise_cons l2 (rise_cons l3 (rise_cons l4 (rise_cons l5 (rise_cons l6 (rise_cons l7 (rise_cons l8 rise_one)))))))
  subst hw
  walk_at "go"
  rename Fr _ _ _ _ => F1
  rename News _ _ _ _ => N1
  refine go_on (PM.call (en08 w mean mg mb x d xf df fw c' cell lp l lf oc o k lvl tl ti ind k1 k2 k3 k4 k5 t1 t2 qual dc pm ct ps np vs' tq sp ns e te te2 ⟨l1, l2, l3, l4, l5, l6, l7, l8⟩ ho hoc hoq hps hsv hi0 hi16 hl1 hl2 he hes) [] B XB TB D T0 F1 N1 (by walk_at "sub") (by walk_at "rest") (by omega) (by omega) (by walk_at "toks") ?_)
  clear B X T D T0 F1 N1
  rintro v nc' g h' tk' ⟨rfl, pv, np', tl', hpv, rfl⟩ B X T D T0 F N htk'
  dsimp only [List.cons_append, List.nil_append] at N ⊢
  walk_at "go"
  rename Fr _ _ _ _ => F1
  rename News _ _ _ _ => N1
  exact PMEnd.mk [(x, instObj 90 d), (d, wDict w.params xf l k (lvl - 1) _ ind.toArray ti), (xf, instObj 90 df), (df, fDict w.params lf fw k1 k2 k3 k4 k5 t1 t2), (fw, fwObj qual cell c' dc pm ct), (c', oc), (cell, o), (lp, W.listOf (ps ++ pv).toArray np'), (l, W.listOf sp.toArray (ns + 1))] T0 F1 N1 (by walk_at "sub") (by walk_at "toks") ⟨⟨_, rfl⟩, pv, np', _, hpv, rfl⟩
end
--PART S8k
section
theorem doA08 (w : World) (mean : ExcName → Option Value) (mg mb : Str → Option Value) (x d xf df fw c' cell lp l lf : Addr) (oc o : Obj) (k : Tok × Tok × Tok × Tok) (lvl : Int) (tl ti : Tok) (ind : List UInt8) (k1 k2 k3 k4 k5 t1 t2 : Tok) (qual : Str) (dc pm ct : Value) (ps : List Value) (np : Nat) (vs' : Array Value) (tq : Tok) (sv : List Value) (ns : Nat) (e : Str) (te : Tok) (what : Int) (tw : Tok)
    (hlt : @LT.lt Nat _ lp cell ∧ @LT.lt Nat _ cell c' ∧ @LT.lt Nat _ c' fw ∧ @LT.lt Nat _ fw df ∧ @LT.lt Nat _ df xf ∧ @LT.lt Nat _ xf d ∧ @LT.lt Nat _ d x ∧ @LT.lt Nat _ x l)  (hl : lvl ≤ 0) (hw : what = 2) :
    PM PySem.Challenge.rw_dm0240_08.row.prog w (Mine.hd08.heap_39 w.params) topProg ((looseW Mine.hd08.view_39 [Str.ofString "_controlCharPat"]) ++ (recsOf Mine.hd08.view_39).map (·.name) ++ (litsOf Mine.hd08.view_39).map (·.1) ++ (clssOf Mine.hd08.view_39 (looseW Mine.hd08.view_39 [Str.ofString "_controlCharPat"])).map (·.name)) mean mg mb 11 50 108 [.ref x, .int what tw, .str e te]
      [(x, instObj 90 d), (d, wDict w.params xf l k (lvl) tl ind.toArray ti), (xf, instObj 90 df), (df, fDict w.params lf fw k1 k2 k3 k4 k5 t1 t2), (fw, fwObj qual cell c' dc pm ct), (c', oc), (cell, o), (lp, W.listOf ps.toArray np), (l, W.listOf sv.toArray ns)]
      (fun v nc' => (∃ tv, v = .str (Str.ofString "assertion") tv) ∧ nc' = [(x, instObj 90 d), (d, wDict w.params xf l k (lvl) tl ind.toArray ti), (xf, instObj 90 df), (df, fDict w.params lf fw k1 k2 k3 k4 k5 t1 t2), (fw, fwObj qual cell c' dc pm ct), (c', oc), (cell, o), (lp, W.listOf ps.toArray np), (l, W.listOf sv.toArray ns)]) := by
  w_on
  k_fill
  refine PM.enter (by k_is) (by k_is) rfl rfl (by decide) rfl rfl rfl ?_ (by omega)
  intro dp un gd fr base g L h₁ s B XB TB X T D T0 F N hd hu tk htk
  (try k_fold)
  obtain ⟨l1, l2, l3, l4, l5, l6, l7, l8⟩ := hlt
  have hR : Rise [lp, cell, c', fw, df, xf, d, x, l] := rise_cons l1 (rise_cons l2 (rise_cons l3 (rise_cons l4 (rise_cons l5 (rise_cons l6 (rise_cons l7 (rise_cons l8 rise_one)))))))
  subst hw
  walk_at "go"
  rename Fr _ _ _ _ => F1
  rename News _ _ _ _ => N1
  refine go_on (PXN.call (enA08 w mean mg mb x d xf l k lvl tl ti ind sv ns e te ⟨l7, l8⟩ hl) [(xf, instObj 90 df), (df, fDict w.params lf fw k1 k2 k3 k4 k5 t1 t2), (fw, fwObj qual cell c' dc pm ct), (c', oc), (cell, o), (lp, W.listOf ps.toArray np)] B X T F1 N1 (by dsimp only [List.cons_append, List.nil_append]; walk_at "sub") (by omega) (by omega) (by walk_at "toks") ?_)
  clear F1 N1
  intro ee G h' tk' FG RS U htk'
  dsimp only [List.cons_append, List.nil_append] at RS ⊢
  walk_at "go"
  rename KtsTurn _ _ _ => T1
  rename Fr _ _ _ _ => F1
  rename News _ _ _ _ => N1
  exact PMEnd.mk [(x, instObj 90 d), (d, wDict w.params xf l k (lvl) tl ind.toArray ti), (xf, instObj 90 df), (df, fDict w.params lf fw k1 k2 k3 k4 k5 t1 t2), (fw, fwObj qual cell c' dc pm ct), (c', oc), (cell, o), (lp, W.listOf ps.toArray np), (l, W.listOf sv.toArray ns)] T1 F1 N1 (by walk_at "sub") (by walk_at "toks") ⟨⟨_, rfl⟩, rfl⟩
end
--PART S8m
section
theorem doI08 (w : World) (mean : ExcName → Option Value) (mg mb : Str → Option Value) (x d xf df fw c' cell lp l lf : Addr) (oc o : Obj) (k : Tok × Tok × Tok × Tok) (lvl : Int) (tl ti : Tok) (ind : List UInt8) (k1 k2 k3 k4 k5 t1 t2 : Tok) (qual : Str) (dc pm ct : Value) (ps : List Value) (np : Nat) (vs' : Array Value) (tq : Tok) (ns : Nat) (e : Str) (te : Tok) (what : Int) (tw : Tok)
    (hlt : @LT.lt Nat _ lp cell ∧ @LT.lt Nat _ cell c' ∧ @LT.lt Nat _ c' fw ∧ @LT.lt Nat _ fw df ∧ @LT.lt Nat _ df xf ∧ @LT.lt Nat _ xf d ∧ @LT.lt Nat _ d x ∧ @LT.lt Nat _ x l)  (hl : 0 < lvl) (hl2 : lvl ≤ 1000) (hw : what = 2) :
    PM PySem.Challenge.rw_dm0240_08.row.prog w (Mine.hd08.heap_39 w.params) topProg ((looseW Mine.hd08.view_39 [Str.ofString "_controlCharPat"]) ++ (recsOf Mine.hd08.view_39).map (·.name) ++ (litsOf Mine.hd08.view_39).map (·.1) ++ (clssOf Mine.hd08.view_39 (looseW Mine.hd08.view_39 [Str.ofString "_controlCharPat"])).map (·.name)) mean mg mb 11 50 108 [.ref x, .int what tw, .str e te]
      [(x, instObj 90 d), (d, wDict w.params xf l k (lvl) tl ind.toArray ti), (xf, instObj 90 df), (df, fDict w.params lf fw k1 k2 k3 k4 k5 t1 t2), (fw, fwObj qual cell c' dc pm ct), (c', oc), (cell, o), (lp, W.listOf ps.toArray np), (l, W.listOf #[] ns)]
      (fun v nc' => (∃ tv, v = .str (Str.ofString "index") tv) ∧ nc' = [(x, instObj 90 d), (d, wDict w.params xf l k (lvl) tl ind.toArray ti), (xf, instObj 90 df), (df, fDict w.params lf fw k1 k2 k3 k4 k5 t1 t2), (fw, fwObj qual cell c' dc pm ct), (c', oc), (cell, o), (lp, W.listOf ps.toArray np), (l, W.listOf #[] ns)]) := by
  w_on
  k_fill
  refine PM.enter (by k_is) (by k_is) rfl rfl (by decide) rfl rfl rfl ?_ (by omega)
  intro dp un gd fr base g L h₁ s B XB TB X T D T0 F N hd hu tk htk
  (try k_fold)
  obtain ⟨l1, l2, l3, l4, l5, l6, l7, l8⟩ := hlt
  have hR : Rise [lp, cell, c', fw, df, xf, d, x, l] := rise_cons l1 (rise_cons l2 (rise_cons l3 (rise_cons l4 (rise_cons l5 (rise_cons l6 (rise_cons l7 (rise_cons l8 rise_one)))))))
  subst hw
  walk_at "go"
  rename Fr _ _ _ _ => F1
  rename News _ _ _ _ => N1
  refine go_on (PXN.call (enI08 w mean mg mb x d xf l k lvl tl ti ind ns e te ⟨l7, l8⟩ hl hl2) [(xf, instObj 90 df), (df, fDict w.params lf fw k1 k2 k3 k4 k5 t1 t2), (fw, fwObj qual cell c' dc pm ct), (c', oc), (cell, o), (lp, W.listOf ps.toArray np)] B X T F1 N1 (by dsimp only [List.cons_append, List.nil_append]; walk_at "sub") (by omega) (by omega) (by walk_at "toks") ?_)
  clear F1 N1
  intro ee G h' tk' FG RS U htk'
  dsimp only [List.cons_append, List.nil_append] at RS ⊢
  walk_at "go"
  rename KtsTurn _ _ _ => T1
  rename Fr _ _ _ _ => F1
  rename News _ _ _ _ => N1
  exact PMEnd.mk [(x, instObj 90 d), (d, wDict w.params xf l k (lvl) tl ind.toArray ti), (xf, instObj 90 df), (df, fDict w.params lf fw k1 k2 k3 k4 k5 t1 t2), (fw, fwObj qual cell c' dc pm ct), (c', oc), (cell, o), (lp, W.listOf ps.toArray np), (l, W.listOf #[] ns)] T1 F1 N1 (by walk_at "sub") (by walk_at "toks") ⟨⟨_, rfl⟩, rfl⟩
end
--PART S8n
section
theorem doN08 (w : World) (mean : ExcName → Option Value) (mg mb : Str → Option Value) (x d xf df fw c' cell lp l lf : Addr) (oc o : Obj) (k : Tok × Tok × Tok × Tok) (lvl : Int) (tl ti : Tok) (ind : List UInt8) (k1 k2 k3 k4 k5 t1 t2 : Tok) (qual : Str) (dc pm ct : Value) (ps : List Value) (np : Nat) (vs' : Array Value) (tq : Tok) (sv : List Value) (ns : Nat) (e : Str) (what : Int) (tw : Tok)
    (hlt : @LT.lt Nat _ lp cell ∧ @LT.lt Nat _ cell c' ∧ @LT.lt Nat _ c' fw ∧ @LT.lt Nat _ fw df ∧ @LT.lt Nat _ df xf ∧ @LT.lt Nat _ xf d ∧ @LT.lt Nat _ d x ∧ @LT.lt Nat _ x l) (ho : o.data = .cell (some (.ref lp))) (hoc : oc.data = .fields vs') (hoq : vs'[1]? = some (.str qual tq)) (hps : ps.length ≤ 900)
    (hi0 : ind ≠ []) (hi16 : ind.length ≤ 16) (hl1 : -1000 ≤ lvl) (hl2 : lvl ≤ 1000)  (hw : what = 3) :
    PM PySem.Challenge.rw_dm0240_08.row.prog w (Mine.hd08.heap_39 w.params) topProg ((looseW Mine.hd08.view_39 [Str.ofString "_controlCharPat"]) ++ (recsOf Mine.hd08.view_39).map (·.name) ++ (litsOf Mine.hd08.view_39).map (·.1) ++ (clssOf Mine.hd08.view_39 (looseW Mine.hd08.view_39 [Str.ofString "_controlCharPat"])).map (·.name)) mean mg mb 11 50 108 [.ref x, .int what tw, .none]
      [(x, instObj 90 d), (d, wDict w.params xf l k (lvl) tl ind.toArray ti), (xf, instObj 90 df), (df, fDict w.params lf fw k1 k2 k3 k4 k5 t1 t2), (fw, fwObj qual cell c' dc pm ct), (c', oc), (cell, o), (lp, W.listOf ps.toArray np), (l, W.listOf sv.toArray ns)]
      (fun v nc' => (∃ tv, v = .str (Str.ofString "done") tv) ∧ ∃ pv np', BytsAre pv (rowOf lvl ind (utfL ([60] ++ (Str.ofString "s").cps.toList ++ [47, 62]))) ∧ nc' = [(x, instObj 90 d), (d, wDict w.params xf l k (lvl) tl ind.toArray ti), (xf, instObj 90 df), (df, fDict w.params lf fw k1 k2 k3 k4 k5 t1 t2), (fw, fwObj qual cell c' dc pm ct), (c', oc), (cell, o), (lp, W.listOf (ps ++ pv).toArray np'), (l, W.listOf sv.toArray ns)]) := by
  w_on
  k_fill
  refine PM.enter (by k_is) (by k_is) rfl rfl (by decide) rfl rfl rfl ?_ (by omega)
  intro dp un gd fr base g L h₁ s B XB TB X T D T0 F N hd hu tk htk
  (try k_fold)
  obtain ⟨l1, l2, l3, l4, l5, l6, l7, l8⟩ := hlt
  have hR : Rise [lp, cell, c', fw, df, xf, d, x, l] := rise_cons l1 (rise_cons l2 (rise_cons l3 (rise_cons l4 (rise_cons l5 (rise_cons l6 (rise_cons l7 (rise_cons l8 rise_one)))))))
  subst hw
  walk_at "go"
  rename Fr _ _ _ _ => F1
  rename News _ _ _ _ => N1
  refine go_on (PM.call (seN08 w mean mg mb x d xf df fw c' cell lp l lf oc o k lvl tl ti ind k1 k2 k3 k4 k5 t1 t2 qual dc pm ct ps np vs' tq (Str.ofString "s") _ ⟨l1, l2, l3, l4, l5, l6, l7⟩ ho hoc hoq hps hi0 hi16 hl1 hl2 (by decide) (by decide)) [(l, W.listOf sv.toArray ns)] B XB TB D T0 F1 N1 (by walk_at "sub") (by walk_at "rest") (by omega) (by omega) (by walk_at "toks") ?_)
  clear B X T D T0 F1 N1
  rintro v nc' g h' tk' ⟨rfl, pv, np', hpv, rfl⟩ B X T D T0 F N htk'
  dsimp only [List.cons_append, List.nil_append] at N ⊢
  walk_at "go"
  rename Fr _ _ _ _ => F1
  rename News _ _ _ _ => N1
  exact PMEnd.mk [(x, instObj 90 d), (d, wDict w.params xf l k (lvl) tl ind.toArray ti), (xf, instObj 90 df), (df, fDict w.params lf fw k1 k2 k3 k4 k5 t1 t2), (fw, fwObj qual cell c' dc pm ct), (c', oc), (cell, o), (lp, W.listOf (ps ++ pv).toArray np'), (l, W.listOf sv.toArray ns)] T0 F1 N1 (by walk_at "sub") (by walk_at "toks") ⟨⟨_, rfl⟩, pv, np', hpv, rfl⟩
end
--PART S8q
section
theorem doS08 (w : World) (mean : ExcName → Option Value) (mg mb : Str → Option Value) (x d xf df fw c' cell lp l lf : Addr) (oc o : Obj) (k : Tok × Tok × Tok × Tok) (lvl : Int) (tl ti : Tok) (ind : List UInt8) (k1 k2 k3 k4 k5 t1 t2 : Tok) (qual : Str) (dc pm ct : Value) (ps : List Value) (np : Nat) (vs' : Array Value) (tq : Tok) (sv : List Value) (ns : Nat) (y : Str) (ty : Tok) (what : Int) (tw : Tok)
    (hlt : @LT.lt Nat _ lp cell ∧ @LT.lt Nat _ cell c' ∧ @LT.lt Nat _ c' fw ∧ @LT.lt Nat _ fw df ∧ @LT.lt Nat _ df xf ∧ @LT.lt Nat _ xf d ∧ @LT.lt Nat _ d x ∧ @LT.lt Nat _ x l) (ho : o.data = .cell (some (.ref lp))) (hoc : oc.data = .fields vs') (hoq : vs'[1]? = some (.str qual tq)) (hps : ps.length ≤ 900)
    (hi0 : ind ≠ []) (hi16 : ind.length ≤ 16) (hl1 : -1000 ≤ lvl) (hl2 : lvl ≤ 1000)  (hy1 : y.length ≤ 1000) (hy2 : (escS y).length ≤ 5000) (hys : ∀ z ∈ (escS y).cps.toList, Str.isSurrogate z = false) (hyc : hasCtl y = false) (hw : what = 3) :
    PM PySem.Challenge.rw_dm0240_08.row.prog w (Mine.hd08.heap_39 w.params) topProg ((looseW Mine.hd08.view_39 [Str.ofString "_controlCharPat"]) ++ (recsOf Mine.hd08.view_39).map (·.name) ++ (litsOf Mine.hd08.view_39).map (·.1) ++ (clssOf Mine.hd08.view_39 (looseW Mine.hd08.view_39 [Str.ofString "_controlCharPat"])).map (·.name)) mean mg mb 11 50 108 [.ref x, .int what tw, .str y ty]
      [(x, instObj 90 d), (d, wDict w.params xf l k (lvl) tl ind.toArray ti), (xf, instObj 90 df), (df, fDict w.params lf fw k1 k2 k3 k4 k5 t1 t2), (fw, fwObj qual cell c' dc pm ct), (c', oc), (cell, o), (lp, W.listOf ps.toArray np), (l, W.listOf sv.toArray ns)]
      (fun v nc' => (∃ tv, v = .str (Str.ofString "done") tv) ∧ ∃ pv np', BytsAre pv (rowOf lvl ind (utfL ([60] ++ (Str.ofString "s").cps.toList ++ [62] ++ (escS y).cps.toList ++ [60, 47] ++ (Str.ofString "s").cps.toList ++ [62]))) ∧ nc' = [(x, instObj 90 d), (d, wDict w.params xf l k (lvl) tl ind.toArray ti), (xf, instObj 90 df), (df, fDict w.params lf fw k1 k2 k3 k4 k5 t1 t2), (fw, fwObj qual cell c' dc pm ct), (c', oc), (cell, o), (lp, W.listOf (ps ++ pv).toArray np'), (l, W.listOf sv.toArray ns)]) := by
  w_on
  k_fill
  refine PM.enter (by k_is) (by k_is) rfl rfl (by decide) rfl rfl rfl ?_ (by omega)
  intro dp un gd fr base g L h₁ s B XB TB X T D T0 F N hd hu tk htk
  (try k_fold)
  obtain ⟨l1, l2, l3, l4, l5, l6, l7, l8⟩ := hlt
  have hR : Rise [lp, cell, c', fw, df, xf, d, x, l] := rise_cons l1 (rise_cons l2 (rise_cons l3 (rise_cons l4 (rise_cons l5 (rise_cons l6 (rise_cons l7 (rise_cons l8 rise_one)))))))
  subst hw
  walk_at "go"
  rename Fr _ _ _ _ => F1
  rename News _ _ _ _ => N1
  refine go_on (PM.call (seS08 w mean mg mb x d xf df fw c' cell lp l lf oc o k lvl tl ti ind k1 k2 k3 k4 k5 t1 t2 qual dc pm ct ps np vs' tq (Str.ofString "s") y _ ty ⟨l1, l2, l3, l4, l5, l6, l7⟩ ho hoc hoq hps hi0 hi16 hl1 hl2 (by decide) (by decide) hy1 hy2 hys hyc) [(l, W.listOf sv.toArray ns)] B XB TB D T0 F1 N1 (by walk_at "sub") (by walk_at "rest") (by omega) (by omega) (by walk_at "toks") ?_)
  clear B X T D T0 F1 N1
  rintro v nc' g h' tk' ⟨rfl, pv, np', hpv, rfl⟩ B X T D T0 F N htk'
  dsimp only [List.cons_append, List.nil_append] at N ⊢
  walk_at "go"
  rename Fr _ _ _ _ => F1
  rename News _ _ _ _ => N1
  exact PMEnd.mk [(x, instObj 90 d), (d, wDict w.params xf l k (lvl) tl ind.toArray ti), (xf, instObj 90 df), (df, fDict w.params lf fw k1 k2 k3 k4 k5 t1 t2), (fw, fwObj qual cell c' dc pm ct), (c', oc), (cell, o), (lp, W.listOf (ps ++ pv).toArray np'), (l, W.listOf sv.toArray ns)] T0 F1 N1 (by walk_at "sub") (by walk_at "toks") ⟨⟨_, rfl⟩, pv, np', hpv, rfl⟩
end
--PART S8r
section
theorem doW08 (w : World) (mean : ExcName → Option Value) (mg mb : Str → Option Value) (x d xf df fw c' cell lp l lf : Addr) (oc o : Obj) (k : Tok × Tok × Tok × Tok) (lvl : Int) (tl ti : Tok) (ind : List UInt8) (k1 k2 k3 k4 k5 t1 t2 : Tok) (qual : Str) (dc pm ct : Value) (ps : List Value) (np : Nat) (vs' : Array Value) (tq : Tok) (sv : List Value) (ns : Nat) (th : Value) (cc : List UInt8) (what : Int) (tw : Tok)
    (hlt : @LT.lt Nat _ lp cell ∧ @LT.lt Nat _ cell c' ∧ @LT.lt Nat _ c' fw ∧ @LT.lt Nat _ fw df ∧ @LT.lt Nat _ df xf ∧ @LT.lt Nat _ xf d ∧ @LT.lt Nat _ d x ∧ @LT.lt Nat _ x l) (ho : o.data = .cell (some (.ref lp))) (hoc : oc.data = .fields vs') (hoq : vs'[1]? = some (.str qual tq)) (hps : ps.length ≤ 900)
    (hi0 : ind ≠ []) (hi16 : ind.length ≤ 16) (hl1 : -1000 ≤ lvl) (hl2 : lvl ≤ 1000)  (hth : LineIs th cc) (hw : what = 4) :
    PM PySem.Challenge.rw_dm0240_08.row.prog w (Mine.hd08.heap_39 w.params) topProg ((looseW Mine.hd08.view_39 [Str.ofString "_controlCharPat"]) ++ (recsOf Mine.hd08.view_39).map (·.name) ++ (litsOf Mine.hd08.view_39).map (·.1) ++ (clssOf Mine.hd08.view_39 (looseW Mine.hd08.view_39 [Str.ofString "_controlCharPat"])).map (·.name)) mean mg mb 11 50 108 [.ref x, .int what tw, th]
      [(x, instObj 90 d), (d, wDict w.params xf l k (lvl) tl ind.toArray ti), (xf, instObj 90 df), (df, fDict w.params lf fw k1 k2 k3 k4 k5 t1 t2), (fw, fwObj qual cell c' dc pm ct), (c', oc), (cell, o), (lp, W.listOf ps.toArray np), (l, W.listOf sv.toArray ns)]
      (fun v nc' => (∃ tv, v = .str (Str.ofString "done") tv) ∧ ∃ pv np', BytsAre pv (rowOf lvl ind cc) ∧ nc' = [(x, instObj 90 d), (d, wDict w.params xf l k (lvl) tl ind.toArray ti), (xf, instObj 90 df), (df, fDict w.params lf fw k1 k2 k3 k4 k5 t1 t2), (fw, fwObj qual cell c' dc pm ct), (c', oc), (cell, o), (lp, W.listOf (ps ++ pv).toArray np'), (l, W.listOf sv.toArray ns)]) := by
  w_on
  k_fill
  refine PM.enter (by k_is) (by k_is) rfl rfl (by decide) rfl rfl rfl ?_ (by omega)
  intro dp un gd fr base g L h₁ s B XB TB X T D T0 F N hd hu tk htk
  (try k_fold)
  obtain ⟨l1, l2, l3, l4, l5, l6, l7, l8⟩ := hlt
  have hR : Rise [lp, cell, c', fw, df, xf, d, x, l] := rise_cons l1 (rise_cons l2 (rise_cons l3 (rise_cons l4 (rise_cons l5 (rise_cons l6 (rise_cons l7 (rise_cons l8 rise_one)))))))
  subst hw
  walk_at "go"
  rename Fr _ _ _ _ => F1
  rename News _ _ _ _ => N1
  refine go_on (PM.call (wl08 w mean mg mb x d xf df fw c' cell lp l lf oc o k lvl tl ti ind k1 k2 k3 k4 k5 t1 t2 qual dc pm ct ps np vs' tq th cc ⟨l1, l2, l3, l4, l5, l6, l7⟩ ho hoc hoq hps hi0 hi16 hl1 hl2 hth) [(l, W.listOf sv.toArray ns)] B XB TB D T0 F1 N1 (by walk_at "sub") (by walk_at "rest") (by omega) (by omega) (by walk_at "toks") ?_)
  clear B X T D T0 F1 N1
  rintro v nc' g h' tk' ⟨rfl, pv, np', hpv, rfl⟩ B X T D T0 F N htk'
  dsimp only [List.cons_append, List.nil_append] at N ⊢
  walk_at "go"
  rename Fr _ _ _ _ => F1
  rename News _ _ _ _ => N1
  exact PMEnd.mk [(x, instObj 90 d), (d, wDict w.params xf l k (lvl) tl ind.toArray ti), (xf, instObj 90 df), (df, fDict w.params lf fw k1 k2 k3 k4 k5 t1 t2), (fw, fwObj qual cell c' dc pm ct), (c', oc), (cell, o), (lp, W.listOf (ps ++ pv).toArray np'), (l, W.listOf sv.toArray ns)] T0 F1 N1 (by walk_at "sub") (by walk_at "toks") ⟨⟨_, rfl⟩, pv, np', hpv, rfl⟩
end
--PART S8t
section
structure Small (e : Str) : Prop where
  len : e.length ≤ 1000
  surr : ∀ z ∈ e.cps.toList, Str.isSurrogate z = false
structure Body (y : Str) : Prop where
  len : y.length ≤ 1000
  elen : (escS y).length ≤ 5000
  surr : ∀ z ∈ (escS y).cps.toList, Str.isSurrogate z = false
  ctl : hasCtl y = false
/-- what a step by one writer does -/
inductive Op (ind : List UInt8) : Int → List Str → Int → Value → Str → List UInt8 → List Str → Int → Prop
  | beg {lvl : Int} {sn : List Str} {wh : Int} {e : Str} {te : Tok} : wh < 2 → Small e → Op ind lvl sn wh (.str e te) (Str.ofString "done") (rowOf lvl ind (utfL ([60] ++ e.cps.toList ++ [62]))).flatten (sn ++ [e]) (lvl + 1)
  | endA {lvl : Int} {sn : List Str} {e : Str} {te : Tok} : lvl ≤ 0 → Op ind lvl sn 2 (.str e te) (Str.ofString "assertion") [] sn lvl
  | endI {lvl : Int} {e : Str} {te : Tok} : 0 < lvl → Op ind lvl [] 2 (.str e te) (Str.ofString "index") [] [] lvl
  | endD {lvl : Int} {sp : List Str} {e : Str} {te : Tok} : 0 < lvl → Small e → Op ind lvl (sp ++ [e]) 2 (.str e te) (Str.ofString "done") (rowOf (lvl - 1) ind (utfL ([60, 47] ++ e.cps.toList ++ [62]))).flatten sp (lvl - 1)
  | simN {lvl : Int} {sn : List Str} : Op ind lvl sn 3 .none (Str.ofString "done") (rowOf lvl ind (utfL ([60] ++ (Str.ofString "s").cps.toList ++ [47, 62]))).flatten sn lvl
  | simS {lvl : Int} {sn : List Str} {y : Str} {ty : Tok} : Body y → Op ind lvl sn 3 (.str y ty) (Str.ofString "done") (rowOf lvl ind (utfL ([60] ++ (Str.ofString "s").cps.toList ++ [62] ++ (escS y).cps.toList ++ [60, 47] ++ (Str.ofString "s").cps.toList ++ [62]))).flatten sn lvl
  | row {lvl : Int} {sn : List Str} {th : Value} {cc : List UInt8} : LineIs th cc → Op ind lvl sn 4 th (Str.ofString "done") (rowOf lvl ind cc).flatten sn lvl
theorem rep_len {n : Int} {ind : List UInt8} (hn : n ≤ 1000) (hi : ind.length ≤ 16) : (List.replicate n.toNat ind).flatten.length ≤ 16000 := by
  have h0 : ∀ k : Nat, (List.replicate k ind).flatten.length = k * ind.length := by
    intro k
    induction k with
    | zero => simp
    | succ k ih => rw [List.replicate_succ, List.flatten_cons, List.length_append, ih, Nat.succ_mul]; omega
  rw [h0]
  have h1 : n.toNat ≤ 1000 := by omega
  have h2 : n.toNat * ind.length ≤ 1000 * 16 := Nat.mul_le_mul h1 hi
  omega
theorem rowOf_len {lvl : Int} {ind c : List UInt8} {n : Nat} (hl : lvl ≤ 1000) (hi : ind.length ≤ 16) (hc : c.length ≤ n) : (rowOf lvl ind c).flatten.length ≤ 16001 + n := by
  unfold rowOf
  split
  · simp; omega
  · have := rep_len hl hi
    rw [List.flatten_cons, List.flatten_cons, List.flatten_cons, List.flatten_nil, List.length_append, List.length_append]
    rw [List.append_nil, List.length_singleton]
    omega
theorem rowOf_count {lvl : Int} {ind c : List UInt8} : (rowOf lvl ind c).length ≤ 3 := by unfold rowOf; split <;> simp
theorem utfL_le {l : List Nat} {n : Nat} (h : l.length ≤ n) : (utfL l).length ≤ 4 * n := by have := utfL_len l; omega
theorem LineIs.len {v : Value} {c : List UInt8} (h : LineIs v c) : c.length ≤ 4000000 := by
  rcases h with ⟨y, t, _, h1, _, rfl⟩ | ⟨_, _, h⟩
  · have := utfL_len y.cps.toList
    have e : y.cps.toList.length = y.length := rfl
    omega
  · exact h
theorem Op.len {ind : List UInt8} {lvl lvl' wh : Int} {sn sn' : List Str} {th : Value} {due : Str} {r : List UInt8} (h : Op ind lvl sn wh th due r sn' lvl') (hl : lvl ≤ 900) (hi : ind.length ≤ 16) : r.length ≤ 16777216 := by
  cases h with
  | beg _ he =>
    have h1 : List.length (Array.toList (Str.cps _)) ≤ 1000 := he.len
    exact Nat.le_trans (rowOf_len (n := 4 * 2000) (by omega) hi (utfL_le (by simp only [List.length_append, List.length_cons, List.length_nil]; omega))) (by omega)
  | endA => simp
  | endI => simp
  | endD _ he =>
    have h1 : List.length (Array.toList (Str.cps _)) ≤ 1000 := he.len
    exact Nat.le_trans (rowOf_len (n := 4 * 2000) (by omega) hi (utfL_le (by simp only [List.length_append, List.length_cons, List.length_nil]; omega))) (by omega)
  | simN => exact Nat.le_trans (rowOf_len (n := 4 * 2000) (by omega) hi (utfL_le (by decide))) (by omega)
  | simS hy =>
    rename_i y ty
    have h1 : (escS y).cps.toList.length ≤ 5000 := hy.elen
    have h2 : (Str.ofString "s").cps.toList.length = 1 := by decide
    exact Nat.le_trans (rowOf_len (n := 4 * 6000) (by omega) hi (utfL_le (by simp only [List.length_append, List.length_cons, List.length_nil]; omega))) (by omega)
  | row hv => exact Nat.le_trans (rowOf_len (n := 4000000) (by omega) hi hv.len) (by omega)
theorem doO08 (w : World) (mean : ExcName → Option Value) (mg mb : Str → Option Value) (x d xf df fw c' cell lp l lf : Addr) (oc o : Obj) (k : Tok × Tok × Tok × Tok) (lvl : Int) (tl ti : Tok) (ind : List UInt8) (k1 k2 k3 k4 k5 t1 t2 : Tok) (qual : Str) (dc pm ct : Value) (ps : List Value) (np : Nat) (vs' : Array Value) (tq : Tok) (sv : List Value) (ns : Nat) (sn sn' : List Str) (th : Value) (wh lvl' : Int) (tw : Tok) (due : Str) (row : List UInt8)
    (hlt : @LT.lt Nat _ lp cell ∧ @LT.lt Nat _ cell c' ∧ @LT.lt Nat _ c' fw ∧ @LT.lt Nat _ fw df ∧ @LT.lt Nat _ df xf ∧ @LT.lt Nat _ xf d ∧ @LT.lt Nat _ d x ∧ @LT.lt Nat _ x l) (ho : o.data = .cell (some (.ref lp))) (hoc : oc.data = .fields vs') (hoq : vs'[1]? = some (.str qual tq)) (hps : ps.length ≤ 900) (hsv : sv.length ≤ 1000)
    (hi0 : ind ≠ []) (hi16 : ind.length ≤ 16) (hl1 : -1000 ≤ lvl) (hl2 : lvl ≤ 900)  (hss : StrsAre sv sn) (hop : Op ind lvl sn wh th due row sn' lvl') :
    PM PySem.Challenge.rw_dm0240_08.row.prog w (Mine.hd08.heap_39 w.params) topProg ((looseW Mine.hd08.view_39 [Str.ofString "_controlCharPat"]) ++ (recsOf Mine.hd08.view_39).map (·.name) ++ (litsOf Mine.hd08.view_39).map (·.1) ++ (clssOf Mine.hd08.view_39 (looseW Mine.hd08.view_39 [Str.ofString "_controlCharPat"])).map (·.name)) mean mg mb 11 50 108 [.ref x, .int wh tw, th]
      [(x, instObj 90 d), (d, wDict w.params xf l k (lvl) tl ind.toArray ti), (xf, instObj 90 df), (df, fDict w.params lf fw k1 k2 k3 k4 k5 t1 t2), (fw, fwObj qual cell c' dc pm ct), (c', oc), (cell, o), (lp, W.listOf ps.toArray np), (l, W.listOf sv.toArray ns)]
      (fun v nc' => (∃ tv, v = .str due tv) ∧ ∃ pv np' tl' sv' ns' bs, BytsAre pv bs ∧ bs.flatten = row ∧ bs.length ≤ 3 ∧ StrsAre sv' sn' ∧ nc' = [(x, instObj 90 d), (d, wDict w.params xf l k (lvl') tl' ind.toArray ti), (xf, instObj 90 df), (df, fDict w.params lf fw k1 k2 k3 k4 k5 t1 t2), (fw, fwObj qual cell c' dc pm ct), (c', oc), (cell, o), (lp, W.listOf (ps ++ pv).toArray np'), (l, W.listOf sv'.toArray ns')]) := by
  cases hop with
  | beg hw he =>
    rename_i e te
    refine (doB08 w mean mg mb x d xf df fw c' cell lp l lf oc o k lvl tl ti ind k1 k2 k3 k4 k5 t1 t2 qual dc pm ct ps np vs' tq sv ns e te wh tw hlt ho hoc hoq hps hsv hi0 hi16 hl1 hl2 he.len he.surr hw).mono (fun v nc' hR => ?_) (Nat.le_refl _) (Nat.le_refl _)
    obtain ⟨hv, pv, np', tl', hpv, rfl⟩ := hR
    exact ⟨hv, pv, np', tl', _, _, _, hpv, rfl, rowOf_count, hss.append' (.cons _ _ .nil), rfl⟩
  | endA hl =>
    rename_i e te
    refine (doA08 w mean mg mb x d xf df fw c' cell lp l lf oc o k lvl tl ti ind k1 k2 k3 k4 k5 t1 t2 qual dc pm ct ps np vs' tq sv ns e te 2 tw hlt hl rfl).mono (fun v nc' hR => ?_) (Nat.le_refl _) (Nat.le_refl _)
    obtain ⟨hv, rfl⟩ := hR
    exact ⟨hv, [], np, tl, sv, ns, [], .nil, rfl, by simp, hss, by rw [List.append_nil]⟩
  | endI hl =>
    rename_i e te
    cases hss
    refine (doI08 w mean mg mb x d xf df fw c' cell lp l lf oc o k lvl tl ti ind k1 k2 k3 k4 k5 t1 t2 qual dc pm ct ps np vs' tq ns e te 2 tw hlt hl (by omega) rfl).mono (fun v nc' hR => ?_) (Nat.le_refl _) (Nat.le_refl _)
    obtain ⟨hv, rfl⟩ := hR
    exact ⟨hv, [], np, tl, [], ns, [], .nil, rfl, by simp, .nil, by rw [List.append_nil]⟩
  | endD hl he =>
    rename_i e te
    obtain ⟨p, t', rfl, hp⟩ := strs_snoc hss
    refine (doE08 w mean mg mb x d xf df fw c' cell lp l lf oc o k lvl tl ti ind k1 k2 k3 k4 k5 t1 t2 qual dc pm ct ps np vs' tq p ns e te t' 2 tw hlt ho hoc hoq hps (by rw [List.length_append] at hsv; omega) hi0 hi16 hl hl2 he.len he.surr rfl).mono (fun v nc' hR => ?_) (Nat.le_refl _) (Nat.le_refl _)
    obtain ⟨hv, pv, np', tl', hpv, rfl⟩ := hR
    exact ⟨hv, pv, np', tl', _, _, _, hpv, rfl, rowOf_count, hp, rfl⟩
  | simN =>
    refine (doN08 w mean mg mb x d xf df fw c' cell lp l lf oc o k lvl tl ti ind k1 k2 k3 k4 k5 t1 t2 qual dc pm ct ps np vs' tq sv ns (Str.ofString "s") 3 tw hlt ho hoc hoq hps hi0 hi16 hl1 (by omega) rfl).mono (fun v nc' hR => ?_) (Nat.le_refl _) (Nat.le_refl _)
    obtain ⟨hv, pv, np', hpv, rfl⟩ := hR
    exact ⟨hv, pv, np', tl, sv, ns, _, hpv, rfl, rowOf_count, hss, rfl⟩
  | simS hy =>
    rename_i y ty
    refine (doS08 w mean mg mb x d xf df fw c' cell lp l lf oc o k lvl tl ti ind k1 k2 k3 k4 k5 t1 t2 qual dc pm ct ps np vs' tq sv ns y ty 3 tw hlt ho hoc hoq hps hi0 hi16 hl1 (by omega) hy.len hy.elen hy.surr hy.ctl rfl).mono (fun v nc' hR => ?_) (Nat.le_refl _) (Nat.le_refl _)
    obtain ⟨hv, pv, np', hpv, rfl⟩ := hR
    exact ⟨hv, pv, np', tl, sv, ns, _, hpv, rfl, rowOf_count, hss, rfl⟩
  | row hv0 =>
    rename_i cc
    refine (doW08 w mean mg mb x d xf df fw c' cell lp l lf oc o k lvl tl ti ind k1 k2 k3 k4 k5 t1 t2 qual dc pm ct ps np vs' tq sv ns th cc 4 tw hlt ho hoc hoq hps hi0 hi16 hl1 (by omega) hv0 rfl).mono (fun v nc' hR => ?_) (Nat.le_refl _) (Nat.le_refl _)
    obtain ⟨hv, pv, np', hpv, rfl⟩ := hR
    exact ⟨hv, pv, np', tl, sv, ns, _, hpv, rfl, rowOf_count, hss, rfl⟩
end
end
--PART S8u
section
local macro_rules | `(tactic| walk_at "pyIter ref") => `(tactic| (refine halt ?_))
local macro_rules | `(tactic| walk_at "exec For Name BinOp cons nil") => `(tactic| (refine halt ?_))
local macro_rules | `(tactic| walk_at "execs cons If cons") => `(tactic| (refine halt ?_))
local macro_rules | `(tactic| walk_at "call ref") => `(tactic| ((with_reducible show wpAny _ _ (call (Value.ref 108) _) _ _ _); refine halt ?_))
local macro_rules | `(tactic| walk_at "binaryOp Mod int int") => `(tactic| (refine mod_known (by with_reducible assumption) (by decide) (by walk_at "toks") ?_; intro t' k' hk'; (try dsimp only)))
local macro_rules | `(tactic| walk_at "binaryOp Add bytes bytes") => `(tactic| (refine addBy (by (try simp only [List.length_cons, List.length_nil, List.length_append]); omega) (by walk_at "toks") ?_; intro t' k' hk'; (try dsimp only)))
local macro_rules | `(tactic| walk_at "call builtin:len") => `(tactic| (k_here; k_dflt (refine' lenL ?k1 ?k2 ?z (by walk_at "toks") ?_; (case k1 => k_asm); (case k2 => k_mem); (case z => omega)); intro t' k' hk'; (try dsimp only)))
local macro_rules | `(tactic| walk_at "subscriptTail") => `(tactic| (k_here; (with_reducible show wpAny _ _ (subscriptTail (Expr.Name _ _) _ (Value.ref _) (Value.int 2 _)) _ _ _); k_dflt (first | (refine' item32 ?k1 ?k2 ?_ ?k6; (case k1 => k_asm); (case k2 => k_mem); (case k6 => with_unfolding_all rfl)))))
local macro_rules | `(tactic| walk_at "subscriptTail") => `(tactic| (k_here; (with_reducible show wpAny _ _ (subscriptTail (Expr.Name _ _) _ (Value.ref _) (Value.int 1 _)) _ _ _); k_dflt (first | (refine' item21 ?k1 ?k2 ?_ ?k6; (case k1 => k_asm); (case k2 => k_mem); (case k6 => with_unfolding_all rfl)) | (refine' item31 ?k1 ?k2 ?_ ?k6; (case k1 => k_asm); (case k2 => k_mem); (case k6 => with_unfolding_all rfl)))))
local macro_rules | `(tactic| walk_at "subscriptTail") => `(tactic| (k_here; (with_reducible show wpAny _ _ (subscriptTail (Expr.Name _ _) _ (Value.ref _) (Value.int 0 _)) _ _ _); k_dflt (first | (refine' item20 ?k1 ?k2 ?_ ?k6; (case k1 => k_asm); (case k2 => k_mem); (case k6 => with_unfolding_all rfl)) | (refine' item30 ?k1 ?k2 ?_ ?k6; (case k1 => k_asm); (case k2 => k_mem); (case k6 => with_unfolding_all rfl)))))
local macro_rules | `(tactic| walk_at "subscriptTail Name Name ref int") => `(tactic| (k_here; (with_reducible show wpAny _ _ (subscriptTail (Expr.Name _ _) _ (Value.ref _) (Value.int 2 _)) _ _ _); k_dflt (first | (refine' item32 ?k1 ?k2 ?_ ?k6; (case k1 => k_asm); (case k2 => k_mem); (case k6 => with_unfolding_all rfl)))))
local macro_rules | `(tactic| walk_at "subscriptTail Name Name ref int") => `(tactic| (k_here; (with_reducible show wpAny _ _ (subscriptTail (Expr.Name _ _) _ (Value.ref _) (Value.int 1 _)) _ _ _); k_dflt (first | (refine' item21 ?k1 ?k2 ?_ ?k6; (case k1 => k_asm); (case k2 => k_mem); (case k6 => with_unfolding_all rfl)) | (refine' item31 ?k1 ?k2 ?_ ?k6; (case k1 => k_asm); (case k2 => k_mem); (case k6 => with_unfolding_all rfl)))))
local macro_rules | `(tactic| walk_at "subscriptTail Name Name ref int") => `(tactic| (k_here; (with_reducible show wpAny _ _ (subscriptTail (Expr.Name _ _) _ (Value.ref _) (Value.int 0 _)) _ _ _); k_dflt (first | (refine' item20 ?k1 ?k2 ?_ ?k6; (case k1 => k_asm); (case k2 => k_mem); (case k6 => with_unfolding_all rfl)) | (refine' item30 ?k1 ?k2 ?_ ?k6; (case k1 => k_asm); (case k2 => k_mem); (case k6 => with_unfolding_all rfl)))))
local macro_rules | `(tactic| walk_at "subscriptTail") => `(tactic| (k_here; (with_reducible show wpAny _ _ (subscriptTail (Expr.List _ _) (Expr.Name _ _) (Value.ref _) (Value.int _ _)) _ _ _); k_dflt (first
  | (refine' menuB ?k1 ?k2 ?k3 ?k4 ?k5 ?_ ?k6; (case k1 => k_asm); (case k2 => walk_at "mem"); (case k3 => assumption); (case k4 => assumption); (case k5 => (refine ⟨?_, ?_, ?_⟩ <;> ((try simp only [List.length_cons, List.length_nil, List.length_append]); omega))); (case k6 => with_unfolding_all rfl); intro mb mt mbl hmb; (try dsimp only))
  | (refine' menuV ?k1 ?k2 ?k3 ?k4 ?_ ?k6; (case k1 => k_asm); (case k2 => walk_at "mem"); (case k3 => assumption); (case k4 => assumption); (case k6 => with_unfolding_all rfl); intro mv hmv; (try dsimp only)))))
local macro_rules | `(tactic| walk_at "subscriptTail Name BinOp ref int") => `(tactic| (k_here; (with_reducible show wpAny _ _ (subscriptTail _ _ (Value.ref _) (Value.int (1 - 1) _)) _ _ _); k_dflt (refine' item2m1 ?k1 ?k2 ?_ ?k6; (case k1 => k_asm); (case k2 => k_mem); (case k6 => with_unfolding_all rfl))))
local macro_rules | `(tactic| walk_at "subscriptTail Name BinOp ref int") => `(tactic| (k_here; (with_reducible show wpAny _ _ (subscriptTail _ _ (Value.ref _) (Value.int (1 - 0) _)) _ _ _); k_dflt (refine' item2m0 ?k1 ?k2 ?_ ?k6; (case k1 => k_asm); (case k2 => k_mem); (case k6 => with_unfolding_all rfl))))
local macro_rules | `(tactic| walk_at "subscriptTail") => `(tactic| (k_here; (with_reducible show wpAny _ _ (subscriptTail _ _ (Value.ref _) (Value.int (-1) _)) _ _ _); k_dflt (refine' lastSub ?k1 ?k2 ?_ ?k3; (case k1 => k_asm); (case k2 => k_mem); (case k3 => with_unfolding_all rfl))))
local macro_rules | `(tactic| walk_at "call builtin:list.pop") => `(tactic| (k_here; k_dflt (refine' lastPop ?k1 ?k2 ?k3 ?z ?_; (case k1 => k_asm); (case k2 => k_asm); (case k3 => k_upd); (case z => omega)); intro h' F' N'; (try dsimp only [List.nil_append, List.cons_append] at N')))
local macro_rules | `(tactic| walk_at "call builtin:str.encode") => `(tactic| (refine encodeA_wp (by with_reducible assumption) (by with_reducible assumption) (by walk_at "toks") ?_; intro t' k' hk'; (try dsimp only)))
local macro_rules | `(tactic| walk_at "truthy ref") => `(tactic| (k_here; k_dflt (first | (refine' truSnoc ?k1 ?k2 ?z (by walk_at "toks") ?_; (case k1 => k_asm); (case k2 => walk_at "mem"); (case z => omega)) | (refine' truNil ?k1 ?k2 (by walk_at "toks") ?_; (case k1 => k_asm); (case k2 => walk_at "mem"))); intro k' hk'; (try dsimp only); (try simp only [if_true, if_false, Bool.false_eq_true])))
local macro_rules | `(tactic| walk_at "compareOp NotEq ref ref") => `(tactic| (k_here; k_dflt (refine' ne_strsN ?k1 ?k2 ?k3 ?k4 ?k5 ?k6 ?k7 ?_; (case k1 => k_asm); (case k2 => walk_at "mem"); (case k3 => walk_at "mem"); (case k4 => with_reducible assumption); (case k5 => with_reducible assumption); (case k6 => with_reducible assumption); (case k7 => exact Nat.le_of_ble_eq_true rfl))))
local macro_rules | `(tactic| walk_at "getMethod bytes") => `(tactic| (with_reducible refine getMethod_joinB ?_))
local macro_rules | `(tactic| walk_at "call builtin:bytes.join") => `(tactic| (refine joinB (by with_reducible assumption) (by with_reducible assumption) (by with_reducible assumption) (by walk_at "toks") ?_; intro t' k' hk'; (try dsimp only)))
local macro_rules | `(tactic| walk_at "subscriptTail Name Slice ref ref") => `(tactic| ((with_reducible rename Fr _ _ _ _ => F'); (with_reducible rename News _ _ _ _ => N'); refine tailFrom (s := ⟨_, _, _, _, _⟩) F' N' (by walk_at "mem") rfl (by rw [List.length_append]; omega) ?_ (by with_unfolding_all rfl) (by intro _; with_unfolding_all rfl); clear F' N'; intro h' D' F' N' hD'; (try dsimp only)))
local macro_rules | `(tactic| walk_at "call type:range") => `(tactic| (refine halt ?_))
local macro_rules | `(tactic| walk_at "exec For Name Call cons nil") => `(tactic| (refine halt ?_))
def fnBody : Option Stmt → List Stmt
  | some (.FunctionDef _ _ b _ _ _ _ _ _ _) => b
  | _ => []
def fnScope : Option Stmt → Scope
  | some (.FunctionDef _ _ _ _ _ _ sc _ _ _) => sc
  | _ => default
def forBody : List Stmt → List Stmt
  | .For _ _ b _ _ :: _ => b
  | _ :: r => forBody r
  | [] => []
def lawB08 : List Stmt := fnBody PySem.Challenge.pw_dm0240_08.main.body.getLast?
def lawS08 : Scope := fnScope PySem.Challenge.pw_dm0240_08.main.body.getLast?
def forB08 : List Stmt := forBody lawB08
structure St8 where
  n0 : List Value
  n1 : List Value
  s0 : List Value
  s1 : List Value
  a0 : List Str
  a1 : List Str
  c0 : Nat
  c1 : Nat
  e0 : Nat
  e1 : Nat
  t0 : Tok
  t1 : Tok
  v0 : Int
  v1 : Int
  ps : List Value
  np : Nat
structure Tag (e : Str) : Prop where
  len : e.length ≤ 4
  low : ∀ z ∈ e.cps.toList, z < 128
structure Inv8 (f0 f1 : Int) (i : Nat) (c : St8) : Prop where
  hn0 : StrsAre c.n0 c.a0
  hn1 : StrsAre c.n1 c.a1
  hs0 : StrsAre c.s0 c.a0
  hs1 : StrsAre c.s1 c.a1
  hv0 : c.v0 = f0 + (c.a0.length : Int)
  hv1 : c.v1 = f1 + (c.a1.length : Int)
  hl0 : c.a0.length ≤ i
  hl1 : c.a1.length ≤ i
  hg0 : ∀ e ∈ c.a0, Tag e
  hg1 : ∀ e ∈ c.a1, Tag e
  hps : c.ps.length ≤ 3 * i
theorem tags_ok {l : List Str} (h : ∀ e ∈ l, Tag e) : ∀ x ∈ l, PyData.strOk x = true := fun x hx => by
  have h1 := (h x hx).low
  unfold PyData.strOk
  rw [Array.all_eq_true]
  intro j hj
  have := h1 x.cps[j] (by simp)
  simp; omega
theorem Tag.small {e : Str} (h : Tag e) : Small e := ⟨by have := h.len; omega, fun z hz => by
  have := h.low z hz
  unfold Str.isSurrogate
  simp; omega⟩
theorem tag_snoc {l : List Str} {e : Str} (h : ∀ x ∈ l, Tag x) (he : Tag e) : ∀ x ∈ l ++ [e], Tag x := by
  intro x hx
  rcases List.mem_append.mp hx with hx | hx
  · exact h x hx
  · rw [List.mem_singleton.mp hx]; exact he
theorem row_ne {lvl : Int} {ind c : List UInt8} (hc : c ≠ []) : (rowOf lvl ind c).flatten = (List.replicate lvl.toNat ind).flatten ++ (c ++ [10]) := by
  unfold rowOf
  rw [if_neg hc]
  simp
theorem opEnd {ind : List UInt8} {lvl m : Int} {sp : List Str} {e : Str} {te : Tok} (hl : 0 < lvl) (he : Small e) (hm : lvl - 1 = m) :
    Op ind lvl (sp ++ [e]) 2 (.str e te) (Str.ofString "done") ((List.replicate m.toNat ind).flatten ++ [60, 47] ++ utfL e.cps.toList ++ [62, 10]) sp (lvl - 1) := by
  have h := Op.endD (ind := ind) (lvl := lvl) (sp := sp) (te := te) hl he
  have hu : utfL ([60, 47] ++ e.cps.toList ++ [62]) = [60, 47] ++ utfL e.cps.toList ++ [62] := by
    unfold utfL
    rw [List.flatMap_append, List.flatMap_append]
    rfl
  rw [row_ne (fun q => by have := utfL_nil q; simp at this), hu, hm] at h
  rw [hm]
  simpa [List.append_assoc] using h
theorem opBeg {ind C : List UInt8} {lvl m wh : Int} {sn : List Str} {e : Str} {te : Tok} (hw : wh < 2) (he : Small e) (hl : lvl = m) (hC : utfL ([60] ++ e.cps.toList ++ [62]) ++ [10] = C) :
    Op ind lvl sn wh (.str e te) (Str.ofString "done") ((List.replicate m.toNat ind).flatten ++ C) (sn ++ [e]) (lvl + 1) := by
  have h := Op.beg (ind := ind) (lvl := lvl) (sn := sn) (te := te) hw he
  rw [row_ne (fun q => by have := utfL_nil q; simp at this), hC, hl] at h
  rw [hl]
  exact h
theorem opSimN {ind : List UInt8} {lvl m : Int} {sn : List Str} (hl : lvl = m) : Op ind lvl sn 3 .none (Str.ofString "done") ((List.replicate m.toNat ind).flatten ++ [60, 115, 47, 62, 10]) sn lvl := by
  have h := Op.simN (ind := ind) (lvl := lvl) (sn := sn)
  rw [row_ne (by decide), hl] at h
  rw [hl]
  exact h
theorem opSimS {ind C : List UInt8} {lvl m : Int} {sn : List Str} {y : Str} {ty : Tok} (hy : Body y) (hl : lvl = m)
    (hC : utfL ([60] ++ (Str.ofString "s").cps.toList ++ [62] ++ (escS y).cps.toList ++ [60, 47] ++ (Str.ofString "s").cps.toList ++ [62]) ++ [10] = C) :
    Op ind lvl sn 3 (.str y ty) (Str.ofString "done") ((List.replicate m.toNat ind).flatten ++ C) sn lvl := by
  have h := Op.simS (ind := ind) (lvl := lvl) (sn := sn) (ty := ty) hy
  rw [row_ne (fun q => by have := utfL_nil q; simp at this), hC, hl] at h
  rw [hl]
  exact h
theorem bodyE : Body (Str.ofString "") := ⟨by decide, by decide, by decide, by decide⟩
theorem bodyA : Body (Str.ofString "a<b") := ⟨by decide, by decide, by decide, by decide⟩
theorem line_str (y : Str) {t : Tok} (h1 : y.length ≤ 1000000) (h2 : ∀ z ∈ y.cps.toList, Str.isSurrogate z = false) : LineIs (.str y t) (utfL y.cps.toList) := .inl ⟨y, t, rfl, h1, h2, rfl⟩
theorem line_byt (c : List UInt8) {t : Tok} (h : c.length ≤ 4000000) : LineIs (.bytes c.toArray t) c := .inr ⟨t, rfl, h⟩
theorem opRow0 {ind c : List UInt8} {lvl : Int} {sn : List Str} {th : Value} (hv : LineIs th c) (hc : c = []) : Op ind lvl sn 4 th (Str.ofString "done") [10] sn lvl := by
  have h := Op.row (ind := ind) (lvl := lvl) (sn := sn) hv
  subst hc
  exact h
theorem opRow {ind c C : List UInt8} {lvl m : Int} {sn : List Str} {th : Value} (hv : LineIs th c) (hc : c ≠ []) (hl : lvl = m) (hC : c ++ [10] = C) : Op ind lvl sn 4 th (Str.ofString "done") ((List.replicate m.toNat ind).flatten ++ C) sn lvl := by
  have h := Op.row (ind := ind) (lvl := lvl) (sn := sn) hv
  rw [row_ne hc, hC, hl] at h
  rw [hl]
  exact h
structure Mid8 where
  th : Value
  row : List UInt8
  tr : Tok
  due : Str
  td : Tok
  nv : List Value
  nc : Nat
  na : List Str
  lv : Int
set_option maxHeartbeats 8000000 in
theorem turn08 (w : World) (mean : ExcName → Option Value) (mg mb : Str → Option Value) (fa : Addr) (cd : Value) (g : Heap) (L : Addr) (s : Shared) (Q : Flow → Shared → Prop)
    (ln l0 l1 lw x0 d0 q0 x1 d1 q1 li lf xf df fw c' cell lp lff D ra : Addr) (oc o ro : Obj) (k0 k1 : Tok × Tok × Tok × Tok) (ti0 ti1 tb0 tb1 tf0 tf1 : Tok) (f0 f1 : Int) (z1 z2 z3 z4 z5 z6 z7 : Tok) (qual : Str) (dc pm ct : Value) (vs' : Array Value) (tq : Tok) (ws : List Value) (sl : Addr)
    (hlt : @LT.lt Nat _ ra lp ∧ @LT.lt Nat _ lp cell ∧ @LT.lt Nat _ cell c' ∧ @LT.lt Nat _ c' fw ∧ @LT.lt Nat _ fw df ∧ @LT.lt Nat _ df xf ∧ @LT.lt Nat _ xf lf ∧ @LT.lt Nat _ lf li ∧ @LT.lt Nat _ li d0 ∧ @LT.lt Nat _ d0 x0 ∧ @LT.lt Nat _ x0 q0 ∧ @LT.lt Nat _ q0 d1 ∧ @LT.lt Nat _ d1 x1 ∧ @LT.lt Nat _ x1 q1 ∧ @LT.lt Nat _ q1 lw ∧ @LT.lt Nat _ lw l0 ∧ @LT.lt Nat _ l0 l1 ∧ @LT.lt Nat _ l1 ln ∧ @LT.lt Nat _ ln D)
    (ho : o.data = .cell (some (.ref lp))) (hoc : oc.data = .fields vs') (hoq : vs'[1]? = some (.str qual tq)) (B0 : Below callerA g [] g) (KX : (Mine.hd08.heap_39 w.params).In g) (T : Top topProg ((looseW Mine.hd08.view_39 [Str.ofString "_controlCharPat"]) ++ (recsOf Mine.hd08.view_39).map (·.name) ++ (litsOf Mine.hd08.view_39).map (·.1) ++ (clssOf Mine.hd08.view_39 (looseW Mine.hd08.view_39 [Str.ofString "_controlCharPat"])).map (·.name)) mean mg mb g)
    (hf0 : -1 ≤ f0) (hf0' : f0 ≤ 2) (hf1 : -1 ≤ f1) (hf1' : f1 ≤ 2) (hwl : ws.length ≤ 69)
    (c : St8) (i : Nat) (n : Int) (tn : Tok) (u : Str → Option Value) (h : Heap) (tk : Nat) (I : Addr) (oI : Obj) (hi : i < 69) (hV : Inv8 f0 f1 i c) (htk : 0 < tk) (hne : AllNe I ([(D, W.listOf ws.toArray 0), (ln, W.listOf #[.ref l0, .ref l1] 0), (l1, W.listOf (c.n1).toArray (c.c1)), (l0, W.listOf (c.n0).toArray (c.c0)), (lw, W.listOf #[.ref x0, .ref x1] 0), (q1, W.listOf (c.s1).toArray (c.e1)), (x1, instObj 90 d1), (d1, wDict w.params xf q1 k1 (c.v1) (c.t1) [32, 32].toArray ti1), (q0, W.listOf (c.s0).toArray (c.e0)), (x0, instObj 90 d0), (d0, wDict w.params xf q0 k0 (c.v0) (c.t0) [9].toArray ti0), (li, W.listOf #[.bytes [9].toArray tb0, .bytes [32, 32].toArray tb1] 0), (lf, W.listOf #[.int f0 tf0, .int f1 tf1] 0), (xf, instObj 90 df), (df, fDict w.params lff fw z1 z2 z3 z4 z5 z6 z7), (fw, fwObj qual cell c' dc pm ct), (c', oc), (cell, o), (lp, W.listOf (c.ps).toArray (c.np)), (ra, ro)]))
    (F : Fr g L h (fun y => if y = Str.ofString "n" then some (.int n tn) else locs4 (fun y => if y = Str.ofString "names" then some (.ref ln) else if y = Str.ofString "writers" then some (.ref lw) else if y = Str.ofString "indents" then some (.ref li) else if y = Str.ofString "first" then some (.ref lf) else if y = Str.ofString "file" then some (.ref xf) else if y = Str.ofString "pieces" then some (.ref lp) else List.lookup y [(Str.ofString "script", Value.ref sl)].reverse) u [Str.ofString "k", Str.ofString "what", Str.ofString "pick", Str.ofString "level", Str.ofString "lead", Str.ofString "due", Str.ofString "thing", Str.ofString "row", Str.ofString "mark", Str.ofString "j"] [] y)) (N : News g L h ((I, oI) :: [(D, W.listOf ws.toArray 0), (ln, W.listOf #[.ref l0, .ref l1] 0), (l1, W.listOf (c.n1).toArray (c.c1)), (l0, W.listOf (c.n0).toArray (c.c0)), (lw, W.listOf #[.ref x0, .ref x1] 0), (q1, W.listOf (c.s1).toArray (c.e1)), (x1, instObj 90 d1), (d1, wDict w.params xf q1 k1 (c.v1) (c.t1) [32, 32].toArray ti1), (q0, W.listOf (c.s0).toArray (c.e0)), (x0, instObj 90 d0), (d0, wDict w.params xf q0 k0 (c.v0) (c.t0) [9].toArray ti0), (li, W.listOf #[.bytes [9].toArray tb0, .bytes [32, 32].toArray tb1] 0), (lf, W.listOf #[.int f0 tf0, .int f1 tf1] 0), (xf, instObj 90 df), (df, fDict w.params lff fw z1 z2 z3 z4 z5 z6 z7), (fw, fwObj qual cell c' dc pm ct), (c', oc), (cell, o), (lp, W.listOf (c.ps).toArray (c.np)), (ra, ro)])) :
    wpAny (model PySem.Challenge.rw_dm0240_08.row.prog w) (callerA.deeper (envOf (Str.ofString "law") lawS08 L fa cd)) (execs forB08 (envOf (Str.ofString "law") lawS08 L fa cd)) (SPost g L (fun c : St8 => [(D, W.listOf ws.toArray 0), (ln, W.listOf #[.ref l0, .ref l1] 0), (l1, W.listOf (c.n1).toArray (c.c1)), (l0, W.listOf (c.n0).toArray (c.c0)), (lw, W.listOf #[.ref x0, .ref x1] 0), (q1, W.listOf (c.s1).toArray (c.e1)), (x1, instObj 90 d1), (d1, wDict w.params xf q1 k1 (c.v1) (c.t1) [32, 32].toArray ti1), (q0, W.listOf (c.s0).toArray (c.e0)), (x0, instObj 90 d0), (d0, wDict w.params xf q0 k0 (c.v0) (c.t0) [9].toArray ti0), (li, W.listOf #[.bytes [9].toArray tb0, .bytes [32, 32].toArray tb1] 0), (lf, W.listOf #[.int f0 tf0, .int f1 tf1] 0), (xf, instObj 90 df), (df, fDict w.params lff fw z1 z2 z3 z4 z5 z6 z7), (fw, fwObj qual cell c' dc pm ct), (c', oc), (cell, o), (lp, W.listOf (c.ps).toArray (c.np)), (ra, ro)]) (fun _ => []) (· = Str.ofString "n") [Str.ofString "k", Str.ofString "what", Str.ofString "pick", Str.ofString "level", Str.ofString "lead", Str.ofString "due", Str.ofString "thing", Str.ofString "row", Str.ofString "mark", Str.ofString "j"] (fun y => if y = Str.ofString "names" then some (.ref ln) else if y = Str.ofString "writers" then some (.ref lw) else if y = Str.ofString "indents" then some (.ref li) else if y = Str.ofString "first" then some (.ref lf) else if y = Str.ofString "file" then some (.ref xf) else if y = Str.ofString "pieces" then some (.ref lp) else List.lookup y [(Str.ofString "script", Value.ref sl)].reverse) [(I, oI)] (Inv8 f0 f1 (i + 1)) s Q) NoE { s with heap := h, toks := tk } := by
  w_on
  revert KX T
  k_fill
  intro KX T
  (try k_fold)
  have hR : Rise [ra, lp, cell, c', fw, df, xf, lf, li, d0, x0, q0, d1, x1, q1, lw, l0, l1, ln, D] := by
    obtain ⟨g0, g1, g2, g3, g4, g5, g6, g7, g8, g9, g10, g11, g12, g13, g14, g15, g16, g17, g18⟩ := hlt
    exact rise_cons g0 (rise_cons g1 (rise_cons g2 (rise_cons g3 (rise_cons g4 (rise_cons g5 (rise_cons g6 (rise_cons g7 (rise_cons g8 (rise_cons g9 (rise_cons g10 (rise_cons g11 (rise_cons g12 (rise_cons g13 (rise_cons g14 (rise_cons g15 (rise_cons g16 (rise_cons g17 (rise_cons g18 rise_one))))))))))))))))))
  clear hlt
  have hnI : NeAll I [D, ln, l1, l0, lw, q1, x1, d1, q0, x0, d0, li, lf, xf, df, fw, c', cell, lp, ra] := NeAll.of hne rfl
  clear hne
  obtain ⟨n0, n1, s0, s1, a0, a1, c0, c1, e0, e1, t0, t1, v0, v1, ps, np⟩ := c
  obtain ⟨hn0, hn1, hs0, hs1, hv0, hv1, hl0, hl1, hg0, hg1, hps⟩ := hV
  dsimp only at hn0 hn1 hs0 hs1 hv0 hv1 hl0 hl1 hg0 hg1 hps N F ⊢
  have hnl0 := hn0.length
  have hnl1 := hn1.length
  have i9 : ([9] : List UInt8) ≠ [] := by decide
  have i32 : ([32, 32] : List UInt8) ≠ [] := by decide
  have i9l : ([9] : List UInt8).length ≤ 16 := by decide
  have i32l : ([32, 32] : List UInt8).length ≤ 16 := by decide
  obtain ⟨what, hwhat⟩ : ∃ r, (n.fdiv 2).fmod 5 = r := ⟨_, rfl⟩
  obtain ⟨pick, hpick⟩ : ∃ r, (n.fdiv 10).fmod 3 = r := ⟨_, rfl⟩
  have hw0 : 0 ≤ what := by rw [← hwhat]; exact fmod_lo _ (by decide)
  have hw5 : what < 5 := by rw [← hwhat]; exact fmod_hi _ (by decide)
  have hp0 : 0 ≤ pick := by rw [← hpick]; exact fmod_lo _ (by decide)
  have hp3 : pick < 3 := by rw [← hpick]; exact fmod_hi _ (by decide)
  have hk2 : n.fmod 2 = 0 ∨ n.fmod 2 = 1 := by
    have h1 := @fmod_lo n 2 (by decide)
    have h2 := @fmod_hi n 2 (by decide)
    omega
  show wpAny _ _ (execs [.Assign _ _ _, .Assign _ _ _, .Assign _ _ _, .Assign _ _ _, .Assign _ _ _, .Assign _ _ _, .If _ _ _ _, .Assign _ _ _, .If _ _ _ _, .If _ _ _ _, .For _ _ _ _ _] _) _ _ _
  rcases hk2 with hk | hk
  · walk_at "go"
    rename Fr _ _ _ _ => F1
    rename News _ _ _ _ => N1
    have hlv : v0 = f0 + (↑n0.length : Int) := by omega
    have hrl : (List.replicate (f0 + (↑n0.length : Int)).toNat ([9] : List UInt8)).flatten.length ≤ 16000 := rep_len (by omega) i9l
    refine go_on (wpAny_execs_cons ?_)
    refine join_stmt (x := Str.ofString "pick") (fun c : Mid8 => (I, oI) :: [(D, W.listOf ws.toArray 0), (ln, W.listOf #[.ref l0, .ref l1] 0), (l1, W.listOf (n1).toArray (c1)), (l0, W.listOf (c.nv).toArray (c.nc)), (lw, W.listOf #[.ref x0, .ref x1] 0), (q1, W.listOf (s1).toArray (e1)), (x1, instObj 90 d1), (d1, wDict w.params xf q1 k1 (v1) (t1) [32, 32].toArray ti1), (q0, W.listOf (s0).toArray (e0)), (x0, instObj 90 d0), (d0, wDict w.params xf q0 k0 (v0) (t0) [9].toArray ti0), (li, W.listOf #[.bytes [9].toArray tb0, .bytes [32, 32].toArray tb1] 0), (lf, W.listOf #[.int f0 tf0, .int f1 tf1] 0), (xf, instObj 90 df), (df, fDict w.params lff fw z1 z2 z3 z4 z5 z6 z7), (fw, fwObj qual cell c' dc pm ct), (c', oc), (cell, o), (lp, W.listOf (ps).toArray (np)), (ra, ro)]) (fun c : Mid8 => [(Str.ofString "thing", c.th), (Str.ofString "row", Value.bytes c.row.toArray c.tr), (Str.ofString "due", Value.str c.due c.td)]) [] (fun c : Mid8 => Op [9] v0 a0 what c.th c.due c.row c.na c.lv ∧ StrsAre c.nv c.na ∧ c.na.length ≤ i + 1 ∧ (∀ e ∈ c.na, Tag e) ∧ c.lv = f0 + (c.na.length : Int)) F1 ?ways ?done
    case ways =>
      --BEGIN W0
      have hwc : what < 2 ∨ what = 2 ∨ what = 3 ∨ what = 4 := by omega
      rcases hwc with hwc | rfl | rfl | rfl
      · walk_at "go"
        rename Fr _ _ _ _ => F2
        rename News _ _ _ _ => N2
        rename (pick = 0 ∧ @Eq (List UInt8) _ _) ∨ _ => hmb
        rename (pick = 0 ∧ @Eq Value _ _) ∨ _ => hmv
        (try simp only [List.push_toArray] at N2)
        rcases hmv with ⟨hp, rfl⟩ | ⟨hp, rfl⟩ | ⟨hp, rfl⟩ <;> rcases hmb with ⟨hq, rfl⟩ | ⟨hq, rfl⟩ | ⟨hq, rfl⟩
        all_goals first
          | exact absurd (hp.symm.trans hq) (by decide)
          | (refine NEnd.next ?_
             exact BEnd.mk (⟨.str _ _, _, _, Str.ofString "done", _, n0 ++ [Value.str _ _], c0 + 1, a0 ++ [_], v0 + 1⟩ : Mid8) F2 N2 (by walk_at "toks") (by walk_at "sub") (by walk_at "se_all") (by walk_at "se_same")
              ⟨opBeg hwc ⟨by decide, by decide⟩ hlv (by decide), hn0.append' (.cons _ _ .nil), by simp; omega, tag_snoc hg0 ⟨by decide, by decide⟩, by rw [hv0]; simp; omega⟩)
      · --BEGIN E0
        have hlc : f0 + (↑n0.length : Int) ≤ 0 ∨ 0 < f0 + (↑n0.length : Int) := by omega
        have hrl1 : (List.replicate (f0 + (↑n0.length : Int) - 1).toNat ([9] : List UInt8)).flatten.length ≤ 16000 := rep_len (by omega) i9l
        rcases List.eq_nil_or_concat n0 with rfl | ⟨p, y, rfl⟩
        · have hak : a0 = [] := by cases hn0; rfl
          subst hak
          rcases List.eq_nil_or_concat n1 with rfl | ⟨p, y, rfl⟩
          · rcases hlc with hlc | hlc
            · walk_at "go"
              refine go_on (wpAny_execs_cons ?_)
              walk_at "go"
              rename Fr _ _ _ _ => F2
              rename News _ _ _ _ => N2
              refine NEnd.next ?_
              exact BEnd.mk (⟨.str (Str.ofString "a") _, [], _, Str.ofString "assertion", _, [], c0, [], v0⟩ : Mid8) F2 N2 (by walk_at "toks") (by walk_at "sub") (by walk_at "se_all") (by walk_at "se_same") ⟨.endA (by omega), hn0, by simp, hg0, hv0⟩
            · walk_at "go"
              refine go_on (wpAny_execs_cons ?_)
              walk_at "go"
              rename Fr _ _ _ _ => F2
              rename News _ _ _ _ => N2
              refine NEnd.next ?_
              exact BEnd.mk (⟨.str (Str.ofString "a") _, [], _, Str.ofString "index", _, [], c0, [], v0⟩ : Mid8) F2 N2 (by walk_at "toks") (by walk_at "sub") (by walk_at "se_all") (by walk_at "se_same") ⟨.endI (by omega), hn0, by simp, hg0, hv0⟩
          · rw [List.concat_eq_append] at *
            obtain ⟨e, t', rfl⟩ : ∃ e t', y = Value.str e t' := by
              rcases List.eq_nil_or_concat a1 with rfl | ⟨sp, e, rfl⟩
              · have := hn1.length; simp at this
              · rw [List.concat_eq_append] at hn1
                obtain ⟨p', t', hpe, _⟩ := strs_snoc hn1
                exact ⟨e, t', by simpa using (List.append_inj' hpe rfl).2⟩
            have hpl : p.length ≤ 70 := by rw [List.length_append] at hnl1; simp at hnl1; omega
            rcases hlc with hlc | hlc
            · walk_at "go"
              refine go_on (wpAny_execs_cons ?_)
              walk_at "go"
              rename Fr _ _ _ _ => F2
              rename News _ _ _ _ => N2
              refine NEnd.next ?_
              exact BEnd.mk (⟨.str e _, [], _, Str.ofString "assertion", _, [], c0, [], v0⟩ : Mid8) F2 N2 (by walk_at "toks") (by walk_at "sub") (by walk_at "se_all") (by walk_at "se_same") ⟨.endA (by omega), hn0, by simp, hg0, hv0⟩
            · walk_at "go"
              refine go_on (wpAny_execs_cons ?_)
              walk_at "go"
              rename Fr _ _ _ _ => F2
              rename News _ _ _ _ => N2
              refine NEnd.next ?_
              exact BEnd.mk (⟨.str e _, [], _, Str.ofString "index", _, [], c0, [], v0⟩ : Mid8) F2 N2 (by walk_at "toks") (by walk_at "sub") (by walk_at "se_all") (by walk_at "se_same") ⟨.endI (by omega), hn0, by simp, hg0, hv0⟩
        · rw [List.concat_eq_append] at *
          obtain ⟨sp, e, rfl⟩ : ∃ sp e, a0 = sp ++ [e] := by
            rcases List.eq_nil_or_concat a0 with rfl | ⟨sp, e, rfl⟩
            · have := hn0.length; simp at this
            · exact ⟨sp, e, List.concat_eq_append ..⟩
          obtain ⟨p', t', hpe, hpp⟩ := strs_snoc hn0
          obtain ⟨rfl, hy⟩ := List.append_inj' hpe rfl
          have hy : y = .str e t' := by simpa using hy
          subst hy
          have hpl : p.length ≤ 70 := by rw [List.length_append, List.length_append] at hnl0; rw [List.length_append] at hl0; simp at hnl0 hl0; omega
          have hte : Tag e := hg0 e (by simp)
          have he1 : e.length ≤ 1000000 := by have := hte.len; omega
          have he2 := hte.low
          have hul : (utfL e.cps.toList).length ≤ 16 := by have := utfL_len e.cps.toList; have h2 : e.cps.toList.length = e.length := rfl; have := hte.len; omega
          have hrl2 := hrl1
          simp only [List.length_cons, List.length_nil, List.length_append] at hrl2
          rcases hlc with hlc | hlc
          · walk_at "go"
            refine go_on (wpAny_execs_cons ?_)
            walk_at "go"
            rename Fr _ _ _ _ => F2
            rename News _ _ _ _ => N2
            refine NEnd.next ?_
            exact BEnd.mk (⟨.str e _, [], _, Str.ofString "assertion", _, p ++ [Value.str e t'], c0, sp ++ [e], v0⟩ : Mid8) F2 N2 (by walk_at "toks") (by walk_at "sub") (by walk_at "se_all") (by walk_at "se_same") ⟨.endA (by omega), hn0, Nat.le_succ_of_le hl0, hg0, hv0⟩
          · walk_at "go"
            refine go_on (wpAny_execs_cons ?_)
            walk_at "go"
            rename Fr _ _ _ _ => F2
            rename News _ _ _ _ => N2
            refine NEnd.next ?_
            exact BEnd.mk (⟨.str e _, _, _, Str.ofString "done", _, p, c0 + 1, sp, v0 - 1⟩ : Mid8) F2 N2 (by walk_at "toks") (by walk_at "sub") (by walk_at "se_all") (by walk_at "se_same") ⟨opEnd (m := f0 + (↑(p ++ [Value.str e t']).length : Int) - 1) (by omega) hte.small (by omega), hpp, by show sp.length ≤ i + 1; rw [List.length_append] at hl0; simp at hl0; omega, fun z hz => hg0 z (by simp [hz]), by rw [hv0]; simp; omega⟩
        --END E0
      · --BEGIN G0
        walk_at "go"
        rename Fr _ _ _ _ => F2
        rename News _ _ _ _ => N2
        rename (pick = 0 ∧ @Eq (List UInt8) _ _) ∨ _ => hmb
        rename (pick = 0 ∧ @Eq Value _ _) ∨ _ => hmv
        rcases hmv with ⟨hp, rfl⟩ | ⟨hp, rfl⟩ | ⟨hp, rfl⟩ <;> rcases hmb with ⟨hq, rfl⟩ | ⟨hq, rfl⟩ | ⟨hq, rfl⟩
        all_goals first
          | exact absurd (hp.symm.trans hq) (by decide)
          | (refine NEnd.next ?_
             exact BEnd.mk (⟨.none, _, _, Str.ofString "done", _, n0, c0, a0, v0⟩ : Mid8) F2 N2 (by walk_at "toks") (by walk_at "sub") (by walk_at "se_all") (by walk_at "se_same")
              ⟨opSimN hlv, hn0, Nat.le_succ_of_le hl0, hg0, hv0⟩)
          | (refine NEnd.next ?_
             exact BEnd.mk (⟨.str (Str.ofString "") _, _, _, Str.ofString "done", _, n0, c0, a0, v0⟩ : Mid8) F2 N2 (by walk_at "toks") (by walk_at "sub") (by walk_at "se_all") (by walk_at "se_same")
              ⟨opSimS bodyE hlv (by decide), hn0, Nat.le_succ_of_le hl0, hg0, hv0⟩)
          | (refine NEnd.next ?_
             exact BEnd.mk (⟨.str (Str.ofString "a<b") _, _, _, Str.ofString "done", _, n0, c0, a0, v0⟩ : Mid8) F2 N2 (by walk_at "toks") (by walk_at "sub") (by walk_at "se_all") (by walk_at "se_same")
              ⟨opSimS bodyA hlv (by decide), hn0, Nat.le_succ_of_le hl0, hg0, hv0⟩)
        --END G0
      · --BEGIN H0
        walk_at "go"
        rename Fr _ _ _ _ => F2
        rename News _ _ _ _ => N2
        rename (pick = 0 ∧ @Eq (List UInt8) _ _) ∨ _ => hmb
        rename (pick = 0 ∧ @Eq Value _ _) ∨ _ => hmv
        rcases hmv with ⟨hp, rfl⟩ | ⟨hp, rfl⟩ | ⟨hp, rfl⟩ <;> rcases hmb with ⟨hq, rfl⟩ | ⟨hq, rfl⟩ | ⟨hq, rfl⟩
        all_goals first
          | exact absurd (hp.symm.trans hq) (by decide)
          | (refine NEnd.next ?_
             exact BEnd.mk (⟨.str (Str.ofString "") _, [10], _, Str.ofString "done", _, n0, c0, a0, v0⟩ : Mid8) F2 N2 (by walk_at "toks") (by walk_at "sub") (by walk_at "se_all") (by walk_at "se_same")
              ⟨opRow0 (line_str (Str.ofString "") (by decide) (by decide)) (by decide), hn0, Nat.le_succ_of_le hl0, hg0, hv0⟩)
          | (refine NEnd.next ?_
             exact BEnd.mk (⟨.str (Str.ofString "x") _, _, _, Str.ofString "done", _, n0, c0, a0, v0⟩ : Mid8) F2 N2 (by walk_at "toks") (by walk_at "sub") (by walk_at "se_all") (by walk_at "se_same")
              ⟨opRow (line_str (Str.ofString "x") (by decide) (by decide)) (by decide) hlv (by decide), hn0, Nat.le_succ_of_le hl0, hg0, hv0⟩)
          | (refine NEnd.next ?_
             exact BEnd.mk (⟨.bytes [121, 32, 122].toArray _, _, _, Str.ofString "done", _, n0, c0, a0, v0⟩ : Mid8) F2 N2 (by walk_at "toks") (by walk_at "sub") (by walk_at "se_all") (by walk_at "se_same")
              ⟨opRow (line_byt _ (by decide)) (by decide) hlv (by decide), hn0, Nat.le_succ_of_le hl0, hg0, hv0⟩)
        --END H0
      --END W0
    case done =>
      --BEGIN D0
      rintro ⟨th, row, tr, due, td, nv, nc, na, lv⟩ u2 h2 tk2 ⟨hop, hnv, hnal, hng, hlvn⟩ htk2 F2 N2
      dsimp only at hop hnv hnal hng hlvn F2 N2 ⊢
      clear F1 N1
      have hrow : row.length ≤ 16777216 := hop.len (by omega) i9l
      have hnvl := hnv.length
      have hsl := hs0.length
      walk_at "go"
      refine go_on (wpAny_execs_cons ?_)
      walk_at "go"
      rename Fr _ _ _ _ => F3
      rename News _ _ _ _ => N3
      refine go_on (PM.call (doO08 w mean mg mb x0 d0 xf df fw c' cell lp q0 lff oc o k0 v0 t0 ti0 [9] z1 z2 z3 z4 z5 z6 z7 qual dc pm ct ps np vs' tq s0 e0 a0 na th what lv _ due row ⟨by walk_at "lt1", by walk_at "lt1", by walk_at "lt1", by walk_at "lt1", by walk_at "lt1", by walk_at "lt1", by walk_at "lt1", by walk_at "lt1"⟩ ho hoc hoq (by omega) (by omega) i9 i9l (by omega) (by omega) hs0 hop) [(I, oI), (D, W.listOf ws.toArray 0), (ln, W.listOf #[.ref l0, .ref l1] 0), (l1, W.listOf (n1).toArray (c1)), (l0, W.listOf (nv).toArray (nc)), (lw, W.listOf #[.ref x0, .ref x1] 0), (q1, W.listOf (s1).toArray (e1)), (x1, instObj 90 d1), (d1, wDict w.params xf q1 k1 (v1) (t1) [32, 32].toArray ti1), (li, W.listOf #[.bytes [9].toArray tb0, .bytes [32, 32].toArray tb1] 0), (lf, W.listOf #[.int f0 tf0, .int f1 tf1] 0), (ra, ro)] B0 KX T ktsDicts_nil KtsTurn.refl F3 N3 (by walk_at "sub") (by walk_at "rest") (by decide) (by decide) (by walk_at "toks") ?_)
      (try clear F2); (try clear N2)
      rintro v nc' g' h3 tk3 ⟨⟨tv, rfl⟩, pv, np', tl', sv', ns', bs, hpv, hfl, hbl, hss, rfl⟩ _ _ _ _ T3 F4 N4 htk3
      have F5 := turn0F' T3 F4
      have N5 := turn0N' T3 N4
      clear F4 N4 F3 N3
      subst hfl
      have hpl : pv.length ≤ 3 := by rw [hpv.length]; exact hbl
      have hdd : (due != due) = false := by simp
      dsimp only [List.cons_append, List.nil_append] at N5 ⊢
      walk_at "go"
      have hbb : (bs.flatten.toArray.toList != bs.flatten.toArray.toList) = false := by simp
      refine go_on (wpAny_execs_cons ?_)
      walk_at "go"
      refine go_on (wpAny_For ?_)
      walk_at "go"
      rename Fr _ _ _ _ => F6
      rename News _ _ _ _ => N6
      refine go_on (wpAny_pos (by walk_at "toks") (range1_rows F6 N6 ?_))
      intro h5 tk5 t5 u5 v5 R5 F7 N7 _ htk5
      dsimp only at htk5 ⊢
      have N8 : News _ _ _ ((I, oI) :: [(D, W.listOf ws.toArray 0), (ln, W.listOf #[.ref l0, .ref l1] 0), (l1, W.listOf (n1).toArray (c1)), (l0, W.listOf (nv).toArray (nc)), (lw, W.listOf #[.ref x0, .ref x1] 0), (q1, W.listOf (s1).toArray (e1)), (x1, instObj 90 d1), (d1, wDict w.params xf q1 k1 (v1) (t1) [32, 32].toArray ti1), (q0, W.listOf (sv').toArray (ns')), (x0, instObj 90 d0), (d0, wDict w.params xf q0 k0 (lv) (tl') [9].toArray ti0), (li, W.listOf #[.bytes [9].toArray tb0, .bytes [32, 32].toArray tb1] 0), (lf, W.listOf #[.int f0 tf0, .int f1 tf1] 0), (xf, instObj 90 df), (df, fDict w.params lff fw z1 z2 z3 z4 z5 z6 z7), (fw, fwObj qual cell c' dc pm ct), (c', oc), (cell, o), (lp, W.listOf (ps ++ pv).toArray (np')), (ra, ro)]) := kst_newsOf N7 (by walk_at "sub")
      (try clear N5); (try clear N6); (try clear N7); (try clear F5); (try clear F6)
      have hok0 : ∀ x ∈ na, PyData.strOk x = true := tags_ok hng
      have hok1 : ∀ x ∈ a1, PyData.strOk x = true := tags_ok hg1
      (try dsimp only [ek])
      refine for_range (prog := PySem.Challenge.rw_dm0240_08.row.prog) (w := w) (A := callerA.deeper (envOf (Str.ofString "law") lawS08 L fa cd)) (env := (envOf (Str.ofString "law") lawS08 L fa cd)) (h₀ := g) (x := Str.ofString "j") (s := ⟨h5, s.gens, s.drawn, tk5, s.os⟩) (a₀ := 0) (b₀ := 2) (n := 2) (σ := Unit) (fun _ => (I, oI) :: [(D, W.listOf ws.toArray 0), (ln, W.listOf #[.ref l0, .ref l1] 0), (l1, W.listOf (n1).toArray (c1)), (l0, W.listOf (nv).toArray (nc)), (lw, W.listOf #[.ref x0, .ref x1] 0), (q1, W.listOf (s1).toArray (e1)), (x1, instObj 90 d1), (d1, wDict w.params xf q1 k1 (v1) (t1) [32, 32].toArray ti1), (q0, W.listOf (sv').toArray (ns')), (x0, instObj 90 d0), (d0, wDict w.params xf q0 k0 (lv) (tl') [9].toArray ti0), (li, W.listOf #[.bytes [9].toArray tb0, .bytes [32, 32].toArray tb1] 0), (lf, W.listOf #[.int f0 tf0, .int f1 tf1] 0), (xf, instObj 90 df), (df, fDict w.params lff fw z1 z2 z3 z4 z5 z6 z7), (fw, fwObj qual cell c' dc pm ct), (c', oc), (cell, o), (lp, W.listOf (ps ++ pv).toArray (np')), (ra, ro)]) (fun _ => []) [] (fun _ _ => True) () R5 (by decide) (by decide) rfl rfl rfl F7 N8 htk5 ?d1 trivial ?turn ?done
      case d1 => intro p hp; cases hp
      case turn =>
        rintro ⟨⟩ j tj u6 h6 tk6 J oJ hj _ htk6 hne6 F9 N9
        have hnJ : NeAll J [I, D, ln, l1, l0, lw, q1, x1, d1, q0, x0, d0, li, lf, xf, df, fw, c', cell, lp, ra] := NeAll.of hne6 rfl
        clear hne6
        clear N8 F7
        have hlq : (lv != f0 + (↑nv.length : Int)) = false := by rw [bne_eq_false_iff_eq]; omega
        have hlo : (v1 != f1 + (↑n1.length : Int)) = false := by rw [bne_eq_false_iff_eq]; have := hn1.length; omega
        have hjc : j = 0 ∨ j = 1 := by omega
        rcases hjc with rfl | rfl
        all_goals
          first | rw [show (0 : Int) + ((0 : Nat) : Int) = 0 from rfl] at F9 | rw [show (0 : Int) + ((1 : Nat) : Int) = 1 from rfl] at F9
          walk_at "go"
          refine go_on (wpAny_execs_cons ?_)
          walk_at "go"
          rename Fr _ _ _ _ => F10
          rename News _ _ _ _ => N10
          exact SEnd.mk () F10 N10 (by dsimp only [List.cons_append, List.nil_append]; walk_at "sub") (by walk_at "se_ne") (by walk_at "se_all") (by walk_at "se_same") trivial
      case done =>
        rintro ⟨⟩ u6 h6 tk6 _ htk6 F9 N9
        clear N8 F7
        walk_at "go"
        rename Fr _ _ _ _ => F10
        rename News _ _ _ _ => N10
        exact SEnd.mk (⟨nv, n1, sv', s1, na, a1, nc, c1, ns', e1, tl', t1, lv, v1, ps ++ pv, np'⟩ : St8) F10 N10 (by dsimp only [List.cons_append, List.nil_append]; walk_at "sub") (by walk_at "se_ne") (by walk_at "se_all") (by walk_at "se_same") ⟨hnv, hn1, hss, hs1, hlvn, hv1, hnal, Nat.le_succ_of_le hl1, hng, hg1, by show (ps ++ pv).length ≤ _; rw [List.length_append]; omega⟩
      --END D0
  · walk_at "go"
    rename Fr _ _ _ _ => F1
    rename News _ _ _ _ => N1
    have hlv : v1 = f1 + (↑n1.length : Int) := by omega
    have hrl : (List.replicate (f1 + (↑n1.length : Int)).toNat ([32, 32] : List UInt8)).flatten.length ≤ 16000 := rep_len (by omega) i32l
    refine go_on (wpAny_execs_cons ?_)
    refine join_stmt (x := Str.ofString "pick") (fun c : Mid8 => (I, oI) :: [(D, W.listOf ws.toArray 0), (ln, W.listOf #[.ref l0, .ref l1] 0), (l1, W.listOf (c.nv).toArray (c.nc)), (l0, W.listOf (n0).toArray (c0)), (lw, W.listOf #[.ref x0, .ref x1] 0), (q1, W.listOf (s1).toArray (e1)), (x1, instObj 90 d1), (d1, wDict w.params xf q1 k1 (v1) (t1) [32, 32].toArray ti1), (q0, W.listOf (s0).toArray (e0)), (x0, instObj 90 d0), (d0, wDict w.params xf q0 k0 (v0) (t0) [9].toArray ti0), (li, W.listOf #[.bytes [9].toArray tb0, .bytes [32, 32].toArray tb1] 0), (lf, W.listOf #[.int f0 tf0, .int f1 tf1] 0), (xf, instObj 90 df), (df, fDict w.params lff fw z1 z2 z3 z4 z5 z6 z7), (fw, fwObj qual cell c' dc pm ct), (c', oc), (cell, o), (lp, W.listOf (ps).toArray (np)), (ra, ro)]) (fun c : Mid8 => [(Str.ofString "thing", c.th), (Str.ofString "row", Value.bytes c.row.toArray c.tr), (Str.ofString "due", Value.str c.due c.td)]) [] (fun c : Mid8 => Op [32, 32] v1 a1 what c.th c.due c.row c.na c.lv ∧ StrsAre c.nv c.na ∧ c.na.length ≤ i + 1 ∧ (∀ e ∈ c.na, Tag e) ∧ c.lv = f1 + (c.na.length : Int)) F1 ?ways ?done
    case ways =>
      --BEGIN W1
      have hwc : what < 2 ∨ what = 2 ∨ what = 3 ∨ what = 4 := by omega
      rcases hwc with hwc | rfl | rfl | rfl
      · walk_at "go"
        rename Fr _ _ _ _ => F2
        rename News _ _ _ _ => N2
        rename (pick = 0 ∧ @Eq (List UInt8) _ _) ∨ _ => hmb
        rename (pick = 0 ∧ @Eq Value _ _) ∨ _ => hmv
        (try simp only [List.push_toArray] at N2)
        rcases hmv with ⟨hp, rfl⟩ | ⟨hp, rfl⟩ | ⟨hp, rfl⟩ <;> rcases hmb with ⟨hq, rfl⟩ | ⟨hq, rfl⟩ | ⟨hq, rfl⟩
        all_goals first
          | exact absurd (hp.symm.trans hq) (by decide)
          | (refine NEnd.next ?_
             exact BEnd.mk (⟨.str _ _, _, _, Str.ofString "done", _, n1 ++ [Value.str _ _], c1 + 1, a1 ++ [_], v1 + 1⟩ : Mid8) F2 N2 (by walk_at "toks") (by walk_at "sub") (by walk_at "se_all") (by walk_at "se_same")
              ⟨opBeg hwc ⟨by decide, by decide⟩ hlv (by decide), hn1.append' (.cons _ _ .nil), by simp; omega, tag_snoc hg1 ⟨by decide, by decide⟩, by rw [hv1]; simp; omega⟩)
      · --BEGIN E1
        have hlc : f1 + (↑n1.length : Int) ≤ 0 ∨ 0 < f1 + (↑n1.length : Int) := by omega
        have hrl1 : (List.replicate (f1 + (↑n1.length : Int) - 1).toNat ([32, 32] : List UInt8)).flatten.length ≤ 16000 := rep_len (by omega) i32l
        rcases List.eq_nil_or_concat n1 with rfl | ⟨p, y, rfl⟩
        · have hak : a1 = [] := by cases hn1; rfl
          subst hak
          rcases List.eq_nil_or_concat n0 with rfl | ⟨p, y, rfl⟩
          · rcases hlc with hlc | hlc
            · walk_at "go"
              refine go_on (wpAny_execs_cons ?_)
              walk_at "go"
              rename Fr _ _ _ _ => F2
              rename News _ _ _ _ => N2
              refine NEnd.next ?_
              exact BEnd.mk (⟨.str (Str.ofString "a") _, [], _, Str.ofString "assertion", _, [], c1, [], v1⟩ : Mid8) F2 N2 (by walk_at "toks") (by walk_at "sub") (by walk_at "se_all") (by walk_at "se_same") ⟨.endA (by omega), hn1, by simp, hg1, hv1⟩
            · walk_at "go"
              refine go_on (wpAny_execs_cons ?_)
              walk_at "go"
              rename Fr _ _ _ _ => F2
              rename News _ _ _ _ => N2
              refine NEnd.next ?_
              exact BEnd.mk (⟨.str (Str.ofString "a") _, [], _, Str.ofString "index", _, [], c1, [], v1⟩ : Mid8) F2 N2 (by walk_at "toks") (by walk_at "sub") (by walk_at "se_all") (by walk_at "se_same") ⟨.endI (by omega), hn1, by simp, hg1, hv1⟩
          · rw [List.concat_eq_append] at *
            obtain ⟨e, t', rfl⟩ : ∃ e t', y = Value.str e t' := by
              rcases List.eq_nil_or_concat a0 with rfl | ⟨sp, e, rfl⟩
              · have := hn0.length; simp at this
              · rw [List.concat_eq_append] at hn0
                obtain ⟨p', t', hpe, _⟩ := strs_snoc hn0
                exact ⟨e, t', by simpa using (List.append_inj' hpe rfl).2⟩
            have hpl : p.length ≤ 70 := by rw [List.length_append] at hnl0; simp at hnl0; omega
            rcases hlc with hlc | hlc
            · walk_at "go"
              refine go_on (wpAny_execs_cons ?_)
              walk_at "go"
              rename Fr _ _ _ _ => F2
              rename News _ _ _ _ => N2
              refine NEnd.next ?_
              exact BEnd.mk (⟨.str e _, [], _, Str.ofString "assertion", _, [], c1, [], v1⟩ : Mid8) F2 N2 (by walk_at "toks") (by walk_at "sub") (by walk_at "se_all") (by walk_at "se_same") ⟨.endA (by omega), hn1, by simp, hg1, hv1⟩
            · walk_at "go"
              refine go_on (wpAny_execs_cons ?_)
              walk_at "go"
              rename Fr _ _ _ _ => F2
              rename News _ _ _ _ => N2
              refine NEnd.next ?_
              exact BEnd.mk (⟨.str e _, [], _, Str.ofString "index", _, [], c1, [], v1⟩ : Mid8) F2 N2 (by walk_at "toks") (by walk_at "sub") (by walk_at "se_all") (by walk_at "se_same") ⟨.endI (by omega), hn1, by simp, hg1, hv1⟩
        · rw [List.concat_eq_append] at *
          obtain ⟨sp, e, rfl⟩ : ∃ sp e, a1 = sp ++ [e] := by
            rcases List.eq_nil_or_concat a1 with rfl | ⟨sp, e, rfl⟩
            · have := hn1.length; simp at this
            · exact ⟨sp, e, List.concat_eq_append ..⟩
          obtain ⟨p', t', hpe, hpp⟩ := strs_snoc hn1
          obtain ⟨rfl, hy⟩ := List.append_inj' hpe rfl
          have hy : y = .str e t' := by simpa using hy
          subst hy
          have hpl : p.length ≤ 70 := by rw [List.length_append, List.length_append] at hnl1; rw [List.length_append] at hl1; simp at hnl1 hl1; omega
          have hte : Tag e := hg1 e (by simp)
          have he1 : e.length ≤ 1000000 := by have := hte.len; omega
          have he2 := hte.low
          have hul : (utfL e.cps.toList).length ≤ 16 := by have := utfL_len e.cps.toList; have h2 : e.cps.toList.length = e.length := rfl; have := hte.len; omega
          have hrl2 := hrl1
          simp only [List.length_cons, List.length_nil, List.length_append] at hrl2
          rcases hlc with hlc | hlc
          · walk_at "go"
            refine go_on (wpAny_execs_cons ?_)
            walk_at "go"
            rename Fr _ _ _ _ => F2
            rename News _ _ _ _ => N2
            refine NEnd.next ?_
            exact BEnd.mk (⟨.str e _, [], _, Str.ofString "assertion", _, p ++ [Value.str e t'], c1, sp ++ [e], v1⟩ : Mid8) F2 N2 (by walk_at "toks") (by walk_at "sub") (by walk_at "se_all") (by walk_at "se_same") ⟨.endA (by omega), hn1, Nat.le_succ_of_le hl1, hg1, hv1⟩
          · walk_at "go"
            refine go_on (wpAny_execs_cons ?_)
            walk_at "go"
            rename Fr _ _ _ _ => F2
            rename News _ _ _ _ => N2
            refine NEnd.next ?_
            exact BEnd.mk (⟨.str e _, _, _, Str.ofString "done", _, p, c1 + 1, sp, v1 - 1⟩ : Mid8) F2 N2 (by walk_at "toks") (by walk_at "sub") (by walk_at "se_all") (by walk_at "se_same") ⟨opEnd (m := f1 + (↑(p ++ [Value.str e t']).length : Int) - 1) (by omega) hte.small (by omega), hpp, by show sp.length ≤ i + 1; rw [List.length_append] at hl1; simp at hl1; omega, fun z hz => hg1 z (by simp [hz]), by rw [hv1]; simp; omega⟩
        --END E1
      · --BEGIN G1
        walk_at "go"
        rename Fr _ _ _ _ => F2
        rename News _ _ _ _ => N2
        rename (pick = 0 ∧ @Eq (List UInt8) _ _) ∨ _ => hmb
        rename (pick = 0 ∧ @Eq Value _ _) ∨ _ => hmv
        rcases hmv with ⟨hp, rfl⟩ | ⟨hp, rfl⟩ | ⟨hp, rfl⟩ <;> rcases hmb with ⟨hq, rfl⟩ | ⟨hq, rfl⟩ | ⟨hq, rfl⟩
        all_goals first
          | exact absurd (hp.symm.trans hq) (by decide)
          | (refine NEnd.next ?_
             exact BEnd.mk (⟨.none, _, _, Str.ofString "done", _, n1, c1, a1, v1⟩ : Mid8) F2 N2 (by walk_at "toks") (by walk_at "sub") (by walk_at "se_all") (by walk_at "se_same")
              ⟨opSimN hlv, hn1, Nat.le_succ_of_le hl1, hg1, hv1⟩)
          | (refine NEnd.next ?_
             exact BEnd.mk (⟨.str (Str.ofString "") _, _, _, Str.ofString "done", _, n1, c1, a1, v1⟩ : Mid8) F2 N2 (by walk_at "toks") (by walk_at "sub") (by walk_at "se_all") (by walk_at "se_same")
              ⟨opSimS bodyE hlv (by decide), hn1, Nat.le_succ_of_le hl1, hg1, hv1⟩)
          | (refine NEnd.next ?_
             exact BEnd.mk (⟨.str (Str.ofString "a<b") _, _, _, Str.ofString "done", _, n1, c1, a1, v1⟩ : Mid8) F2 N2 (by walk_at "toks") (by walk_at "sub") (by walk_at "se_all") (by walk_at "se_same")
              ⟨opSimS bodyA hlv (by decide), hn1, Nat.le_succ_of_le hl1, hg1, hv1⟩)
        --END G1
      · --BEGIN H1
        walk_at "go"
        rename Fr _ _ _ _ => F2
        rename News _ _ _ _ => N2
        rename (pick = 0 ∧ @Eq (List UInt8) _ _) ∨ _ => hmb
        rename (pick = 0 ∧ @Eq Value _ _) ∨ _ => hmv
        rcases hmv with ⟨hp, rfl⟩ | ⟨hp, rfl⟩ | ⟨hp, rfl⟩ <;> rcases hmb with ⟨hq, rfl⟩ | ⟨hq, rfl⟩ | ⟨hq, rfl⟩
        all_goals first
          | exact absurd (hp.symm.trans hq) (by decide)
          | (refine NEnd.next ?_
             exact BEnd.mk (⟨.str (Str.ofString "") _, [10], _, Str.ofString "done", _, n1, c1, a1, v1⟩ : Mid8) F2 N2 (by walk_at "toks") (by walk_at "sub") (by walk_at "se_all") (by walk_at "se_same")
              ⟨opRow0 (line_str (Str.ofString "") (by decide) (by decide)) (by decide), hn1, Nat.le_succ_of_le hl1, hg1, hv1⟩)
          | (refine NEnd.next ?_
             exact BEnd.mk (⟨.str (Str.ofString "x") _, _, _, Str.ofString "done", _, n1, c1, a1, v1⟩ : Mid8) F2 N2 (by walk_at "toks") (by walk_at "sub") (by walk_at "se_all") (by walk_at "se_same")
              ⟨opRow (line_str (Str.ofString "x") (by decide) (by decide)) (by decide) hlv (by decide), hn1, Nat.le_succ_of_le hl1, hg1, hv1⟩)
          | (refine NEnd.next ?_
             exact BEnd.mk (⟨.bytes [121, 32, 122].toArray _, _, _, Str.ofString "done", _, n1, c1, a1, v1⟩ : Mid8) F2 N2 (by walk_at "toks") (by walk_at "sub") (by walk_at "se_all") (by walk_at "se_same")
              ⟨opRow (line_byt _ (by decide)) (by decide) hlv (by decide), hn1, Nat.le_succ_of_le hl1, hg1, hv1⟩)
        --END H1
      --END W1
    case done =>
      --BEGIN D1
      rintro ⟨th, row, tr, due, td, nv, nc, na, lv⟩ u2 h2 tk2 ⟨hop, hnv, hnal, hng, hlvn⟩ htk2 F2 N2
      dsimp only at hop hnv hnal hng hlvn F2 N2 ⊢
      clear F1 N1
      have hrow : row.length ≤ 16777216 := hop.len (by omega) i32l
      have hnvl := hnv.length
      have hsl := hs1.length
      walk_at "go"
      refine go_on (wpAny_execs_cons ?_)
      walk_at "go"
      rename Fr _ _ _ _ => F3
      rename News _ _ _ _ => N3
      refine go_on (PM.call (doO08 w mean mg mb x1 d1 xf df fw c' cell lp q1 lff oc o k1 v1 t1 ti1 [32, 32] z1 z2 z3 z4 z5 z6 z7 qual dc pm ct ps np vs' tq s1 e1 a1 na th what lv _ due row ⟨by walk_at "lt1", by walk_at "lt1", by walk_at "lt1", by walk_at "lt1", by walk_at "lt1", by walk_at "lt1", by walk_at "lt1", by walk_at "lt1"⟩ ho hoc hoq (by omega) (by omega) i32 i32l (by omega) (by omega) hs1 hop) [(I, oI), (D, W.listOf ws.toArray 0), (ln, W.listOf #[.ref l0, .ref l1] 0), (l1, W.listOf (nv).toArray (nc)), (l0, W.listOf (n0).toArray (c0)), (lw, W.listOf #[.ref x0, .ref x1] 0), (q0, W.listOf (s0).toArray (e0)), (x0, instObj 90 d0), (d0, wDict w.params xf q0 k0 (v0) (t0) [9].toArray ti0), (li, W.listOf #[.bytes [9].toArray tb0, .bytes [32, 32].toArray tb1] 0), (lf, W.listOf #[.int f0 tf0, .int f1 tf1] 0), (ra, ro)] B0 KX T ktsDicts_nil KtsTurn.refl F3 N3 (by walk_at "sub") (by walk_at "rest") (by decide) (by decide) (by walk_at "toks") ?_)
      (try clear F2); (try clear N2)
      rintro v nc' g' h3 tk3 ⟨⟨tv, rfl⟩, pv, np', tl', sv', ns', bs, hpv, hfl, hbl, hss, rfl⟩ _ _ _ _ T3 F4 N4 htk3
      have F5 := turn0F' T3 F4
      have N5 := turn0N' T3 N4
      clear F4 N4 F3 N3
      subst hfl
      have hpl : pv.length ≤ 3 := by rw [hpv.length]; exact hbl
      have hdd : (due != due) = false := by simp
      dsimp only [List.cons_append, List.nil_append] at N5 ⊢
      walk_at "go"
      have hbb : (bs.flatten.toArray.toList != bs.flatten.toArray.toList) = false := by simp
      refine go_on (wpAny_execs_cons ?_)
      walk_at "go"
      refine go_on (wpAny_For ?_)
      walk_at "go"
      rename Fr _ _ _ _ => F6
      rename News _ _ _ _ => N6
      refine go_on (wpAny_pos (by walk_at "toks") (range1_rows F6 N6 ?_))
      intro h5 tk5 t5 u5 v5 R5 F7 N7 _ htk5
      dsimp only at htk5 ⊢
      have N8 : News _ _ _ ((I, oI) :: [(D, W.listOf ws.toArray 0), (ln, W.listOf #[.ref l0, .ref l1] 0), (l1, W.listOf (nv).toArray (nc)), (l0, W.listOf (n0).toArray (c0)), (lw, W.listOf #[.ref x0, .ref x1] 0), (q1, W.listOf (sv').toArray (ns')), (x1, instObj 90 d1), (d1, wDict w.params xf q1 k1 (lv) (tl') [32, 32].toArray ti1), (q0, W.listOf (s0).toArray (e0)), (x0, instObj 90 d0), (d0, wDict w.params xf q0 k0 (v0) (t0) [9].toArray ti0), (li, W.listOf #[.bytes [9].toArray tb0, .bytes [32, 32].toArray tb1] 0), (lf, W.listOf #[.int f0 tf0, .int f1 tf1] 0), (xf, instObj 90 df), (df, fDict w.params lff fw z1 z2 z3 z4 z5 z6 z7), (fw, fwObj qual cell c' dc pm ct), (c', oc), (cell, o), (lp, W.listOf (ps ++ pv).toArray (np')), (ra, ro)]) := kst_newsOf N7 (by walk_at "sub")
      (try clear N5); (try clear N6); (try clear N7); (try clear F5); (try clear F6)
      have hok0 : ∀ x ∈ na, PyData.strOk x = true := tags_ok hng
      have hok1 : ∀ x ∈ a0, PyData.strOk x = true := tags_ok hg0
      (try dsimp only [ek])
      refine for_range (prog := PySem.Challenge.rw_dm0240_08.row.prog) (w := w) (A := callerA.deeper (envOf (Str.ofString "law") lawS08 L fa cd)) (env := (envOf (Str.ofString "law") lawS08 L fa cd)) (h₀ := g) (x := Str.ofString "j") (s := ⟨h5, s.gens, s.drawn, tk5, s.os⟩) (a₀ := 0) (b₀ := 2) (n := 2) (σ := Unit) (fun _ => (I, oI) :: [(D, W.listOf ws.toArray 0), (ln, W.listOf #[.ref l0, .ref l1] 0), (l1, W.listOf (nv).toArray (nc)), (l0, W.listOf (n0).toArray (c0)), (lw, W.listOf #[.ref x0, .ref x1] 0), (q1, W.listOf (sv').toArray (ns')), (x1, instObj 90 d1), (d1, wDict w.params xf q1 k1 (lv) (tl') [32, 32].toArray ti1), (q0, W.listOf (s0).toArray (e0)), (x0, instObj 90 d0), (d0, wDict w.params xf q0 k0 (v0) (t0) [9].toArray ti0), (li, W.listOf #[.bytes [9].toArray tb0, .bytes [32, 32].toArray tb1] 0), (lf, W.listOf #[.int f0 tf0, .int f1 tf1] 0), (xf, instObj 90 df), (df, fDict w.params lff fw z1 z2 z3 z4 z5 z6 z7), (fw, fwObj qual cell c' dc pm ct), (c', oc), (cell, o), (lp, W.listOf (ps ++ pv).toArray (np')), (ra, ro)]) (fun _ => []) [] (fun _ _ => True) () R5 (by decide) (by decide) rfl rfl rfl F7 N8 htk5 ?d1 trivial ?turn ?done
      case d1 => intro p hp; cases hp
      case turn =>
        rintro ⟨⟩ j tj u6 h6 tk6 J oJ hj _ htk6 hne6 F9 N9
        have hnJ : NeAll J [I, D, ln, l1, l0, lw, q1, x1, d1, q0, x0, d0, li, lf, xf, df, fw, c', cell, lp, ra] := NeAll.of hne6 rfl
        clear hne6
        clear N8 F7
        have hlq : (lv != f1 + (↑nv.length : Int)) = false := by rw [bne_eq_false_iff_eq]; omega
        have hlo : (v0 != f0 + (↑n0.length : Int)) = false := by rw [bne_eq_false_iff_eq]; have := hn0.length; omega
        have hjc : j = 0 ∨ j = 1 := by omega
        rcases hjc with rfl | rfl
        all_goals
          first | rw [show (0 : Int) + ((0 : Nat) : Int) = 0 from rfl] at F9 | rw [show (0 : Int) + ((1 : Nat) : Int) = 1 from rfl] at F9
          walk_at "go"
          refine go_on (wpAny_execs_cons ?_)
          walk_at "go"
          rename Fr _ _ _ _ => F10
          rename News _ _ _ _ => N10
          exact SEnd.mk () F10 N10 (by dsimp only [List.cons_append, List.nil_append]; walk_at "sub") (by walk_at "se_ne") (by walk_at "se_all") (by walk_at "se_same") trivial
      case done =>
        rintro ⟨⟩ u6 h6 tk6 _ htk6 F9 N9
        clear N8 F7
        walk_at "go"
        rename Fr _ _ _ _ => F10
        rename News _ _ _ _ => N10
        exact SEnd.mk (⟨n0, nv, s0, sv', a0, na, c0, nc, e0, ns', t0, tl', v0, lv, ps ++ pv, np'⟩ : St8) F10 N10 (by dsimp only [List.cons_append, List.nil_append]; walk_at "sub") (by walk_at "se_ne") (by walk_at "se_all") (by walk_at "se_same") ⟨hn0, hnv, hs0, hss, hv0, hlvn, Nat.le_succ_of_le hl0, hnal, hg0, hng, by show (ps ++ pv).length ≤ _; rw [List.length_append]; omega⟩
      --END D1
end
--PART S8v
section
theorem lo3 (a : Int) : -1 ≤ a.fmod 3 - 1 := by have := @fmod_lo a 3 (by decide); omega
theorem hi3 (a : Int) : a.fmod 3 - 1 ≤ 2 := by have := @fmod_hi a 3 (by decide); omega
theorem lo2 (a : Int) : -1 ≤ 1 + a.fmod 2 := by have := @fmod_lo a 2 (by decide); omega
theorem hi2 (a : Int) : 1 + a.fmod 2 ≤ 2 := by have := @fmod_hi a 2 (by decide); omega
theorem loop08 {w : World} {mean : ExcName → Option Value} {mg mb : Str → Option Value} {fa : Addr} {cd : Value} {g : Heap} {L : Addr} {s : Shared} {Q : Flow → Shared → Prop}
    {ln l0 l1 lw x0 d0 q0 x1 d1 q1 li lf xf df fw c' cell lp lff D lz ra : Addr} {oc o oz ro : Obj} {kaa kab kac kad kba kbb kbc kbd : Tok} {ta0 ta1 ti0 ti1 tb0 tb1 tf0 tf1 : Tok} {f0 f1 : Int} {z1 z2 z3 z4 z5 z6 z7 : Tok} {qual : Str} {dc pm ct : Value} {vs' : Array Value} {tq : Tok} {ws : List Value} {sl : Addr} {ns : List Int} {px : Pos}
    (hlt : @LT.lt Nat _ ra lp ∧ @LT.lt Nat _ lp cell ∧ @LT.lt Nat _ cell c' ∧ @LT.lt Nat _ c' fw ∧ @LT.lt Nat _ fw df ∧ @LT.lt Nat _ df xf ∧ @LT.lt Nat _ xf lf ∧ @LT.lt Nat _ lf li ∧ @LT.lt Nat _ li d0 ∧ @LT.lt Nat _ d0 x0 ∧ @LT.lt Nat _ x0 q0 ∧ @LT.lt Nat _ q0 d1 ∧ @LT.lt Nat _ d1 x1 ∧ @LT.lt Nat _ x1 q1 ∧ @LT.lt Nat _ q1 lw ∧ @LT.lt Nat _ lw l0 ∧ @LT.lt Nat _ l0 l1 ∧ @LT.lt Nat _ l1 ln ∧ @LT.lt Nat _ ln D)
    (ho : o.data = .cell (some (.ref lp))) (hoc : oc.data = .fields vs') (hoq : vs'[1]? = some (.str qual tq)) (B0 : Below callerA g [] g) (KX : (Mine.hd08.heap_39 w.params).In g) (T : Top topProg ((looseW Mine.hd08.view_39 [Str.ofString "_controlCharPat"]) ++ (recsOf Mine.hd08.view_39).map (·.name) ++ (litsOf Mine.hd08.view_39).map (·.1) ++ (clssOf Mine.hd08.view_39 (looseW Mine.hd08.view_39 [Str.ofString "_controlCharPat"])).map (·.name)) mean mg mb g)
    (hf0 : -1 ≤ f0) (hf0' : f0 ≤ 2) (hf1 : -1 ≤ f1) (hf1' : f1 ≤ 2) (hwl : ws.length ≤ 69)
    (hwn : IntsAre ws ns) (hh : 0 < s.toks)
    (F : Fr g L s.heap (fun y => if y = Str.ofString "names" then some (.ref ln) else if y = Str.ofString "writers" then some (.ref lw) else if y = Str.ofString "indents" then some (.ref li) else if y = Str.ofString "first" then some (.ref lf) else if y = Str.ofString "file" then some (.ref xf) else if y = Str.ofString "pieces" then some (.ref lp) else List.lookup y [(Str.ofString "script", Value.ref sl)].reverse)) (N : News g L s.heap [(D, W.listOf ws.toArray 0), (lz, oz), (ln, W.listOf #[.ref l0, .ref l1] 0), (l1, W.listOf #[] 0), (l0, W.listOf #[] 0), (lw, W.listOf #[.ref x0, .ref x1] 0), (q1, W.listOf #[] 0), (x1, instObj 90 d1), (d1, wDict w.params xf q1 (kba, kbb, kbc, kbd) f1 ta1 #[32, 32] ti1), (q0, W.listOf #[] 0), (x0, instObj 90 d0), (d0, wDict w.params xf q0 (kaa, kab, kac, kad) f0 ta0 #[9] ti0), (li, W.listOf #[.bytes #[9] tb0, .bytes #[32, 32] tb1] 0), (lf, W.listOf #[.int f0 tf0, .int f1 tf1] 0), (lff, W.listOf #[] 0), (xf, instObj 90 df), (df, fDict w.params lff fw z1 z2 z3 z4 z5 z6 z7), (fw, fwObj qual cell c' dc pm ct), (c', oc), (cell, o), (lp, W.listOf #[] 0), (ra, ro)])
    (done : ∀ (u : Str → Option Value) h tk, 0 < tk → Fr g L h (fun y => if y = Str.ofString "n" then u y else locs4 (fun y => if y = Str.ofString "names" then some (.ref ln) else if y = Str.ofString "writers" then some (.ref lw) else if y = Str.ofString "indents" then some (.ref li) else if y = Str.ofString "first" then some (.ref lf) else if y = Str.ofString "file" then some (.ref xf) else if y = Str.ofString "pieces" then some (.ref lp) else List.lookup y [(Str.ofString "script", Value.ref sl)].reverse) u [Str.ofString "k", Str.ofString "what", Str.ofString "pick", Str.ofString "level", Str.ofString "lead", Str.ofString "due", Str.ofString "thing", Str.ofString "row", Str.ofString "mark", Str.ofString "j"] [] y) → News g L h [(ra, ro)] → Q .next { s with heap := h, toks := tk }) :
    wpAny (model PySem.Challenge.rw_dm0240_08.row.prog w) (callerA.deeper (envOf (Str.ofString "law") lawS08 L fa cd)) (pyIter (.ref D)) (fun it s₂ => codeAny (model PySem.Challenge.rw_dm0240_08.row.prog w) (callerA.deeper (envOf (Str.ofString "law") lawS08 L fa cd)) (.forLoop (.Name (Str.ofString "n") px) it forB08 [] (envOf (Str.ofString "law") lawS08 L fa cd)) (fun r s' => match r with | .ok f => Q f s' | .error e => cameBackBy (model PySem.Challenge.rw_dm0240_08.row.prog w) (callerA.deeper (envOf (Str.ofString "law") lawS08 L fa cd)) (envOf (Str.ofString "law") lawS08 L fa cd) NoE e s') s₂) NoE s := by
  refine for_list (σ := St8) (x := Str.ofString "n") (fun c : St8 => [(D, W.listOf ws.toArray 0), (ln, W.listOf #[.ref l0, .ref l1] 0), (l1, W.listOf (c.n1).toArray (c.c1)), (l0, W.listOf (c.n0).toArray (c.c0)), (lw, W.listOf #[.ref x0, .ref x1] 0), (q1, W.listOf (c.s1).toArray (c.e1)), (x1, instObj 90 d1), (d1, wDict w.params xf q1 (kba, kbb, kbc, kbd) (c.v1) (c.t1) [32, 32].toArray ti1), (q0, W.listOf (c.s0).toArray (c.e0)), (x0, instObj 90 d0), (d0, wDict w.params xf q0 (kaa, kab, kac, kad) (c.v0) (c.t0) [9].toArray ti0), (li, W.listOf #[.bytes [9].toArray tb0, .bytes [32, 32].toArray tb1] 0), (lf, W.listOf #[.int f0 tf0, .int f1 tf1] 0), (xf, instObj 90 df), (df, fDict w.params lff fw z1 z2 z3 z4 z5 z6 z7), (fw, fwObj qual cell c' dc pm ct), (c', oc), (cell, o), (lp, W.listOf (c.ps).toArray (c.np)), (ra, ro)]) (fun _ => []) [Str.ofString "k", Str.ofString "what", Str.ofString "pick", Str.ofString "level", Str.ofString "lead", Str.ofString "due", Str.ofString "thing", Str.ofString "row", Str.ofString "mark", Str.ofString "j"] (fun i c => Inv8 f0 f1 i c) ⟨[], [], [], [], [], [], 0, 0, 0, 0, ta0, ta1, f0, f1, [], 0⟩ (.inr ⟨0, fun c => .head _⟩) rfl rfl rfl F (kst_newsOf N ?sub) hh ?k1 ?k2 ?turn ?done
  case sub =>
    have hm : ∀ {a b : Addr × Obj} {r : List (Addr × Obj)}, a ∈ r → a ∈ b :: r := fun h => .tail _ h
    intro p hp
    simp only [List.mem_cons, List.not_mem_nil, or_false] at hp ⊢
    rcases hp with h | h | h | h | h | h | h | h | h | h | h | h | h | h | h | h | h | h | h | h <;> simp only [h, true_or, or_true]
  case k1 => intro p hp; cases hp
  case k2 => exact ⟨.nil, .nil, .nil, .nil, by simp, by simp, by simp, by simp, by simp, by simp, by simp⟩
  case turn =>
    intro c i v u h tk I oI hi hV htk hne F' N'
    obtain ⟨n, tn, rfl⟩ := ints_mem hwn (List.mem_of_getElem? hi)
    have hi63 : i < 69 := by have := (List.getElem?_eq_some_iff.mp hi).1; simp at this; omega
    exact turn08 w mean mg mb fa cd g L s Q ln l0 l1 lw x0 d0 q0 x1 d1 q1 li lf xf df fw c' cell lp lff D ra oc o ro (kaa, kab, kac, kad) (kba, kbb, kbc, kbd) ti0 ti1 tb0 tb1 tf0 tf1 f0 f1 z1 z2 z3 z4 z5 z6 z7 qual dc pm ct vs' tq ws sl hlt ho hoc hoq B0 KX T hf0 hf0' hf1 hf1' hwl c i n tn u h tk I oI hi63 hV htk hne F' N'
  case done =>
    intro c u h tk _ htk F' N'
    exact done u h tk htk F' (kst_newsOf N' (fun p hp => by rw [List.mem_singleton.mp hp]; simp only [List.mem_cons, true_or, or_true]))


local macro_rules | `(tactic| walk_at "pyIter ref") => `(tactic| (refine halt ?_))
local macro_rules | `(tactic| walk_at "exec For Name BinOp cons nil") => `(tactic| (refine halt ?_))
set_option maxHeartbeats 8000000 in
theorem law08 : PySem.Challenge.rw_dm0240_08.Holds := hd08 (by
  w_on
  k_go0
  refine wpAny_noRaise ?_
  rename Top _ _ _ _ _ _ => T
  rename Frag.In _ _ => KX
  rename Heap.IsList _ _ _ => hL
  rename IntsAre _ _ => hI
  rename Below _ _ _ _ => B0
  rename Fr _ _ _ _ => F0
  rename News _ _ _ _ => N0
  have hlen := hI.length
  (try k_fold)
  walk_at "go"
  refine go_on (wpAny_For ?_)
  walk_at "go"
  rename Fr _ _ _ _ => F1
  rename News _ _ _ _ => N1
  rename IntsAre _ (_ ++ _) => hW
  have hWl := hW.length
  rename @Eq Data _ (Data.fields _) => hoc
  rename @Eq Data _ (Data.cell _) => hoD
  rename @Eq (Option Value) _ (some (Value.str _ _)) => hoq
  have hoD := hoD.trans (b := Data.cell (some (Value.ref _))) rfl
  refine go_on (loop08 (F := F1) (N := N1) ?ord hoD hoc hoq B0 KX T ?b1 ?b2 ?b3 ?b4 ?b5 hW (by walk_at "toks") ?done)
  case ord => exact ⟨by omega, by omega, by omega, by omega, by omega, by omega, by omega, by omega, by omega, by omega, by omega, by omega, by omega, by omega, by omega, by omega, by omega, by omega, by omega⟩
  case b1 => exact lo3 _
  case b2 => exact hi3 _
  case b3 => exact lo2 _
  case b4 => exact hi2 _
  case b5 =>
    rename ¬ (_ < _) => hc
    rw [hWl, List.length_append]
    simp only [List.length_cons, List.length_nil]
    omega
  case done =>
    clear F1 N1
    intro u h tk htk F2 N2
    dsimp only at F2 N2 ⊢
    walk_at "go"
    rename News _ _ _ _ => N3
    trace_state
    all_goals (first | wrow_close | walk_at "GrownAll"))
end
end Mine

end

theorem PySem.Challenge.cw_dm0240_08_holds : PySem.Challenge.rw_dm0240_08.Holds :=
  Mine.law08
