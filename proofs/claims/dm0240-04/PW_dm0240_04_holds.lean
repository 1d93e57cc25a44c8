import PyProof.Rows.All
import Wide.All
import OpenK.AllK
import Wide.FinOn
import PySem.Challenge.RW_dm0240_04
set_option Elab.async false
section
open PySem PySem.W PyProof.Rows PySem.Calls PySem.Builtin PySem.Builtin.Re
set_option Elab.async false
set_option maxRecDepth 100000
set_option maxHeartbeats 1000000
namespace Mine

/-- the control signs that the pattern finds -/
def ctl (c : Nat) : Bool := decide (c < 32) && c != 9 && c != 10 && c != 13

def reVals : Array Value := #[.int 14 0, .int 14 0, .int 4 0, .int 1 0, .int 1 0, .int 9 0, .int 4294957567 0, .int 0 0, .int 0 0, .int 0 0, .int 0 0, .int 0 0, .int 0 0, .int 0 0, .int 0 0, .int 13 0, .int 11 0, .int 9 0, .int 4294957567 0, .int 0 0, .int 0 0, .int 0 0, .int 0 0, .int 0 0, .int 0 0, .int 0 0, .int 0 0, .int 1 0]
def reCode : Array Nat := #[14, 14, 4, 1, 1, 9, 4294957567, 0, 0, 0, 0, 0, 0, 0, 0, 13, 11, 9, 4294957567, 0, 0, 0, 0, 0, 0, 0, 0, 1]

theorem ctl_bits (c : Nat) (hc : c < 32) : (4294957567 : Nat).testBit c = (c != 9 && c != 10 && c != 13) := by
  have : ∀ c : Fin 32, (4294957567 : Nat).testBit c.val = (c.val != 9 && c.val != 10 && c.val != 13) := by decide +kernel
  exact this ⟨c, hc⟩

theorem inSet_at (i : Nat) (hi : i = 5 ∨ i = 17) (c : Nat) (seen : Sre.Seen) : ∃ seen', Sre.inSet reCode c 28 i true seen = .ok (ctl c, seen') := by
  have key : ∀ i : Nat, (i = 5 ∨ i = 17) → ∀ seen, Sre.inSet reCode c 28 i true seen =
      (if (decide (c < 256) && (reCode.getD (i + (1 + c / 32)) 0).testBit (c % 32)) = true then .ok (true, seen.add 9) else .ok (false, (seen.add 9).add 0)) := by
    rintro i (rfl | rfl) seen
    · rfl
    · rfl
  rw [key i hi seen]
  have hb : (decide (c < 256) && (reCode.getD (i + (1 + c / 32)) 0).testBit (c % 32)) = ctl c := by
    by_cases h : c < 32
    · have e1 : c / 32 = 0 := by omega
      have e2 : c % 32 = c := by omega
      have e3 : reCode.getD (i + (1 + 0)) 0 = 4294957567 := by rcases hi with rfl | rfl <;> rfl
      rw [e1, e2, e3, ctl_bits c h]
      unfold ctl
      simp [h, show c < 256 by omega]
    · have hn : ctl c = false := by unfold ctl; simp [h]
      rw [hn]
      by_cases h2 : c < 256
      · have e1 : 1 ≤ c / 32 ∧ c / 32 ≤ 7 := by omega
        have : ∀ k : Fin 8, k.val ≠ 0 → reCode.getD (i + (1 + k.val)) 0 = 0 := by rcases hi with rfl | rfl <;> decide +kernel
        have e3 := this ⟨c / 32, by omega⟩ (by show c / 32 ≠ 0; omega)
        simp only at e3
        rw [e3]; simp
      · simp [h2]
  rw [hb]
  cases hcc : ctl c with
  | true => exact ⟨_, rfl⟩
  | false => exact ⟨_, rfl⟩

theorem admitted_spec (m : Sre.M) (hcode : m.code = reCode) (hlim : m.lim = m.text.size) : ∀ (fuel s : Nat) (seen : Sre.Seen), m.lim < fuel + s →
    (∃ seen', m.admitted fuel s seen = .ok (none, seen') ∧ ∀ j, s ≤ j → j < m.lim → ctl (m.text.getD j 0) = false) ∨
    (∃ j seen', m.admitted fuel s seen = .ok (some j, seen') ∧ j < m.lim ∧ ctl (m.text.getD j 0) = true)
  | 0, s, seen, h => .inl ⟨_, rfl, fun j h1 h2 => absurd (Nat.lt_of_le_of_lt h1 h2) (by omega)⟩
  | fuel + 1, s, seen, h => by
    unfold Sre.M.admitted
    by_cases hs : s ≥ m.lim
    · rw [if_pos hs]; exact .inl ⟨_, rfl, fun j h1 h2 => absurd h2 (by omega)⟩
    · rw [if_neg hs, hcode]
      obtain ⟨seen', e⟩ := inSet_at 5 (.inl rfl) (m.text.getD s 0) seen
      have esz : reCode.size = 28 := rfl
      rw [esz, e]
      cases hc : ctl (m.text.getD s 0) with
      | true => exact .inr ⟨s, _, rfl, by omega, hc⟩
      | false =>
        rcases admitted_spec m hcode hlim fuel (s + 1) seen' (by omega) with ⟨x, h1, h2⟩ | ⟨j, x, h1, h2, h3⟩
        · refine .inl ⟨x, h1, fun j h3 h4 => ?_⟩
          by_cases hj : j = s
          · subst hj; exact hc
          · exact h2 j (by omega) h4
        · exact .inr ⟨j, x, h1, h2, h3⟩


def m0 (x : Array Nat) : Sre.M :=
  { code := reCode, text := x, lim := x.size, start := 0, pc := 15, pos := 0, handed := 0, marks := #[], seen := ({} : Sre.Seen).add 14 }
theorem forSearch_eq (x : Array Nat) : Sre.forSearch reCode x 0 0 x.size false =
    if (decide (0 > x.size) || decide (x.size - 0 < 1)) = true then (m0 x).say false else ({ m0 x with lastStart := x.size } : Sre.M).attemptFrom 0 true := rfl

theorem forSearch_none (x : Array Nat) (h : ∀ j, j < x.size → ctl (x.getD j 0) = false) : ((Sre.forSearch reCode x 0 0 x.size false).runFor 4).outcome = some .failed := by
  rw [forSearch_eq]
  split
  · rfl
  · unfold Sre.M.attemptFrom
    have hf : ({ m0 x with lastStart := x.size } : Sre.M).hasFirstSet = true := rfl
    rw [hf]
    rcases admitted_spec { m0 x with lastStart := x.size } rfl rfl (x.size + 1 - 0) 0 ({ m0 x with lastStart := x.size } : Sre.M).seen (by show x.size < _; omega) with ⟨s', h1, _⟩ | ⟨j, s', h1, h2, h3⟩
    · show ((match ({ m0 x with lastStart := x.size } : Sre.M).admitted (x.size + 1 - 0) 0 ({ m0 x with lastStart := x.size } : Sre.M).seen with
        | .ok (some s, seen) => ({ m0 x with lastStart := x.size, mustAdvance := false, seen } : Sre.M).attemptAt s true
        | .ok (none, seen) => ({ m0 x with lastStart := x.size, seen } : Sre.M).say false
        | .error why => ({ m0 x with lastStart := x.size } : Sre.M).stick why).runFor 4).outcome = some .failed
      rw [h1]; rfl
    · exact absurd (h j h2) (by show ¬ ctl (x.getD j 0) = false; rw [show ctl (x.getD j 0) = true from h3]; simp)

theorem accepts_at (c : Nat) (seen : Sre.Seen) (h : ctl c = true) : ∃ seen', Sre.accepts reCode 15 c seen = .ok (true, seen') := by
  obtain ⟨s', e⟩ := inSet_at 17 (.inr rfl) c seen
  exact ⟨s', by rw [← h]; exact e⟩

theorem step_in (m : Sre.M) (h0 : m.outcome = none) (h1 : m.answer = none) (h2 : m.code = reCode) (h3 : m.pc = 15) (h4 : m.pos < m.lim) (h5 : ctl (m.text.getD m.pos 0) = true) :
    ∃ seen', m.step = { m with seen := seen', pc := 27, pos := m.pos + 1 } := by
  obtain ⟨code, text, lim, start, ls, wt, ma, pc, pos, handed, om, marks, lm, li, loops, inner, frames, weight, answer, seen, outcome⟩ := m
  dsimp only at h0 h1 h2 h3 h4 h5
  subst h0 h1 h2 h3
  obtain ⟨s', e⟩ := accepts_at (text.getD pos 0) (seen.add 13) h5
  refine ⟨s', ?_⟩
  show (if pos ≥ lim then _ else (match Sre.accepts reCode 15 (text.getD pos 0) (seen.add 13) with
    | .error why => _
    | .ok (false, seen) => _
    | .ok (true, seen) => _) : Sre.M) = _
  rw [if_neg (by omega), e]
  rfl

theorem forSearch_some (x : Array Nat) (h : ∃ j, j < x.size ∧ ctl (x.getD j 0) = true) : ((Sre.forSearch reCode x 0 0 x.size false).runFor 4).outcome = some .matched := by
  obtain ⟨j0, hj0, hc0⟩ := h
  rw [forSearch_eq]
  rw [if_neg (by rw [Bool.or_eq_true, decide_eq_true_eq, decide_eq_true_eq]; omega)]
  unfold Sre.M.attemptFrom
  have hf : ({ m0 x with lastStart := x.size } : Sre.M).hasFirstSet = true := rfl
  rw [hf]
  rcases admitted_spec { m0 x with lastStart := x.size } rfl rfl (x.size + 1 - 0) 0 ({ m0 x with lastStart := x.size } : Sre.M).seen (by show x.size < _; omega) with ⟨s', h1, h2⟩ | ⟨j, s', h1, h2, h3⟩
  · exact absurd (h2 j0 (Nat.zero_le _) hj0) (by show ¬ ctl (x.getD j0 0) = false; rw [hc0]; simp)
  · show ((match ({ m0 x with lastStart := x.size } : Sre.M).admitted (x.size + 1 - 0) 0 ({ m0 x with lastStart := x.size } : Sre.M).seen with
        | .ok (some s, seen) => ({ m0 x with lastStart := x.size, mustAdvance := false, seen } : Sre.M).attemptAt s true
        | .ok (none, seen) => ({ m0 x with lastStart := x.size, seen } : Sre.M).say false
        | .error why => ({ m0 x with lastStart := x.size } : Sre.M).stick why).runFor 4).outcome = some .matched
    rw [h1]
    show ((({ m0 x with lastStart := x.size, mustAdvance := false, seen := s' } : Sre.M).attemptAt j true).runFor 4).outcome = some .matched
    have e2 : ({ m0 x with lastStart := x.size, mustAdvance := false, seen := s' } : Sre.M).attemptAt j true =
      { m0 x with lastStart := x.size, mustAdvance := false, seen := s', start := j, pos := j, frames := [{ wait := .nextStart, pc := 15, pos := j, outermost := true }], weight := 1, pc := 15, handed := j, outermost := true } := rfl
    rw [e2]
    obtain ⟨s2, e3⟩ := step_in { m0 x with lastStart := x.size, mustAdvance := false, seen := s', start := j, pos := j, frames := [{ wait := .nextStart, pc := 15, pos := j, outermost := true }], weight := 1, pc := 15, handed := j, outermost := true } rfl rfl rfl rfl h2 h3
    show (Sre.M.runFor 3 (Sre.M.step { m0 x with lastStart := x.size, mustAdvance := false, seen := s', start := j, pos := j, frames := [{ wait := .nextStart, pc := 15, pos := j, outermost := true }], weight := 1, pc := 15, handed := j, outermost := true })).outcome = some .matched
    rw [e3]
    rfl


theorem slot_re_search : Slot "re.Pattern" "search" "re.Pattern.search" :=
  .of (owner := "re.Pattern") (n := "search") (by rw [typeLookup_type, builtinLookup_eq_fast]; kernel_rfl) (by decide +kernel) (by decide +kernel) (by decide +kernel)
    (by first | exact .inl (by decide +kernel) | exact .inr (by decide +kernel)) (by rw [isSubtype_type]; kernel_rfl)
theorem type_re_search : typeOf (.builtin "re.Pattern.search") = pure (.type "method_descriptor") := by show builtinType _ = _; rw [builtinType_eq_fast]; kernel_rfl
theorem entry_re_search : entryFor table "re.Pattern.search" = some Builtin.«re.Pattern.search» := entryFor_of_tree (by kernel_rfl)
theorem args_re_search (a b : Value) : argsOk "re.Pattern.search" ⟨[a, b], []⟩ := by unfold argsOk; kernel_rfl
theorem plainAttrs_re : PlainAttrs "re.Pattern" :=
  ⟨⟨"object.__getattribute__", by rw [typeLookup_type, builtinLookup_eq_fast]; kernel_rfl, by decide +kernel⟩, by rw [typeLookup_type, builtinLookup_eq_fast]; kernel_rfl⟩

section
variable {prog : Program} {w : World} {A : Around} {E : Value → Shared → Prop} {s : Shared}

theorem reRunToEnd_spec {m : Sre.M} {Q : Option Sre.M → Shared → Prop} (h : ((m.runFor 4).outcome = some .failed ∧ Q none s) ∨ ((m.runFor 4).outcome = some .matched ∧ Q (some (m.runFor 4)) s)) :
    wpAny (model prog w) A (reRunToEnd m) Q E s := by
  have hs : (m.runFor 4).outcome.isSome = true := by rcases h with h | h <;> rw [h.1] <;> rfl
  unfold reRunToEnd
  have e : reDrive (2 ^ 64) m = pure (m.runFor 4) := by
    show reDrive ((2 ^ 64 - 1) + 1) m = _
    unfold reDrive
    show (if ((m.runFor 4).outcome.isSome = true) then _ else _) = _
    rw [if_pos hs]; rfl
  rw [e]
  refine wpAny_bind (wpAny_pure ?_)
  refine wpAny_bind (wpAny_forIn_list _ (fun _ _ s' => s' = s) _ ?_ ?_ _ _ rfl)
  · rintro i rest b s' rfl
    split
    · exact wpAny_bind (wpAny_rule (wpAny_pure rfl))
    · exact wpAny_pure rfl
  · rintro b s' rfl
    rcases h with ⟨h1, h2⟩ | ⟨h1, h2⟩
    · rw [h1]; exact wpAny_pure h2
    · rw [h1]; exact wpAny_pure h2

/-- the pattern's object and its code's tuple -/
structure IsPat (h : Heap) (p T : Addr) : Prop where
  pat : ∃ a b, h.get? p = some { cls := .type "re.Pattern", data := .fields #[a, b, .int 0 0, .none, .none, .ref T, .int 0 0] }
  code : ∃ n, h.get? T = some { cls := .type "tuple", data := .seq reVals n }

theorem IsPat.keeps {h h' : Heap} {p T : Addr} (x : IsPat h p T) (k : ∀ b o, h.get? b = some o → h'.get? b = some o) : IsPat h' p T :=
  ⟨let ⟨a, b, e⟩ := x.pat; ⟨a, b, k _ _ e⟩, let ⟨n, e⟩ := x.code; ⟨n, k _ _ e⟩⟩

def hasCtl (x : Str) : Bool := x.cps.toList.any ctl

theorem reSearch {p T : Addr} {x : Str} {t : Tok} {Q : Value → Shared → Prop} (P : IsPat s.heap p T) (hx : x.length ≤ sizeLine) (hno : hasCtl x = false → Q .none s)
    (hyes : hasCtl x = true → ∀ a o1 o2, Q (.ref a) { s with heap := (s.heap.push o1).push o2 }) :
    wpAny (model prog w) A (call (.builtin "re.Pattern.search") [.ref p, .str x t]) Q E s := by
  obtain ⟨fa, fb, hp⟩ := P.pat
  obtain ⟨n, hT⟩ := P.code
  refine wpAny_call_entry slot_re_search ⟨_, hp, rfl⟩ entry_re_search ?_ (args_re_search _ _)
  unfold Builtin.«re.Pattern.search»
  have hn : reNamed "re.Pattern.search" "search" ["string", "pos", "endpos"] 1 [.str x t] [] = pure [some (.str x t), none, none] := by rfl
  have ht : reTarget "re.Pattern.search" "search" ⟨[.ref p, .str x t], []⟩ = (do
      let fs ← fieldsOf (.ref p)
      let want := reRawNat (fs.getD 6 .none)
      if want == 0 && (0 : Nat) == 1 then raiseError "TypeError" "cannot use a string pattern on a bytes-like object"
      if want == 1 && (0 : Nat) == 0 then raiseError "TypeError" "cannot use a bytes pattern on a string-like object"
      let code ← reRawItems (fs.getD 5 .none)
      pure ({ pattern := .ref p, string := .str x t, code := code.map (·.toNat), text := x.cps, kind := 0, groups := reRawNat (fs.getD 2 .none), pos := min 0 x.cps.size, lim := min (2 ^ 63 - 1 : Int).toNat x.cps.size } : ReTarget)) := by
    rfl
  have hsz : min (2 ^ 63 - 1 : Int).toNat x.cps.size = x.cps.size := by
    have : x.cps.size ≤ 2 ^ 24 := hx
    have h2 : (2 ^ 63 - 1 : Int).toNat = 9223372036854775807 := by decide
    rw [h2]; omega
  rw [hsz] at ht
  show wpAny (model prog w) A.in1 (reTarget "re.Pattern.search" "search" ⟨[.ref p, .str x t], []⟩ >>= fun t => reAnswer t (Sre.forSearch t.code t.text t.groups t.pos t.lim false)) _ _ s
  rw [ht]
  refine wpAny_bind (wpAny_bind (wpAny_fieldsOf hp rfl ?_))
  refine wpAny_bind (wpAny_bind ?_)
  refine wpAny_seqItems hT rfl ?_
  refine wpAny_pure (wpAny_pure ?_)
  have hcode : Array.map (fun x : Int => x.toNat) (Array.map reRawOf (Option.getD (some reVals) #[])) = reCode := by decide +kernel
  have hmin : min 0 x.cps.size = 0 := Nat.zero_min _
  show wpAny (model prog w) A.in1 (reAnswer ⟨.ref p, .str x t, Array.map (fun x : Int => x.toNat) (Array.map reRawOf (Option.getD (some reVals) #[])), x.cps, 0, 0, min 0 x.cps.size, x.cps.size⟩
    (Sre.forSearch (Array.map (fun x : Int => x.toNat) (Array.map reRawOf (Option.getD (some reVals) #[]))) x.cps 0 (min 0 x.cps.size) x.cps.size false)) _ _ s
  rw [hcode, hmin]
  unfold reAnswer
  refine wpAny_bind (reRunToEnd_spec ?_)
  have hget : ∀ j, j < x.cps.size → ctl (x.cps.getD j 0) = true → hasCtl x = true := by
    intro j hj hc
    unfold hasCtl
    rw [List.any_eq_true]
    refine ⟨x.cps.getD j 0, ?_, hc⟩
    rw [Array.getD_eq_getD_getElem?, Array.getElem?_eq_getElem hj]
    exact Array.mem_toList_iff.mpr (Array.getElem_mem hj)
  cases hcc : hasCtl x with
  | false =>
    refine .inl ⟨forSearch_none _ fun j hj => ?_, wpAny_pure ⟨_, rfl, hno hcc⟩⟩
    cases hq : ctl (x.cps.getD j 0) with
    | false => rfl
    | true => rw [hget j hj hq] at hcc; cases hcc
  | true =>
    have hex : ∃ j, j < x.cps.size ∧ ctl (x.cps.getD j 0) = true := by
      unfold hasCtl at hcc
      obtain ⟨c, hc, h2⟩ := List.any_eq_true.mp hcc
      obtain ⟨j, hj, e⟩ := Array.mem_iff_getElem.mp (Array.mem_toList_iff.mp hc)
      refine ⟨j, hj, ?_⟩
      rw [Array.getD_eq_getD_getElem?, Array.getElem?_eq_getElem hj]
      show ctl x.cps[j] = true
      rw [e]; exact h2
    refine .inr ⟨forSearch_some _ hex, ?_⟩
    refine wpAny_bind ?_
    unfold reNewMatch
    dsimp only [List.range, List.range.loop, List.flatMap_nil, List.any_nil]
    refine wpAny_bind (wpAny_newTuple ?_ ?_)
    · refine wpAny_newObj_type ?_ ?_
      · exact wpAny_pure ⟨_, rfl, hyes hcc _ _ _⟩
      · size_fits
    · show 2 ≤ sizeLine; decide
end
end Mine

end
section
open PySem PySem.W PyProof.Rows PySem.Calls PySem.Builtin PySem.Builtin.Re
set_option Elab.async false
set_option maxRecDepth 100000
set_option maxHeartbeats 1000000
namespace Mine

abbrev atop (dp un : Nat) (gd : Option (List Code)) (fr : List Env) : Around := { handled := none, depth := dp, frames := some fr, guards := gd, units := un }

/-- a call that changes nothing that stands -/
def PF (prog : Program) (w : World) (K : Frag) (p : Program) (loose : List Str) (mean : ExcName → Option Value) (mg mb : Str → Option Value) (d u : Nat) (f : Addr) (vs : List Value) (R : Value → Prop) : Prop :=
  ∀ (dp un : Nat) (gd : Option (List Code)) (fr : List Env) (base : Heap) (s : Shared) (Q E : Value → Shared → Prop),
    Below (atop dp un gd fr) base fr s.heap → K.In s.heap → Top p loose mean mg mb s.heap → dp + d < recursionLimit → un + u < cLine → 0 < s.toks →
    (∀ v h' tk', R v → s.heap.StaysIn h' → 0 < tk' → Q v { s with heap := h', toks := tk' }) →
    wpAny (model prog w) (atop dp un gd fr) (call (.ref f) vs) Q E s

/-- the end of such a call's body -/
def PEnd (g : Heap) (s : Shared) (R : Value → Prop) (v : Value) (s' : Shared) : Prop := ∃ h' tk', s' = { s with heap := h', toks := tk' } ∧ g.StaysIn h' ∧ 0 < tk' ∧ R v

theorem PEnd.mk {g : Heap} {s : Shared} {R : Value → Prop} {v : Value} {h' : Heap} {tk' : Nat} {L : Addr} {m : Str → Option Value} (F : Fr g L h' m) (ht : 0 < tk') (hR : R v) : PEnd g s R v { s with heap := h', toks := tk' } :=
  ⟨h', tk', rfl, F.keep, ht, hR⟩

section
variable {prog : Program} {w : World} {K : Frag} {p : Program} {loose : List Str} {mean : ExcName → Option Value} {mg mb : Str → Option Value} {d u : Nat} {f : Addr} {vs : List Value} {R : Value → Prop}

theorem PF.mono {R' : Value → Prop} {d' u' : Nat} (C : PF prog w K p loose mean mg mb d u f vs R) (hR : ∀ v, R v → R' v) (hd : d ≤ d') (hu : u ≤ u') : PF prog w K p loose mean mg mb d' u' f vs R' :=
  fun dp un gd fr base s Q E B X T h1 h2 h3 hq => C dp un gd fr base s Q E B X T (by omega) (by omega) h3 fun v h' tk' r k => hq v h' tk' (hR v r) k

theorem PF.enter {name qual : Str} {params : Arguments} {body : List Stmt} {scope : Scope} {dV kV doc pm cdv ct oc : Value} {an od : Option Addr} {osl : Array (Option Value)} {binds : List (Str × Value)}
    (ho : K.lookup f = some ⟨oc, od, .func (fnOf name qual params body scope dV kV doc pm an cdv ct), osl⟩) (hcd : codeIn K cdv qual = true)
    (hbind : bindArgs (fnOf name qual params body scope dV kV doc pm an cdv ct) ⟨vs, []⟩ = pure binds) (hloc : (binds.all fun x => decide (scope.names.lookup x.1 = some .local)) = true)
    (hcell : ∀ x ∈ scope.names, x.2 ≠ .cell) (hco : scope.isCoroutine = false) (hgen : scope.isGenerator = false) (hk : scope.kind = .function)
    (h : ∀ (dp un : Nat) (gd : Option (List Code)) (fr : List Env) (base g : Heap) (L : Addr) (h₁ : Heap) (s : Shared),
      Below (atop dp un gd fr) base fr g → K.In g → Top p loose mean mg mb g → Fr g L h₁ (fun y => binds.reverse.lookup y) → News g L h₁ [] → dp + d < recursionLimit → un + u < cLine → ∀ tk, 0 < tk →
      wpAny (model prog w) ((atop dp un gd fr).deeper (envOf qual scope L f cdv)) (execs body (envOf qual scope L f cdv))
        (fun fl s' => PEnd g s R (match fl with | .ret v => v | _ => .none) s') (fun _ _ => False) { s with heap := h₁, toks := tk })
    (hd : 0 < d) : PF prog w K p loose mean mg mb d u f vs R := by
  intro dp un gd fr base s Q E B X T h1 h2 h3 hq
  refine wpAny_call (codeAny_call_def (fd := fnOf name qual params body scope dV kV doc pm an cdv ct) (body := body) (binds := binds) (by show dp < _; omega) (X _ _ ho) rfl T.nolimit (codeRec_of X hcd) rfl (BindsTo.of_eq hbind) hcell (locs hloc) (fun h₁ hns hk₁ => ?_) hco hgen hk)
  refine wpAny_mono (h dp un gd fr base s.heap s.heap.objs.size h₁ s B X T ⟨hns, hk₁, Nat.le_refl _⟩ News.nil h1 h2 _ (Nat.lt_of_lt_of_le h3 (Nat.le_add_right _ _))) (fun fl s' hp => ?_) fun _ _ y => y.elim
  obtain ⟨h', tk', e, hst, ht, hR⟩ := hp
  subst e
  exact hq _ h' tk' hR hst ht

/-- a call of a contract's def out of a def's frame -/
theorem PF.call {dp un : Nat} {gd : Option (List Code)} {fr : List Env} {base g : Heap} {L a : Addr} {m : Str → Option Value} {news : List (Addr × Obj)} {name : Str} {scope : Scope} {cd : Value} {s : Shared} {Q E : Value → Shared → Prop}
    (C : PF prog w K p loose mean mg mb d u f vs R) (B : Below (atop dp un gd fr) base fr g) (X : K.In g) (T : Top p loose mean mg mb g) (F : Fr g L s.heap m) (N : News g L s.heap news)
    (hd : dp + 1 + d < recursionLimit) (hu : un + 3 + u < cLine) (ht : 0 < s.toks)
    (h : ∀ v h' tk', R v → Fr g L h' m → News g L h' news → 0 < tk' → Q v { s with heap := h', toks := tk' }) (hk : scope.kind = .function := by rfl) :
    wpAny (model prog w) ((atop dp un gd fr).deeper (envOf name scope L a cd)) (call (.ref f) vs) Q E s :=
  C (dp + 1) (un + 3) gd (envOf name scope L a cd :: fr) base s Q E (B.push F hk) (X.keeps F.keep) (T.keeps F.keep) hd hu ht fun v h' tk' r k =>
    h v h' tk' r (F.keeps k) fun q hq => ⟨k _ _ (N q hq).1, (N q hq).2⟩
end

theorem gen_toks {α : Type} {M : Model} {A : Around} {t : Sem α} {Q : α → Shared → Prop} {E : Value → Shared → Prop} {h : Heap} {g : Array GenState} {d : Drawn} {o : OsState} {n : Nat} (h0 : 0 < n) (k : ∀ tk, 0 < tk → wpAny M A t Q E ⟨h, g, d, tk, o⟩) :
    wpAny M A t Q E ⟨h, g, d, n, o⟩ := k n h0

theorem getMethod_search {M : Model} {A : Around} {E : Value → Shared → Prop} {s : Shared} {p T : Addr} {pl : Sem Bool} {Q : Value × List Value → Shared → Prop} (P : IsPat s.heap p T)
   (h : Q (.builtin "re.Pattern.search", [.ref p]) s) : wpAny M A (getMethod (.ref p) "search" pl) Q E s := by
  obtain ⟨a, b, e⟩ := P.pat
  exact getMethod_builtin ⟨_, e, rfl⟩ plainAttrs_re slot_re_search type_re_search (fun x hx => by cases hx; exact ⟨_, e, rfl⟩) h

section
open Builtin.Str
variable {prog : Program} {w : World} {A : Around} {E : Value → Shared → Prop} {s : Shared} {x y z : Str} {t u v : Tok} {Q : Value → Shared → Prop}
/-- str.replace, with what is known of the token -/
theorem replaceT (hu : 0 < u) (hv : 0 < v) (huv : u ≠ v) (hyz : (y == z) = false) (hb : x.length + (x.length + 1) * z.length ≤ 16777216) (hs : 0 < s.toks)
    (hq : ∀ t' k, 0 < k → Q (.str (Txt.replace x y z) t') { s with toks := k }) : wpAny (model prog w) A (call (.builtin "str.replace") [.str x t, .str y u, .str z v]) Q E s := by
  have hl : tooLong (x.length + (occurrences x y 0 x.length (x.length + 1)).length * z.length) = false := by
    have h1 := StrLaws.occ_length_le x y 0 x.length (x.length + 1)
    have h2 : (occurrences x y 0 x.length (x.length + 1)).length * z.length ≤ (x.length + 1) * z.length := Nat.mul_le_mul_right _ h1
    unfold tooLong sizeLine
    exact decide_eq_false (by omega)
  have hu' : u ≠ 0 := Nat.ne_of_gt hu
  have hv' : v ≠ 0 := Nat.ne_of_gt hv
  refine call_gives F.slot_str_replace (typeIs_str _ _ _) F.entry_str_replace (F.args_str_replace_3 _ _ _)
    (gives_str_replace x y z t u v fun _ => ⟨by simp [hu', hv'], by simp [huv], hyz, hl⟩) ?_
  have hq' := hq
  unfold Txt.replace at hq'
  cases hc : ((occurrences x y 0 x.length (x.length + 1)).isEmpty || (y.length == 0 && z.length == 0))
  · rw [hc] at hq'
    simp only [Bool.false_eq_true, if_false] at hq' ⊢
    exact ⟨fits_replaced y hb, hq' _ _ (Nat.succ_pos _)⟩
  · rw [hc] at hq'
    simp only [if_true] at hq' ⊢
    exact hq' t s.toks hs
end
end Mine

end
section
open PySem PySem.W PyProof.Rows PySem.Calls PySem.Builtin PySem.Builtin.Re
set_option Elab.async false
set_option maxRecDepth 100000
set_option maxHeartbeats 1000000
namespace Mine
open StrLaws Builtin.Str

/-- replace, sign by sign; the number says how many signs are still to be passed over -/
def replGo (y z : List Nat) : Nat → List Nat → List Nat
  | _, [] => []
  | k + 1, _ :: r => replGo y z k r
  | 0, c :: r => if y.isPrefixOf (c :: r) then z ++ replGo y z (y.length - 1) r else c :: replGo y z 0 r

theorem replGo_nil (y z : List Nat) (k : Nat) : replGo y z k [] = [] := by cases k <;> rfl
theorem replGo_skip (y z : List Nat) : ∀ (k : Nat) (l : List Nat), replGo y z k l = replGo y z 0 (l.drop k)
  | 0, l => by simp
  | k + 1, [] => by simp [replGo_nil]
  | k + 1, _ :: r => by rw [List.drop_succ_cons]; exact replGo_skip y z k r
theorem replGo_none (y z : List Nat) : ∀ l : List Nat, (∀ k, y.isPrefixOf (l.drop k) = false ∨ l.length ≤ k) → replGo y z 0 l = l
  | [], _ => rfl
  | c :: r, h => by
    have h0 := (h 0).resolve_right (by simp)
    rw [List.drop_zero] at h0
    unfold replGo
    rw [h0, if_neg Bool.false_ne_true, replGo_none y z r fun k => (h (k + 1)).imp (fun e => by simpa using e) fun e => by simpa using e]
theorem replGo_at (y z : List Nat) (hy : 1 ≤ y.length) : ∀ (c : Nat) (l : List Nat), c + y.length ≤ l.length → (∀ k, k < c → y.isPrefixOf (l.drop k) = false) → y.isPrefixOf (l.drop c) = true →
    replGo y z 0 l = l.take c ++ z ++ replGo y z 0 (l.drop (c + y.length))
  | 0, [], hl, _, _ => by have : (0 : Nat) + y.length ≤ 0 := hl; omega
  | 0, a :: r, _, _, h => by
    rw [List.drop_zero] at h
    rw [replGo, h, if_pos rfl, replGo_skip]
    obtain ⟨n, hn⟩ : ∃ n, y.length = n + 1 := ⟨y.length - 1, by omega⟩
    rw [hn]
    have e1 : n + 1 - 1 = n := rfl
    have e2 : 0 + (n + 1) = n + 1 := by omega
    rw [e1, e2, List.drop_succ_cons, List.take_zero, List.nil_append]
  | c + 1, [], hl, _, _ => by simp at hl
  | c + 1, a :: r, hl, hn, h => by
    have h0 := hn 0 (by omega)
    rw [List.drop_zero] at h0
    have hl' : c + y.length ≤ r.length := by simp at hl; omega
    rw [replGo, h0, if_neg Bool.false_ne_true, replGo_at y z hy c r hl' (fun k hk => by simpa using hn (k + 1) (by omega)) (by simpa using h)]
    have e : c + 1 + y.length = (c + y.length) + 1 := by omega
    rw [e]; simp

theorem at_iff (x y : Str) (hw : 1 ≤ y.length) (i : Nat) : At x y x.length i ↔ y.cps.toList.isPrefixOf (x.cps.toList.drop i) = true := by
  unfold At
  rw [subAt_eq, beq_iff_eq, List.isPrefixOf_iff_prefix]
  have hyl : y.cps.toList.length = y.length := by simp [Str.length]
  have hxl : x.cps.toList.length = x.length := by simp [Str.length]
  constructor
  · rintro ⟨_, h2⟩
    rw [← h2]; exact List.take_prefix _ _
  · intro h
    have hlen := h.length_le
    rw [List.length_drop, hyl, hxl] at hlen
    refine ⟨by omega, ?_⟩
    have := List.prefix_iff_eq_take.mp h
    rw [hyl] at this
    exact this.symm

theorem replace_toList (x y z : Str) (hw : 1 ≤ y.length) : (Txt.replace x y z).cps.toList = replGo y.cps.toList z.cps.toList 0 x.cps.toList := by
  obtain ⟨f, hch, hno⟩ := occ_tight x y hw
  have hyl : y.cps.toList.length = y.length := by simp [Str.length]
  have hxl : x.cps.toList.length = x.length := by simp [Str.length]
  have key : ∀ (cuts : List Nat) (a : Nat), ChainG x y x.length a cuts f → (Str.join z (partsFrom x y.length a cuts)).cps.toList = replGo y.cps.toList z.cps.toList 0 (x.cps.toList.drop a) := by
    intro cuts
    induction cuts with
    | nil =>
      intro a h
      have e : f = a := h
      subst e
      show (strSub x f x.length).cps.toList = _
      rw [strSub_toList, replGo_none]
      · rw [List.take_of_length_le]; rw [List.length_drop, hxl]; exact Nat.le_refl _
      · intro k
        left
        have := hno (f + k) (by omega)
        rw [at_iff x y hw] at this
        rw [List.drop_drop]
        exact Bool.eq_false_iff.mpr this
    | cons c r ih =>
      intro a h
      obtain ⟨h1, h2, h3, h4⟩ := h
      have ih' := ih _ h4
      have hj : Str.join z (partsFrom x y.length a (c :: r)) = strSub x a c ++ z ++ Str.join z (partsFrom x y.length (c + y.length) r) := by
        show Str.join z (strSub x a c :: partsFrom x y.length (c + y.length) r) = _
        obtain ⟨p, q, e⟩ := partsFrom_ne x y.length (c + y.length) r
        rw [e]; rfl
      rw [hj]
      simp only [Str.cps_append, Array.toList_append]
      rw [ih', strSub_toList]
      have hin : c + y.length ≤ x.length := h2.1
      rw [replGo_at y.cps.toList z.cps.toList (by rw [hyl]; exact hw) (c - a) (x.cps.toList.drop a)]
      · rw [List.drop_drop, hyl]
        have e : a + (c - a + y.length) = c + y.length := by omega
        rw [e]
      · rw [List.length_drop, hyl, hxl]; omega
      · intro k hk
        have := h3 (a + k) (by omega) (by omega)
        rw [at_iff x y hw] at this
        rw [List.drop_drop]
        exact Bool.eq_false_iff.mpr this
      · rw [List.drop_drop]
        have e : a + (c - a) = c := by omega
        rw [e]; exact (at_iff x y hw c).mp h2
  unfold Txt.replace
  have h10 : (y.length == 0) = false := by
    cases hh : (y.length == 0) with
    | false => rfl
    | true => have := beq_iff_eq.mp hh; omega
  rw [h10, Bool.false_and, Bool.or_false]
  cases he : (occurrences x y 0 x.length (x.length + 1)).isEmpty
  · rw [if_neg Bool.false_ne_true, glued_eq_join, partsBetween_eq]
    have := key _ 0 hch
    rwa [List.drop_zero] at this
  · rw [if_pos rfl]
    have he' : occurrences x y 0 x.length (x.length + 1) = [] := List.isEmpty_iff.mp he
    rw [he'] at hch
    have := key [] 0 hch
    rw [List.drop_zero] at this
    rw [← this]
    show x.cps.toList = (strSub x 0 x.length).cps.toList
    rw [sub_whole]

theorem replGo_one (c : Nat) (z : List Nat) : ∀ l : List Nat, replGo [c] z 0 l = l.flatMap fun k => if k = c then z else [k]
  | [] => rfl
  | a :: r => by
    rw [replGo, List.flatMap_cons]
    have e : List.isPrefixOf [c] (a :: r) = decide (a = c) := by
      simp [List.isPrefixOf]
      by_cases h : a = c
      · simp [h]
      · simp [h]; exact fun e => h e.symm
    rw [e]
    by_cases h : a = c
    · simp only [h, decide_true, if_true]
      show z ++ replGo [c] z 0 r = _
      rw [replGo_one c z r]
    · simp only [h, decide_false, if_false, Bool.false_eq_true]
      rw [replGo_one c z r]; rfl

/-- CR LF as LF -/
def crlf : List Nat → List Nat
  | [] => []
  | 13 :: 10 :: r => 10 :: crlf r
  | c :: r => c :: crlf r

def escC (k : Nat) : List Nat := if k = 13 then [10] else if k = 38 then [38, 97, 109, 112, 59] else if k = 60 then [38, 108, 116, 59] else if k = 62 then [38, 103, 116, 59] else [k]
def escL (l : List Nat) : List Nat := (crlf l).flatMap escC
def escS (x : Str) : Str := ⟨(escL x.cps.toList).toArray⟩

theorem crlf_eq : ∀ l : List Nat, replGo [13, 10] [10] 0 l = crlf l
  | [] => rfl
  | [a] => by unfold replGo; simp [List.isPrefixOf, replGo]; unfold crlf; simp [crlf]
  | a :: b :: r => by
    unfold replGo
    by_cases h : a = 13 ∧ b = 10
    · obtain ⟨rfl, rfl⟩ := h
      have e : List.isPrefixOf [13, 10] (13 :: 10 :: r) = true := by simp [List.isPrefixOf]
      rw [e, if_pos rfl]
      show 10 :: replGo [13, 10] [10] 1 (10 :: r) = 10 :: crlf r
      rw [replGo_skip]
      show 10 :: replGo [13, 10] [10] 0 r = _
      rw [crlf_eq r]
    · have e : List.isPrefixOf [13, 10] (a :: b :: r) = false := by
        simp [List.isPrefixOf]
        intro h1 h2
        exact h ⟨h1.symm, h2.symm⟩
      rw [e, if_neg Bool.false_ne_true, crlf_eq (b :: r)]
      symm
      apply crlf.eq_3
      intro r' h1 h2
      apply h
      simp at h2
      exact ⟨h1, h2.1⟩

theorem escS_eq (x : Str) : Txt.replace (Txt.replace (Txt.replace (Txt.replace (Txt.replace x ⟨#[13, 10]⟩ ⟨#[10]⟩) ⟨#[13]⟩ ⟨#[10]⟩) ⟨#[38]⟩ ⟨#[38, 97, 109, 112, 59]⟩) ⟨#[60]⟩ ⟨#[38, 108, 116, 59]⟩) ⟨#[62]⟩ ⟨#[38, 103, 116, 59]⟩ = escS x := by
  refine Str.ext' ?_
  apply Array.ext'
  rw [replace_toList _ _ _ (by decide), replace_toList _ _ _ (by decide), replace_toList _ _ _ (by decide), replace_toList _ _ _ (by decide), replace_toList _ _ _ (by decide)]
  show replGo [62] [38, 103, 116, 59] 0 (replGo [60] [38, 108, 116, 59] 0 (replGo [38] [38, 97, 109, 112, 59] 0 (replGo [13] [10] 0 (replGo [13, 10] [10] 0 x.cps.toList)))) = (escL x.cps.toList).toArray.toList
  rw [crlf_eq, replGo_one, replGo_one, replGo_one, replGo_one, List.flatMap_assoc, List.flatMap_assoc, List.flatMap_assoc]
  show _ = escL x.cps.toList
  unfold escL
  congr 1
  funext k
  unfold escC
  by_cases h1 : k = 13
  · subst h1; decide
  by_cases h2 : k = 38
  · subst h2; decide
  by_cases h3 : k = 60
  · subst h3; decide
  by_cases h4 : k = 62
  · subst h4; decide
  simp [h1, h2, h3, h4]
theorem lit_crlf : Str.ofString "\u000d\n" = ⟨#[13, 10]⟩ := by decide
theorem lit_cr : Str.ofString "\u000d" = ⟨#[13]⟩ := by decide
theorem lit_lf : Str.ofString "\n" = ⟨#[10]⟩ := by decide
theorem lit_am : Str.ofString "&" = ⟨#[38]⟩ := by decide
theorem lit_amp : Str.ofString "&amp;" = ⟨#[38, 97, 109, 112, 59]⟩ := by decide
theorem lit_l : Str.ofString "<" = ⟨#[60]⟩ := by decide
theorem lit_lt : Str.ofString "&lt;" = ⟨#[38, 108, 116, 59]⟩ := by decide
theorem lit_g : Str.ofString ">" = ⟨#[62]⟩ := by decide
theorem lit_gt : Str.ofString "&gt;" = ⟨#[38, 103, 116, 59]⟩ := by decide

abbrev es1 (x : Str) : Str := Txt.replace x (Str.ofString "\u000d\n") (Str.ofString "\n")
abbrev es2 (x : Str) : Str := Txt.replace (es1 x) (Str.ofString "\u000d") (Str.ofString "\n")
abbrev es3 (x : Str) : Str := Txt.replace (es2 x) (Str.ofString "&") (Str.ofString "&amp;")
abbrev es4 (x : Str) : Str := Txt.replace (es3 x) (Str.ofString "<") (Str.ofString "&lt;")
abbrev es5 (x : Str) : Str := Txt.replace (es4 x) (Str.ofString ">") (Str.ofString "&gt;")

theorem es5_eq (x : Str) : es5 x = escS x := by
  unfold es5 es4 es3 es2 es1
  rw [lit_crlf, lit_cr, lit_lf, lit_am, lit_amp, lit_l, lit_lt, lit_g, lit_gt]
  exact escS_eq x

theorem flatMap_len {f : Nat → List Nat} {n : Nat} (hf : ∀ k, (f k).length ≤ n) : ∀ l : List Nat, (l.flatMap f).length ≤ n * l.length
  | [] => by simp
  | a :: r => by
    have h1 := flatMap_len hf r
    have h2 := hf a
    rw [List.flatMap_cons, List.length_append, List.length_cons, Nat.mul_add, Nat.mul_one]
    omega

theorem crlf_len : ∀ l : List Nat, (crlf l).length ≤ l.length
  | [] => Nat.le_refl _
  | [a] => by unfold crlf; split <;> simp_all [crlf]
  | a :: b :: r => by
    have h1 := crlf_len r
    have h2 := crlf_len (b :: r)
    unfold crlf
    split
    · simp
    · rename_i e; simp at e; obtain ⟨_, _, rfl⟩ := e; simp; omega
    · rename_i e; simp at e; obtain ⟨_, rfl⟩ := e; simp at h2 ⊢; omega

theorem str_len (x : Str) : x.length = x.cps.toList.length := by simp [Str.length]

theorem escC_len (k : Nat) : (escC k).length ≤ 5 := by unfold escC; (repeat' split) <;> simp
theorem escL_len (l : List Nat) : (escL l).length ≤ 5 * l.length := by
  have h1 := flatMap_len escC_len (crlf l)
  have h2 := crlf_len l
  unfold escL; omega
theorem replGo_len (y z : List Nat) (c : Nat) (hc : 1 ≤ c) (hz : z.length ≤ c) : ∀ (k : Nat) (l : List Nat), (replGo y z k l).length ≤ c * l.length
  | _, [] => by rw [replGo_nil]; simp
  | k + 1, _ :: r => by
    have := replGo_len y z c hc hz k r
    rw [replGo, List.length_cons, Nat.mul_add]; omega
  | 0, a :: r => by
    have h1 := replGo_len y z c hc hz (y.length - 1) r
    have h2 := replGo_len y z c hc hz 0 r
    rw [replGo, List.length_cons, Nat.mul_add]
    split
    · rw [List.length_append]; omega
    · rw [List.length_cons]; omega

theorem replace_len (x y z : Str) (c : Nat) (hy : 1 ≤ y.length) (hc : 1 ≤ c) (hz : z.length ≤ c) : (Txt.replace x y z).length ≤ c * x.length := by
  rw [str_len, str_len x, replace_toList x y z hy]
  exact replGo_len _ _ c hc (by rw [← str_len]; exact hz) 0 _

section
variable {prog : Program} {w : World} {A : Around} {E : Value → Shared → Prop} {s : Shared} {x y z : Str} {t u v : Tok} {Q : Value → Shared → Prop}
/-- the same, its text a letter -/
theorem replaceE (c B : Nat) (hu : 0 < u) (hv : 0 < v) (huv : u ≠ v) (hs : 0 < s.toks) (hx : x.length ≤ B) (hy : 1 ≤ y.length) (hc : 1 ≤ c) (hz : z.length ≤ c) (hB : B + (B + 1) * c ≤ 16777216) (hyz : (y == z) = false)
    (hq : ∀ r t' k, r = Txt.replace x y z → r.length ≤ c * B → 0 < k → Q (.str r t') { s with toks := k }) : wpAny (model prog w) A (call (.builtin "str.replace") [.str x t, .str y u, .str z v]) Q E s := by
  refine replaceT hu hv huv hyz ?_ hs fun t' k => hq _ t' k rfl ?_
  · have h1 : (x.length + 1) * z.length ≤ (B + 1) * c := Nat.mul_le_mul (by omega) hz
    omega
  · exact Nat.le_trans (replace_len x y z c hy hc hz) (Nat.mul_le_mul_left _ hx)
end
end Mine

end
section
open PySem PySem.W PyProof.Rows PySem.Calls
set_option Elab.async false
set_option maxRecDepth 100000
set_option maxHeartbeats 1000000
namespace Mine

theorem runs_toks {M : Model} {Γ : Ctx} {p : Pos} {t : Sem Fin} {fs : List Frame} {s : Shared} {e : End} {s' : Shared} (h : Runs M Γ p t fs s e s') : s.toks ≤ s'.toks := by
  induction h <;> first
    | exact Nat.le_refl _
    | assumption
    | (simp only [Shared.setGen] at *; omega)
    | omega

theorem wp_toks {α : Type} (M : Model) (Γ : Ctx) (t : Sem α) : ∀ (Q : α → Pos → Shared → Prop) (E : Value → Pos → Shared → Prop) (p : Pos) (s : Shared), Sem.wp M Γ t Q E p s →
    Sem.wp M Γ t (fun a p' s' => Q a p' s' ∧ s.toks ≤ s'.toks) (fun e p' s' => E e p' s' ∧ s.toks ≤ s'.toks) p s := by
  induction t with
  | pure a => intro Q E p s h; unfold Sem.wp at h ⊢; exact ⟨h, Nat.le_refl _⟩
  | raise e => intro Q E p s h; unfold Sem.wp at h ⊢; exact ⟨h, Nat.le_refl _⟩
  | unsupported w => intro Q E p s h; unfold Sem.wp at h ⊢; exact h
  | finish w => intro Q E p s h; unfold Sem.wp at h ⊢; exact h
  | rule t k ih => intro Q E p s h; unfold Sem.wp at h ⊢; exact ih _ _ _ _ _ h
  | «at» t k ih => intro Q E p s h; unfold Sem.wp at h ⊢; exact ih _ _ _ _ _ h
  | load a q k ih => intro Q E p s h; unfold Sem.wp at h ⊢; obtain ⟨o, h1, h2⟩ := h; exact ⟨o, h1, ih _ _ _ _ _ h2⟩
  | update a q f k ih => intro Q E p s h; unfold Sem.wp at h ⊢; exact ⟨h.1, ih _ _ _ _ _ h.2⟩
  | alloc o k ih => intro Q E p s h; unfold Sem.wp at h ⊢; exact ih _ _ _ _ _ h
  | loadIfAlive a k ih => intro Q E p s h; unfold Sem.wp at h ⊢; exact ih _ _ _ _ _ h
  | point l k ih => intro Q E p s h; unfold Sem.wp at h ⊢; exact ih _ _ _ _ _ h
  | register a k ih => intro Q E p s h; unfold Sem.wp at h ⊢; exact h
  | fresh k ih =>
    intro Q E p s h; unfold Sem.wp at h ⊢
    exact Sem.wp_mono M Γ _ (fun a p' s' h' => ⟨h'.1, Nat.le_trans (Nat.le_succ _) h'.2⟩) (fun a p' s' h' => ⟨h'.1, Nat.le_trans (Nat.le_succ _) h'.2⟩) _ _ (ih _ _ _ _ _ h)
  | ask k ih => intro Q E p s h; unfold Sem.wp at h ⊢; exact ih _ _ _ _ _ h
  | choose src n k ih => intro Q E p s h; unfold Sem.wp at h ⊢; exact ⟨h.1, ih _ _ _ _ _ h.2⟩
  | os q l k ih => intro Q E p s h; unfold Sem.wp at h ⊢; exact ih _ _ _ _ _ h
  | call c hd g l k ih =>
    intro Q E p s h; unfold Sem.wp at h ⊢
    obtain ⟨r, s₁, h1, h2⟩ := h
    have hle := runs_toks h1
    exact ⟨r, s₁, h1, Sem.wp_mono M Γ _ (fun a p' s' h' => ⟨h'.1, Nat.le_trans hle h'.2⟩) (fun a p' s' h' => ⟨h'.1, Nat.le_trans hle h'.2⟩) _ _ (ih _ _ _ _ _ h2)⟩
  | handled own k ih => intro Q E p s h; unfold Sem.wp at h ⊢; exact ih _ _ _ _ _ h
  | newGen c k ih => intro Q E p s h; unfold Sem.wp at h ⊢; exact ih _ _ _ _ _ h
  | genState g k ih => intro Q E p s h; unfold Sem.wp at h ⊢; obtain ⟨o, h1, h2⟩ := h; exact ⟨o, h1, ih _ _ _ _ _ h2⟩
  | resume g r l k ih =>
    intro Q E p s h; unfold Sem.wp at h ⊢
    obtain ⟨r', s₁, h1, h2⟩ := h
    have hle : s.toks ≤ s₁.toks := by
      unfold Wakes at h1
      split at h1
      · exact h1.elim
      · split at h1
        · obtain ⟨e1, s2, h3, _, _, rfl⟩ := h1
          have := runs_toks h3
          simp only [Shared.setGen] at *; exact this
        · obtain ⟨_, rfl⟩ := h1; exact Nat.le_refl _
        · obtain ⟨_, rfl⟩ := h1; simp only [Shared.setGen]; exact Nat.le_refl _
      all_goals first
        | (obtain ⟨e1, s2, h3, _, _, rfl⟩ := h1
           have := runs_toks h3
           simp only [Shared.setGen] at *; exact this)
        | (obtain ⟨_, rfl⟩ := h1; first | exact Nat.le_refl _ | (simp only [Shared.setGen]; exact Nat.le_refl _))
    exact ⟨r', s₁, h1, Sem.wp_mono M Γ _ (fun a p' s' h' => ⟨h'.1, Nat.le_trans hle h'.2⟩) (fun a p' s' h' => ⟨h'.1, Nat.le_trans hle h'.2⟩) _ _ (ih _ _ _ _ _ h2)⟩
  | yield v g l k ih => intro Q E p s h; unfold Sem.wp at h ⊢; exact h
  | stack k ih => intro Q E p s h; unfold Sem.wp at h ⊢; exact ih _ _ _ _ _ h
  | fork c k ih => intro Q E p s h; unfold Sem.wp at h ⊢; exact h
  | thread k ih => intro Q E p s h; unfold Sem.wp at h ⊢; exact ih _ _ _ _ _ h
  | await a t d l k ih => intro Q E p s h; unfold Sem.wp at h ⊢; exact h

/-- tokens never fall -/
theorem wpAny_toks {α : Type} {M : Model} {A : Around} {t : Sem α} {Q : α → Shared → Prop} {E : Value → Shared → Prop} {s : Shared} (h : wpAny M A t Q E s) :
    wpAny M A t (fun a s' => Q a s' ∧ s.toks ≤ s'.toks) (fun e s' => E e s' ∧ s.toks ≤ s'.toks) s := fun Γ p hΓ => wp_toks M Γ t _ _ p s (h Γ p hΓ)

theorem wpAny_pos {α : Type} {M : Model} {A : Around} {t : Sem α} {Q : α → Shared → Prop} {E : Value → Shared → Prop} {s : Shared} (h0 : 0 < s.toks) (h : wpAny M A t (fun a s' => 0 < s'.toks → Q a s') (fun e s' => 0 < s'.toks → E e s') s) :
    wpAny M A t Q E s := wpAny_mono (wpAny_toks h) (fun _ _ h' => h'.1 (Nat.lt_of_lt_of_le h0 h'.2)) fun _ _ h' => h'.1 (Nat.lt_of_lt_of_le h0 h'.2)
end Mine

end
section
open PySem PySem.W PyProof.Rows PySem.Calls
set_option Elab.async false
set_option maxRecDepth 100000
set_option maxHeartbeats 1000000
namespace Mine

/-- a mark at which the walk stands still -/
def Halt (P : Prop) : Prop := P
theorem halt {P : Prop} (h : Halt P) : P := h
theorem go_on {P : Prop} (h : P) : Halt P := h

abbrev NoE : Value → Shared → Prop := fun _ _ => False

/-- the locals of a loop: those named, those forgotten, the rest -/
abbrev locs4 (m₀ u : Str → Option Value) (stored : List Str) (ps : List (Str × Value)) : Str → Option Value := kstB (fun z => if stored.contains z then u z else m₀ z) ps

def AllNe (I : Addr) : List (Addr × Obj) → Prop
  | [] => True
  | p :: r => @Ne Nat p.1 I ∧ AllNe I r
theorem allNe_iff {I : Addr} : ∀ {l : List (Addr × Obj)}, AllNe I l ↔ ∀ p ∈ l, p.1 ≠ I
  | [] => by simp [AllNe]
  | p :: r => by unfold AllNe; rw [allNe_iff, List.forall_mem_cons]

section
variable {prog : Program} {w : World} {A : Around} {s : Shared} {env : Env} {h₀ : Heap} {x : Str} {px : Pos} {body : List Stmt} {Q : Flow → Shared → Prop}

/-- behind a turn -/
def SEnd {σ : Type} (h₀ : Heap) (L : Addr) (Led : σ → List (Addr × Obj)) (ps : σ → List (Str × Value)) (nm : Str → Prop) (stored : List Str) (m₀ : Str → Option Value) (own : List (Addr × Obj)) (P : σ → Prop) (s s₂ : Shared) : Prop :=
  ∃ c' h' tk' m', s₂ = { s with heap := h', toks := tk' } ∧ Fr h₀ L h' m' ∧ News h₀ L h' (own ++ Led c') ∧ (∀ q ∈ own, AllNe q.1 (Led c')) ∧ (∀ p ∈ ps c', m' p.1 = some p.2) ∧ (∀ z, ¬ nm z → (∀ p ∈ ps c', z ≠ p.1) → stored.contains z = false → m' z = m₀ z) ∧ P c'

def SPost {σ : Type} (h₀ : Heap) (L : Addr) (Led : σ → List (Addr × Obj)) (ps : σ → List (Str × Value)) (nm : Str → Prop) (stored : List Str) (m₀ : Str → Option Value) (own : List (Addr × Obj)) (P : σ → Prop) (s : Shared) (Q : Flow → Shared → Prop) (f : Flow) (s₂ : Shared) : Prop :=
  match f with
  | .ret v => Q (.ret v) s₂
  | .brk => Q .next s₂
  | _ => SEnd h₀ L Led ps nm stored m₀ own P s s₂

theorem SEnd.mk {σ : Type} {L : Addr} {Led : σ → List (Addr × Obj)} {ps : σ → List (Str × Value)} {nm : Str → Prop} {stored : List Str} {m₀ : Str → Option Value} {own : List (Addr × Obj)} {P : σ → Prop} {s : Shared} (c' : σ) {h' : Heap} {tk' : Nat} {m' : Str → Option Value} {news : List (Addr × Obj)}
    (F : Fr h₀ L h' m') (N : News h₀ L h' news) (hs : ∀ p ∈ own ++ Led c', p ∈ news) (hne : ∀ q ∈ own, AllNe q.1 (Led c')) (hk : ∀ p ∈ ps c', m' p.1 = some p.2) (hr : ∀ z, ¬ nm z → (∀ p ∈ ps c', z ≠ p.1) → stored.contains z = false → m' z = m₀ z) (hP : P c') :
    SEnd h₀ L Led ps nm stored m₀ own P s { s with heap := h', toks := tk' } := ⟨c', h', tk', m', rfl, F, kst_newsOf N hs, hne, hk, hr, hP⟩

theorem locs_eq {nm : Str → Prop} {ps : List (Str × Value)} {stored : List Str} {m₀ m₁ : Str → Option Value} (h1 : ∀ p ∈ ps, m₁ p.1 = some p.2) (h2 : ∀ z, ¬ nm z → (∀ p ∈ ps, z ≠ p.1) → stored.contains z = false → m₁ z = m₀ z) {y : Str} (hy : ¬ nm y) :
    locs4 m₀ m₁ stored ps y = m₁ y := by
  refine kstB_eq h1 fun hn => ?_
  show (if stored.contains y = true then m₁ y else m₀ y) = m₁ y
  cases h3 : stored.contains y with
  | true => simp
  | false => simp only [Bool.false_eq_true, if_false]; exact (h2 y hy hn h3).symm

/-- a for loop over what walks by an iterator of its own; the ledger may grow -/
theorem sloop {σ : Type} {I : Addr} {fp : List Addr} {n : Nat} {Pv : Nat → Value → Prop} {St : Nat → Heap → Prop} {m₀ : Str → Option Value} (Led : σ → List (Addr × Obj)) (ps : σ → List (Str × Value)) (stored : List Str) (P : Nat → σ → Prop) (c₀ : σ)
    (W : Walks prog w A I fp [I] n Pv St) (hx : env.kindOf x = some .local) (hp : (env.scope.kind == .class || (env.scope.kind == .module && env.locals != env.globals)) = false)
    (hI : I ≠ env.locals) (hI₀ : h₀.get? I = none) (hSt : ∀ i h, St i h → ∃ o, h.get? I = some o)
    (hfp : ∀ b ∈ fp, b = I ∨ (∃ o, h₀.get? b = some o) ∨ ∃ o, ∀ c, (b, o) ∈ Led c)
    (hst : St 0 s.heap) (F : Fr h₀ env.locals s.heap m₀) (N : News h₀ env.locals s.heap (Led c₀)) (hne : AllNe I (Led c₀)) (ht : 0 < s.toks)
    (hk : ∀ p ∈ ps c₀, m₀ p.1 = some p.2) (h0 : P 0 c₀)
    (turn : ∀ (c : σ) i v (u : Str → Option Value) h tk oI, i < n → Pv i v → P i c → 0 < tk → AllNe I (Led c) →
      Fr h₀ env.locals h (fun y => if y = x then some v else locs4 m₀ u stored (ps c) y) → News h₀ env.locals h ((I, oI) :: Led c) →
      wpAny (model prog w) A (execs body env) (SPost h₀ env.locals Led ps (· = x) stored m₀ [(I, oI)] (P (i + 1)) s Q) NoE { s with heap := h, toks := tk })
    (done : ∀ (c : σ) (u : Str → Option Value) h tk, P n c → 0 < tk → Fr h₀ env.locals h (fun y => if y = x then u y else locs4 m₀ u stored (ps c) y) → News h₀ env.locals h (Led c) → Q .next { s with heap := h, toks := tk }) :
    codeAny (model prog w) A (.forLoop (.Name x px) (.ref I) body [] env) (fun r s' => match r with | .ok f => Q f s' | .error e => cameBackBy (model prog w) A env NoE e s') s := by
  have hIf : I ∈ fp := W.sub I (List.mem_singleton.mpr rfl)
  refine codeAny_forLoop (fun k s' => ∃ c h' tk m' i, s' = { s with heap := h', toks := tk } ∧ 0 < tk ∧ St i h' ∧ Fr h₀ env.locals h' m' ∧ News h₀ env.locals h' (Led c) ∧ AllNe I (Led c) ∧ (∀ p ∈ ps c, m' p.1 = some p.2) ∧ (∀ z, ¬ z = x → (∀ p ∈ ps c, z ≠ p.1) → stored.contains z = false → m' z = m₀ z) ∧ P i c ∧ i ≤ n ∧ k = n + 1 - i) ?_ (n + 1)
    ⟨c₀, s.heap, s.toks, m₀, 0, rfl, ht, hst, F, N, hne, hk, fun _ _ _ _ => rfl, h0, Nat.zero_le _, rfl⟩
  rintro k s' ⟨c, h', tk, m', i, rfl, htk, hst', F', N', hne', hk', hr', hP, hi, rfl⟩
  have old : ∀ b o, h₀.get? b = some o → b ∉ [I] := fun b o e hb => by rw [List.mem_singleton.mp hb, hI₀] at e; cases e
  have next : ∀ h₁ : Heap, (∀ b o, b ∉ [I] → h'.get? b = some o → h₁.get? b = some o) → Fr h₀ env.locals h₁ m' ∧ News h₀ env.locals h₁ (Led c) := fun h₁ hk₁ =>
    ⟨⟨F'.ns.at' fun o e => hk₁ _ o (fun q => hI (List.mem_singleton.mp q).symm) e, fun b o e => hk₁ b o (old b o e) (F'.keep b o e), F'.above⟩,
      fun p hp => ⟨hk₁ _ _ (fun q => (allNe_iff.mp hne' p hp) (List.mem_singleton.mp q)) (N' p hp).1, (N' p hp).2⟩⟩
  by_cases hlt : i < n
  · refine wpAny_pos htk (W.item i _ _ _ hlt hst' fun v h₁ tk₁ hv hst₁ hk₁ htk₁ => ?_)
    obtain ⟨F₁, N₁⟩ := next h₁ hk₁
    refine wpAny_assign_Name (wpAny_storeName_local hx F₁.ns (fun h₂ hn₂ hs₂ => ?_) hp)
    have F₂ := F₁.set hn₂ hs₂
    have N₂ := N₁.set hs₂
    obtain ⟨oI, hoI⟩ := hSt _ _ hst₁
    have hoI₂ : h₂.get? I = some oI := (hs₂.2 I hI).trans hoI
    have F₂' : Fr h₀ env.locals h₂ (fun y => if y = x then some v else locs4 m₀ m' stored (ps c) y) := by
      have em : (fun y => if y = x then some v else locs4 m₀ m' stored (ps c) y) = fun y => if y = x then some v else m' y := by
        funext y
        by_cases hy : y = x
        · rw [if_pos hy, if_pos hy]
        · rw [if_neg hy, if_neg hy]; exact locs_eq (nm := (· = x)) hk' hr' hy
      rw [em]; exact F₂
    have hst₂ : St (i + 1) h₂ := W.frame _ _ _ hst₁ fun b hb o e => by
      by_cases hbL : b = env.locals
      · rcases hfp b hb with rfl | ⟨o', e'⟩ | ⟨o', e'⟩
        · exact absurd hbL hI
        · have := F₁.above
          exact absurd (Heap.lt_size e') (by rw [hbL]; exact Nat.not_lt.mpr this)
        · exact absurd hbL ((N₁ _ (e' c)).2.1)
      · exact (hs₂.2 b hbL).trans e
    refine wpAny_mono (wpAny_pos (Nat.succ_pos _) (wpAny_mono (turn c i v m' h₂ _ oI hlt hv hP (Nat.succ_pos _) hne' F₂' (fun p hp => ?_)) (fun f s₃ h₃ => ?_) fun _ _ y _ => y)) (fun _ _ y => y) fun _ _ y => y.elim
    · rcases List.mem_cons.mp hp with rfl | hp
      · exact ⟨hoI₂, hI, hI₀⟩
      · exact N₂ p hp
    intro htk₃
    have fin : SEnd h₀ env.locals Led ps (· = x) stored m₀ [(I, oI)] (P (i + 1)) s s₃ → ∃ m, m < n + 1 - i ∧ ∃ c h' tk m' i, s₃ = { s with heap := h', toks := tk } ∧ 0 < tk ∧ St i h' ∧ Fr h₀ env.locals h' m' ∧ News h₀ env.locals h' (Led c) ∧ AllNe I (Led c) ∧ (∀ p ∈ ps c, m' p.1 = some p.2) ∧ (∀ z, ¬ z = x → (∀ p ∈ ps c, z ≠ p.1) → stored.contains z = false → m' z = m₀ z) ∧ P i c ∧ i ≤ n ∧ m = n + 1 - i := by
      clear h₃
      rintro ⟨c', H₃, tk₃, m₃, rfl, F₃, N₃, hne₃, hk₃, hr₃, hP₃⟩
      refine ⟨n + 1 - (i + 1), by omega, c', H₃, tk₃, m₃, i + 1, rfl, htk₃, ?_, F₃, fun p hp => N₃ p (List.mem_append_right _ hp), hne₃ _ (List.mem_singleton.mpr rfl), hk₃, hr₃, hP₃, hlt, rfl⟩
      refine W.frame _ _ _ hst₂ fun b hb o e => ?_
      rcases hfp b hb with rfl | ⟨o', e'⟩ | ⟨o', e'⟩
      · rw [hoI₂] at e; cases e
        exact (N₃ _ (List.mem_append_left _ (List.mem_singleton.mpr rfl))).1
      · have h5 := F₂.keep b o' e'
        have h6 : o = o' := Option.some.inj (e.symm.trans h5)
        rw [h6]
        exact F₃.keep b o' e'
      · have h5 := (N₂ _ (e' c)).1
        have h6 : o = o' := Option.some.inj (e.symm.trans h5)
        rw [h6]
        exact (N₃ _ (List.mem_append_right _ (e' c'))).1
    cases f with
    | ret v => exact h₃
    | brk => exact h₃
    | next => exact fin h₃
    | cont => exact fin h₃
  · have hin : i = n := by omega
    subst hin
    refine wpAny_pos htk (W.done _ _ _ hst' fun h₁ tk₁ hk₁ htk₁ => wpAny_execs_nil ?_)
    obtain ⟨F₁, N₁⟩ := next h₁ hk₁
    refine done c m' h₁ tk₁ hP htk₁ ?_ N₁
    have em : (fun y => if y = x then m' y else locs4 m₀ m' stored (ps c) y) = m' := by
      funext y
      by_cases hy : y = x
      · rw [if_pos hy]
      · rw [if_neg hy]; exact locs_eq (nm := (· = x)) hk' hr' hy
    rw [em]; exact F₁

/-- over a range by ones -/
theorem for_range {σ : Type} {r : Addr} {a₀ b₀ : Int} {t₀ u₀ v₀ : Tok} {n : Nat} {m₀ : Str → Option Value} (Led : σ → List (Addr × Obj)) (ps : σ → List (Str × Value)) (stored : List Str) (P : Nat → σ → Prop) (c₀ : σ)
    (hr : IsRange s.heap r a₀ b₀ 1 t₀ u₀ v₀) (hsmall : Builtin.Range.small a₀ b₀ 1 = true) (hn : Builtin.Range.rangeSize a₀ b₀ 1 = (n : Int))
    (hh : A.handled = none) (hx : env.kindOf x = some .local) (hp : (env.scope.kind == .class || (env.scope.kind == .module && env.locals != env.globals)) = false)
    (F : Fr h₀ env.locals s.heap m₀) (N : News h₀ env.locals s.heap (Led c₀)) (ht : 0 < s.toks) (hk : ∀ p ∈ ps c₀, m₀ p.1 = some p.2) (h0 : P 0 c₀)
    (turn : ∀ (c : σ) (i : Nat) (t : Tok) (u : Str → Option Value) h tk (I : Addr) oI, i < n → P i c → 0 < tk → AllNe I (Led c) →
      Fr h₀ env.locals h (fun y => if y = x then some (.int (a₀ + (i : Int)) t) else locs4 m₀ u stored (ps c) y) → News h₀ env.locals h ((I, oI) :: Led c) →
      wpAny (model prog w) A (execs body env) (SPost h₀ env.locals Led ps (· = x) stored m₀ [(I, oI)] (P (i + 1)) s Q) NoE { s with heap := h, toks := tk })
    (done : ∀ (c : σ) (u : Str → Option Value) h tk, P n c → 0 < tk → Fr h₀ env.locals h (fun y => if y = x then u y else locs4 m₀ u stored (ps c) y) → News h₀ env.locals h (Led c) → Q .next { s with heap := h, toks := tk }) :
    wpAny (model prog w) A (pyIter (.ref r)) (fun it s₂ => codeAny (model prog w) A (.forLoop (.Name x px) it body [] env) (fun r s' => match r with | .ok f => Q f s' | .error e => cameBackBy (model prog w) A env NoE e s') s₂) NoE s := by
  refine wpAny_pyIter_range hr hsmall ?_
  have W : Walks prog w A s.heap.objs.size [s.heap.objs.size] [s.heap.objs.size] n (fun i v => i < n ∧ ∃ t, v = .int (a₀ + i * 1) t)
      (fun i h => IsRangeIter h s.heap.objs.size (a₀ + (i : Nat) * 1) ((n : Int) - (i : Nat)) 1) := (Walks.range hh _ a₀ 1 n).bound
  refine sloop (s := { s with heap := s.heap.push _ }) Led ps stored P c₀ W hx hp (Nat.ne_of_gt F.ns.lt) (next_is_new F) (fun i h st => ⟨_, st⟩) (fun b hb => .inl (List.mem_singleton.mp hb)) (by show IsRangeIter _ _ _ _ _; rw [hn]; simpa using Heap.get?_push_size _ rfl) (F.push _) (fun p hp => ⟨Heap.get?_push_of_some _ (N p hp).1, (N p hp).2⟩)
      (allNe_iff.mpr fun p hp => Nat.ne_of_lt (Heap.lt_size (N p hp).1)) ht hk h0 ?_ ?_
  · rintro c i v u h tk oI hi ⟨_, t, rfl⟩ hP htk hne F' N'
    have e1 : a₀ + (i : Int) * 1 = a₀ + (i : Int) := by omega
    rw [e1] at F'
    exact turn c i t u h tk _ oI hi hP htk hne F' N'
  · intro c u h tk hP htk F' N'
    exact done c u h tk hP htk F' N'

end
end Mine
namespace Mine
theorem const_str {M : Model} {A : Around} {env : Env} {x : Str} {kk : Nat} {pos : Pos} {Q : Value → Shared → Prop} {E : Value → Shared → Prop} {h : Heap} {g : Array GenState} {d : Drawn} {o : OsState} {n : Nat}
    (k : ∀ t tk, n ≤ t → t < tk → Q (.str x t) ⟨h, g, d, tk, o⟩) : wpAny M A (eval (.Constant (.str x) kk pos) env) Q E ⟨h, g, d, n, o⟩ := wpAny_Constant_str (k n (n + 1) (Nat.le_refl _) (Nat.lt_succ_self _))
theorem const_int {M : Model} {A : Around} {env : Env} {x : Int} {kk : Nat} {pos : Pos} {Q : Value → Shared → Prop} {E : Value → Shared → Prop} {h : Heap} {g : Array GenState} {d : Drawn} {o : OsState} {n : Nat}
    (k : ∀ t tk, n ≤ t → t < tk → Q (.int x t) ⟨h, g, d, tk, o⟩) : wpAny M A (eval (.Constant (.int x) kk pos) env) Q E ⟨h, g, d, n, o⟩ := wpAny_Constant_int (k n (n + 1) (Nat.le_refl _) (Nat.lt_succ_self _))
end Mine

end
section
open PySem PySem.W PyProof.Rows PySem.Calls
set_option Elab.async false
set_option maxRecDepth 100000
set_option maxHeartbeats 1000000
namespace Mine

def catL (xs : List Str) : List Nat := xs.flatMap (·.cps.toList)
def mkS (l : List Nat) : Str := ⟨l.toArray⟩
theorem mkS_toList (l : List Nat) : (mkS l).cps.toList = l := rfl
theorem mkS_length (l : List Nat) : (mkS l).length = l.length := by simp [mkS, Str.length]
theorem mkS_cps (x : Str) : mkS x.cps.toList = x := rfl
theorem mkS_inj {a b : List Nat} : mkS a = mkS b ↔ a = b := by
  constructor
  · intro h
    have := congrArg (fun x : Str => x.cps.toList) h
    simpa [mkS] using this
  · rintro rfl; rfl
theorem str_append (a b : Str) : a ++ b = mkS (a.cps.toList ++ b.cps.toList) := by
  refine Str.ext' ?_
  rw [Str.cps_append]; simp [mkS]

theorem beq_one (c d : Nat) : ((⟨#[c]⟩ : Str) == (⟨#[d]⟩ : Str)) = (c == d) := by
  by_cases h : c = d
  · subst h; simp
  · have h1 : (⟨#[c]⟩ : Str) ≠ ⟨#[d]⟩ := by simpa using h
    rw [beq_eq_false_iff_ne.mpr h1, beq_eq_false_iff_ne.mpr h]

def nl (c : Nat) : Nat := if c = 13 then 10 else c
/-- the line ends as one sign -/
def norm (l : List Nat) : List Nat := (crlf l).map nl

theorem crlf_cons (c : Nat) (r : List Nat) (h : ¬ (c = 13 ∧ r.head? = some 10)) : crlf (c :: r) = c :: crlf r := by
  cases r with
  | nil => unfold crlf; split <;> simp_all [crlf]
  | cons b r =>
    apply crlf.eq_3
    intro r' h1 h2
    apply h
    simp at h2
    exact ⟨h1, by simp [h2.1]⟩
theorem crlf_two (r : List Nat) : crlf (13 :: 10 :: r) = 10 :: crlf r := by rw [crlf]

theorem norm_two (r : List Nat) : norm (13 :: 10 :: r) = 10 :: norm r := by unfold norm; rw [crlf_two]; rfl
theorem norm_cons (c : Nat) (r : List Nat) (h : ¬ (c = 13 ∧ r.head? = some 10)) : norm (c :: r) = nl c :: norm r := by
  unfold norm; rw [crlf_cons c r h]; rfl

def endsStep (st : List Nat × Option Nat) (c : Nat) : List Nat × Option Nat :=
  (if c = 13 then st.1 ++ [10] else if c ≠ 10 ∨ st.2 ≠ some 13 then st.1 ++ [c] else st.1, some c)
def endsF (l : List Nat) : List Nat × Option Nat := l.foldl endsStep ([], none)
def optS (o : Option Nat) : Str := match o with | none => mkS [] | some c => mkS [c]

theorem endsF_snoc (l : List Nat) (c : Nat) : endsF (l ++ [c]) = endsStep (endsF l) c := by simp [endsF]

theorem endsFold (l : List Nat) : ∀ (acc : List Nat) (b : Option Nat), (l.foldl endsStep (acc, b)).1 = acc ++ (if b = some 13 then (match l with | 10 :: r => norm r | l => norm l) else norm l) := by
  induction l with
  | nil => intro acc b; simp [norm, crlf]
  | cons c r ih =>
    intro acc b
    rw [List.foldl_cons]
    show (r.foldl endsStep (if c = 13 then acc ++ [10] else if c ≠ 10 ∨ b ≠ some 13 then acc ++ [c] else acc, some c)).1 = _
    rw [ih]
    by_cases hc : c = 13
    · subst hc
      have e1 : (if b = some 13 then (match (13 :: r : List Nat) with | 10 :: r => norm r | l => norm l) else norm (13 :: r)) = norm (13 :: r) := by split <;> rfl
      rw [e1]
      simp only [if_true]
      cases r with
      | nil => simp [norm, crlf, nl]
      | cons d r =>
        by_cases hd : d = 10
        · subst hd; rw [norm_two]; simp
        · rw [norm_cons 13 (d :: r) (by simp [hd])]
          have : (match (d :: r : List Nat) with | 10 :: r => norm r | l => norm l) = norm (d :: r) := by
            split
            · rename_i e; simp at e; exact absurd e.1 hd
            · rfl
          rw [this]; simp [nl]
    · simp only [if_neg hc]
      have e2 : ¬ (some c = some 13) := by simpa using hc
      rw [if_neg e2]
      by_cases hb : b = some 13
      · subst hb
        simp only [if_true]
        by_cases h10 : c = 10
        · subst h10; simp
        · have e3 : (match (c :: r : List Nat) with | 10 :: r => norm r | l => norm l) = norm (c :: r) := by
            split
            · rename_i e; simp at e; exact absurd e.1 h10
            · rfl
          rw [e3, norm_cons c r (by simp [hc])]
          simp [h10, nl, hc]
      · rw [if_neg hb, norm_cons c r (by simp [hc])]
        simp [hb, nl, hc]

theorem endsF_eq (l : List Nat) : (endsF l).1 = norm l := by
  unfold endsF; rw [endsFold]; simp
end Mine
namespace Mine
section
variable {prog : Program} {w : World} {A : Around} {E : Value → Shared → Prop} {s : Shared} {t : Tok} {Q : Value → Shared → Prop}
end
end Mine

end
section
open PySem PySem.W PyProof.Rows PySem.Calls
set_option Elab.async false
set_option maxRecDepth 100000
set_option maxHeartbeats 1000000
namespace Mine
open StrLaws

def nameOf (l : List Nat) : Option Nat := if l = [97, 109, 112] then some 38 else if l = [108, 116] then some 60 else if l = [103, 116] then some 62 else none

def readF : Nat → List Nat → Option (List Nat)
  | 0, _ => some []
  | _ + 1, [] => some []
  | n + 1, c :: r =>
    if c = 60 ∨ c = 62 ∨ c = 13 then none
    else if c = 38 then
      (match nameOf (r.takeWhile (· != 59)), r.dropWhile (· != 59) with
       | some k, _ :: r' => (readF n r').map (k :: ·)
       | _, _ => none)
    else (readF n r).map (c :: ·)
def readL (l : List Nat) : Option (List Nat) := readF (l.length + 1) l

theorem dropWhile_len (p : Nat → Bool) (r : List Nat) : (r.dropWhile p).length ≤ r.length := (List.dropWhile_sublist _).length_le

theorem readF_more : ∀ (n m : Nat) (l : List Nat), l.length < n → l.length < m → readF n l = readF m l
  | 0, _, _, h, _ => by omega
  | _ + 1, 0, _, _, h => by omega
  | n + 1, m + 1, [], _, _ => rfl
  | n + 1, m + 1, c :: r, h1, h2 => by
    unfold readF
    have e1 := readF_more n m r (by simp at h1; omega) (by simp at h2; omega)
    rw [e1]
    split
    · rfl
    · split
      · split
        · rename_i k a r' hk hr
          have hlen := dropWhile_len (· != 59) r
          rw [hr] at hlen
          simp at hlen h1 h2
          rw [readF_more n m r' (by omega) (by omega)]
        · rfl
      · rfl

theorem readL_nil : readL [] = some [] := rfl
theorem readL_cons {c : Nat} {r : List Nat} (h : ¬ (c = 60 ∨ c = 62 ∨ c = 13)) (h2 : c ≠ 38) : readL (c :: r) = (readL r).map (c :: ·) := by
  show readF (r.length + 1 + 1) (c :: r) = _
  rw [readF, if_neg h, if_neg h2]; rfl
theorem readL_amp {name r' : List Nat} (hn : ∀ k ∈ name, k ≠ 59) : readL (38 :: (name ++ 59 :: r')) = (match nameOf name with | some k => (readL r').map (k :: ·) | none => none) := by
  show readF ((name ++ 59 :: r').length + 1 + 1 - 0) (38 :: (name ++ 59 :: r')) = _
  rw [Nat.sub_zero, readF, if_neg (by decide), if_pos rfl]
  have e1 : (name ++ 59 :: r').takeWhile (· != 59) = name := by
    rw [List.takeWhile_append_of_pos (fun a ha => by simpa using hn a ha)]
    simp
  have e2 : (name ++ 59 :: r').dropWhile (· != 59) = 59 :: r' := by
    rw [List.dropWhile_append_of_pos (fun a ha => by simpa using hn a ha)]
    simp
  rw [e1, e2]
  cases nameOf name with
  | none => rfl
  | some k =>
    show (readF ((name ++ 59 :: r').length + 1) r').map _ = _
    rw [readF_more _ (r'.length + 1) r' (by simp; omega) (by omega)]; rfl
end Mine
namespace Mine
theorem same_strs (a b : Str) : Spec.same (.str a) (.str b) = decide (a = b) := by
  have : Spec.same (.str a) (.str b) = (a == b) := by simp [Spec.same]
  rw [this]
  by_cases h : a = b
  · subst h; simp
  · rw [beq_eq_false_iff_ne.mpr h]; simp [h]
/-- what the reader hands back -/
def RRead (l : List Nat) (v : Value) : Prop := (readL l = none ∧ v = .none) ∨ ∃ y t', readL l = some y ∧ v = .str (mkS y) t'
/-- the reader's word between its turns -/
def RdInv (x : Str) (vs : List Value) (xs : List Str) (at' : Nat) : Prop :=
  StrsAre vs xs ∧ vs.length ≤ at' ∧ at' ≤ x.length ∧ readL x.cps.toList = (readL (x.cps.toList.drop at')).map (catL xs ++ ·) ∧ ∀ y ∈ xs, y.length = 1
theorem RdInv.none {x : Str} {vs : List Value} {xs : List Str} {at' : Nat} (h : RdInv x vs xs at') (e : readL (x.cps.toList.drop at') = none) : RRead x.cps.toList .none := .inl ⟨by rw [h.2.2.2.1, e]; rfl, rfl⟩
theorem RdInv.start (x : Str) : RdInv x [] [] 0 := ⟨.nil, Nat.le_refl _, Nat.zero_le _, by simp [catL], fun _ h => nomatch h⟩
theorem RdInv.done {x : Str} {vs : List Value} {xs : List Str} {at' : Nat} {t' : Tok} (h : RdInv x vs xs at') (e : ¬ (at' : Int) < (x.length : Int)) : RRead x.cps.toList (.str (mkS (catL xs)) t') := by
  refine .inr ⟨_, t', ?_, rfl⟩
  have h1 := h.2.2.1
  rw [h.2.2.2.1, List.drop_eq_nil_of_le (by rw [← str_len]; omega)]
  simp [readL_nil]
end Mine
namespace Mine
section
variable {prog : Program} {w : World} {A : Around} {E : Value → Shared → Prop} {s : Shared} {Q : Value → Shared → Prop}
end
/-- a piece of a written text: what it is read as, and that this is written so -/
def PieceOk (l : List Nat) : Prop := ∃ y : List Nat, (∀ v, readL (l ++ v) = (readL v).map (y ++ ·)) ∧ (∀ c ∈ y, ctl c = false ∧ c ≠ 13) ∧ y.flatMap escC = l ∧ l.length ≤ 5 ∧ y.length ≤ l.length
def plainC (c : Nat) : Bool := !ctl c && c != 38 && c != 60 && c != 62 && c != 13
theorem crlf_free : ∀ (l : List Nat), (∀ c ∈ l, c ≠ 13) → crlf l = l
  | [], _ => rfl
  | c :: r, h => by
    have h1 := h c (List.mem_cons_self ..)
    rw [crlf_cons c r (by simp [h1]), crlf_free r fun c hc => h c (List.mem_cons_of_mem _ hc)]
end Mine

end
section
open PySem PySem.W PyProof.Rows PySem.Calls
set_option Elab.async false
set_option maxRecDepth 100000
set_option maxHeartbeats 1000000
namespace Mine
section
variable {prog : Program} {w : World} {A : Around} {s : Shared} {env : Env} {elt iter : Expr} {x : Str} {px : Pos} {ifs : List Expr} {scope : Scope} {pos : Pos} {Q : Value → Shared → Prop}

theorem items_of {vs : List Value} {items : Array Value} (h1 : vs.length = items.size) (h2 : ∀ (j : Nat) v, vs[j]? = some v → items[j]? = some v) : vs = items.toList := by
  refine List.ext_getElem? fun j => ?_
  by_cases hj : j < vs.length
  · have e := h2 j vs[j] (List.getElem?_eq_getElem hj)
    rw [List.getElem?_eq_getElem hj]
    rw [← e]; simp
  · rw [List.getElem?_eq_none (by omega), List.getElem?_eq_none (by simp; omega)]

/-- a comprehension over a list: its tests and its element change nothing that stands -/
theorem lc_list {l : Addr} {items : Array Value} {cl : List (Str × Addr)} (p : Value → Bool) (G : Value → Value → Prop) (hh : A.handled = none) (hl : s.heap.IsList l items) (hsz : items.size ≤ sizeLine) (ht : 0 < s.toks)
    (tests : ∀ C v s₃ m₃, v ∈ items.toList → s₃.heap.Ns C m₃ → m₃ x = some v → s.heap.StaysIn s₃.heap → s.heap.objs.size ≤ C → 0 < s₃.toks →
      wpAny (model prog w) A (forIn ifs true fun c r => if r = true then do let ok ← isTrue c (compEnvC scope cl C env) (eval c (compEnvC scope cl C env)); pure (ForInStep.yield ok) else pure (ForInStep.yield r)) (fun ok s₄ => ok = p v ∧ Keeps s₃ s₄) NoE s₃)
    (helt : ∀ C v s₃ m₃, v ∈ items.toList → p v = true → s₃.heap.Ns C m₃ → m₃ x = some v → s.heap.StaysIn s₃.heap → s.heap.objs.size ≤ C → 0 < s₃.toks →
      wpAny (model prog w) A (eval elt (compEnvC scope cl C env)) (fun y s₄ => G v y ∧ Keeps s₃ s₄) NoE s₃)
    (done : ∀ D h' tk ys, s.heap.get? D = none → h'.PlainList D ys → Paired G (items.toList.filter p) ys.toList → s.heap.StaysIn h' → Q (.ref D) { s with heap := h', toks := tk }) :
    wpAny (model prog w) A (pyIter (.ref l)) (fun it s₂ => ∃ I fp wr n P St, it = .ref I ∧ Walks prog w A I fp wr n P St ∧ n ≤ sizeLine ∧ St 0 s₂.heap ∧ (∀ b ∈ fp, b < s₂.heap.objs.size) ∧
      QuietOnC prog w A env scope cl x ifs elt wr P p G s₂ ∧
      (∀ D h' tk ys (vs : List Value), s₂.heap.get? D = none → h'.IsList D ys → h'.PlainList D ys → vs.length = n → (∀ j v, vs[j]? = some v → P j v) → Paired G (vs.filter p) ys.toList →
        (∀ b o, b ∉ wr → s₂.heap.get? b = some o → h'.get? b = some o) → Q (.ref D) { s₂ with heap := h', toks := tk })) NoE s := by
  obtain ⟨ol, hol, hol'⟩ := id hl
  have hlt := Heap.lt_size hol
  have hne : l ≠ s.heap.objs.size := Nat.ne_of_lt hlt
  have up : ∀ (h₂ h₃ : Heap) (o : Obj), h₂ = s.heap.push o → (∀ b o, b ∉ [s.heap.objs.size] → h₂.get? b = some o → h₃.get? b = some o) → s.heap.StaysIn h₃ := by
    rintro h₂ h₃ o rfl hk b ob e
    exact hk b ob (fun q => absurd (Heap.lt_size e) (by rw [List.mem_singleton.mp q]; exact Nat.lt_irrefl _)) (Heap.get?_push_of_some _ e)
  refine wpAny_pyIter_list hl ⟨_, _, _, _, _, _, rfl, Walks.list hh s.heap.objs.size l hne items, hsz, ⟨⟨_, Heap.get?_push_size _ rfl, rfl, rfl⟩, hl.at fun o e => Heap.get?_push_of_some _ e⟩, ?_, ⟨?_, ?_⟩, ?_⟩
  · intro b hb
    rw [Heap.size_push]
    rcases List.mem_cons.mp hb with rfl | hb
    · exact Nat.lt_succ_self _
    · rw [List.mem_singleton.mp hb]; exact Nat.lt_succ_of_lt hlt
  · intro C i v s₃ m₃ E' hC hv hn hm hk htk
    refine wpAny_noRaise (tests C v s₃ m₃ ?_ hn hm (up _ _ _ rfl hk) (by rw [Heap.size_push] at hC; omega) (Nat.lt_of_lt_of_le ht htk))
    exact Array.mem_toList_iff.mpr (Array.mem_of_getElem? hv)
  · intro C i v s₃ m₃ E' hC hv hpv hn hm hk htk
    refine wpAny_noRaise (helt C v s₃ m₃ ?_ hpv hn hm (up _ _ _ rfl hk) (by rw [Heap.size_push] at hC; omega) (Nat.lt_of_lt_of_le ht htk))
    exact Array.mem_toList_iff.mpr (Array.mem_of_getElem? hv)
  · intro D h' tk ys vs hD _ hpl hlen hP hF hk
    rw [items_of hlen hP] at hF
    refine done D h' tk ys ?_ hpl hF (up _ _ _ rfl hk)
    cases e : s.heap.get? D with
    | none => rfl
    | some o => rw [Heap.get?_push_of_some _ e] at hD; cases hD

/-- f(x) within a comprehension -/
theorem comp_call1 {K : Frag} {p : Program} {loose : List Str} {mean : ExcName → Option Value} {mg mb : Str → Option Value} {d u : Nat} {f : Addr} {v : Value} {R : Value → Prop} {fn : Str} {pf pa pc : Pos} {cl : List (Str × Addr)} {C : Addr} {m₃ : Str → Option Value}
    {dp un : Nat} {gd : Option (List Code)} {fr : List Env} {base : Heap}
    (Cf : PF prog w K p loose mean mg mb d u f [v] R) (B : Below (atop dp un gd fr) base fr s.heap) (X : K.In s.heap) (T : Top p loose mean mg mb s.heap) (hd : dp + d < recursionLimit) (hu : un + u < cLine) (ht : 0 < s.toks)
    (hn : s.heap.Ns C m₃) (hm : m₃ x = some v) (hg : env.globals = mainGlobals) (e1 : nsIn K mainGlobals fn = some (some (.ref f))) (e2 : keepIn K (.ref f) = true)
    (hk : (compEnvC scope cl C env).scope.kind = .function) (hf : (compEnvC scope cl C env).kindOf fn = some .globalImplicit) (hx : (compEnvC scope cl C env).kindOf x = some .local)
    (hd1 : (fn == ("__debug__" : Str)) = false) (hd2 : (x == ("__debug__" : Str)) = false)
    (h : ∀ y s', R y → Keeps s s' → Q y s') :
    wpAny (model prog w) (atop dp un gd fr) (eval (.Call (.Name fn pf) [.Name x pa] [] pc) (compEnvC scope cl C env)) Q NoE s := by
  refine Call_ (Name_function_global hk hf (loadGlobal_global (env := compEnvC scope cl C env) (by show s.heap.Ns env.globals _; rw [hg]; exact T.g) (mg_of X T.g e1) ?_) hd1)
  refine callWith_K X e2 (args_cons (wpAny_Name (wpAny_loadName_local hk hx hn hm (args_nil ⟨X, ?_⟩)) hd2))
  exact Cf dp un gd fr base s _ _ B X T hd hu ht fun y h' tk' hR hs _ => h y _ hR ⟨h', tk', rfl, hs⟩
end
end Mine
namespace Mine
section
variable {prog : Program} {w : World} {A : Around} {s : Shared} {env : Env} {elt iter : Expr} {x : Str} {px : Pos} {ifs : List Expr} {scope : Scope} {pos : Pos} {Q : Value → Shared → Prop}
/-- the ledger behind it -/
theorem news_grow {h₀ h h' : Heap} {L D : Addr} {m : Str → Option Value} {news : List (Addr × Obj)} {o : Obj} (F : Fr h₀ L h m) (N : News h₀ L h news) (hk : h.StaysIn h') (hD : h.get? D = none) (ho : h'.get? D = some o) :
    Fr h₀ L h' m ∧ News h₀ L h' ((D, o) :: news) ∧ ∀ q ∈ news, q.1 ≠ D := by
  refine ⟨F.keeps hk, fun q hq => ?_, fun q hq e => ?_⟩
  · rcases List.mem_cons.mp hq with rfl | hq
    · refine ⟨ho, ?_, ?_⟩
      · intro e
        obtain ⟨oL, _, _, hL, _⟩ := F.ns
        have e' : D = L := e
        rw [e', hL] at hD; cases hD
      · cases e : h₀.get? D with
        | none => rfl
        | some o' => rw [F.keep _ _ e] at hD; cases hD
    · exact ⟨hk _ _ (N q hq).1, (N q hq).2⟩
  · have := (N q hq).1
    rw [e, hD] at this; cases this
end
end Mine

end
section
open PySem PySem.W PyProof.Rows PySem.Calls
set_option Elab.async false
set_option maxRecDepth 100000
set_option maxHeartbeats 1000000
namespace Mine
theorem readL_escC {c : Nat} (v : List Nat) : readL (escC c ++ v) = (readL v).map (nl c :: ·) := by
  unfold escC nl
  split
  · rename_i h; subst h; exact readL_cons (by decide) (by decide)
  · split
    · rename_i h; subst h; exact readL_amp (name := [97, 109, 112]) (r' := v) (by decide)
    · split
      · rename_i h; subst h; exact readL_amp (name := [108, 116]) (r' := v) (by decide)
      · split
        · rename_i h; subst h; exact readL_amp (name := [103, 116]) (r' := v) (by decide)
        · exact readL_cons (by omega) (by omega)
theorem readL_flat : ∀ (l : List Nat), readL (l.flatMap escC) = some (l.map nl)
  | [] => rfl
  | c :: r => by rw [List.flatMap_cons, readL_escC, readL_flat r]; rfl
theorem readL_esc (l : List Nat) : readL (escL l) = some (norm l) := readL_flat _
def noCtl (l : List Nat) : Prop := ∀ c ∈ l, ctl c = false
theorem norm_free : ∀ {l : List Nat}, (∀ c ∈ l, c ≠ 13) → norm l = l := by
  intro l h
  unfold norm
  rw [crlf_free l h]
  have : ∀ (l : List Nat), (∀ c ∈ l, c ≠ 13) → l.map nl = l := by
    intro l
    induction l with
    | nil => intro _; rfl
    | cons c r ih => intro h; rw [List.map_cons, ih fun k hk => h k (by simp [hk])]; unfold nl; rw [if_neg (h c (by simp))]
  exact this l h
theorem escL_free {l : List Nat} (h : ∀ c ∈ l, c ≠ 13) : escL l = l.flatMap escC := by unfold escL; rw [crlf_free l h]
end Mine
namespace Mine
theorem filter_true (l : List Value) : l.filter (fun _ => true) = l := by simp
theorem hasCtl_of {x : Str} (h : noCtl x.cps.toList) : hasCtl x = false := by
  unfold hasCtl; rw [List.any_eq_false]; intro c hc; rw [h c hc]; simp
end Mine
namespace Mine
theorem addE {prog : Program} {w : World} {A : Around} {E : Value → Shared → Prop} {s : Shared} {x y : Str} {t u : Tok} {Q : Value → Shared → Prop} (hs : x.length + y.length ≤ 16777216) (ht : 0 < s.toks)
   (h : ∀ t' k, 0 < k → Q (.str (mkS (x.cps.toList ++ y.cps.toList)) t') { s with toks := k }) : wpAny (model prog w) A (binaryOp .Add (.str x t) (.str y u)) Q E s := by
  refine wpAny_pos ht (KOpn.add hs fun t' k _ hk => ?_)
  rw [str_append]; exact h t' k hk
theorem below_on {A : Around} {base h h' : Heap} {outer : List Env} (B : Below A base outer h) (hst : h.StaysIn h') : Below A base outer h' := ⟨B.stack, fun b o e => hst b o (B.stays b o e), B.frames.of_keeps fun b o e _ => ⟨o, hst b o e, rfl⟩⟩
end Mine
namespace Mine
theorem get3 (c : Nat) (hc : c ≠ 13) (t1 t2 t3 t4 t5 t6 : Tok) : (Spec.lookup (.str ⟨#[c]⟩) (strData [(.str (Str.ofString "&") t1, .str (Str.ofString "&amp;") t2), (.str (Str.ofString "<") t3, .str (Str.ofString "&lt;") t4), (.str (Str.ofString ">") t5, .str (Str.ofString "&gt;") t6)])).getD (.str ⟨#[c]⟩) = .str (mkS (escC c)) := by
  simp only [strData, Spec.lookup, same_strs, lit_am, lit_l, lit_g, lit_amp, lit_lt, lit_gt, decide_eq_true_eq]
  unfold escC
  rw [if_neg hc]
  by_cases h1 : c = 38
  · subst h1; rfl
  by_cases h2 : c = 60
  · subst h2; rfl
  by_cases h3 : c = 62
  · subst h3; rfl
  have e : ∀ d : Nat, c ≠ d → ¬ ((⟨#[d]⟩ : Str) = ⟨#[c]⟩) := fun d hd e => hd (by have := congrArg (fun s : Str => s.cps.toList) e; simpa using this.symm)
  simp [h1, h2, h3, e 38 h1, e 60 h2, e 62 h3]
  rfl
end Mine
namespace Mine
theorem ctl_no {c : Nat} (h : ([(9 : Int), 10, 13].any fun x => x == (c : Int)) = true) : ctl c = false := by
  simp only [List.any_cons, List.any_nil, Bool.or_false, Bool.or_eq_true, beq_iff_eq] at h
  unfold ctl
  rcases h with h | h | h
  · have : c = 9 := by omega
    subst this; rfl
  · have : c = 10 := by omega
    subst this; rfl
  · have : c = 13 := by omega
    subst this; rfl
theorem ctl_yes {c : Nat} (h0 : (c : Int) < 32) (h : ([(9 : Int), 10, 13].any fun x => x == (c : Int)) = false) : ctl c = true := by
  simp only [List.any_cons, List.any_nil, Bool.or_false, Bool.or_eq_false_iff, beq_eq_false_iff_ne, ne_eq] at h
  obtain ⟨h1, h2, h3⟩ := h
  have e1 : c ≠ 9 := fun e => h1 (by rw [e]; rfl)
  have e2 : c ≠ 10 := fun e => h2 (by rw [e]; rfl)
  have e3 : c ≠ 13 := fun e => h3 (by rw [e]; rfl)
  have e0 : c < 32 := by omega
  unfold ctl
  simp [e0, e1, e2, e3]
end Mine
namespace Mine
theorem slice_to {x : Str} {n : Nat} (h : n ≤ x.length) : Txt.slice x none (some (n : Int)) = mkS (x.cps.toList.take n) := by
  have := StrLaws.sliceText_to (x := x) (j := (n : Int)) ⟨by omega, by rw [str_len] at h; omega⟩
  show StrLaws.sliceText x none (some (n : Int)) = _
  rw [this]
  simp [mkS]
theorem slice_fr {x : Str} {n : Nat} (h : n ≤ x.length) : Txt.slice x (some (n : Int)) none = mkS (x.cps.toList.drop n) := by
  have e := StrLaws.sliceText_from (x := x) (i := (n : Int)) ⟨by omega, by rw [str_len] at h; omega⟩
  show StrLaws.sliceText x (some (n : Int)) none = _
  rw [e]
  simp only [mkS, Int.toNat_natCast]
  congr 2
  apply List.take_of_length_le
  rw [List.length_drop]
  omega
theorem hasCtl_mk (l : List Nat) : hasCtl (mkS l) = l.any ctl := rfl
end Mine

end
section
open PySem PySem.W PyProof.Rows PySem.Calls
set_option Elab.async false
set_option maxRecDepth 100000
set_option maxHeartbeats 1000000
namespace Mine

/-- a call that raises -/
def PX (prog : Program) (w : World) (K : Frag) (p : Program) (loose : List Str) (mean : ExcName → Option Value) (mg mb : Str → Option Value) (d u : Nat) (f : Addr) (vs : List Value) (cls : String) (A : List Value → Prop) : Prop :=
  ∀ (dp un : Nat) (gd : Option (List Code)) (fr : List Env) (base g : Heap) (news : List (Addr × Obj)) (s : Shared) (Q E : Value → Shared → Prop),
    Below (atop dp un gd fr) base fr g → K.In g → Top p loose mean mg mb g → g.StaysIn s.heap → g.objs.size = s.heap.objs.size → (∀ q ∈ news, s.heap.get? q.1 = some q.2 ∧ g.get? q.1 = none) →
    dp + d < recursionLimit → un + u < cLine → 0 < s.toks →
    (∀ e t ws h' tk', A ws → RaisedS base g fr e (.type cls) t ws news h' → g.UpToSlots h' → 0 < tk' → E (.ref e) { s with heap := h', toks := tk' }) →
    wpAny (model prog w) (atop dp un gd fr) (call (.ref f) vs) Q E s

def PXEnd (g : Heap) (L : Addr) (news : List (Addr × Obj)) (s : Shared) (cls : String) (A : List Value → Prop) (e : Value) (s' : Shared) : Prop :=
  ∃ a m h ws h' tk', e = .ref a ∧ s' = { s with heap := h', toks := tk' } ∧ 0 < tk' ∧ Fr g L h m ∧ News g L h news ∧ Heap.MadeExcOf h h' a (.type cls) ws ∧ A ws

section
variable {prog : Program} {w : World} {K : Frag} {p : Program} {loose : List Str} {mean : ExcName → Option Value} {mg mb : Str → Option Value} {d u : Nat} {f : Addr} {vs : List Value} {R : Value → Prop} {cls : String} {AX : List Value → Prop}

theorem PX.enter {name qual : Str} {params : Arguments} {body : List Stmt} {scope : Scope} {dV kV doc pm cdv ct oc : Value} {an od : Option Addr} {osl : Array (Option Value)} {binds : List (Str × Value)}
    (ho : K.lookup f = some ⟨oc, od, .func (fnOf name qual params body scope dV kV doc pm an cdv ct), osl⟩) (hcd : codeIn K cdv qual = true)
    (hbind : bindArgs (fnOf name qual params body scope dV kV doc pm an cdv ct) ⟨vs, []⟩ = pure binds) (hloc : (binds.all fun x => decide (scope.names.lookup x.1 = some .local)) = true)
    (hcell : ∀ x ∈ scope.names, x.2 ≠ .cell) (hco : scope.isCoroutine = false) (hgen : scope.isGenerator = false) (hk : scope.kind = .function)
    (h : ∀ (dp un : Nat) (gd : Option (List Code)) (fr : List Env) (base g : Heap) (L : Addr) (h₁ : Heap) (s : Shared) (news : List (Addr × Obj)),
      Below (atop dp un gd fr) base fr g → K.In g → Top p loose mean mg mb g → Fr g L h₁ (fun y => binds.reverse.lookup y) → News g L h₁ news → dp + d < recursionLimit → un + u < cLine → ∀ tk, 0 < tk →
      wpAny (model prog w) ((atop dp un gd fr).deeper (envOf qual scope L f cdv)) (execs body (envOf qual scope L f cdv))
        (fun _ _ => False) (PXEnd g L news s cls AX) { s with heap := h₁, toks := tk })
    (hd : 0 < d) : PX prog w K p loose mean mg mb d u f vs cls AX := by
  intro dp un gd fr base g news s Q E B X T hst hsz hnews h1 h2 h3 hE
  refine wpAny_call (codeAny_call_def (fd := fnOf name qual params body scope dV kV doc pm an cdv ct) (body := body) (binds := binds) (by show dp < _; omega) ((X.keeps hst) _ _ ho) rfl ((T.keeps hst).nolimit) (codeRec_of (X.keeps hst) hcd) rfl (BindsTo.of_eq hbind) hcell (locs hloc) (fun h₁ hns hk₁ => ?_) hco hgen hk)
  refine wpAny_mono (h dp un gd fr base g s.heap.objs.size h₁ s news B X T ⟨hns, fun b o e => hk₁ b o (hst b o e), Nat.le_of_eq hsz⟩ (fun q hq => ⟨hk₁ _ _ (hnews q hq).1, Nat.ne_of_lt (Heap.lt_size (hnews q hq).1), (hnews q hq).2⟩) h1 h2 _ (Nat.lt_of_lt_of_le h3 (Nat.le_add_right _ _))) (fun fl s' hp => hp.elim) fun e s' hp => ?_
  obtain ⟨a, m, h, ws, h', tk', rfl, rfl, ht, F, N, hx, hA⟩ := hp
  exact leave_raiseS B hx F N (fun h'' t RS _ hup => hE a t ws h'' tk' hA RS hup ht) hk

/-- a raising call out of a def's frame -/
theorem PX.call {dp un : Nat} {gd : Option (List Code)} {fr : List Env} {base g : Heap} {L a : Addr} {m : Str → Option Value} {news : List (Addr × Obj)} {name : Str} {scope : Scope} {cd : Value} {s : Shared} {Q E : Value → Shared → Prop}
    (C : PX prog w K p loose mean mg mb d u f vs cls AX) (B : Below (atop dp un gd fr) base fr g) (X : K.In g) (T : Top p loose mean mg mb g) (F : Fr g L s.heap m) (N : News g L s.heap news)
    (hd : dp + 1 + d < recursionLimit) (hu : un + 3 + u < cLine) (ht : 0 < s.toks)
    (h : ∀ e t ws G h' tk', AX ws → Fr g L G m → RaisedS base G (envOf name scope L a cd :: fr) e (.type cls) t ws news h' → G.UpToSlots h' → 0 < tk' → E (.ref e) { s with heap := h', toks := tk' }) (hk : scope.kind = .function := by rfl) :
    wpAny (model prog w) ((atop dp un gd fr).deeper (envOf name scope L a cd)) (call (.ref f) vs) Q E s := by
  obtain ⟨oL, es, ep, hLg, hLd, hN, hNs, st, B₂⟩ := kts_enter (A := atop (dp + 1) (un + 3) gd (envOf name scope L a cd :: fr)) (cn := name) (cs := scope) (a := a) (ccd := cd) B F N rfl hk
  exact C (dp + 1) (un + 3) gd (envOf name scope L a cd :: fr) base _ news s Q E B₂ (X.keeps st) (T.keeps st) (fun b o e => of_hideAll _ e) (hideAll_size _ _) (fun q hq => ⟨(N q hq).1, hideAll_none _ (List.mem_map_of_mem hq)⟩) hd hu ht
    fun e t ws h' tk' hA R U ht' => h e t ws _ h' tk' hA ⟨hN _ hLg, st, F.above⟩ R U ht'

/-- a call that changes nothing that stands but the slots of the frames below -/
def PT (prog : Program) (w : World) (K : Frag) (p : Program) (loose : List Str) (mean : ExcName → Option Value) (mg mb : Str → Option Value) (d u : Nat) (f : Addr) (vs : List Value) (R : Value → Prop) : Prop :=
  ∀ (dp un : Nat) (gd : Option (List Code)) (fr : List Env) (base : Heap) (s : Shared) (Q E : Value → Shared → Prop),
    Below (atop dp un gd fr) base fr s.heap → K.In base → Top p loose mean mg mb base → KtsDicts (fr.filterMap (·.frame)) s.heap → dp + d < recursionLimit → un + u < cLine → 0 < s.toks →
    (∀ v g' h' tk', R v → KtsTurn (fr.filterMap (·.frame)) s.heap g' → g'.StaysIn h' → 0 < tk' → Q v { s with heap := h', toks := tk' }) →
    wpAny (model prog w) (atop dp un gd fr) (call (.ref f) vs) Q E s

def PTEnd (fs : List Addr) (g : Heap) (s : Shared) (R : Value → Prop) (v : Value) (s' : Shared) : Prop := ∃ g' h' tk', s' = { s with heap := h', toks := tk' } ∧ KtsTurn fs g g' ∧ g'.StaysIn h' ∧ 0 < tk' ∧ R v

theorem PTEnd.mk {fs : List Addr} {g g' : Heap} {s : Shared} {R : Value → Prop} {v : Value} {h' : Heap} {tk' : Nat} {L : Addr} {m : Str → Option Value} (T : KtsTurn fs g g') (F : Fr g' L h' m) (ht : 0 < tk') (hR : R v) : PTEnd fs g s R v { s with heap := h', toks := tk' } :=
  ⟨g', h', tk', rfl, T, F.keep, ht, hR⟩

theorem PT.mono {R' : Value → Prop} {d' u' : Nat} (C : PT prog w K p loose mean mg mb d u f vs R) (hR : ∀ v, R v → R' v) (hd : d ≤ d') (hu : u ≤ u') : PT prog w K p loose mean mg mb d' u' f vs R' :=
  fun dp un gd fr base s Q E B X T D h1 h2 h3 hq => C dp un gd fr base s Q E B X T D (by omega) (by omega) h3 fun v g' h' tk' r k => hq v g' h' tk' (hR v r) k

theorem PT.enter {name qual : Str} {params : Arguments} {body : List Stmt} {scope : Scope} {dV kV doc pm cdv ct oc : Value} {an od : Option Addr} {osl : Array (Option Value)} {binds : List (Str × Value)}
    (ho : K.lookup f = some ⟨oc, od, .func (fnOf name qual params body scope dV kV doc pm an cdv ct), osl⟩) (hcd : codeIn K cdv qual = true)
    (hbind : bindArgs (fnOf name qual params body scope dV kV doc pm an cdv ct) ⟨vs, []⟩ = pure binds) (hloc : (binds.all fun x => decide (scope.names.lookup x.1 = some .local)) = true)
    (hcell : ∀ x ∈ scope.names, x.2 ≠ .cell) (hco : scope.isCoroutine = false) (hgen : scope.isGenerator = false) (hk : scope.kind = .function)
    (h : ∀ (dp un : Nat) (gd : Option (List Code)) (fr : List Env) (base g : Heap) (L : Addr) (h₁ : Heap) (s : Shared),
      Below (atop dp un gd fr) base fr g → K.In base → Top p loose mean mg mb base → K.In g → Top p loose mean mg mb g → KtsDicts (fr.filterMap (·.frame)) g → KtsTurn (fr.filterMap (·.frame)) g g → Fr g L h₁ (fun y => binds.reverse.lookup y) → News g L h₁ [] → dp + d < recursionLimit → un + u < cLine → ∀ tk, 0 < tk →
      wpAny (model prog w) ((atop dp un gd fr).deeper (envOf qual scope L f cdv)) (execs body (envOf qual scope L f cdv))
        (fun fl s' => PTEnd (fr.filterMap (·.frame)) g s R (match fl with | .ret v => v | _ => .none) s') (fun _ _ => False) { s with heap := h₁, toks := tk })
    (hd : 0 < d) : PT prog w K p loose mean mg mb d u f vs R := by
  intro dp un gd fr base s Q E B XB TB D h1 h2 h3 hq
  have X := XB.keeps B.stays
  have T := TB.keeps B.stays
  refine wpAny_call (codeAny_call_def (fd := fnOf name qual params body scope dV kV doc pm an cdv ct) (body := body) (binds := binds) (by show dp < _; omega) (X _ _ ho) rfl T.nolimit (codeRec_of X hcd) rfl (BindsTo.of_eq hbind) hcell (locs hloc) (fun h₁ hns hk₁ => ?_) hco hgen hk)
  refine wpAny_mono (h dp un gd fr base s.heap s.heap.objs.size h₁ s B XB TB X T D KtsTurn.refl ⟨hns, hk₁, Nat.le_refl _⟩ News.nil h1 h2 _ (Nat.lt_of_lt_of_le h3 (Nat.le_add_right _ _))) (fun fl s' hp => ?_) fun _ _ y => y.elim
  obtain ⟨g', h', tk', e, hT, hst, ht, hR⟩ := hp
  subst e
  exact hq _ g' h' tk' hR hT hst ht

theorem PT.call {dp un : Nat} {gd : Option (List Code)} {fr : List Env} {base g₀ g : Heap} {L a : Addr} {m : Str → Option Value} {news : List (Addr × Obj)} {name : Str} {scope : Scope} {cd : Value} {s : Shared} {Q E : Value → Shared → Prop}
    (C : PT prog w K p loose mean mg mb d u f vs R) (B : Below (atop dp un gd fr) base fr g) (XB : K.In base) (TB : Top p loose mean mg mb base) (D : KtsDicts (fr.filterMap (·.frame)) g) (T0 : KtsTurn (fr.filterMap (·.frame)) g₀ g) (F : Fr g L s.heap m) (N : News g L s.heap news)
    (hd : dp + 1 + d < recursionLimit) (hu : un + 3 + u < cLine) (ht : 0 < s.toks)
    (h : ∀ v g' h' tk', R v → Below (atop dp un gd fr) base fr g' → K.In g' → Top p loose mean mg mb g' → KtsDicts (fr.filterMap (·.frame)) g' → KtsTurn (fr.filterMap (·.frame)) g₀ g' → Fr g' L h' m → News g' L h' news → 0 < tk' → Q v { s with heap := h', toks := tk' }) (hk : scope.kind = .function := by rfl) :
    wpAny (model prog w) ((atop dp un gd fr).deeper (envOf name scope L a cd)) (call (.ref f) vs) Q E s := by
  obtain ⟨oL, es, ep, hL, hLd, hLk, hLf⟩ := F.ns
  refine C (dp + 1) (un + 3) gd (envOf name scope L a cd :: fr) base s Q E (B.push F hk) XB TB (fun b hb => ?_) hd hu ht fun v g'' h' tk' r T' hst ht' => ?_
  · rcases kts_mem hb with rfl | hb
    · exact ⟨oL, es, ep, hL, hLd⟩
    · obtain ⟨o, es', n', ho', hd'⟩ := D b hb
      exact ⟨o, es', n', F.keep b o ho', hd'⟩
  have nL₀ : g.get? L = none := kts_self F
  obtain ⟨sl, hs⟩ := T'.up hL
  obtain ⟨T₁, S₁⟩ := kts_turn_at (h := h') (fs := fr.filterMap (·.frame)) (g := g)
    (fun b hb => by
      obtain ⟨_, o, ho', _⟩ := B.frames.mem hb
      exact ⟨o, ho'⟩)
    (fun b o e nmem => hst b o (T'.other b o (F.keep b o e) (fun q => by
      rcases kts_mem q with z | z
      · rw [z, nL₀] at e
        cases e
      · exact nmem z)))
    (fun b o e hm => by
      obtain ⟨sl', hs'⟩ := T'.up (F.keep b o e)
      exact ⟨sl', hst _ _ hs'⟩)
  have B₃ : Below (atop dp un gd fr) base fr (ktsHeap h' (fr.filterMap (·.frame)) g) := ⟨B.stack, fun b o e => T₁.other b o (B.stays b o e) (fun hm => by
    rw [(B.frames.mem hm).1] at e
    cases e), B.frames.of_keeps fun b o e _ => by
    obtain ⟨sl', hs'⟩ := T₁.up e
    exact ⟨_, hs', rfl⟩⟩
  refine h v _ h' tk' r B₃ (XB.keeps B₃.stays) (TB.keeps B₃.stays) (D.turn T₁) (T0.trans T₁) ⟨⟨_, es, ep, hst _ _ hs, hLd, hLk, hLf⟩, S₁, by rw [T₁.size]; exact F.above⟩ (fun q hq => ⟨hst _ _ (T'.other _ _ (N q hq).1 fun z => ?_), (N q hq).2.1, T₁.none_ _ (N q hq).2.2⟩) ht'
  rcases kts_mem z with z | z
  · exact (N q hq).2.1 z
  · obtain ⟨_, o, ho', _⟩ := B.frames.mem z
    rw [(N q hq).2.2] at ho'; cases ho'
end
end Mine

end
section
open PySem PySem.W PyProof.Rows PySem.Calls
set_option Elab.async false
set_option maxRecDepth 100000
set_option maxHeartbeats 1000000
namespace Mine
section
variable {prog : Program} {w : World} {A : Around} {s : Shared} {env : Env} {elt iter : Expr} {x : Str} {px : Pos} {ifs : List Expr} {scope : Scope} {pos : Pos} {Q : Value → Shared → Prop}
/-- the sign itself as the element -/
theorem comp_name {cl : List (Str × Addr)} {C : Addr} {m₃ : Str → Option Value} {v : Value} {pa : Pos} (hn : s.heap.Ns C m₃) (hm : m₃ x = some v) (hk : (compEnvC scope cl C env).scope.kind = .function) (hx : (compEnvC scope cl C env).kindOf x = some .local)
    (hd2 : (x == ("__debug__" : Str)) = false) (h : Q v s) : wpAny (model prog w) A (eval (.Name x pa) (compEnvC scope cl C env)) Q NoE s :=
  wpAny_Name (wpAny_loadName_local hk hx hn hm h) hd2
end
end Mine

end
section
open PySem PySem.W PyProof.Rows PySem.Calls
set_option Elab.async false
set_option maxRecDepth 100000
set_option maxHeartbeats 1000000
namespace Mine
section
variable {prog : Program} {w : World} {A : Around} {s : Shared} {env : Env} {elt iter : Expr} {x : Str} {px : Pos} {ifs : List Expr} {scope : Scope} {pos : Pos} {Q : Value → Shared → Prop}
/-- what is to be shown behind a comprehension's source -/
def LC (prog : Program) (w : World) (A : Around) (env : Env) (elt : Expr) (x : Str) (ifs : List Expr) (scope : Scope) (cl : List (Str × Addr)) (p : Value → Bool) (G : Value → Value → Prop) (Q : Value → Shared → Prop) (xv : Value) (s : Shared) : Prop :=
  ∃ l items, xv = .ref l ∧ s.heap.IsList l items ∧ items.size ≤ sizeLine ∧ 0 < s.toks ∧
    (∀ C v s₃ m₃, v ∈ items.toList → s₃.heap.Ns C m₃ → m₃ x = some v → s.heap.StaysIn s₃.heap → s.heap.objs.size ≤ C → 0 < s₃.toks →
      wpAny (model prog w) A (forIn ifs true fun c r => if r = true then do let ok ← isTrue c (compEnvC scope cl C env) (eval c (compEnvC scope cl C env)); pure (ForInStep.yield ok) else pure (ForInStep.yield r)) (fun ok s₄ => ok = p v ∧ Keeps s₃ s₄) NoE s₃) ∧
    (∀ C v s₃ m₃, v ∈ items.toList → p v = true → s₃.heap.Ns C m₃ → m₃ x = some v → s.heap.StaysIn s₃.heap → s.heap.objs.size ≤ C → 0 < s₃.toks →
      wpAny (model prog w) A (eval elt (compEnvC scope cl C env)) (fun y s₄ => G v y ∧ Keeps s₃ s₄) NoE s₃) ∧
    (∀ D h' tk (ys : List Value) n, s.heap.get? D = none → h'.get? D = some (listOf ys.toArray n) → Paired G (items.toList.filter p) ys → s.heap.StaysIn h' → 0 < tk → Q (.ref D) { s with heap := h', toks := tk })
theorem lcomp_any {cl : List (Str × Addr)} (p : Value → Bool) (G : Value → Value → Prop)
    (hclos : closureFor scope env = pure cl) (hh : A.handled = none) (hcell : ∀ y ∈ scope.names, y.2 ≠ .cell) (hkind : scope.kind = .function) (hnames : ∀ y ∈ scope.names, y.2 = .local → scope.names.lookup y.1 = some .local) (hx : scope.names.lookup x = some .local)
    (ht : 0 < s.toks) (h : wpAny (model prog w) A (eval iter env) (LC prog w A env elt x ifs scope cl p G Q) NoE s)
    (hs : ∀ x, foldedSetIterable iter env x = pure x := by intro _; rfl) :
    wpAny (model prog w) A (eval (.ListComp elt [⟨.Name x px, iter, ifs, 0⟩] scope pos) env) Q NoE s := by
  refine wpAny_pos ht (wpAny_noRaise ?_)
  refine wpAny_ListComp_free p G hclos hcell hkind hnames hx (wpAny_mono h (fun xv s₁ h₁ => ?_) fun _ _ y => y) hs
  obtain ⟨l, items, rfl, hl, hsz, ht, tests, helt, done⟩ := h₁
  refine lc_list (Q := fun a s' => 0 < s'.toks → Q a s') p G hh hl hsz ht tests helt ?_
  rintro D h' tk ys hD ⟨n, hpl⟩ hP hst htk
  obtain ⟨ys⟩ := ys
  exact done D h' tk ys n hD hpl hP hst htk
end
end Mine

end
section
open PySem PySem.W PyProof.Rows PySem.Calls
set_option Elab.async false
set_option maxRecDepth 100000
set_option maxHeartbeats 1000000
namespace Mine
section
variable {prog : Program} {w : World} {A : Around} {s : Shared} {env : Env} {h₀ : Heap} {x : Str} {px : Pos} {body : List Stmt} {Q : Flow → Shared → Prop}
/-- behind a while's test that fails -/
def SDone (h₀ : Heap) (L : Addr) (m : Str → Option Value) (news : List (Addr × Obj)) (X : Prop) (s s₂ : Shared) : Prop :=
  ∃ h' tk', s₂ = { s with heap := h', toks := tk' } ∧ 0 < tk' ∧ Fr h₀ L h' m ∧ News h₀ L h' news ∧ X
theorem SDone.mk {L : Addr} {m : Str → Option Value} {news : List (Addr × Obj)} {X : Prop} {s : Shared} {h' : Heap} {tk' : Nat} (F : Fr h₀ L h' m) (N : News h₀ L h' news) (ht : 0 < tk') (hX : X) : SDone h₀ L m news X s { s with heap := h', toks := tk' } := ⟨h', tk', rfl, ht, F, N, hX⟩
end
end Mine

end
section
open PySem PySem.W PyProof.Rows PySem.Calls
set_option Elab.async false
set_option maxRecDepth 100000
set_option maxHeartbeats 1000000
namespace Mine
section
variable {prog : Program} {w : World} {A : Around} {s : Shared} {env : Env} {h₀ : Heap} {x : Str} {px : Pos} {body : List Stmt} {Q : Flow → Shared → Prop}
/-- the common end of a loop that may break -/
def BEnd {σ : Type} (h₀ : Heap) (L : Addr) (Led : σ → List (Addr × Obj)) (ps : σ → List (Str × Value)) (x : Str) (stored : List Str) (m₀ : Str → Option Value) (X : σ → Prop) (s s₂ : Shared) : Prop :=
  ∃ c' h' tk' m', s₂ = { s with heap := h', toks := tk' } ∧ 0 < tk' ∧ Fr h₀ L h' m' ∧ News h₀ L h' (Led c') ∧ (∀ p ∈ ps c', m' p.1 = some p.2) ∧ (∀ z, ¬ z = x → (∀ p ∈ ps c', z ≠ p.1) → stored.contains z = false → m' z = m₀ z) ∧ X c'
theorem BEnd.mk {σ : Type} {L : Addr} {Led : σ → List (Addr × Obj)} {ps : σ → List (Str × Value)} {stored : List Str} {m₀ : Str → Option Value} {X : σ → Prop} {s : Shared} (c' : σ) {h' : Heap} {tk' : Nat} {m' : Str → Option Value} {news : List (Addr × Obj)}
    (F : Fr h₀ L h' m') (N : News h₀ L h' news) (ht : 0 < tk') (hs : ∀ p ∈ Led c', p ∈ news) (hk : ∀ p ∈ ps c', m' p.1 = some p.2) (hr : ∀ z, ¬ z = x → (∀ p ∈ ps c', z ≠ p.1) → stored.contains z = false → m' z = m₀ z) (hX : X c') :
    BEnd h₀ L Led ps x stored m₀ X s { s with heap := h', toks := tk' } := ⟨c', h', tk', m', rfl, ht, F, kst_newsOf N hs, hk, hr, hX⟩
def NEnd {σ : Type} (h₀ : Heap) (L : Addr) (Led : σ → List (Addr × Obj)) (ps : σ → List (Str × Value)) (x : Str) (stored : List Str) (m₀ : Str → Option Value) (X : σ → Prop) (s : Shared) (f : Flow) (s₂ : Shared) : Prop :=
  match f with
  | .next => BEnd h₀ L Led ps x stored m₀ X s s₂
  | _ => False
theorem NEnd.out {σ : Type} {L : Addr} {Led : σ → List (Addr × Obj)} {ps : σ → List (Str × Value)} {stored : List Str} {m₀ : Str → Option Value} {X : σ → Prop} {f : Flow} {s₂ : Shared} (h : NEnd h₀ L Led ps x stored m₀ X s f s₂)
    (done : ∀ (c : σ) (u : Str → Option Value) h tk, X c → 0 < tk → Fr h₀ L h (fun y => if y = x then u y else locs4 m₀ u stored (ps c) y) → News h₀ L h (Led c) → Q .next { s with heap := h, toks := tk }) : Q f s₂ := by
  cases f with
  | next =>
    obtain ⟨c', h', tk', m', rfl, ht, F, N, hk, hr, hX⟩ := h
    refine done c' m' h' tk' hX ht ?_ N
    have em : (fun y => if y = x then m' y else locs4 m₀ m' stored (ps c') y) = m' := by
      funext y
      by_cases hy : y = x
      · rw [if_pos hy]
      · rw [if_neg hy]; exact locs_eq (nm := (· = x)) hk hr hy
    rw [em]; exact F
  | ret v => exact h.elim
  | brk => exact h.elim
  | cont => exact h.elim
theorem NEnd.of {σ : Type} {L : Addr} {Led : σ → List (Addr × Obj)} {ps : σ → List (Str × Value)} {stored : List Str} {m₀ : Str → Option Value} {X : σ → Prop} {c : σ} {u : Str → Option Value} {h : Heap} {tk : Nat} (hX : X c) (ht : 0 < tk)
    (F : Fr h₀ L h (fun y => if y = x then u y else locs4 m₀ u stored (ps c) y)) (N : News h₀ L h (Led c)) (hn : ∀ p ∈ ps c, p.1 ≠ x) (hk : ∀ p ∈ ps c, kstB (fun z => if stored.contains z then u z else m₀ z) (ps c) p.1 = some p.2) : NEnd h₀ L Led ps x stored m₀ X s .next { s with heap := h, toks := tk } := by
  refine ⟨c, h, tk, _, rfl, ht, F, N, fun p hp => ?_, fun z hz hn hs => ?_, hX⟩
  · rw [if_neg (hn p hp)]; exact hk p hp
  · rw [if_neg hz]
    have : ∀ (l : List (Str × Value)), (∀ p ∈ l, z ≠ p.1) → kstB (fun z => if stored.contains z then u z else m₀ z) l z = m₀ z := by
      intro l hl
      induction l with
      | nil => show (if stored.contains z = true then u z else m₀ z) = m₀ z; rw [hs]; simp
      | cons p r ih => show (if z = p.1 then some p.2 else kstB _ r z) = m₀ z; rw [if_neg (hl p (.head _))]; exact ih fun q hq => hl q (.tail _ hq)
    exact this _ hn
end
end Mine

end
section
open PySem PySem.W PyProof.Rows PySem.Calls
set_option Elab.async false
set_option maxRecDepth 100000
set_option maxHeartbeats 1000000
namespace Mine
section
variable {prog : Program} {w : World} {A : Around} {E : Value → Shared → Prop} {s : Shared} {Q : Value → Shared → Prop}
theorem in1E {x : Str} {c : Nat} {t u : Tok} (h : Q (.bool (decide (c ∈ x.cps.toList))) s) : wpAny (model prog w) A (compareOp .In (.str ⟨#[c]⟩ u) (.str x t)) Q E s := in_str (by rw [StrLaws.found_one]; exact h)
theorem notIn1E {x : Str} {c : Nat} {t u : Tok} (h : Q (.bool (!decide (c ∈ x.cps.toList))) s) : wpAny (model prog w) A (compareOp .NotIn (.str ⟨#[c]⟩ u) (.str x t)) Q E s := notIn_str (by rw [StrLaws.found_one]; exact h)
theorem foldl_app (l : List (Array Nat)) : ∀ a : Array Nat, (l.foldl (· ++ ·) a).toList = a.toList ++ (l.map (·.toList)).flatten := by
  induction l with
  | nil => intro a; simp
  | cons b l ih => intro a; rw [List.foldl_cons, ih, Array.toList_append]; simp
theorem mul_eq (x : Str) (n : Int) : Txt.mul x n = mkS (List.replicate n.toNat x.cps.toList).flatten := by
  unfold Txt.mul
  by_cases h : n < 1
  · rw [if_pos h]
    have : n.toNat = 0 := by omega
    rw [this]; rfl
  rw [if_neg h]
  by_cases h2 : n = 1
  · subst h2; simp [mkS]
  by_cases h3 : x.length = 0
  · have e : x = mkS [] := by
      have : x.cps.toList = [] := by apply List.length_eq_zero_iff.mp; rw [← str_len]; exact h3
      rw [← mkS_cps x, this]
    rw [if_pos (by simp [h3]), e]
    have : ∀ k : Nat, (List.replicate k ([] : List Nat)).flatten = [] := by intro k; induction k with | zero => rfl | succ k ih => rw [List.replicate_succ, List.flatten_cons, ih]; rfl
    show mkS [] = mkS (List.replicate n.toNat (mkS []).cps.toList).flatten
    rw [mkS_toList, this]
  · rw [if_neg (by simp [h2, h3])]
    have := foldl_app (List.replicate n.toNat x.cps) #[]
    rw [List.map_replicate] at this
    unfold mkS
    congr 1
    rw [← Array.toList_inj]
    rw [this]; simp
theorem mulE {x : Str} {n : Int} {t u : Tok} (hx : x.length ≤ 16) (hn : n ≤ 1000) (hlo : -(1000 : Int) ≤ n) (ht : 0 < s.toks) (h : ∀ t' k, 0 < k → Q (.str (mkS (List.replicate n.toNat x.cps.toList).flatten) t') { s with toks := k }) :
    wpAny (model prog w) A (binaryOp .Mult (.str x t) (.int n u)) Q E s := by
  refine wpAny_pos ht (SB.mul (mulOk_of 16 1048576 hx (by omega) (by omega) (by decide) (by decide)) fun t' k hk => ?_)
  rw [mul_eq]; exact h t' k hk
theorem iaddE {x y : Str} {t u : Tok} (hs : x.length + y.length ≤ 16777216) (ht : 0 < s.toks) (h : ∀ t' k, 0 < k → Q (.str (mkS (x.cps.toList ++ y.cps.toList)) t') { s with toks := k }) : wpAny (model prog w) A (inplaceOp .Add (.str x t) (.str y u)) Q E s := by
  refine wpAny_pos ht (iadd_str (fun t' k hk => ?_) (by rw [sizeLine_eq]; exact hs))
  rw [str_append]; exact h t' k hk
end
theorem one_length (c : Nat) : (⟨#[c]⟩ : Str).length = 1 := rfl
end Mine

end
section
open PySem PySem.W PyProof.Rows PySem.Calls
set_option Elab.async false
set_option maxRecDepth 100000
set_option maxHeartbeats 1000000
namespace Mine
section
variable {prog : Program} {w : World} {A : Around} {s : Shared} {env : Env} {elt iter : Expr} {x : Str} {px : Pos} {ifs : List Expr} {scope : Scope} {pos : Pos} {Q : Value → Shared → Prop}
/-- what is to be shown behind a comprehension's source, a range -/
def LCR (prog : Program) (w : World) (A : Around) (env : Env) (elt : Expr) (x : Str) (scope : Scope) (cl : List (Str × Addr)) (G : Value → Value → Prop) (Q : Value → Shared → Prop) (xv : Value) (s : Shared) : Prop :=
  ∃ r a₀ b₀ t₀ u₀ v₀, ∃ n : Nat, xv = .ref r ∧ IsRange s.heap r a₀ b₀ 1 t₀ u₀ v₀ ∧ Builtin.Range.small a₀ b₀ 1 = true ∧ Builtin.Range.rangeSize a₀ b₀ 1 = (n : Int) ∧ n ≤ sizeLine ∧ 0 < s.toks ∧
    (∀ C (i : Nat) t s₃ m₃, i < n → s₃.heap.Ns C m₃ → m₃ x = some (.int (a₀ + (i : Int) * 1) t) → s.heap.StaysIn s₃.heap → s.heap.objs.size ≤ C → 0 < s₃.toks →
      wpAny (model prog w) A (eval elt (compEnvC scope cl C env)) (fun y s₄ => G (.int (a₀ + (i : Int) * 1) t) y ∧ Keeps s₃ s₄) NoE s₃) ∧
    (∀ D h' tk (vs ys : List Value) k, s.heap.get? D = none → h'.get? D = some (listOf ys.toArray k) → vs.length = n → (∀ (j : Nat) v, vs[j]? = some v → ∃ t, v = .int (a₀ + (j : Int) * 1) t) → Paired G vs ys → s.heap.StaysIn h' → 0 < tk → Q (.ref D) { s with heap := h', toks := tk })
/-- out of a frame with cells -/
theorem callX_PF {K : Frag} {p : Program} {loose : List Str} {mean : ExcName → Option Value} {mg mb : Str → Option Value} {d u : Nat} {f : Addr} {vs : List Value} {R : Value → Prop} {dp un : Nat} {gd : Option (List Code)} {fr : List Env} {base g : Heap} {L : Addr} {m : Str → Option Value} {news : List (Addr × Obj)} {E : Value → Shared → Prop}
    (C : PF prog w K p loose mean mg mb d u f vs R) (B : Below (atop dp un gd fr) base fr g) (X : K.In g) (T : Top p loose mean mg mb g) (F : Fr g L s.heap m) (N : News g L s.heap news)
    (hd : dp + 1 + d < recursionLimit) (hu : un + 3 + u < cLine) (ht : 0 < s.toks)
    (h : ∀ v h' tk', R v → Fr g L h' m → News g L h' news → 0 < tk' → Q v { s with heap := h', toks := tk' }) (hf : env.frame = some L) (hk : env.scope.kind = .function) :
    wpAny (model prog w) ((atop dp un gd fr).deeper env) (call (.ref f) vs) Q E s :=
  C (dp + 1) (un + 3) gd (env :: fr) base s Q E (pushX B F hf hk) (X.keeps F.keep) (T.keeps F.keep) hd hu ht fun v h' tk' r k =>
    h v h' tk' r (F.keeps k) fun q hq => ⟨k _ _ (N q hq).1, (N q hq).2⟩
end
end Mine

end
section
open PySem PySem.W PyProof.Rows PySem.Calls
set_option Elab.async false
set_option maxRecDepth 100000
set_option maxHeartbeats 1000000
namespace Mine
section
variable {prog : Program} {w : World} {A : Around} {s : Shared} {env : Env} {scope : Scope} {E : Value → Shared → Prop}
/-- sum of a list of ints, what stands stays -/
theorem sumH {l : Addr} {vs : List Value} {ns : List Int} {Q : Value → Shared → Prop} (hh : A.handled = none) (hl : s.heap.IsList l vs.toArray) (hi : IntsAre vs ns)
    (h : ∀ h' tk n t', s.heap.StaysIn h' → Q (.int n t') { s with heap := h', toks := tk }) : wpAny (model prog w) A (call (.builtin "sum") [.ref l]) Q E s := by
  obtain ⟨xs, hx⟩ := hi.allInts.items
  have hl' : s.heap.IsList l (intItems xs) := hx ▸ hl
  exact sum_intListG hh hl' fun h' tk t' hk => h h' tk _ t' hk
theorem sliceH {value slice : Expr} {l : Addr} {items : Array Value} {vl vu vk : Value} {lo hi st : Option Int} {ops : List Value} {Q : Value → Shared → Prop}
    (hl : s.heap.IsList l items) (pl : IsPart vl lo) (pu : IsPart vu hi) (pk : IsPart vk st) (h0 : st ≠ some 0)
    (h : ∀ h' D, s.heap.StaysIn h' → h'.IsList D (slicePick items lo hi st) → Q (.ref D) { s with heap := h' })
    (hs : subscripted slice false (.ref l) (.ref s.heap.objs.size) = operate ops (getItem (.ref l) (.ref s.heap.objs.size)))
    (ht : ∀ r, letTemporaryGo value (.ref l) r = pure ())
    (hsz : items.size ≤ sizeLine) :
    wpAny (model prog w) A (subscriptTail value slice (.ref l) (.ref s.heap.objs.size)) Q E { s with heap := s.heap.push { cls := .type "slice", data := .fields #[vl, vu, vk] } } := by
  refine subscriptTail_ops (Heap.IsList.typeIs (s := { s with heap := s.heap.push { cls := .type "slice", data := .fields #[vl, vu, vk] } }) (hl.push _)) list_getitem_lookup
    (wpAny_getItem_list_slice (hl.push _) (Heap.IsSliceOf.new ..) pl pu pk h0 ?_ hsz) hs ht
  exact h _ _ (fun b o e => Heap.get?_push_of_some _ (Heap.get?_push_of_some _ e)) ⟨_, Heap.get?_push_size _ rfl, rfl, _, rfl⟩
end
end Mine

end
section
open PySem PySem.W PyProof.Rows PySem.Calls
set_option Elab.async false
set_option maxRecDepth 100000
set_option maxHeartbeats 1000000
namespace Mine
section
variable {prog : Program} {w : World} {A : Around} {E : Value → Shared → Prop} {s : Shared} {h₀ : Heap} {L D : Addr} {m : Str → Option Value} {news news' : List (Addr × Obj)} {p : List Value} {y v : Value} {n : Nat} {t u : Tok}
theorem lenL {vs : List Value} {Q : Value → Shared → Prop} (N : News h₀ L s.heap news) (hm : (D, listOf vs.toArray n) ∈ news) (hz : vs.length ≤ 100000) (ht : 0 < s.toks) (h : ∀ t tk, 0 < tk → Q (.int (vs.length : Int) t) { s with toks := tk }) : wpAny (model prog w) A (call (.builtin "len") [.ref D]) Q E s := by
  have e : vs.toArray.size = vs.length := List.size_toArray
  refine len_list (PySem.IsL.isList (n := n) (N _ hm).1) (by rw [e]; omega) ?_
  rw [e]
  exact h _ _ (by omega)
end
end Mine

end
section
open PySem PySem.W PyProof.Rows PySem.Calls PyProof.V PySem.Spec
set_option Elab.async false
set_option maxRecDepth 100000
set_option maxHeartbeats 1000000
namespace Mine
section
variable {prog : Program} {w : World} {A : Around} {E : Value → Shared → Prop} {s : Shared} {a b : Addr} {xs ys : List Value} {ns ms : List Str} {Q : Value → Shared → Prop}
end
end Mine

end
section
open PySem PyProof.Rows
set_option Elab.async false
set_option autoImplicit false
namespace Mine
section
variable {prog : Program} {w : World} {A : Around} {E : Value → Shared → Prop} {s : Shared} {a₀ : Array Keyed}
/-- every key is a text -/
def SKeys (xs : Array Keyed) : Prop := ∀ p ∈ xs.toList, ∃ x t, p.1 = .str x t
/-- the sort's state, whatever is pending -/
structure SI (a₀ : Array Keyed) (st : SortSt) : Prop where
  perm : (arrOf st).Perm a₀
  kind : kindOf st = oneType'
  failed : failedOf st = none
theorem SI.size {st : SortSt} (h : SI a₀ st) : (arrOf st).size = a₀.size := h.perm.size_eq
theorem SI.keys {st : SortSt} (h : SI a₀ st) (h0 : SKeys a₀) : SKeys (arrOf st) := fun p hp => h0 p ((Array.perm_iff_toList_perm.mp h.perm).mem_iff.mp hp)
theorem SI.setArr {st : SortSt} (h : SI a₀ st) {xs : Array Keyed} (hp : xs.Perm (arrOf st)) : SI a₀ (setArr st xs) := ⟨hp.trans h.perm, h.kind, h.failed⟩
theorem SI.setPending {st : SortSt} (h : SI a₀ st) (p : Array (Nat × Nat × Nat)) : SI a₀ (setPending st p) := ⟨h.perm, h.kind, h.failed⟩
theorem SKeys.at {xs : Array Keyed} (h : SKeys xs) {i : Nat} (hi : i < xs.size) : ∃ x t, xs[i].1 = .str x t := h _ (by simp)
theorem SKeys.perm {xs ys : Array Keyed} (h : SKeys xs) (hp : ys.Perm xs) : SKeys ys := fun p hq => h p ((Array.perm_iff_toList_perm.mp hp).mem_iff.mp hq)
theorem wpS_lt {st : SortSt} {p q : Keyed} {Q : Option Bool → SortSt → Prop} (hk : kindOf st = oneType') (hp : ∃ x t, p.1 = .str x t) (hq : ∃ x t, q.1 = .str x t)
    (h : ∀ b, Q (some b) st) : wpS (model prog w) A E s (lt' p q) Q st := by
  obtain ⟨x, t, ex⟩ := hp
  obtain ⟨y, u, ey⟩ := hq
  rw [lt'_eq]
  refine wpS_bind (wpS_get ?_)
  rw [hk, keyLt'_oneType, ex, ey]
  refine wpS_bind (wpS_lift (wpAny_attempt (oneLt_str ⟨rfl, ?_⟩)))
  exact wpS_pure (h _)
theorem wpS_elem {st : SortSt} {arr : Array Keyed} {i : Nat} {Q : Keyed → SortSt → Prop} (hi : i < arr.size) (h : Q arr[i] st) : wpS (model prog w) A E s (elem' arr i) Q st := by
  rw [elem'_eq, getElem?_pos arr i hi]
  exact wpS_pure h
theorem wpS_ltAtI {st : SortSt} {i j : Nat} {Q : Option Bool → SortSt → Prop} (hB : SI a₀ st) (h0 : SKeys a₀) (hi : i < a₀.size) (hj : j < a₀.size)
    (h : ∀ b, Q (some b) st) : wpS (model prog w) A E s (ltAt' i j) Q st := by
  rw [ltAt'_eq]
  refine wpS_bind (wpS_get ?_)
  have hi' : i < (arrOf st).size := by rw [hB.size]; exact hi
  have hj' : j < (arrOf st).size := by rw [hB.size]; exact hj
  show wpS _ _ _ _ (do let x ← elem' (arrOf st) i; let y ← elem' (arrOf st) j; lt' x y) Q st
  exact wpS_bind (wpS_elem hi' (wpS_bind (wpS_elem hj' (wpS_lt hB.kind ((hB.keys h0).at hi') ((hB.keys h0).at hj') h))))
theorem wpS_reverseI {st : SortSt} {i j : Nat} {Q : Unit → SortSt → Prop} (hB : SI a₀ st) (h : ∀ st', SI a₀ st' → pendingOf st' = pendingOf st → Q () st') : wpS (model prog w) A E s (reverseSlice' i j) Q st := by
  rw [reverseSlice'_eq]
  exact wpS_modify (h _ (hB.setArr (mirror_perm _ _ _ _)) rfl)
theorem wpS_binaryI {st : SortSt} {lo n ok : Nat} {Q : Bool → SortSt → Prop} (h0 : SKeys a₀) (hn : lo + n ≤ a₀.size) (hB : SI a₀ st)
    (h : ∀ st', SI a₀ st' → pendingOf st' = pendingOf st → Q true st') : wpS (model prog w) A E s (binarySort' lo n ok) Q st := by
  rw [binarySort'_eq]
  refine wpS_bind (wpS_mono (wpS_forRange (I := fun _ c st' => c = (none, ()) ∧ SI a₀ st' ∧ pendingOf st' = pendingOf st)
    (Q := fun c st' => c = (none, ()) ∧ SI a₀ st' ∧ pendingOf st' = pendingOf st) ?step (fun _ _ h => h) ⟨rfl, hB, rfl⟩) ?post)
  case post =>
    rintro c st' ⟨rfl, hB', hp'⟩
    exact wpS_pure (h st' hB' hp')
  case step =>
    rintro k c st' hak hkn ⟨rfl, hB', hp'⟩
    have hk : lo + k < a₀.size := by omega
    refine wpS_bind (wpS_mono (wpS_forRange (I := fun x c st'' => st'' = st' ∧ ∃ l r, c = (none, l, r) ∧ r ≤ k ∧ l ≤ r)
      (Q := fun c st'' => st'' = st' ∧ ∃ l r, c = (none, l, r)) ?istep ?ifin ⟨rfl, 0, k, rfl, Nat.le_refl _, Nat.zero_le _⟩) ?ipost)
    case ifin =>
      rintro c st'' ⟨rfl, l, r, rfl, _⟩
      exact ⟨rfl, l, r, rfl⟩
    case istep =>
      rintro x c st'' _ hxk ⟨rfl, l, r, rfl, hrk, hlr⟩
      dsimp only
      by_cases hge : l ≥ r
      · rw [if_pos hge]
        exact wpS_pure ⟨rfl, l, r, rfl⟩
      · rw [if_neg hge]
        refine wpS_bind (wpS_ltAtI hB' h0 hk (by omega) fun b => ?_)
        cases b with
        | true => simp only [if_true]; exact wpS_pure ⟨rfl, l, (l + r) / 2, rfl, by omega, by omega⟩
        | false => simp only [Bool.false_eq_true, if_false]; exact wpS_pure ⟨rfl, (l + r) / 2 + 1, r, rfl, hrk, by omega⟩
    case ipost =>
      rintro c st'' ⟨rfl, l, r, rfl⟩
      show wpS _ _ _ _ (do moveDown' (lo + k) (lo + l); pure (ForInStep.yield (none, ()))) _ _
      rw [moveDown'_eq]
      exact wpS_bind (wpS_modify (wpS_pure ⟨rfl, hB'.setArr (bubble_perm _ _ _), hp'⟩))
end
end Mine

end
section
open PySem PyProof.Rows
set_option Elab.async false
set_option autoImplicit false
namespace Mine
section
variable {prog : Program} {w : World} {A : Around} {E : Value → Shared → Prop} {s : Shared} {a₀ : Array Keyed}
/-- SI and the pending runs as they were -/
structure SP (a₀ : Array Keyed) (st₀ st : SortSt) : Prop where
  si : SI a₀ st
  pend : pendingOf st = pendingOf st₀
theorem wpS_crTail {st₀ st : SortSt} {lo nrem m : Nat} {Q : Option Nat → SortSt → Prop} (h0 : SKeys a₀) (hn : lo + nrem ≤ a₀.size) (hm : 1 ≤ m) (hm2 : m ≤ nrem) (hB' : SP a₀ st₀ st)
    (h : ∀ st' n, SP a₀ st₀ st' → 1 ≤ n → n ≤ nrem → Q (some n) st') : wpS (model prog w) A E s (do
      let mut n := m
      reverseSlice' lo (lo + n)
      for _ in [n:nrem] do
        let some smaller ← ltAt' (lo + n) (lo + n - 1) | return none
        if smaller then break
        n := n + 1
      return some n) Q st := by
  refine wpS_bind (wpS_reverseI hB'.si fun st3 hB3 hp3 => ?_)
  have hB3' : SP _ _ st3 := ⟨hB3, hp3.trans hB'.pend⟩
  refine wpS_bind (wpS_mono (wpS_forRange (I := fun x c st' => SP a₀ st₀ st' ∧ c = (none, x)) (Q := fun c st' => SP a₀ st₀ st' ∧ ∃ n, c = (none, n) ∧ 1 ≤ n ∧ n ≤ nrem) ?step (fun c st' h => ⟨h.1, _, h.2, by omega, by omega⟩) ⟨hB3', rfl⟩) ?post)
  case step =>
    rintro x c st' hx1 hx2 ⟨hB4, rfl⟩
    refine wpS_bind (wpS_ltAtI hB4.si h0 (by dsimp only; omega) (by dsimp only; omega) fun b => ?_)
    cases b with
    | true => exact wpS_pure ⟨hB4, x, rfl, by omega, by omega⟩
    | false => exact wpS_pure ⟨hB4, rfl⟩
  case post =>
    rintro c st' ⟨hB4, n, rfl, hn1, hn2⟩
    exact wpS_pure (h _ _ hB4 hn1 hn2)
theorem wpS_crDesc {st₀ st : SortSt} {lo nrem m : Nat} {Q : Option Nat → SortSt → Prop} (h0 : SKeys a₀) (hn : lo + nrem ≤ a₀.size) (hm2 : m + 1 ≤ nrem) (hB : SP a₀ st₀ st)
    (h : ∀ st' n, SP a₀ st₀ st' → 1 ≤ n → n ≤ nrem → Q (some n) st') : wpS (model prog w) A E s (do
      let mut n := m
      rule "list.sort.descending-run"
      n := n + 1
      let mut neq := 0
      for _ in [n:nrem] do
        let some smaller ← ltAt' (lo + n) (lo + n - 1) | return none
        if smaller then
          if neq > 0 then reverseSlice' (lo + n - (neq + 1)) (lo + n)
          neq := 0
        else
          let some larger ← ltAt' (lo + n - 1) (lo + n) | return none
          if larger then break
          neq := neq + 1
        n := n + 1
      if neq > 0 then reverseSlice' (lo + n - (neq + 1)) (lo + n)
      reverseSlice' lo (lo + n)
      for _ in [n:nrem] do
        let some smaller ← ltAt' (lo + n) (lo + n - 1) | return none
        if smaller then break
        n := n + 1
      return some n) Q st := by
  refine wpS_bind (wpS_lift (wpAny_rule ⟨rfl, ?_⟩))
  refine wpS_bind (wpS_mono (wpS_forRange (I := fun x c st' => SP a₀ st₀ st' ∧ ∃ q, c = (none, x, q)) (Q := fun c st' => SP a₀ st₀ st' ∧ ∃ n q, c = (none, n, q) ∧ 1 ≤ n ∧ n ≤ nrem) ?step (fun c st' h => ⟨h.1, _, _, h.2.choose_spec, by omega, by omega⟩) ⟨hB, 0, rfl⟩) ?post)
  case step =>
    rintro x c st' hx1 hx2 ⟨hB4, q, rfl⟩
    dsimp only
    refine wpS_bind (wpS_ltAtI hB4.si h0 (by omega) (by omega) fun b => ?_)
    cases b with
    | true =>
      dsimp only
      rw [if_pos rfl]
      by_cases hq : q > 0
      · rw [if_pos hq]
        exact wpS_bind (wpS_reverseI hB4.si fun st3 hB3 hp3 => wpS_pure ⟨⟨hB3, hp3.trans hB4.pend⟩, 0, rfl⟩)
      · rw [if_neg hq]
        exact wpS_pure ⟨hB4, 0, rfl⟩
    | false =>
      dsimp only
      rw [if_neg (by simp)]
      refine wpS_bind (wpS_ltAtI hB4.si h0 (by omega) (by omega) fun b => ?_)
      cases b with
      | true => exact wpS_pure ⟨hB4, x, q, rfl, by omega, by omega⟩
      | false => exact wpS_pure ⟨hB4, q + 1, rfl⟩
  case post =>
    rintro c st' ⟨hB4, n, q, rfl, hn1, hn2⟩
    dsimp only
    by_cases hq : q > 0
    · rw [if_pos hq]
      exact wpS_bind (wpS_reverseI hB4.si fun st3 hB3 hp3 => wpS_crTail h0 hn hn1 hn2 ⟨hB3, hp3.trans hB4.pend⟩ h)
    · rw [if_neg hq]
      exact wpS_crTail h0 hn hn1 hn2 hB4 h
theorem wpS_countI {st : SortSt} {lo nrem : Nat} {Q : Option Nat → SortSt → Prop} (h0 : SKeys a₀) (hn : lo + nrem ≤ a₀.size) (h1 : 1 ≤ nrem) (hB : SI a₀ st)
    (h : ∀ st' n, SP a₀ st st' → 1 ≤ n → n ≤ nrem → Q (some n) st') : wpS (model prog w) A E s (countRun' lo nrem) Q st := by
  rw [countRun'_eq]
  refine wpS_bind (wpS_mono (wpS_forRange (I := fun x c st' => SP a₀ st st' ∧ c = (none, x)) (Q := fun c st' => SP a₀ st st' ∧ ∃ n, c = (none, n) ∧ 1 ≤ n ∧ n ≤ nrem) ?step (fun c st' h => ⟨h.1, _, h.2, by omega, by omega⟩) ⟨⟨hB, rfl⟩, rfl⟩) ?post)
  case step =>
    rintro x c st' hx1 hx2 ⟨hB4, rfl⟩
    refine wpS_bind (wpS_ltAtI hB4.si h0 (by dsimp only; omega) (by dsimp only; omega) fun b => ?_)
    cases b with
    | true => exact wpS_pure ⟨hB4, x, rfl, by omega, by omega⟩
    | false => exact wpS_pure ⟨hB4, rfl⟩
  case post =>
    rintro c st' ⟨hB4, n, rfl, hn1, hn2⟩
    dsimp only
    by_cases he : n = nrem
    · rw [if_pos (by simp [he])]
      exact wpS_pure (h _ _ hB4 hn1 hn2)
    · rw [if_neg (by simp [he])]
      by_cases hg : n > 1
      · rw [if_pos hg]
        refine wpS_bind (wpS_ltAtI hB4.si h0 (by omega) (by omega) fun b => ?_)
        cases b with
        | true => exact wpS_pure (h _ _ hB4 hn1 hn2)
        | false => exact wpS_bind (wpS_reverseI hB4.si fun st3 hB3 hp3 => wpS_crDesc h0 hn (by omega) ⟨hB3, hp3.trans hB4.pend⟩ h)
      · rw [if_neg hg]
        exact wpS_crDesc h0 hn (by omega) hB4 h
end
end Mine

end
section
open PySem PyProof.Rows
set_option Elab.async false
set_option autoImplicit false
namespace Mine
def gallop' : Bool → Keyed → Array Keyed → Nat → Nat → Nat → StateT SortSt Sem (Option Nat) := sortPriv% PySem.Builtin.gallop
theorem gallop'_eq (left : Bool) (key : Keyed) (arr : Array Keyed) (base n hint : Nat) : gallop' left key arr base n hint = (do
  let beyond (i : Nat) : StateT SortSt Sem (Option Bool) := do
    let x ← elem' arr (base + i)
    if left then lt' x key else return (← lt' key x).map (!·)
  let mut lastofs := 0
  let mut ofs := 1
  let mut lo := 0
  let mut hi := 0
  let some right ← beyond hint | return none
  if right then
    let maxofs := n - hint
    for _ in [0:n] do
      if ofs ≥ maxofs then break
      let some more ← beyond (hint + ofs) | return none
      if !more then break
      lastofs := ofs
      ofs := 2 * ofs + 1
    lo := hint + lastofs + 1
    hi := hint + min ofs maxofs
  else
    let maxofs := hint + 1
    for _ in [0:n] do
      if ofs ≥ maxofs then break
      let some found ← beyond (hint - ofs) | return none
      if found then break
      lastofs := ofs
      ofs := 2 * ofs + 1
    lo := hint + 1 - min ofs maxofs
    hi := hint - lastofs
  for _ in [0:n] do
    if lo ≥ hi then break
    let m := lo + (hi - lo) / 2
    let some more ← beyond m | return none
    if more then lo := m + 1 else hi := m
  return some hi) := rfl
section
variable {prog : Program} {w : World} {A : Around} {E : Value → Shared → Prop} {s : Shared} {a₀ : Array Keyed}
theorem wpS_beyond {st : SortSt} {left : Bool} {key : Keyed} {arr : Array Keyed} {base i : Nat} {Q : Option Bool → SortSt → Prop} (hk : kindOf st = oneType') (ha : SKeys arr) (hkey : ∃ x t, key.1 = .str x t) (hi : base + i < arr.size)
    (h : ∀ b, Q (some b) st) : wpS (model prog w) A E s (do
    let x ← elem' arr (base + i)
    if left then lt' x key else return (← lt' key x).map (!·)) Q st := by
  refine wpS_bind (wpS_elem hi ?_)
  cases left with
  | true => exact wpS_lt hk (ha.at hi) hkey h
  | false => exact wpS_bind (wpS_lt hk hkey (ha.at hi) fun b => wpS_pure (h (!b)))
theorem wpS_gallop {st : SortSt} {left : Bool} {key : Keyed} {arr : Array Keyed} {base n hint : Nat} {Q : Option Nat → SortSt → Prop} (hk : kindOf st = oneType') (ha : SKeys arr) (hkey : ∃ x t, key.1 = .str x t)
    (hn : base + n ≤ arr.size) (hh : hint < n) (h : ∀ k, k ≤ n → Q (some k) st) : wpS (model prog w) A E s (gallop' left key arr base n hint) Q st := by
  rw [gallop'_eq]
  have fin : ∀ (lo hi : Nat), hi ≤ n → wpS (model prog w) A E s (do
      let mut lo := lo
      let mut hi := hi
      for _ in [0:n] do
        if lo ≥ hi then break
        let m := lo + (hi - lo) / 2
        let some more ← (do
          let x ← elem' arr (base + m)
          if left then lt' x key else return (← lt' key x).map (!·)) | return none
        if more then lo := m + 1 else hi := m
      return some hi) Q st := by
    intro lo hi hhi
    refine wpS_bind (wpS_mono (wpS_forRange (I := fun _ c st' => st' = st ∧ ∃ l r, c = (none, l, r) ∧ r ≤ n) (Q := fun c st' => st' = st ∧ ∃ l r, c = (none, l, r) ∧ r ≤ n) ?step (fun c st' h => h) ⟨rfl, lo, hi, rfl, hhi⟩) ?post)
    case step =>
      rintro x c st' _ _ ⟨rfl, l, r, rfl, hr⟩
      dsimp only
      by_cases hge : l ≥ r
      · rw [if_pos hge]; exact wpS_pure ⟨rfl, l, r, rfl, hr⟩
      · rw [if_neg hge]
        refine wpS_bind (wpS_beyond hk ha hkey (by omega) fun b => ?_)
        cases b with
        | true => exact wpS_pure ⟨rfl, _, r, rfl, hr⟩
        | false => exact wpS_pure ⟨rfl, l, _, rfl, by omega⟩
    case post =>
      rintro c st' ⟨rfl, l, r, rfl, hr⟩
      exact wpS_pure (h _ hr)
  refine wpS_bind (wpS_beyond hk ha hkey (by omega) fun b => ?_)
  cases b with
  | true =>
    dsimp only
    rw [if_pos rfl]
    refine wpS_bind (wpS_mono (wpS_forRange (I := fun _ c st' => st' = st ∧ ∃ l r, c = (none, l, r)) (Q := fun c st' => st' = st ∧ ∃ l r, c = (none, l, r)) ?step (fun c st' h => h) ⟨rfl, 0, 1, rfl⟩) ?post)
    case step =>
      rintro x c st' _ _ ⟨rfl, l, r, rfl⟩
      dsimp only
      by_cases hge : r ≥ n - hint
      · rw [if_pos hge]; exact wpS_pure ⟨rfl, l, r, rfl⟩
      · rw [if_neg hge]
        refine wpS_bind (wpS_beyond hk ha hkey (by omega) fun b => ?_)
        cases b with
        | true => exact wpS_pure ⟨rfl, _, _, rfl⟩
        | false => exact wpS_pure ⟨rfl, l, r, rfl⟩
    case post =>
      rintro c st' ⟨rfl, l, r, rfl⟩
      exact fin _ _ (by omega)
  | false =>
    dsimp only
    rw [if_neg (by simp)]
    refine wpS_bind (wpS_mono (wpS_forRange (I := fun _ c st' => st' = st ∧ ∃ l r, c = (none, l, r)) (Q := fun c st' => st' = st ∧ ∃ l r, c = (none, l, r)) ?step2 (fun c st' h => h) ⟨rfl, 0, 1, rfl⟩) ?post2)
    case step2 =>
      rintro x c st' _ _ ⟨rfl, l, r, rfl⟩
      dsimp only
      by_cases hge : r ≥ hint + 1
      · rw [if_pos hge]; exact wpS_pure ⟨rfl, l, r, rfl⟩
      · rw [if_neg hge]
        refine wpS_bind (wpS_beyond hk ha hkey (by omega) fun b => ?_)
        cases b with
        | true => exact wpS_pure ⟨rfl, l, r, rfl⟩
        | false => exact wpS_pure ⟨rfl, _, _, rfl⟩
    case post2 =>
      rintro c st' ⟨rfl, l, r, rfl⟩
      exact fin _ _ (by omega)
end
end Mine

end
section
open PySem PyProof.Rows
set_option Elab.async false
set_option autoImplicit false
namespace Mine
def setMinGallop' : Nat → StateT SortSt Sem Unit := sortPriv% PySem.Builtin.setMinGallop
theorem setMinGallop'_eq (g : Nat) : setMinGallop' g = modify (fun s => SortSt.mk' (kindOf s) (arrOf s) (pendingOf s) g (failedOf s)) := rfl
def mergeLo' : Array Keyed → Array Keyed → StateT SortSt Sem (Array Keyed) := sortPriv% PySem.Builtin.mergeLo
theorem mergeLo'_eq (a b : Array Keyed) : mergeLo' a b = (do
  rule "list.sort.merge-lo"
  let total := a.size + b.size
  let done (out : Array Keyed) (ia ib : Nat) := out ++ a.extract ia a.size ++ b.extract ib b.size
  let lastOfA (out : Array Keyed) (ia ib : Nat) := out ++ b.extract ib b.size ++ a.extract ia a.size
  let mut out : Array Keyed := #[← elem' b 0]
  let mut ia := 0
  let mut ib := 1
  if ib == b.size then return done out ia ib
  if ia + 1 == a.size then return lastOfA out ia ib
  let mut minGallop := gallopOf (← get)
  for _ in [0:total] do
    let mut acount := 0
    let mut bcount := 0
    for _ in [0:total] do
      let some bWins ← lt' (← elem' b ib) (← elem' a ia) | return done out ia ib
      if bWins then
        out := out.push (← elem' b ib); ib := ib + 1; bcount := bcount + 1; acount := 0
        if ib == b.size then return done out ia ib
        if bcount ≥ minGallop then break
      else
        out := out.push (← elem' a ia); ia := ia + 1; acount := acount + 1; bcount := 0
        if ia + 1 == a.size then return lastOfA out ia ib
        if acount ≥ minGallop then break
    rule "list.sort.gallop"
    minGallop := minGallop + 1
    for _ in [0:total] do
      if minGallop > 1 then minGallop := minGallop - 1
      setMinGallop' minGallop
      let some k ← gallop' false (← elem' b ib) a ia (a.size - ia) 0 | return done out ia ib
      acount := k
      if k > 0 then
        out := out ++ a.extract ia (ia + k); ia := ia + k
        if ia + 1 == a.size then return lastOfA out ia ib
        if ia == a.size then return done out ia ib
      out := out.push (← elem' b ib); ib := ib + 1
      if ib == b.size then return done out ia ib
      let some k ← gallop' true (← elem' a ia) b ib (b.size - ib) 0 | return done out ia ib
      bcount := k
      if k > 0 then
        out := out ++ b.extract ib (ib + k); ib := ib + k
        if ib == b.size then return done out ia ib
      out := out.push (← elem' a ia); ia := ia + 1
      if ia + 1 == a.size then return lastOfA out ia ib
      if acount < 7 && bcount < 7 then break
    minGallop := minGallop + 1
    setMinGallop' minGallop
  unsupported "internal:list.sort.merge-bound") := rfl
section perm
variable {α : Type}
theorem perm_mid {A B X : List α} : ((A ++ B) ++ X).Perm ((A ++ X) ++ B) := by
  rw [List.append_assoc, List.append_assoc]
  exact List.Perm.append_left A List.perm_append_comm
/-- what has been taken of two rows -/
def MP (a b out : Array α) (i j : Nat) : Prop := out.toList.Perm (a.toList.take i ++ b.toList.take j)
theorem MP.addA {a b out : Array α} {i j i' : Nat} {X : List α} {out' : Array α} (h : MP a b out i j) (e : a.toList.take i' = a.toList.take i ++ X) (eo : out'.toList = out.toList ++ X) : MP a b out' i' j := by
  unfold MP at *
  rw [eo, e]
  exact (List.Perm.append_right X h).trans perm_mid
theorem MP.addB {a b out : Array α} {i j j' : Nat} {X : List α} {out' : Array α} (h : MP a b out i j) (e : b.toList.take j' = b.toList.take j ++ X) (eo : out'.toList = out.toList ++ X) : MP a b out' i j' := by
  unfold MP at *
  rw [eo, e, ← List.append_assoc]
  exact List.Perm.append_right X h
theorem take_ext (a : Array α) (i k : Nat) : a.toList.take (i + k) = a.toList.take i ++ (a.extract i (i + k)).toList := by
  rw [Array.toList_extract, List.extract_eq_take_drop, show i + k - i = k by omega, List.take_add]
theorem take_one (a : Array α) {i : Nat} (h : i < a.size) : a.toList.take (i + 1) = a.toList.take i ++ [a[i]] := by
  rw [List.take_add_one]
  have : a.toList[i]? = some a[i] := by simp [h]
  rw [this]; rfl
theorem MP.pushA {a b out : Array α} {i j : Nat} (h : MP a b out i j) (hi : i < a.size) : MP a b (out.push a[i]) (i + 1) j := h.addA (take_one a hi) (by simp)
theorem MP.pushB {a b out : Array α} {i j : Nat} (h : MP a b out i j) (hj : j < b.size) : MP a b (out.push b[j]) i (j + 1) := h.addB (take_one b hj) (by simp)
theorem MP.extA {a b out : Array α} {i j k : Nat} (h : MP a b out i j) : MP a b (out ++ a.extract i (i + k)) (i + k) j := h.addA (take_ext a i k) (by simp)
theorem MP.extB {a b out : Array α} {i j k : Nat} (h : MP a b out i j) : MP a b (out ++ b.extract j (j + k)) i (j + k) := h.addB (take_ext b j k) (by simp)
theorem take_rest (a : Array α) (i : Nat) : a.toList = a.toList.take i ++ (a.extract i a.size).toList := by
  rw [Array.toList_extract, List.extract_eq_take_drop]
  have : (a.toList.drop i).take (a.size - i) = a.toList.drop i := List.take_of_length_le (by simp)
  rw [this, List.take_append_drop]
theorem MP.done {a b out : Array α} {i j : Nat} (h : MP a b out i j) : (out ++ a.extract i a.size ++ b.extract j b.size).toList.Perm (a.toList ++ b.toList) := by
  have h1 : MP a b (out ++ a.extract i a.size) a.size j := h.addA (by rw [show a.toList.take a.size = a.toList from List.take_of_length_le (by simp)]; exact take_rest a i) (by simp)
  have h2 : MP a b (out ++ a.extract i a.size ++ b.extract j b.size) a.size b.size := h1.addB (by rw [show b.toList.take b.size = b.toList from List.take_of_length_le (by simp)]; exact take_rest b j) (by simp)
  unfold MP at h2
  rwa [show a.toList.take a.size = a.toList from List.take_of_length_le (by simp), show b.toList.take b.size = b.toList from List.take_of_length_le (by simp)] at h2
theorem MP.last {a b out : Array α} {i j : Nat} (h : MP a b out i j) : (out ++ b.extract j b.size ++ a.extract i a.size).toList.Perm (a.toList ++ b.toList) := by
  have h1 : MP a b (out ++ b.extract j b.size) i b.size := h.addB (by rw [show b.toList.take b.size = b.toList from List.take_of_length_le (by simp)]; exact take_rest b j) (by simp)
  have h2 : MP a b (out ++ b.extract j b.size ++ a.extract i a.size) a.size b.size := h1.addA (by rw [show a.toList.take a.size = a.toList from List.take_of_length_le (by simp)]; exact take_rest a i) (by simp)
  unfold MP at h2
  rwa [show a.toList.take a.size = a.toList from List.take_of_length_le (by simp), show b.toList.take b.size = b.toList from List.take_of_length_le (by simp)] at h2
end perm
section
variable {prog : Program} {w : World} {A : Around} {E : Value → Shared → Prop} {s : Shared}
/-- all but the gallop's number as it was -/
structure SG (st₀ st : SortSt) : Prop where
  arr : arrOf st = arrOf st₀
  kind : kindOf st = oneType'
  failed : failedOf st = failedOf st₀
  pend : pendingOf st = pendingOf st₀
theorem wpS_setG {st₀ st : SortSt} {g : Nat} {Q : Unit → SortSt → Prop} (hg : SG st₀ st) (h : ∀ st', SG st₀ st' → Q () st') : wpS (model prog w) A E s (setMinGallop' g) Q st := by
  rw [setMinGallop'_eq]
  exact wpS_modify (h _ ⟨hg.arr, hg.kind, hg.failed, hg.pend⟩)
theorem wpS_mergeLo {st : SortSt} {a b : Array Keyed} {Q : Array Keyed → SortSt → Prop} (ha : SKeys a) (hb : SKeys b) (hk : kindOf st = oneType') (ha1 : 1 ≤ a.size) (hb1 : 1 ≤ b.size)
    (h : ∀ out st', SG st st' → out.toList.Perm (a.toList ++ b.toList) → Q out st') : wpS (model prog w) A E s (mergeLo' a b) Q st := by
  rw [mergeLo'_eq]
  refine wpS_bind (wpS_lift (wpAny_rule ⟨rfl, ?_⟩))
  refine wpS_bind (wpS_elem (by omega) ?_)
  dsimp only
  have hg0 : SG st st := ⟨rfl, hk, rfl, rfl⟩
  have hm0 : MP a b #[b[0]] 0 1 := by
    have := MP.pushB (a := a) (b := b) (out := #[]) (i := 0) (j := 0) (by unfold MP; simp) (by omega)
    exact this
  by_cases h1 : (1 == b.size) = true
  · rw [if_pos h1]; exact wpS_pure (h _ _ hg0 hm0.done)
  rw [if_neg h1]
  by_cases h2 : (0 + 1 == a.size) = true
  · rw [if_pos h2]; exact wpS_pure (h _ _ hg0 hm0.last)
  rw [if_neg h2]
  simp only [beq_iff_eq] at h1 h2
  refine wpS_bind (wpS_get ?_)
  refine wpS_bind (wpS_mono (wpS_forRange
    (I := fun x c st' => SG st st' ∧ ∃ out ia ib mg, c = (none, out, ia, ib, mg) ∧ MP a b out ia ib ∧ ia + 1 < a.size ∧ ib < b.size ∧ x ≤ ia + ib)
    (Q := fun c st' => SG st st' ∧ ∃ r rest, c = (some r, rest) ∧ r.toList.Perm (a.toList ++ b.toList)) ?step ?fin ⟨hg0, _, 0, 1, _, rfl, hm0, by omega, by omega, by omega⟩) ?post)
  case fin =>
    rintro c st' ⟨_, out, ia, ib, mg, _, _, h3, h4, h5⟩
    omega
  case post =>
    rintro c st' ⟨hg, r, rest, rfl, hp⟩
    exact wpS_pure (h _ _ hg hp)
  case step =>
    rintro x c st1 _ hx ⟨hg1, out0, ia0, ib0, mg0, rfl, hm1, hi0, hj0, hxi⟩
    dsimp only
    refine wpS_bind (wpS_mono (wpS_forRange
      (I := fun y c st' => SG st st' ∧ ∃ out ia ib ac bc, c = (none, out, ia, ib, ac, bc) ∧ MP a b out ia ib ∧ ia + 1 < a.size ∧ ib < b.size ∧ ia + ib = ia0 + ib0 + y)
      (Q := fun c st' => SG st st' ∧ ((∃ r rest, c = (some r, rest) ∧ r.toList.Perm (a.toList ++ b.toList)) ∨ ∃ out ia ib ac bc, c = (none, out, ia, ib, ac, bc) ∧ MP a b out ia ib ∧ ia + 1 < a.size ∧ ib < b.size ∧ ia0 + ib0 + 1 ≤ ia + ib)) ?step1 ?fin1 ⟨hg1, _, ia0, ib0, 0, 0, rfl, hm1, hi0, hj0, rfl⟩) ?post1)
    case fin1 =>
      rintro c st' ⟨_, out, ia, ib, ac, bc, _, _, h3, h4, h5⟩
      omega
    case step1 =>
      rintro y c st2 _ hy ⟨hg2, out, ia, ib, ac, bc, rfl, hm2, hi, hj, he⟩
      dsimp only
      refine wpS_bind (wpS_elem hj (wpS_bind (wpS_elem (by omega) (wpS_bind (wpS_lt hg2.kind (hb.at hj) (ha.at (by omega)) fun v => ?_)))))
      cases v with
      | true =>
        dsimp only
        rw [if_pos rfl]
        refine wpS_bind (wpS_elem hj ?_)
        by_cases q1 : (ib + 1 == b.size) = true
        · rw [if_pos q1]; exact wpS_pure ⟨hg2, .inl ⟨_, _, rfl, (hm2.pushB hj).done⟩⟩
        · rw [if_neg q1]
          simp only [beq_iff_eq] at q1
          by_cases q2 : bc + 1 ≥ mg0
          · rw [if_pos q2]; exact wpS_pure ⟨hg2, .inr ⟨_, ia, ib + 1, _, _, rfl, hm2.pushB hj, hi, by omega, by omega⟩⟩
          · rw [if_neg q2]; exact wpS_pure ⟨hg2, _, ia, ib + 1, _, _, rfl, hm2.pushB hj, hi, by omega, by omega⟩
      | false =>
        dsimp only
        rw [if_neg (by simp)]
        refine wpS_bind (wpS_elem (by omega) ?_)
        by_cases q1 : (ia + 1 + 1 == a.size) = true
        · rw [if_pos q1]; exact wpS_pure ⟨hg2, .inl ⟨_, _, rfl, (hm2.pushA (by omega)).last⟩⟩
        · rw [if_neg q1]
          simp only [beq_iff_eq] at q1
          by_cases q2 : ac + 1 ≥ mg0
          · rw [if_pos q2]; exact wpS_pure ⟨hg2, .inr ⟨_, ia + 1, ib, _, _, rfl, hm2.pushA (by omega), by omega, hj, by omega⟩⟩
          · rw [if_neg q2]; exact wpS_pure ⟨hg2, _, ia + 1, ib, _, _, rfl, hm2.pushA (by omega), by omega, hj, by omega⟩
    case post1 =>
      rintro c st2 ⟨hg2, ⟨r, rest, rfl, hp⟩ | ⟨out, ia, ib, ac, bc, rfl, hm2, hi, hj, he⟩⟩
      · exact wpS_pure ⟨hg2, r, _, rfl, hp⟩
      dsimp only
      refine wpS_bind (wpS_lift (wpAny_rule ⟨rfl, ?_⟩))
      refine wpS_bind (wpS_mono (wpS_forRange
        (I := fun y c st' => SG st st' ∧ ∃ out ia ib mg ac bc, c = (none, out, ia, ib, mg, ac, bc) ∧ MP a b out ia ib ∧ ia + 1 < a.size ∧ ib < b.size ∧ ia0 + ib0 + 1 ≤ ia + ib)
        (Q := fun c st' => SG st st' ∧ ((∃ r rest, c = (some r, rest) ∧ r.toList.Perm (a.toList ++ b.toList)) ∨ ∃ out ia ib mg ac bc, c = (none, out, ia, ib, mg, ac, bc) ∧ MP a b out ia ib ∧ ia + 1 < a.size ∧ ib < b.size ∧ ia0 + ib0 + 1 ≤ ia + ib)) ?step2 (fun c st' hh => ⟨hh.1, .inr hh.2⟩) ⟨hg2, _, ia, ib, _, ac, bc, rfl, hm2, hi, hj, he⟩) ?post2)
      case post2 =>
        rintro c st3 ⟨hg3, ⟨r, rest, rfl, hp⟩ | ⟨out, ia, ib, mg, ac, bc, rfl, hm3, hi, hj, he⟩⟩
        · exact wpS_pure ⟨hg3, r, _, rfl, hp⟩
        exact wpS_bind (wpS_setG hg3 fun st4 hg4 => wpS_pure ⟨hg4, _, ia, ib, _, rfl, hm3, hi, hj, by omega⟩)
      case step2 =>
        clear hm2 hi hj he hm1 hi0 hj0
        rintro y c st3 _ hy ⟨hg3, out, ia, ib, mg, ac, bc, rfl, hm2, hi, hj, he⟩
        dsimp only
        by_cases hmg : mg > 1
        · rw [if_pos hmg]
          refine wpS_bind (wpS_setG hg3 fun st4 hg4 => wpS_bind (wpS_elem hj (wpS_bind (wpS_gallop hg4.kind ha (hb.at hj) (by omega) (by omega) fun k hk => ?_))))
          dsimp only
          by_cases q2 : k > 0
          · rw [if_pos q2]
            by_cases q3 : (ia + k + 1 == a.size) = true
            · rw [if_pos q3]; exact wpS_pure ⟨hg4, .inl ⟨_, _, rfl, hm2.extA.last⟩⟩
            rw [if_neg q3]
            by_cases q4 : (ia + k == a.size) = true
            · rw [if_pos q4]; exact wpS_pure ⟨hg4, .inl ⟨_, _, rfl, hm2.extA.done⟩⟩
            rw [if_neg q4]
            simp only [beq_iff_eq] at q3 q4
            refine wpS_bind (wpS_elem hj ?_)
            by_cases q5 : (ib + 1 == b.size) = true
            · rw [if_pos q5]; exact wpS_pure ⟨hg4, .inl ⟨_, _, rfl, (hm2.extA.pushB hj).done⟩⟩
            rw [if_neg q5]
            simp only [beq_iff_eq] at q5
            refine wpS_bind (wpS_elem (by omega) (wpS_bind (wpS_gallop hg4.kind hb (ha.at (by omega)) (by omega) (by omega) fun k2 hk2 => ?_)))
            dsimp only
            by_cases q6 : k2 > 0
            · rw [if_pos q6]
              by_cases q7 : (ib + 1 + k2 == b.size) = true
              · rw [if_pos q7]; exact wpS_pure ⟨hg4, .inl ⟨_, _, rfl, (hm2.extA.pushB hj).extB.done⟩⟩
              rw [if_neg q7]
              simp only [beq_iff_eq] at q7
              refine wpS_bind (wpS_elem (by omega) ?_)
              by_cases r1 : (ia + k + 1 + 1 == a.size) = true
              · rw [if_pos r1]; exact wpS_pure ⟨hg4, .inl ⟨_, _, rfl, ((hm2.extA.pushB hj).extB.pushA (by omega)).last⟩⟩
              rw [if_neg r1]
              simp only [beq_iff_eq] at r1
              split
              · exact wpS_pure ⟨hg4, .inr ⟨_, _, _, _, _, _, rfl, (hm2.extA.pushB hj).extB.pushA (by omega), by omega, by omega, by omega⟩⟩
              · exact wpS_pure ⟨hg4, _, _, _, _, _, _, rfl, (hm2.extA.pushB hj).extB.pushA (by omega), by omega, by omega, by omega⟩
            · rw [if_neg q6]
              refine wpS_bind (wpS_elem (by omega) ?_)
              by_cases r1 : (ia + k + 1 + 1 == a.size) = true
              · rw [if_pos r1]; exact wpS_pure ⟨hg4, .inl ⟨_, _, rfl, ((hm2.extA.pushB hj).pushA (by omega)).last⟩⟩
              rw [if_neg r1]
              simp only [beq_iff_eq] at r1
              split
              · exact wpS_pure ⟨hg4, .inr ⟨_, _, _, _, _, _, rfl, (hm2.extA.pushB hj).pushA (by omega), by omega, by omega, by omega⟩⟩
              · exact wpS_pure ⟨hg4, _, _, _, _, _, _, rfl, (hm2.extA.pushB hj).pushA (by omega), by omega, by omega, by omega⟩
          · rw [if_neg q2]
            refine wpS_bind (wpS_elem hj ?_)
            by_cases q5 : (ib + 1 == b.size) = true
            · rw [if_pos q5]; exact wpS_pure ⟨hg4, .inl ⟨_, _, rfl, (hm2.pushB hj).done⟩⟩
            rw [if_neg q5]
            simp only [beq_iff_eq] at q5
            refine wpS_bind (wpS_elem (by omega) (wpS_bind (wpS_gallop hg4.kind hb (ha.at (by omega)) (by omega) (by omega) fun k2 hk2 => ?_)))
            dsimp only
            by_cases q6 : k2 > 0
            · rw [if_pos q6]
              by_cases q7 : (ib + 1 + k2 == b.size) = true
              · rw [if_pos q7]; exact wpS_pure ⟨hg4, .inl ⟨_, _, rfl, (hm2.pushB hj).extB.done⟩⟩
              rw [if_neg q7]
              simp only [beq_iff_eq] at q7
              refine wpS_bind (wpS_elem (by omega) ?_)
              by_cases r1 : (ia + 1 + 1 == a.size) = true
              · rw [if_pos r1]; exact wpS_pure ⟨hg4, .inl ⟨_, _, rfl, ((hm2.pushB hj).extB.pushA (by omega)).last⟩⟩
              rw [if_neg r1]
              simp only [beq_iff_eq] at r1
              split
              · exact wpS_pure ⟨hg4, .inr ⟨_, _, _, _, _, _, rfl, (hm2.pushB hj).extB.pushA (by omega), by omega, by omega, by omega⟩⟩
              · exact wpS_pure ⟨hg4, _, _, _, _, _, _, rfl, (hm2.pushB hj).extB.pushA (by omega), by omega, by omega, by omega⟩
            · rw [if_neg q6]
              refine wpS_bind (wpS_elem (by omega) ?_)
              by_cases r1 : (ia + 1 + 1 == a.size) = true
              · rw [if_pos r1]; exact wpS_pure ⟨hg4, .inl ⟨_, _, rfl, ((hm2.pushB hj).pushA (by omega)).last⟩⟩
              rw [if_neg r1]
              simp only [beq_iff_eq] at r1
              split
              · exact wpS_pure ⟨hg4, .inr ⟨_, _, _, _, _, _, rfl, (hm2.pushB hj).pushA (by omega), by omega, by omega, by omega⟩⟩
              · exact wpS_pure ⟨hg4, _, _, _, _, _, _, rfl, (hm2.pushB hj).pushA (by omega), by omega, by omega, by omega⟩
        · rw [if_neg hmg]
          refine wpS_bind (wpS_setG hg3 fun st4 hg4 => wpS_bind (wpS_elem hj (wpS_bind (wpS_gallop hg4.kind ha (hb.at hj) (by omega) (by omega) fun k hk => ?_))))
          dsimp only
          by_cases q2 : k > 0
          · rw [if_pos q2]
            by_cases q3 : (ia + k + 1 == a.size) = true
            · rw [if_pos q3]; exact wpS_pure ⟨hg4, .inl ⟨_, _, rfl, hm2.extA.last⟩⟩
            rw [if_neg q3]
            by_cases q4 : (ia + k == a.size) = true
            · rw [if_pos q4]; exact wpS_pure ⟨hg4, .inl ⟨_, _, rfl, hm2.extA.done⟩⟩
            rw [if_neg q4]
            simp only [beq_iff_eq] at q3 q4
            refine wpS_bind (wpS_elem hj ?_)
            by_cases q5 : (ib + 1 == b.size) = true
            · rw [if_pos q5]; exact wpS_pure ⟨hg4, .inl ⟨_, _, rfl, (hm2.extA.pushB hj).done⟩⟩
            rw [if_neg q5]
            simp only [beq_iff_eq] at q5
            refine wpS_bind (wpS_elem (by omega) (wpS_bind (wpS_gallop hg4.kind hb (ha.at (by omega)) (by omega) (by omega) fun k2 hk2 => ?_)))
            dsimp only
            by_cases q6 : k2 > 0
            · rw [if_pos q6]
              by_cases q7 : (ib + 1 + k2 == b.size) = true
              · rw [if_pos q7]; exact wpS_pure ⟨hg4, .inl ⟨_, _, rfl, (hm2.extA.pushB hj).extB.done⟩⟩
              rw [if_neg q7]
              simp only [beq_iff_eq] at q7
              refine wpS_bind (wpS_elem (by omega) ?_)
              by_cases r1 : (ia + k + 1 + 1 == a.size) = true
              · rw [if_pos r1]; exact wpS_pure ⟨hg4, .inl ⟨_, _, rfl, ((hm2.extA.pushB hj).extB.pushA (by omega)).last⟩⟩
              rw [if_neg r1]
              simp only [beq_iff_eq] at r1
              split
              · exact wpS_pure ⟨hg4, .inr ⟨_, _, _, _, _, _, rfl, (hm2.extA.pushB hj).extB.pushA (by omega), by omega, by omega, by omega⟩⟩
              · exact wpS_pure ⟨hg4, _, _, _, _, _, _, rfl, (hm2.extA.pushB hj).extB.pushA (by omega), by omega, by omega, by omega⟩
            · rw [if_neg q6]
              refine wpS_bind (wpS_elem (by omega) ?_)
              by_cases r1 : (ia + k + 1 + 1 == a.size) = true
              · rw [if_pos r1]; exact wpS_pure ⟨hg4, .inl ⟨_, _, rfl, ((hm2.extA.pushB hj).pushA (by omega)).last⟩⟩
              rw [if_neg r1]
              simp only [beq_iff_eq] at r1
              split
              · exact wpS_pure ⟨hg4, .inr ⟨_, _, _, _, _, _, rfl, (hm2.extA.pushB hj).pushA (by omega), by omega, by omega, by omega⟩⟩
              · exact wpS_pure ⟨hg4, _, _, _, _, _, _, rfl, (hm2.extA.pushB hj).pushA (by omega), by omega, by omega, by omega⟩
          · rw [if_neg q2]
            refine wpS_bind (wpS_elem hj ?_)
            by_cases q5 : (ib + 1 == b.size) = true
            · rw [if_pos q5]; exact wpS_pure ⟨hg4, .inl ⟨_, _, rfl, (hm2.pushB hj).done⟩⟩
            rw [if_neg q5]
            simp only [beq_iff_eq] at q5
            refine wpS_bind (wpS_elem (by omega) (wpS_bind (wpS_gallop hg4.kind hb (ha.at (by omega)) (by omega) (by omega) fun k2 hk2 => ?_)))
            dsimp only
            by_cases q6 : k2 > 0
            · rw [if_pos q6]
              by_cases q7 : (ib + 1 + k2 == b.size) = true
              · rw [if_pos q7]; exact wpS_pure ⟨hg4, .inl ⟨_, _, rfl, (hm2.pushB hj).extB.done⟩⟩
              rw [if_neg q7]
              simp only [beq_iff_eq] at q7
              refine wpS_bind (wpS_elem (by omega) ?_)
              by_cases r1 : (ia + 1 + 1 == a.size) = true
              · rw [if_pos r1]; exact wpS_pure ⟨hg4, .inl ⟨_, _, rfl, ((hm2.pushB hj).extB.pushA (by omega)).last⟩⟩
              rw [if_neg r1]
              simp only [beq_iff_eq] at r1
              split
              · exact wpS_pure ⟨hg4, .inr ⟨_, _, _, _, _, _, rfl, (hm2.pushB hj).extB.pushA (by omega), by omega, by omega, by omega⟩⟩
              · exact wpS_pure ⟨hg4, _, _, _, _, _, _, rfl, (hm2.pushB hj).extB.pushA (by omega), by omega, by omega, by omega⟩
            · rw [if_neg q6]
              refine wpS_bind (wpS_elem (by omega) ?_)
              by_cases r1 : (ia + 1 + 1 == a.size) = true
              · rw [if_pos r1]; exact wpS_pure ⟨hg4, .inl ⟨_, _, rfl, ((hm2.pushB hj).pushA (by omega)).last⟩⟩
              rw [if_neg r1]
              simp only [beq_iff_eq] at r1
              split
              · exact wpS_pure ⟨hg4, .inr ⟨_, _, _, _, _, _, rfl, (hm2.pushB hj).pushA (by omega), by omega, by omega, by omega⟩⟩
              · exact wpS_pure ⟨hg4, _, _, _, _, _, _, rfl, (hm2.pushB hj).pushA (by omega), by omega, by omega, by omega⟩
end
end Mine

end
section
open PySem PyProof.Rows
set_option Elab.async false
set_option autoImplicit false
namespace Mine
def mergeHi' : Array Keyed → Array Keyed → StateT SortSt Sem (Array Keyed) := sortPriv% PySem.Builtin.mergeHi
theorem mergeHi'_eq (a b : Array Keyed) : mergeHi' a b = (do
  rule "list.sort.merge-hi"
  let total := a.size + b.size
  let done (out : Array Keyed) (na nb : Nat) := a.extract 0 na ++ b.extract 0 nb ++ out.reverse
  let firstOfB (out : Array Keyed) (na nb : Nat) := b.extract 0 nb ++ a.extract 0 na ++ out.reverse
  let mut na := a.size - 1
  let mut nb := b.size
  let mut out : Array Keyed := #[← elem' a na]
  if na == 0 then return done out na nb
  if nb == 1 then return firstOfB out na nb
  let mut minGallop := gallopOf (← get)
  for _ in [0:total] do
    let mut acount := 0
    let mut bcount := 0
    for _ in [0:total] do
      let some aWins ← lt' (← elem' b (nb - 1)) (← elem' a (na - 1)) | return done out na nb
      if aWins then
        na := na - 1; out := out.push (← elem' a na); acount := acount + 1; bcount := 0
        if na == 0 then return done out na nb
        if acount ≥ minGallop then break
      else
        nb := nb - 1; out := out.push (← elem' b nb); bcount := bcount + 1; acount := 0
        if nb == 1 then return firstOfB out na nb
        if bcount ≥ minGallop then break
    rule "list.sort.gallop"
    minGallop := minGallop + 1
    for _ in [0:total] do
      if minGallop > 1 then minGallop := minGallop - 1
      setMinGallop' minGallop
      let some at_ ← gallop' false (← elem' b (nb - 1)) a 0 na (na - 1) | return done out na nb
      let k := na - at_
      acount := k
      if k > 0 then
        out := out ++ (a.extract at_ na).reverse; na := at_
        if na == 0 then return done out na nb
      nb := nb - 1; out := out.push (← elem' b nb)
      if nb == 1 then return firstOfB out na nb
      let some at_ ← gallop' true (← elem' a (na - 1)) b 0 nb (nb - 1) | return done out na nb
      let k := nb - at_
      bcount := k
      if k > 0 then
        out := out ++ (b.extract at_ nb).reverse; nb := at_
        if nb == 1 then return firstOfB out na nb
        if nb == 0 then return done out na nb
      na := na - 1; out := out.push (← elem' a na)
      if na == 0 then return done out na nb
      if acount < 7 && bcount < 7 then break
    minGallop := minGallop + 1
    setMinGallop' minGallop
  unsupported "internal:list.sort.merge-bound") := rfl
section perm
variable {α : Type}
/-- what is still to be taken, and what has been taken -/
def MH (a b out : Array α) (i j : Nat) : Prop := (a.toList.take i ++ b.toList.take j ++ out.toList).Perm (a.toList ++ b.toList)
theorem MH.done {a b out : Array α} {i j : Nat} (h : MH a b out i j) : (a.extract 0 i ++ b.extract 0 j ++ out.reverse).toList.Perm (a.toList ++ b.toList) := by
  refine List.Perm.trans ?_ h
  simp only [Array.toList_append, Array.toList_extract, Array.toList_reverse, List.extract_eq_take_drop, List.drop_zero, Nat.sub_zero]
  exact List.Perm.append_left _ (List.reverse_perm _)
theorem MH.last {a b out : Array α} {i j : Nat} (h : MH a b out i j) : (b.extract 0 j ++ a.extract 0 i ++ out.reverse).toList.Perm (a.toList ++ b.toList) := by
  refine List.Perm.trans ?_ h
  simp only [Array.toList_append, Array.toList_extract, Array.toList_reverse, List.extract_eq_take_drop, List.drop_zero, Nat.sub_zero]
  exact (List.Perm.append_left _ (List.reverse_perm _)).trans (List.Perm.append_right _ List.perm_append_comm)
theorem MH.subA {a b out out' : Array α} {i i' j : Nat} {X : List α} (h : MH a b out i j) (e : a.toList.take i = a.toList.take i' ++ X) (eo : out'.toList.Perm (out.toList ++ X)) : MH a b out' i' j := by
  unfold MH at *
  rw [e] at h
  refine List.Perm.trans ((List.Perm.append_left _ eo).trans ?_) h
  rw [← List.append_assoc]
  refine perm_mid.trans (List.Perm.append_right _ ?_)
  exact perm_mid
theorem MH.subB {a b out out' : Array α} {i j j' : Nat} {X : List α} (h : MH a b out i j) (e : b.toList.take j = b.toList.take j' ++ X) (eo : out'.toList.Perm (out.toList ++ X)) : MH a b out' i j' := by
  unfold MH at *
  rw [e] at h
  refine List.Perm.trans ((List.Perm.append_left _ eo).trans ?_) h
  rw [← List.append_assoc, ← List.append_assoc]
  exact perm_mid
theorem take_prev (a : Array α) {i : Nat} (h : i - 1 < a.size) (h0 : 0 < i) : a.toList.take i = a.toList.take (i - 1) ++ [a[i - 1]] := by
  have := take_one a h
  rwa [show i - 1 + 1 = i by omega] at this
theorem take_back (a : Array α) {i k : Nat} (h : k ≤ i) : a.toList.take i = a.toList.take k ++ (a.extract k i).toList := by
  have := take_ext a k (i - k)
  rwa [show k + (i - k) = i by omega] at this
theorem MH.popA {a b out : Array α} {i j : Nat} (h : MH a b out i j) (hi : i - 1 < a.size) (h0 : 0 < i) : MH a b (out.push a[i - 1]) (i - 1) j := h.subA (take_prev a hi h0) (by simp)
theorem MH.popB {a b out : Array α} {i j : Nat} (h : MH a b out i j) (hj : j - 1 < b.size) (h0 : 0 < j) : MH a b (out.push b[j - 1]) i (j - 1) := h.subB (take_prev b hj h0) (by simp)
theorem MH.cutA {a b out : Array α} {i j k : Nat} (h : MH a b out i j) (hk : k ≤ i) : MH a b (out ++ (a.extract k i).reverse) k j := h.subA (take_back a hk) (by
  rw [Array.toList_append, Array.toList_reverse]
  exact List.Perm.append_left _ (List.reverse_perm _))
theorem MH.cutB {a b out : Array α} {i j k : Nat} (h : MH a b out i j) (hk : k ≤ j) : MH a b (out ++ (b.extract k j).reverse) i k := h.subB (take_back b hk) (by
  rw [Array.toList_append, Array.toList_reverse]
  exact List.Perm.append_left _ (List.reverse_perm _))
end perm
section
variable {prog : Program} {w : World} {A : Around} {E : Value → Shared → Prop} {s : Shared}
theorem wpS_mergeHi {st : SortSt} {a b : Array Keyed} {Q : Array Keyed → SortSt → Prop} (ha : SKeys a) (hb : SKeys b) (hk : kindOf st = oneType') (ha1 : 1 ≤ a.size) (hb1 : 1 ≤ b.size)
    (h : ∀ out st', SG st st' → out.toList.Perm (a.toList ++ b.toList) → Q out st') : wpS (model prog w) A E s (mergeHi' a b) Q st := by
  rw [mergeHi'_eq]
  refine wpS_bind (wpS_lift (wpAny_rule ⟨rfl, ?_⟩))
  refine wpS_bind (wpS_elem (by omega) ?_)
  dsimp only
  have hg0 : SG st st := ⟨rfl, hk, rfl, rfl⟩
  have hm0 : MH a b #[a[a.size - 1]] (a.size - 1) b.size := by
    have h0 : MH a b #[] a.size b.size := by
      unfold MH
      rw [show a.toList.take a.size = a.toList from List.take_of_length_le (by simp), show b.toList.take b.size = b.toList from List.take_of_length_le (by simp)]
      simp
    exact h0.popA (by omega) (by omega)
  by_cases h1 : (a.size - 1 == 0) = true
  · rw [if_pos h1]; exact wpS_pure (h _ _ hg0 hm0.done)
  rw [if_neg h1]
  by_cases h2 : (b.size == 1) = true
  · rw [if_pos h2]; exact wpS_pure (h _ _ hg0 hm0.last)
  rw [if_neg h2]
  simp only [beq_iff_eq] at h1 h2
  refine wpS_bind (wpS_get ?_)
  refine wpS_bind (wpS_mono (wpS_forRange
    (I := fun x c st' => SG st st' ∧ ∃ out na nb mg, c = (none, na, nb, out, mg) ∧ MH a b out na nb ∧ 1 ≤ na ∧ na ≤ a.size ∧ 2 ≤ nb ∧ nb ≤ b.size ∧ na + nb + x ≤ a.size + b.size)
    (Q := fun c st' => SG st st' ∧ ∃ r rest, c = (some r, rest) ∧ r.toList.Perm (a.toList ++ b.toList)) ?step ?fin ⟨hg0, _, _, _, _, rfl, hm0, by omega, by omega, by omega, by omega, by omega⟩) ?post)
  case fin =>
    rintro c st' ⟨_, out, na, nb, mg, _, _, h3, h4, h5, h6, h7⟩
    omega
  case post =>
    rintro c st' ⟨hg, r, rest, rfl, hp⟩
    exact wpS_pure (h _ _ hg hp)
  case step =>
    rintro x c st1 _ hx ⟨hg1, out0, na0, nb0, mg0, rfl, hm1, u1, u2, u3, u4, hxi⟩
    dsimp only
    refine wpS_bind (wpS_mono (wpS_forRange
      (I := fun y c st' => SG st st' ∧ ∃ out na nb ac bc, c = (none, na, nb, out, ac, bc) ∧ MH a b out na nb ∧ 1 ≤ na ∧ na ≤ a.size ∧ 2 ≤ nb ∧ nb ≤ b.size ∧ na + nb + y = na0 + nb0)
      (Q := fun c st' => SG st st' ∧ ((∃ r rest, c = (some r, rest) ∧ r.toList.Perm (a.toList ++ b.toList)) ∨ ∃ out na nb ac bc, c = (none, na, nb, out, ac, bc) ∧ MH a b out na nb ∧ 1 ≤ na ∧ na ≤ a.size ∧ 2 ≤ nb ∧ nb ≤ b.size ∧ na + nb + 1 ≤ na0 + nb0)) ?step1 ?fin1 ⟨hg1, _, na0, nb0, 0, 0, rfl, hm1, u1, u2, u3, u4, rfl⟩) ?post1)
    case fin1 =>
      rintro c st' ⟨_, out, na, nb, ac, bc, _, _, h3, h4, h5, h6, h7⟩
      omega
    case step1 =>
      rintro y c st2 _ hy ⟨hg2, out, na, nb, ac, bc, rfl, hm2, v1, v2, v3, v4, he⟩
      dsimp only
      refine wpS_bind (wpS_elem (by omega) (wpS_bind (wpS_elem (by omega) (wpS_bind (wpS_lt hg2.kind (hb.at (by omega)) (ha.at (by omega)) fun v => ?_)))))
      cases v with
      | true =>
        dsimp only
        rw [if_pos rfl]
        refine wpS_bind (wpS_elem (by omega) ?_)
        by_cases q1 : (na - 1 == 0) = true
        · rw [if_pos q1]; exact wpS_pure ⟨hg2, .inl ⟨_, _, rfl, (hm2.popA (by omega) (by omega)).done⟩⟩
        · rw [if_neg q1]
          simp only [beq_iff_eq] at q1
          by_cases q2 : ac + 1 ≥ mg0
          · rw [if_pos q2]; exact wpS_pure ⟨hg2, .inr ⟨_, _, _, _, _, rfl, hm2.popA (by omega) (by omega), by omega, by omega, by omega, by omega, by omega⟩⟩
          · rw [if_neg q2]; exact wpS_pure ⟨hg2, _, _, _, _, _, rfl, hm2.popA (by omega) (by omega), by omega, by omega, by omega, by omega, by omega⟩
      | false =>
        dsimp only
        rw [if_neg (by simp)]
        refine wpS_bind (wpS_elem (by omega) ?_)
        by_cases q1 : (nb - 1 == 1) = true
        · rw [if_pos q1]; exact wpS_pure ⟨hg2, .inl ⟨_, _, rfl, (hm2.popB (by omega) (by omega)).last⟩⟩
        · rw [if_neg q1]
          simp only [beq_iff_eq] at q1
          by_cases q2 : bc + 1 ≥ mg0
          · rw [if_pos q2]; exact wpS_pure ⟨hg2, .inr ⟨_, _, _, _, _, rfl, hm2.popB (by omega) (by omega), by omega, by omega, by omega, by omega, by omega⟩⟩
          · rw [if_neg q2]; exact wpS_pure ⟨hg2, _, _, _, _, _, rfl, hm2.popB (by omega) (by omega), by omega, by omega, by omega, by omega, by omega⟩
    case post1 =>
      rintro c st2 ⟨hg2, ⟨r, rest, rfl, hp⟩ | ⟨out, na, nb, ac, bc, rfl, hm2, v1, v2, v3, v4, he⟩⟩
      · exact wpS_pure ⟨hg2, r, _, rfl, hp⟩
      dsimp only
      refine wpS_bind (wpS_lift (wpAny_rule ⟨rfl, ?_⟩))
      refine wpS_bind (wpS_mono (wpS_forRange
        (I := fun y c st' => SG st st' ∧ ∃ out na nb mg ac bc, c = (none, na, nb, out, mg, ac, bc) ∧ MH a b out na nb ∧ 1 ≤ na ∧ na ≤ a.size ∧ 2 ≤ nb ∧ nb ≤ b.size ∧ na + nb + 1 ≤ na0 + nb0)
        (Q := fun c st' => SG st st' ∧ ((∃ r rest, c = (some r, rest) ∧ r.toList.Perm (a.toList ++ b.toList)) ∨ ∃ out na nb mg ac bc, c = (none, na, nb, out, mg, ac, bc) ∧ MH a b out na nb ∧ 1 ≤ na ∧ na ≤ a.size ∧ 2 ≤ nb ∧ nb ≤ b.size ∧ na + nb + 1 ≤ na0 + nb0)) ?step2 (fun c st' hh => ⟨hh.1, .inr hh.2⟩) ⟨hg2, _, na, nb, _, ac, bc, rfl, hm2, v1, v2, v3, v4, he⟩) ?post2)
      case post2 =>
        rintro c st3 ⟨hg3, ⟨r, rest, rfl, hp⟩ | ⟨out, na, nb, mg, ac, bc, rfl, hm3, v1, v2, v3, v4, he⟩⟩
        · exact wpS_pure ⟨hg3, r, _, rfl, hp⟩
        exact wpS_bind (wpS_setG hg3 fun st4 hg4 => wpS_pure ⟨hg4, _, na, nb, _, rfl, hm3, v1, v2, v3, v4, by omega⟩)
      case step2 =>
        clear hm2 v1 v2 v3 v4 he hm1
        rintro y c st3 _ hy ⟨hg3, out, na, nb, mg, ac, bc, rfl, hm2, v1, v2, v3, v4, he⟩
        dsimp only
        by_cases hmg : mg > 1
        · rw [if_pos hmg]
          refine wpS_bind (wpS_setG hg3 fun st4 hg4 => wpS_bind (wpS_elem (by omega) (wpS_bind (wpS_gallop hg4.kind ha (hb.at (by omega)) (by omega) (by omega) fun k hk => ?_))))
          dsimp only
          by_cases q2 : na - k > 0
          · rw [if_pos q2]
            by_cases q3 : (k == 0) = true
            · rw [if_pos q3]; exact wpS_pure ⟨hg4, .inl ⟨_, _, rfl, (hm2.cutA hk).done⟩⟩
            rw [if_neg q3]
            simp only [beq_iff_eq] at q3
            refine wpS_bind (wpS_elem (by omega) ?_)
            by_cases q5 : (nb - 1 == 1) = true
            · rw [if_pos q5]; exact wpS_pure ⟨hg4, .inl ⟨_, _, rfl, ((hm2.cutA hk).popB (by omega) (by omega)).last⟩⟩
            rw [if_neg q5]
            simp only [beq_iff_eq] at q5
            refine wpS_bind (wpS_elem (by omega) (wpS_bind (wpS_gallop hg4.kind hb (ha.at (by omega)) (by omega) (by omega) fun k2 hk2 => ?_)))
            dsimp only
            by_cases q6 : nb - 1 - k2 > 0
            · rw [if_pos q6]
              by_cases q7 : (k2 == 1) = true
              · rw [if_pos q7]; exact wpS_pure ⟨hg4, .inl ⟨_, _, rfl, (((hm2.cutA hk).popB (by omega) (by omega)).cutB hk2).last⟩⟩
              rw [if_neg q7]
              by_cases q8 : (k2 == 0) = true
              · rw [if_pos q8]; exact wpS_pure ⟨hg4, .inl ⟨_, _, rfl, (((hm2.cutA hk).popB (by omega) (by omega)).cutB hk2).done⟩⟩
              rw [if_neg q8]
              simp only [beq_iff_eq] at q7 q8
              refine wpS_bind (wpS_elem (by omega) ?_)
              by_cases r1 : (k - 1 == 0) = true
              · rw [if_pos r1]; exact wpS_pure ⟨hg4, .inl ⟨_, _, rfl, ((((hm2.cutA hk).popB (by omega) (by omega)).cutB hk2).popA (by omega) (by omega)).done⟩⟩
              rw [if_neg r1]
              simp only [beq_iff_eq] at r1
              split
              · exact wpS_pure ⟨hg4, .inr ⟨_, _, _, _, _, _, rfl, (((hm2.cutA hk).popB (by omega) (by omega)).cutB hk2).popA (by omega) (by omega), by omega, by omega, by omega, by omega, by omega⟩⟩
              · exact wpS_pure ⟨hg4, _, _, _, _, _, _, rfl, (((hm2.cutA hk).popB (by omega) (by omega)).cutB hk2).popA (by omega) (by omega), by omega, by omega, by omega, by omega, by omega⟩
            · rw [if_neg q6]
              refine wpS_bind (wpS_elem (by omega) ?_)
              by_cases r1 : (k - 1 == 0) = true
              · rw [if_pos r1]; exact wpS_pure ⟨hg4, .inl ⟨_, _, rfl, (((hm2.cutA hk).popB (by omega) (by omega)).popA (by omega) (by omega)).done⟩⟩
              rw [if_neg r1]
              simp only [beq_iff_eq] at r1
              split
              · exact wpS_pure ⟨hg4, .inr ⟨_, _, _, _, _, _, rfl, ((hm2.cutA hk).popB (by omega) (by omega)).popA (by omega) (by omega), by omega, by omega, by omega, by omega, by omega⟩⟩
              · exact wpS_pure ⟨hg4, _, _, _, _, _, _, rfl, ((hm2.cutA hk).popB (by omega) (by omega)).popA (by omega) (by omega), by omega, by omega, by omega, by omega, by omega⟩
          · rw [if_neg q2]
            refine wpS_bind (wpS_elem (by omega) ?_)
            by_cases q5 : (nb - 1 == 1) = true
            · rw [if_pos q5]; exact wpS_pure ⟨hg4, .inl ⟨_, _, rfl, (hm2.popB (by omega) (by omega)).last⟩⟩
            rw [if_neg q5]
            simp only [beq_iff_eq] at q5
            refine wpS_bind (wpS_elem (by omega) (wpS_bind (wpS_gallop hg4.kind hb (ha.at (by omega)) (by omega) (by omega) fun k2 hk2 => ?_)))
            dsimp only
            by_cases q6 : nb - 1 - k2 > 0
            · rw [if_pos q6]
              by_cases q7 : (k2 == 1) = true
              · rw [if_pos q7]; exact wpS_pure ⟨hg4, .inl ⟨_, _, rfl, ((hm2.popB (by omega) (by omega)).cutB hk2).last⟩⟩
              rw [if_neg q7]
              by_cases q8 : (k2 == 0) = true
              · rw [if_pos q8]; exact wpS_pure ⟨hg4, .inl ⟨_, _, rfl, ((hm2.popB (by omega) (by omega)).cutB hk2).done⟩⟩
              rw [if_neg q8]
              simp only [beq_iff_eq] at q7 q8
              refine wpS_bind (wpS_elem (by omega) ?_)
              by_cases r1 : (na - 1 == 0) = true
              · rw [if_pos r1]; exact wpS_pure ⟨hg4, .inl ⟨_, _, rfl, (((hm2.popB (by omega) (by omega)).cutB hk2).popA (by omega) (by omega)).done⟩⟩
              rw [if_neg r1]
              simp only [beq_iff_eq] at r1
              split
              · exact wpS_pure ⟨hg4, .inr ⟨_, _, _, _, _, _, rfl, ((hm2.popB (by omega) (by omega)).cutB hk2).popA (by omega) (by omega), by omega, by omega, by omega, by omega, by omega⟩⟩
              · exact wpS_pure ⟨hg4, _, _, _, _, _, _, rfl, ((hm2.popB (by omega) (by omega)).cutB hk2).popA (by omega) (by omega), by omega, by omega, by omega, by omega, by omega⟩
            · rw [if_neg q6]
              refine wpS_bind (wpS_elem (by omega) ?_)
              by_cases r1 : (na - 1 == 0) = true
              · rw [if_pos r1]; exact wpS_pure ⟨hg4, .inl ⟨_, _, rfl, ((hm2.popB (by omega) (by omega)).popA (by omega) (by omega)).done⟩⟩
              rw [if_neg r1]
              simp only [beq_iff_eq] at r1
              split
              · exact wpS_pure ⟨hg4, .inr ⟨_, _, _, _, _, _, rfl, (hm2.popB (by omega) (by omega)).popA (by omega) (by omega), by omega, by omega, by omega, by omega, by omega⟩⟩
              · exact wpS_pure ⟨hg4, _, _, _, _, _, _, rfl, (hm2.popB (by omega) (by omega)).popA (by omega) (by omega), by omega, by omega, by omega, by omega, by omega⟩
        · rw [if_neg hmg]
          refine wpS_bind (wpS_setG hg3 fun st4 hg4 => wpS_bind (wpS_elem (by omega) (wpS_bind (wpS_gallop hg4.kind ha (hb.at (by omega)) (by omega) (by omega) fun k hk => ?_))))
          dsimp only
          by_cases q2 : na - k > 0
          · rw [if_pos q2]
            by_cases q3 : (k == 0) = true
            · rw [if_pos q3]; exact wpS_pure ⟨hg4, .inl ⟨_, _, rfl, (hm2.cutA hk).done⟩⟩
            rw [if_neg q3]
            simp only [beq_iff_eq] at q3
            refine wpS_bind (wpS_elem (by omega) ?_)
            by_cases q5 : (nb - 1 == 1) = true
            · rw [if_pos q5]; exact wpS_pure ⟨hg4, .inl ⟨_, _, rfl, ((hm2.cutA hk).popB (by omega) (by omega)).last⟩⟩
            rw [if_neg q5]
            simp only [beq_iff_eq] at q5
            refine wpS_bind (wpS_elem (by omega) (wpS_bind (wpS_gallop hg4.kind hb (ha.at (by omega)) (by omega) (by omega) fun k2 hk2 => ?_)))
            dsimp only
            by_cases q6 : nb - 1 - k2 > 0
            · rw [if_pos q6]
              by_cases q7 : (k2 == 1) = true
              · rw [if_pos q7]; exact wpS_pure ⟨hg4, .inl ⟨_, _, rfl, (((hm2.cutA hk).popB (by omega) (by omega)).cutB hk2).last⟩⟩
              rw [if_neg q7]
              by_cases q8 : (k2 == 0) = true
              · rw [if_pos q8]; exact wpS_pure ⟨hg4, .inl ⟨_, _, rfl, (((hm2.cutA hk).popB (by omega) (by omega)).cutB hk2).done⟩⟩
              rw [if_neg q8]
              simp only [beq_iff_eq] at q7 q8
              refine wpS_bind (wpS_elem (by omega) ?_)
              by_cases r1 : (k - 1 == 0) = true
              · rw [if_pos r1]; exact wpS_pure ⟨hg4, .inl ⟨_, _, rfl, ((((hm2.cutA hk).popB (by omega) (by omega)).cutB hk2).popA (by omega) (by omega)).done⟩⟩
              rw [if_neg r1]
              simp only [beq_iff_eq] at r1
              split
              · exact wpS_pure ⟨hg4, .inr ⟨_, _, _, _, _, _, rfl, (((hm2.cutA hk).popB (by omega) (by omega)).cutB hk2).popA (by omega) (by omega), by omega, by omega, by omega, by omega, by omega⟩⟩
              · exact wpS_pure ⟨hg4, _, _, _, _, _, _, rfl, (((hm2.cutA hk).popB (by omega) (by omega)).cutB hk2).popA (by omega) (by omega), by omega, by omega, by omega, by omega, by omega⟩
            · rw [if_neg q6]
              refine wpS_bind (wpS_elem (by omega) ?_)
              by_cases r1 : (k - 1 == 0) = true
              · rw [if_pos r1]; exact wpS_pure ⟨hg4, .inl ⟨_, _, rfl, (((hm2.cutA hk).popB (by omega) (by omega)).popA (by omega) (by omega)).done⟩⟩
              rw [if_neg r1]
              simp only [beq_iff_eq] at r1
              split
              · exact wpS_pure ⟨hg4, .inr ⟨_, _, _, _, _, _, rfl, ((hm2.cutA hk).popB (by omega) (by omega)).popA (by omega) (by omega), by omega, by omega, by omega, by omega, by omega⟩⟩
              · exact wpS_pure ⟨hg4, _, _, _, _, _, _, rfl, ((hm2.cutA hk).popB (by omega) (by omega)).popA (by omega) (by omega), by omega, by omega, by omega, by omega, by omega⟩
          · rw [if_neg q2]
            refine wpS_bind (wpS_elem (by omega) ?_)
            by_cases q5 : (nb - 1 == 1) = true
            · rw [if_pos q5]; exact wpS_pure ⟨hg4, .inl ⟨_, _, rfl, (hm2.popB (by omega) (by omega)).last⟩⟩
            rw [if_neg q5]
            simp only [beq_iff_eq] at q5
            refine wpS_bind (wpS_elem (by omega) (wpS_bind (wpS_gallop hg4.kind hb (ha.at (by omega)) (by omega) (by omega) fun k2 hk2 => ?_)))
            dsimp only
            by_cases q6 : nb - 1 - k2 > 0
            · rw [if_pos q6]
              by_cases q7 : (k2 == 1) = true
              · rw [if_pos q7]; exact wpS_pure ⟨hg4, .inl ⟨_, _, rfl, ((hm2.popB (by omega) (by omega)).cutB hk2).last⟩⟩
              rw [if_neg q7]
              by_cases q8 : (k2 == 0) = true
              · rw [if_pos q8]; exact wpS_pure ⟨hg4, .inl ⟨_, _, rfl, ((hm2.popB (by omega) (by omega)).cutB hk2).done⟩⟩
              rw [if_neg q8]
              simp only [beq_iff_eq] at q7 q8
              refine wpS_bind (wpS_elem (by omega) ?_)
              by_cases r1 : (na - 1 == 0) = true
              · rw [if_pos r1]; exact wpS_pure ⟨hg4, .inl ⟨_, _, rfl, (((hm2.popB (by omega) (by omega)).cutB hk2).popA (by omega) (by omega)).done⟩⟩
              rw [if_neg r1]
              simp only [beq_iff_eq] at r1
              split
              · exact wpS_pure ⟨hg4, .inr ⟨_, _, _, _, _, _, rfl, ((hm2.popB (by omega) (by omega)).cutB hk2).popA (by omega) (by omega), by omega, by omega, by omega, by omega, by omega⟩⟩
              · exact wpS_pure ⟨hg4, _, _, _, _, _, _, rfl, ((hm2.popB (by omega) (by omega)).cutB hk2).popA (by omega) (by omega), by omega, by omega, by omega, by omega, by omega⟩
            · rw [if_neg q6]
              refine wpS_bind (wpS_elem (by omega) ?_)
              by_cases r1 : (na - 1 == 0) = true
              · rw [if_pos r1]; exact wpS_pure ⟨hg4, .inl ⟨_, _, rfl, ((hm2.popB (by omega) (by omega)).popA (by omega) (by omega)).done⟩⟩
              rw [if_neg r1]
              simp only [beq_iff_eq] at r1
              split
              · exact wpS_pure ⟨hg4, .inr ⟨_, _, _, _, _, _, rfl, (hm2.popB (by omega) (by omega)).popA (by omega) (by omega), by omega, by omega, by omega, by omega, by omega⟩⟩
              · exact wpS_pure ⟨hg4, _, _, _, _, _, _, rfl, (hm2.popB (by omega) (by omega)).popA (by omega) (by omega), by omega, by omega, by omega, by omega, by omega⟩
end
end Mine

end
section
open PySem PyProof.Rows
set_option Elab.async false
set_option autoImplicit false
namespace Mine
theorem mergeAt'_eq (i : Nat) : mergeAt' i = (do
  let s ← get
  let (some (sa, na, power), some (sb, nb, _)) := ((pendingOf s)[i]?, (pendingOf s)[i + 1]?) | unsupported "internal:list.sort.pending"
  set (setPending s (((pendingOf s).setIfInBounds i (sa, na + nb, power)).eraseIdxIfInBounds (i + 1)))
  let some k ← gallop' false (← elem' (arrOf s) sb) (arrOf s) sa na 0 | return false
  let (sa, na) := (sa + k, na - k)
  if na == 0 then return true
  let some nb ← gallop' true (← elem' (arrOf s) (sa + na - 1)) (arrOf s) sb nb (nb - 1) | return false
  if nb == 0 then return true
  let x := (arrOf s).extract sa sb
  let y := (arrOf s).extract sb (sb + nb)
  let merged ← if na ≤ nb then mergeLo' x y else mergeHi' x y
  modify fun s => setArr s (merged.toList.zipIdx.foldl (fun a (p, j) => a.setIfInBounds (sa + j) p) (arrOf s))
  return (failedOf (← get)).isNone) := rfl
/-- runs end to end -/
def Runs : Nat → List (Nat × Nat × Nat) → Nat → Prop
  | s, [], e => s = e
  | s, (a, n, _) :: r, e => a = s ∧ 1 ≤ n ∧ Runs (s + n) r e
theorem runs_app : ∀ {p q : List (Nat × Nat × Nat)} {s e : Nat}, Runs s (p ++ q) e ↔ ∃ m, Runs s p m ∧ Runs m q e
  | [], q, s, e => by simp [Runs]
  | (a, n, k) :: p, q, s, e => by
    show a = s ∧ 1 ≤ n ∧ Runs (s + n) (p ++ q) e ↔ _
    rw [runs_app]
    constructor
    · rintro ⟨h1, h2, m, h3, h4⟩; exact ⟨m, ⟨h1, h2, h3⟩, h4⟩
    · rintro ⟨m, ⟨h1, h2, h3⟩, h4⟩; exact ⟨h1, h2, m, h3, h4⟩
theorem runs_le : ∀ {p : List (Nat × Nat × Nat)} {s e : Nat}, Runs s p e → s ≤ e
  | [], s, e, h => by cases h; exact Nat.le_refl _
  | (a, n, k) :: p, s, e, h => by have := runs_le h.2.2; omega
theorem split_two {α : Type} {l : List α} {i : Nat} (h : i + 1 < l.length) : ∃ pre x y post, l = pre ++ x :: y :: post ∧ pre.length = i := by
  refine ⟨l.take i, l[i], l[i + 1], l.drop (i + 2), ?_, by simp; omega⟩
  rw [← List.drop_eq_getElem_cons (i := i + 1) h, ← List.drop_eq_getElem_cons (i := i) (by omega), List.take_append_drop]
theorem set_erase {α : Type} {x y v : α} {post : List α} : ∀ pre : List α, ((pre ++ x :: y :: post).set pre.length v).eraseIdx (pre.length + 1) = pre ++ v :: post
  | [] => rfl
  | a :: pre => by
    show a :: ((pre ++ x :: y :: post).set pre.length v).eraseIdx (pre.length + 1) = a :: (pre ++ v :: post)
    rw [set_erase pre]
theorem fold_set {α : Type} (sa : Nat) : ∀ (l : List α) (n : Nat) (xs : Array α), sa + n + l.length ≤ xs.size →
    ((l.zipIdx n).foldl (fun a (p : α × Nat) => a.setIfInBounds (sa + p.2) p.1) xs).toList = xs.toList.take (sa + n) ++ l ++ xs.toList.drop (sa + n + l.length)
  | [], n, xs, _ => by simp
  | x :: l, n, xs, h => by
    rw [List.length_cons] at h
    rw [List.zipIdx_cons, List.foldl_cons, fold_set sa l (n + 1) _ (by rw [Array.size_setIfInBounds]; omega)]
    rw [Array.toList_setIfInBounds]
    have e1 : (xs.toList.set (sa + n) x).take (sa + (n + 1)) = xs.toList.take (sa + n) ++ [x] := by
      rw [show sa + (n + 1) = sa + n + 1 by omega, List.take_add_one, List.getElem?_set_self (by simp; omega), List.take_set_of_le (by omega)]
      rfl
    have e2 : (xs.toList.set (sa + n) x).drop (sa + (n + 1) + l.length) = xs.toList.drop (sa + n + (l.length + 1)) := by
      rw [List.drop_set_of_lt (by omega)]
      congr 1; omega
    rw [e1, e2, List.length_cons]
    simp
section
variable {prog : Program} {w : World} {A : Around} {E : Value → Shared → Prop} {s : Shared} {a₀ : Array Keyed}
theorem wpS_set {σ : Type} {M : Model} {f : σ} {Q : PUnit → σ → Prop} {st : σ} (h : Q ⟨⟩ f) : wpS M A E s (set f : StateT σ Sem PUnit) Q st := by
  unfold wpS; rw [StateT.run_set]; exact wpAny_pure ⟨rfl, h⟩
theorem seg_perm {α : Type} {a : Array α} {sa sb e : Nat} {m : Array α} (h1 : sa ≤ sb) (h2 : sb ≤ e) (h3 : e ≤ a.size) (hp : m.toList.Perm ((a.extract sa sb).toList ++ (a.extract sb e).toList)) :
    (m.toList.zipIdx.foldl (fun a (p : α × Nat) => a.setIfInBounds (sa + p.2) p.1) a).Perm a := by
  have hl : m.toList.length = e - sa := by rw [hp.length_eq]; simp; omega
  rw [Array.perm_iff_toList_perm, fold_set sa m.toList 0 a (by rw [hl]; omega), hl]
  have e0 : a.toList = a.toList.take sa ++ ((a.extract sa sb).toList ++ (a.extract sb e).toList) ++ a.toList.drop e := by
    have t1 := take_back a h1
    have t2 := take_back a h2
    rw [← List.append_assoc, ← t1, ← t2, List.take_append_drop]
  conv => rhs; rw [e0]
  rw [show sa + 0 = sa by omega, show sa + (e - sa) = e by omega]
  exact List.Perm.append_right _ (List.Perm.append_left _ hp)
theorem SKeys.extract {a : Array Keyed} (h : SKeys a) (i j : Nat) : SKeys (a.extract i j) := fun p hp => h p (by
  rw [Array.toList_extract, List.extract_eq_take_drop] at hp
  exact List.mem_of_mem_drop (List.mem_of_mem_take hp))
theorem wpS_mergeAt {st : SortSt} {i e : Nat} {Q : Bool → SortSt → Prop} (h0 : SKeys a₀) (hB : SI a₀ st) (hR : Runs 0 (pendingOf st).toList e) (he : e ≤ a₀.size) (hi : i + 1 < (pendingOf st).size)
    (h : ∀ st', SI a₀ st' → Runs 0 (pendingOf st').toList e → Q true st') : wpS (model prog w) A E s (mergeAt' i) Q st := by
  rw [mergeAt'_eq]
  refine wpS_bind (wpS_get ?_)
  obtain ⟨pre, ⟨sa, na, pa⟩, ⟨sb, nb, pb⟩, post, hl, hpre⟩ := split_two (l := (pendingOf st).toList) (i := i) (by simpa using hi)
  have g1 : (pendingOf st)[i]? = some (sa, na, pa) := by
    rw [← Array.getElem?_toList, hl, ← hpre]; simp
  have g2 : (pendingOf st)[i + 1]? = some (sb, nb, pb) := by
    rw [← Array.getElem?_toList, hl, ← hpre]; simp
  rw [g1, g2]
  dsimp only
  have hnew : (((pendingOf st).setIfInBounds i (sa, na + nb, pa)).eraseIdxIfInBounds (i + 1)).toList = pre ++ (sa, na + nb, pa) :: post := by
    rw [Array.toList_eraseIdxIfInBounds, Array.toList_setIfInBounds, hl, ← hpre]
    exact set_erase pre
  rw [hl] at hR
  obtain ⟨m, hR1, rfl, hna, rfl, hnb, hR2⟩ := runs_app.mp hR
  have hend := runs_le hR2
  have hRn : Runs 0 (pre ++ (sa, na + nb, pa) :: post) e := runs_app.mpr ⟨_, hR1, rfl, by omega, by rw [← Nat.add_assoc]; exact hR2⟩
  have hsz := hB.size
  have hk := hB.keys h0
  refine wpS_bind (wpS_set ?_)
  have hB2 : SI a₀ (setPending st (((pendingOf st).setIfInBounds i (sa, na + nb, pa)).eraseIdxIfInBounds (i + 1))) := hB.setPending _
  have hP2 : Runs 0 (pendingOf (setPending st (((pendingOf st).setIfInBounds i (sa, na + nb, pa)).eraseIdxIfInBounds (i + 1)))).toList e := by
    show Runs 0 (((pendingOf st).setIfInBounds i (sa, na + nb, pa)).eraseIdxIfInBounds (i + 1)).toList e
    rw [hnew]; exact hRn
  generalize hst2 : setPending st (((pendingOf st).setIfInBounds i (sa, na + nb, pa)).eraseIdxIfInBounds (i + 1)) = st2 at hB2 hP2 ⊢
  have harr : arrOf st2 = arrOf st := by rw [← hst2]
  refine wpS_bind (wpS_elem (by omega) (wpS_bind (wpS_gallop hB2.kind hk (hk.at (by omega)) (by omega) (by omega) fun k hkn => ?_)))
  dsimp only
  by_cases q1 : (na - k == 0) = true
  · rw [if_pos q1]; exact wpS_pure (h _ hB2 hP2)
  rw [if_neg q1]
  simp only [beq_iff_eq] at q1
  refine wpS_bind (wpS_elem (by omega) (wpS_bind (wpS_gallop hB2.kind hk (hk.at (by omega)) (by omega) (by omega) fun nb' hnb' => ?_)))
  dsimp only
  by_cases q2 : (nb' == 0) = true
  · rw [if_pos q2]; exact wpS_pure (h _ hB2 hP2)
  rw [if_neg q2]
  simp only [beq_iff_eq] at q2
  have fin : ∀ (out : Array Keyed) (st' : SortSt), SG st2 st' → out.toList.Perm (((arrOf st).extract (sa + k) (sa + na)).toList ++ ((arrOf st).extract (sa + na) (sa + na + nb')).toList) →
      wpS (model prog w) A E s (do
        modify fun s => setArr s (out.toList.zipIdx.foldl (fun a (p, j) => a.setIfInBounds (sa + k + j) p) (arrOf s))
        return (failedOf (← get)).isNone) Q st' := by
    intro out st' hg hp
    refine wpS_bind (wpS_modify (wpS_bind (wpS_get ?_)))
    have hB3 : SI a₀ st' := ⟨by rw [hg.arr]; exact hB2.perm, hg.kind, by rw [hg.failed]; exact hB2.failed⟩
    have hpp : (out.toList.zipIdx.foldl (fun a (p : Keyed × Nat) => a.setIfInBounds (sa + k + p.2) p.1) (arrOf st')).Perm (arrOf st') := by
      rw [hg.arr, harr]
      exact seg_perm (by omega) (by omega) (by omega) hp
    have e1 : (failedOf (setArr st' (out.toList.zipIdx.foldl (fun a (p, j) => a.setIfInBounds (sa + k + j) p) (arrOf st')))).isNone = true := by
      show (failedOf st').isNone = true
      rw [hB3.failed]; rfl
    rw [e1]
    exact wpS_pure (h _ (hB3.setArr hpp) (by show Runs 0 (pendingOf st').toList e; rw [hg.pend]; exact hP2))
  by_cases q3 : na - k ≤ nb'
  · rw [if_pos q3]
    exact wpS_bind (wpS_mergeLo (hk.extract _ _) (hk.extract _ _) hB2.kind (by simp; omega) (by simp; omega) fun out st' hg hp => fin out st' hg hp)
  · rw [if_neg q3]
    exact wpS_bind (wpS_mergeHi (hk.extract _ _) (hk.extract _ _) hB2.kind (by simp; omega) (by simp; omega) fun out st' hg hp => fin out st' hg hp)
end
end Mine

end
section
open PySem PyProof.Rows
set_option Elab.async false
set_option autoImplicit false
namespace Mine
section
variable {prog : Program} {w : World} {A : Around} {E : Value → Shared → Prop} {s : Shared} {a₀ : Array Keyed}
theorem mod_last {α : Type} {f : α → α} {x : α} : ∀ q : List α, (q ++ [x]).modify q.length f = q ++ [f x]
  | [] => rfl
  | a :: q => by
    have := mod_last (f := f) (x := x) q
    simp only [List.cons_append, List.length_cons, List.modify_succ_cons, this]
theorem runs_push {p : List (Nat × Nat × Nat)} {lo n k : Nat} (h : Runs 0 p lo) (hn : 1 ≤ n) : Runs 0 (p ++ [(lo, n, k)]) (lo + n) := runs_app.mpr ⟨lo, h, rfl, hn, rfl⟩
theorem runs_modLast {p : Array (Nat × Nat × Nat)} {e pw : Nat} (h : Runs 0 p.toList e) : Runs 0 (p.modify (p.size - 1) fun x => (x.1, x.2.1, pw)).toList e := by
  rcases List.eq_nil_or_concat p.toList with e0 | ⟨q, ⟨a, n, k⟩, e1⟩
  · have : p = #[] := by simpa using e0
    subst this
    simpa using h
  · rw [List.concat_eq_append] at e1
    have hsz : p.size = q.length + 1 := by have := congrArg List.length e1; simpa using this
    have hm : (p.modify (p.size - 1) fun x => (x.1, x.2.1, pw)).toList = q ++ [(a, n, pw)] := by
      rw [Array.toList_modify, e1, hsz]
      exact mod_last q
    rw [hm]
    rw [e1] at h
    obtain ⟨m, h1, h2, h3, h4⟩ := runs_app.mp h
    exact runs_app.mpr ⟨m, h1, h2, h3, h4⟩
theorem wpS_sortRunsI {st : SortSt} {Q : Unit → SortSt → Prop} (h0 : SKeys a₀) (hB : SI a₀ st) (hP : pendingOf st = #[])
    (h : ∀ st', SI a₀ st' → Q () st') : wpS (model prog w) A E s sortRuns' Q st := by
  rw [sortRuns'_eq]
  refine wpS_bind (wpS_get ?_)
  dsimp only
  simp only [hB.size]
  refine wpS_bind (wpS_mono (wpS_forRange
    (I := fun x c st' => SI a₀ st' ∧ ∃ lo, c = (none, lo) ∧ Runs 0 (pendingOf st').toList lo ∧ lo ≤ a₀.size)
    (Q := fun c st' => SI a₀ st' ∧ ∃ lo, c = (none, lo) ∧ Runs 0 (pendingOf st').toList lo ∧ lo ≤ a₀.size) ?step (fun _ _ hh => hh) ⟨hB, 0, rfl, by rw [hP]; rfl, by omega⟩) ?post)
  case step =>
    rintro x c st1 _ _ ⟨hB1, lo, rfl, hR1, hlo⟩
    (try dsimp only)
    by_cases hge : lo ≥ a₀.size
    · rw [if_pos hge]; exact wpS_pure ⟨hB1, lo, rfl, hR1, hlo⟩
    rw [if_neg hge]
    refine wpS_bind (wpS_countI h0 (by omega) (by omega) hB1 fun st2 n hB2 hn1 hn2 => ?_)
    (try dsimp only)
    have hR2 : Runs 0 (pendingOf st2).toList lo := by rw [hB2.pend]; exact hR1
    by_cases hmin : n < minRun' a₀.size a₀.size 0
    · rw [if_pos hmin]
      refine wpS_bind (wpS_lift (wpAny_rule ⟨rfl, ?_⟩))
      refine wpS_bind (wpS_binaryI h0 (by omega) hB2.si fun st3 hB3 hp3 => ?_)
      rw [if_neg (by simp)]
      have hR3 : Runs 0 (pendingOf st3).toList lo := by rw [hp3]; exact hR2
      refine wpS_bind (wpS_get ?_)
      cases hb : (pendingOf st3).back? with
      | none =>
        dsimp only
        refine wpS_bind (wpS_modify (wpS_pure ⟨(hB3).setPending _, _, rfl, ?_, by omega⟩))
        show Runs 0 ((pendingOf st3).push _).toList _
        rw [Array.toList_push]
        exact runs_push hR3 (by omega)
      | some v =>
        obtain ⟨s1, n1, q1⟩ := v
        dsimp only
        refine wpS_bind (wpS_mono (wpS_forRange (I := fun _ c st' => c = (none, ()) ∧ SI a₀ st' ∧ Runs 0 (pendingOf st').toList lo) (Q := fun c st' => c = (none, ()) ∧ SI a₀ st' ∧ Runs 0 (pendingOf st').toList lo) ?_ (fun _ _ h => h) ⟨rfl, hB3, hR3⟩) ?_)
        · rintro y c st4 _ _ ⟨rfl, hB4, hR4⟩
          refine wpS_bind (wpS_get ?_)
          (try dsimp only)
          by_cases hs : (pendingOf st4).size > 1
          · rw [if_pos hs, getElem?_pos _ _ (by omega)]
            dsimp only
            split
            · exact wpS_pure ⟨rfl, hB4, hR4⟩
            · refine wpS_bind (wpS_mergeAt h0 hB4 hR4 hlo (by omega) fun st5 hB5 hR5 => ?_)
              rw [if_neg (by simp)]
              exact wpS_pure ⟨rfl, hB5, hR5⟩
          · rw [if_neg hs]
            exact wpS_pure ⟨rfl, hB4, hR4⟩
        · rintro c st4 ⟨rfl, hB4, hR4⟩
          (try dsimp only)
          refine wpS_bind (wpS_modify (wpS_bind (wpS_modify (wpS_pure ⟨(hB4.setPending _).setPending _, _, rfl, ?_, by omega⟩))))
          show Runs 0 (((pendingOf st4).modify _ _).push _).toList _
          rw [Array.toList_push]
          exact runs_push (runs_modLast hR4) (by omega)
    · rw [if_neg hmin]
      refine wpS_bind (wpS_get ?_)
      cases hb : (pendingOf st2).back? with
      | none =>
        dsimp only
        refine wpS_bind (wpS_modify (wpS_pure ⟨(hB2.si).setPending _, _, rfl, ?_, by omega⟩))
        show Runs 0 ((pendingOf st2).push _).toList _
        rw [Array.toList_push]
        exact runs_push hR2 (by omega)
      | some v =>
        obtain ⟨s1, n1, q1⟩ := v
        dsimp only
        refine wpS_bind (wpS_mono (wpS_forRange (I := fun _ c st' => c = (none, ()) ∧ SI a₀ st' ∧ Runs 0 (pendingOf st').toList lo) (Q := fun c st' => c = (none, ()) ∧ SI a₀ st' ∧ Runs 0 (pendingOf st').toList lo) ?_ (fun _ _ h => h) ⟨rfl, hB2.si, hR2⟩) ?_)
        · rintro y c st4 _ _ ⟨rfl, hB4, hR4⟩
          refine wpS_bind (wpS_get ?_)
          (try dsimp only)
          by_cases hs : (pendingOf st4).size > 1
          · rw [if_pos hs, getElem?_pos _ _ (by omega)]
            dsimp only
            split
            · exact wpS_pure ⟨rfl, hB4, hR4⟩
            · refine wpS_bind (wpS_mergeAt h0 hB4 hR4 hlo (by omega) fun st5 hB5 hR5 => ?_)
              rw [if_neg (by simp)]
              exact wpS_pure ⟨rfl, hB5, hR5⟩
          · rw [if_neg hs]
            exact wpS_pure ⟨rfl, hB4, hR4⟩
        · rintro c st4 ⟨rfl, hB4, hR4⟩
          (try dsimp only)
          refine wpS_bind (wpS_modify (wpS_bind (wpS_modify (wpS_pure ⟨(hB4.setPending _).setPending _, _, rfl, ?_, by omega⟩))))
          show Runs 0 (((pendingOf st4).modify _ _).push _).toList _
          rw [Array.toList_push]
          exact runs_push (runs_modLast hR4) (by omega)
  case post =>
    rintro c st1 ⟨hB1, lo, rfl, hR1, hlo⟩
    (try dsimp only)
    refine wpS_bind (wpS_mono (wpS_forRange (I := fun _ c st' => c = (none, ()) ∧ SI a₀ st' ∧ Runs 0 (pendingOf st').toList lo) (Q := fun c st' => c = (none, ()) ∧ SI a₀ st' ∧ Runs 0 (pendingOf st').toList lo) ?_ (fun _ _ h => h) ⟨rfl, hB1, hR1⟩) ?_)
    · rintro y c st4 _ _ ⟨rfl, hB4, hR4⟩
      refine wpS_bind (wpS_get ?_)
      (try dsimp only)
      by_cases hs : (pendingOf st4).size ≤ 1
      · rw [if_pos hs]
        exact wpS_pure ⟨rfl, hB4, hR4⟩
      · rw [if_neg hs]
        refine wpS_bind (wpS_mergeAt h0 hB4 hR4 hlo ?_ fun st5 hB5 hR5 => ?_)
        · have hle : ∀ b : Bool, (if b = true then (pendingOf st4).size - 2 - 1 else (pendingOf st4).size - 2) + 1 < (pendingOf st4).size := by
            intro b
            cases b
            · rw [if_neg (by simp)]; omega
            · rw [if_pos rfl]; omega
          exact hle _
        · rw [if_neg (by simp)]
          exact wpS_pure ⟨rfl, hB5, hR5⟩
    · rintro c st4 ⟨rfl, hB4, hR4⟩
      exact wpS_pure (h _ hB4)
end
end Mine

end
section
open PySem PyProof.Rows
set_option Elab.async false
set_option autoImplicit false
namespace Mine
section
variable {prog : Program} {w : World} {A : Around} {E : Value → Shared → Prop} {s : Shared}
theorem strs_keys {vs : List Value} {ss : List Str} (hS : StrsAre vs ss) : SKeys (pairsOf vs) := by
  intro p hp
  rw [pairsOf_toList] at hp
  obtain ⟨x, t, e⟩ := hS.all _ (mem_zip_self hp).2
  exact ⟨x, t, e⟩
theorem list_sort_treeI {a : Addr} {vs : List Value} {ss : List Str} {n : Nat} {P : Fin → Shared → Prop} (ho : s.heap.get? a = some (seqObj "list" vs.toArray n))
    (hS : StrsAre vs ss) (hl : vs.length ≤ sizeLine)
    (h : ∀ out : Array Value, out.toList.Perm vs → P (.done (.ret .none)) { s with heap := sortedHeap s.heap a vs out }) :
    wpAny (model prog w) A (Builtin.«list.sort» ⟨[.ref a], []⟩) P E s := by
  rw [list_sort_plain]
  have ha : a < s.heap.objs.size := Heap.lt_size ho
  refine wpAny_bind (listItems_at ho rfl ?_)
  refine wpAny_bind (listUpdate_at ho rfl ?_)
  obtain ⟨e1, ho1⟩ : ∃ e1, (s.heap.update a (Obj.mapSeq fun _ => #[])).get? a = some (seqObj "list" #[] e1) := ⟨_, get?_update_seq ho (fun _ => #[])⟩
  refine wpAny_bind (seqEpoch_at ho1 rfl ?_)
  refine wpAny_bind (wpAny_newTuple ?_)
  refine wpAny_bind (wpAny_newList ?_)
  refine wpAny_holding ?_
  have ho6 : (((s.heap.update a (Obj.mapSeq fun _ => #[])).push (seqObj "tuple" vs.toArray 0)).push (seqObj "list" #[] 0)).get? a = some (seqObj "list" #[] e1) := by
    rw [Heap.get?_push_ne _ _ _ (by rw [size_push', Heap.size_update]; exact Nat.ne_of_lt (Nat.lt_succ_of_lt ha)), Heap.get?_push_ne _ _ _ (by rw [Heap.size_update]; exact Nat.ne_of_lt ha)]
    exact ho1
  show wpAny (model prog w) A _ P E { s with heap := ((s.heap.update a (Obj.mapSeq fun _ => #[])).push (seqObj "tuple" vs.toArray 0)).push (seqObj "list" #[] 0) }
  dsimp only
  have hsz : vs.toArray.size = vs.length := by simp
  have fin : ∀ st' : SortSt, (arrOf st').Perm (pairsOf vs) → P (.done (.ret .none)) { s with heap := sortedHeap s.heap a vs ((arrOf st').map (·.2)) } := by
    intro st' hp
    refine h _ ?_
    have h1 : (arrOf st').toList.Perm (vs.zip vs) := by rw [← pairsOf_toList]; exact Array.perm_iff_toList_perm.mp hp
    have h2 := h1.map Prod.snd
    rw [List.map_snd_zip (Nat.le_refl _)] at h2
    rw [Array.toList_map]
    exact h2
  by_cases h2 : vs.toArray.size < 2
  · rw [if_pos h2, if_pos h2]
    refine wpAny_bind (wpAny_pure ?_)
    rw [StateT.run_pure]
    refine wpAny_bind (wpAny_pure ?_)
    dsimp only
    refine wpAny_bind (seqEpoch_at ho6 rfl ?_)
    refine wpAny_bind (listUpdate_at ho6 rfl ?_ (hsz2 := by rw [Array.size_map]; show (pairsOf vs).size ≤ _; rw [pairsOf_size, sizeLine_eq]; omega))
    simp only [bne_self_eq_false, Bool.false_eq_true, if_false]
    exact wpAny_pure (fin (SortSt.mk' general' (vs.toArray.zip vs.toArray) #[] 7 none) (Array.Perm.refl _))
  · rw [if_neg h2, if_neg h2]
    obtain ⟨v₁, v₂, rest, rfl⟩ : ∃ v₁ v₂ rest, vs = v₁ :: v₂ :: rest := by
      match vs, hsz, h2 with
      | [], _, h2 => simp at h2
      | [_], _, h2 => simp at h2
      | v₁ :: v₂ :: rest, _, _ => exact ⟨v₁, v₂, rest, rfl⟩
    rw [keyKind_strs hS]
    refine wpAny_bind (wpAny_pure ?_)
    refine wpAny_bind (wpAny_mono (wpS_sortRunsI (a₀ := pairsOf (v₁ :: v₂ :: rest)) (st := SortSt.mk' oneType' ((v₁ :: v₂ :: rest).toArray.zip (v₁ :: v₂ :: rest).toArray) #[] 7 none)
      (Q := fun _ st' => SI (pairsOf (v₁ :: v₂ :: rest)) st') (strs_keys hS) ⟨Array.Perm.refl _, rfl, rfl⟩ rfl fun st' a1 => a1) ?_ fun _ _ e => e)
    rintro ⟨⟨⟩, st'⟩ s' ⟨rfl, hI⟩
    dsimp only
    refine wpAny_bind (seqEpoch_at ho6 rfl ?_)
    refine wpAny_bind (listUpdate_at ho6 rfl ?_ (hsz2 := by refine Nat.le_trans (Nat.le_of_eq ((Array.size_map ..).trans (hI.perm.size_eq.trans (pairsOf_size _)))) ?_; omega))
    rw [hI.failed]
    simp only [bne_self_eq_false, Bool.false_eq_true, if_false]
    exact wpAny_pure (fin st' hI.perm)
end
end Mine

end
section
open PySem PyProof.Rows
set_option Elab.async false
namespace Mine
section
variable {prog : Program} {w : World} {A : Around} {E : Value → Shared → Prop} {s : Shared}
/-- a set that holds just the texts l, and is no plain one -/
def TSet (prog : Program) (w : World) (h : Heap) (a : Addr) (l : List Str) : Prop :=
  ∃ o es ep t, h.get? a = some o ∧ o.ExactSet ∧ o.data = .set es ep t ∧ ElemsOf (strKind prog w) es.toList ∧ (∀ k, k ∈ l ↔ ∃ e ∈ es.toList, (strKind prog w).is k e.2 = true)
    ∧ es.size < scanBound ∧ t.fits es.size = true ∧ es.size = l.length ∧ (l ≠ [] → t.plain = false)
theorem layNew_plain (t : SetTable) (es : Array (Int × Value)) (h : Int) (x : Value) : (layNew t es h x).2.1.plain = false ∨ (layNew t es h x).2.1.plain = t.plain := by
  unfold layNew
  split
  · rename_i slot wd _
    dsimp only
    unfold SetTable.orStandIn
    split
    · exact .inr rfl
    · exact .inl rfl
  · exact .inl rfl
theorem relayAll_plain (t : SetTable) (es : Array (Int × Value)) (n : Nat) (h : t.plain = false) : (relayAll t es n).2.1.plain = false := by
  unfold relayAll
  split
  · rename_i t' order he
    dsimp only
    split
    · unfold SetTable.relaid SetTable.laid at he
      cases hl : SetTable.layClean (SetTable.sizeAbove n - 1) (es.map (·.1)) with
      | none => rw [hl] at he; cases he
      | some o =>
        rw [hl] at he
        simp only [Option.bind_eq_bind, Option.bind_some, Option.some.injEq, Prod.mk.injEq, Option.pure_def] at he
        rw [← he.1]; exact h
    · rfl
  · rfl
theorem tset_store {h : Heap} {a : Addr} {o : Obj} {es : Array (Int × Value)} {ep : Nat} {t : SetTable} (ho : h.get? a = some o) (hex : o.ExactSet) (hd : o.data = .set es ep t)
    {es' : Array (Int × Value)} {t' : SetTable} {l : List Str} (hel : ElemsOf (strKind prog w) es'.toList) (hmem : ∀ k, k ∈ l ↔ ∃ e ∈ es'.toList, (strKind prog w).is k e.2 = true) (hb : es'.size < scanBound) (hf : t'.fits es'.size = true)
    (hn : es'.size = l.length) (hp : t'.plain = false) :
    (h.update a (Obj.putSet es' t')).get? a = some { o with data := .set es' (ep + 1) t' } ∧ TSet prog w (h.update a (Obj.putSet es' t')) a l := by
  obtain ⟨hg, _⟩ := SetOf_store (knd := strKind prog w) (S' := fun k => decide (k ∈ l)) ho hex hd hel (fun k => by rw [decide_eq_true_eq]; exact hmem k) hb hf
  exact ⟨hg, _, es', ep + 1, t', hg, hex, rfl, hel, hmem, hb, hf, hn, fun _ => hp⟩
theorem wpAny_addT {a : Addr} {l : List Str} {k : Str} {u : Tok} {Q : Bool → Shared → Prop} (hS : TSet prog w s.heap a l) (hroom : l.length + 1 < scanBound)
    (h : ∀ h' b, Heap.SameBut a s.heap h' → TSet prog w h' a (if k ∈ l then l else l ++ [k]) → Q b { s with heap := h' }) :
    wpAny (model prog w) A (setAddHashed a (.str k u) ((strKind prog w).hash k)) Q E s := by
  obtain ⟨o, es, ep, t, ho, hex, hd, hel, hmem, hb, hf, hn, hpl⟩ := hS
  have hkey : (strKind prog w).is k (.str k u) = true := by simp [PySem.strKind, Value.isStrOf]
  have hsc : (Value.str k u).scannable = true := rfl
  have hb1 : es.size + 1 < scanBound := by rw [hn]; exact hroom
  unfold setAddHashed setAddHashedIn
  refine wpAny_holding (wpAny_bind (wpAny_setState_of ho hd hf ?_))
  dsimp only
  rw [byScan_of hsc hb hel]
  simp only [↓reduceIte]
  unfold setAddByScan
  refine wpAny_bind ?_
  refine wpAny_bind (wpAny_rule ?_)
  refine wpAny_bind (wpAny_setScan_of hkey ho hd hf hel ?_)
  have hgw : ∀ (b : Bool) {s₁ : Shared} {Q' : Unit → Shared → Prop}, Q' () s₁ → wpAny (model prog w) A (match b with | true => rule "set.scan.the-table-gave-way" | false => pure ()) Q' E s₁ :=
    fun b s₁ Q' hq => by cases b <;> first | exact wpAny_pure hq | exact wpAny_rule hq
  cases hr : List.findIdx? (fun e => (strKind prog w).is k e.2) es.toList with
  | some j =>
    dsimp only
    obtain ⟨hj, hpj, _⟩ := List.findIdx?_eq_some_iff_getElem.mp hr
    have hkl : k ∈ l := (hmem k).mpr ⟨es.toList[j], List.getElem_mem hj, hpj⟩
    refine wpAny_pure (wpAny_pure ?_)
    have := h s.heap false (Heap.SameBut.refl a s.heap) (by rw [if_pos hkl]; exact ⟨o, es, ep, t, ho, hex, hd, hel, hmem, hb, hf, hn, hpl⟩)
    exact this
  | none =>
    dsimp only
    have hkl : k ∉ l := fun hk => by
      obtain ⟨e, he, hp⟩ := (hmem k).mp hk
      have := List.findIdx?_eq_none_iff.mp hr e he; rw [hp] at this; exact Bool.noConfusion this
    have hperm := layNew_perm t es ((strKind prog w).hash k) (.str k u)
    have hfits := layNew_fits t es ((strKind prog w).hash k) (.str k u)
    have hplain := layNew_plain t es ((strKind prog w).hash k) (.str k u)
    generalize hL : layNew t es ((strKind prog w).hash k) (.str k u) = L at hperm hfits hplain ⊢
    obtain ⟨es1, t1, wasDummy, gave⟩ := L
    dsimp only at hperm hfits hplain ⊢
    rw [Array.toList_push] at hperm
    have hel1 : ElemsOf (strKind prog w) es1.toList := (hel.push hkey hsc).perm hperm
    have hmem1 : ∀ k', k' ∈ l ++ [k] ↔ ∃ e ∈ es1.toList, (strKind prog w).is k' e.2 = true := fun k' => by
      have := mem_push_iff (knd := strKind prog w) (S := fun k => decide (k ∈ l)) hkey (fun k => by rw [decide_eq_true_eq]; exact hmem k) hperm k'
      rw [← this]; simp
    have hsz1 : es1.size = (l ++ [k]).length := by rw [← Array.length_toList, hperm.length_eq, List.length_append, Array.length_toList, hn, List.length_append]; rfl
    have hb1' : es1.size < scanBound := by rw [hsz1]; simpa using hroom
    refine wpAny_bind (hgw _ ?_)
    have hfin : ∀ h', Heap.SameBut a s.heap h' → TSet prog w h' a (l ++ [k]) → Q true { s with heap := h' } := fun h' e T => h h' true e (by rw [if_neg hkl]; exact T)
    have tail : ∀ (g : Bool → Sem Unit) (_ : ∀ (b : Bool) (s₁ : Shared) (Q' : Unit → Shared → Prop), Q' () s₁ → wpAny (model prog w) A (g b) Q' E s₁) (t2 : SetTable), t2.fits es1.size = true → t2.plain = false → wpAny (model prog w) A (do
        storeSet a es1 t2
        if (!wasDummy && t2.tooFull) = true then do
            g (relayAll t2 es1 (SetTable.grown es1.size)).2.2
            storeSet a (relayAll t2 es1 (SetTable.grown es1.size)).1 (relayAll t2 es1 (SetTable.grown es1.size)).2.1
            pure (some true)
          else pure (some true)) (fun r s' => r = some true ∧ Q true s') E s := by
      intro g hg t2 hf2 hp2
      refine wpAny_bind (wpAny_storeSet_of ho hd ?_ (fits_of_scanBound hb1'))
      obtain ⟨ho1, hS1⟩ := tset_store (prog := prog) (w := w) ho hex hd hel1 hmem1 hb1' hf2 hsz1 hp2
      have hsb1 := Heap.SameBut.update s.heap a (Obj.putSet es1 t2)
      split
      · have hp := relayAll_perm t2 es1 (SetTable.grown es1.size)
        have hfr := relayAll_fits t2 es1 (SetTable.grown es1.size)
        have hpr := relayAll_plain t2 es1 (SetTable.grown es1.size) hp2
        generalize hRl : relayAll t2 es1 (SetTable.grown es1.size) = Rl at hp hfr hpr ⊢
        obtain ⟨es2, t3, gave2⟩ := Rl
        dsimp only at hp hfr hpr ⊢
        have hel2 := hel1.perm hp
        have hmem2 : ∀ k', k' ∈ l ++ [k] ↔ ∃ e ∈ es2.toList, (strKind prog w).is k' e.2 = true := fun k' => (hmem1 k').trans ⟨fun ⟨e, he, q⟩ => ⟨e, hp.mem_iff.mpr he, q⟩, fun ⟨e, he, q⟩ => ⟨e, hp.mem_iff.mp he, q⟩⟩
        have hsz : es2.size = es1.size := by rw [← Array.length_toList, hp.length_eq, Array.length_toList]
        refine wpAny_bind (hg _ _ _ ?_)
        refine wpAny_bind (wpAny_storeSet_of ho1 rfl ?_ (fits_of_scanBound (by rw [hsz]; exact hb1')))
        obtain ⟨_, hS2⟩ := tset_store (prog := prog) (w := w) ho1 hex rfl hel2 hmem2 (by rw [hsz]; exact hb1') hfr (by rw [hsz]; exact hsz1) hpr
        exact wpAny_pure ⟨rfl, hfin _ (hsb1.trans (Heap.SameBut.update _ a _)) hS2⟩
      · exact wpAny_pure ⟨rfl, hfin _ hsb1 hS1⟩
    have hgw2 : ∀ (b : Bool) (s₁ : Shared) (Q' : Unit → Shared → Prop), Q' () s₁ → wpAny (model prog w) A (match b with | true => rule "set.scan.the-table-gave-way" | false => pure ()) Q' E s₁ := fun b s₁ Q' hq => hgw b hq
    split
    · rename_i hp1
      refine wpAny_bind ?_
      rw [hashByValue_scannable 8 hsc]
      refine wpAny_pure ?_
      refine wpAny_mono (tail _ hgw2 _ ?_ ?_) ?_ (fun _ _ e => e)
      · exact SetTable.fits_plain_off hfits
      · rfl
      · rintro r s' ⟨rfl, hq⟩; exact wpAny_pure hq
    · rename_i hp1
      refine wpAny_bind (wpAny_pure ?_)
      simp only [↓reduceIte]
      refine wpAny_mono (tail _ hgw2 _ hfits (by simpa using hp1)) ?_ (fun _ _ e => e)
      rintro r s' ⟨rfl, hq⟩; exact wpAny_pure hq
end
end Mine

end
section
open PySem PyProof.Rows PySem.Spec
set_option Elab.async false
set_option maxRecDepth 100000
namespace Mine
def stepT (l : List Str) (k : Str) : List Str := if k ∈ l then l else l ++ [k]
/-- the distinct texts of a list, each where it is first met -/
def metT (l : List Str) : List Str := l.foldl stepT []
theorem stepT_nodup {l : List Str} {k : Str} (h : l.Nodup) : (stepT l k).Nodup := by
  unfold stepT
  split
  · exact h
  · rename_i hk
    rw [List.nodup_append]
    exact ⟨h, by simp, fun a ha b hb e => hk (by rw [List.mem_singleton.mp hb] at e; rw [← e]; exact ha)⟩
theorem stepT_mem {l : List Str} {k x : Str} : x ∈ stepT l k ↔ x ∈ l ∨ x = k := by
  unfold stepT
  split
  · rename_i hk
    exact ⟨.inl, fun h => h.elim id fun e => e ▸ hk⟩
  · simp
theorem stepT_len {l : List Str} {k : Str} : (stepT l k).length ≤ l.length + 1 := by
  unfold stepT
  split
  · omega
  · simp
theorem fold_stepT : ∀ (l a : List Str), a.Nodup → (l.foldl stepT a).Nodup ∧ (∀ x, x ∈ l.foldl stepT a ↔ x ∈ a ∨ x ∈ l) ∧ (l.foldl stepT a).length ≤ a.length + l.length
  | [], a, h => ⟨h, fun x => by simp, by simp⟩
  | k :: l, a, h => by
    obtain ⟨h1, h2, h3⟩ := fold_stepT l (stepT a k) (stepT_nodup h)
    refine ⟨h1, fun x => ?_, ?_⟩
    · rw [List.foldl_cons, h2, stepT_mem, List.mem_cons, or_assoc]
    · have := @stepT_len a k
      rw [List.foldl_cons, List.length_cons]; omega
theorem metT_nodup (l : List Str) : (metT l).Nodup := (fold_stepT l [] .nil).1
theorem metT_mem {l : List Str} {x : Str} : x ∈ metT l ↔ x ∈ l := by have := (fold_stepT l [] .nil).2.1 x; simpa [metT] using this
theorem metT_len (l : List Str) : (metT l).length ≤ l.length := by have := (fold_stepT l [] .nil).2.2; simpa [metT] using this
/-- the first i of them -/
def metI (val : Nat → Str) (i : Nat) : List Str := metT ((List.range i).map val)
theorem metI_succ (val : Nat → Str) (i : Nat) : metI val (i + 1) = stepT (metI val i) (val i) := by
  unfold metI metT; rw [List.range_succ, List.map_append, List.foldl_append]; rfl
theorem metI_len (val : Nat → Str) (i : Nat) : (metI val i).length ≤ i := by have := metT_len ((List.range i).map val); simpa [metI] using this
section
variable {prog : Program} {w : World} {A : Around} {R : Result → Shared → Prop} {I : Addr} {fp wr : List Addr} {G : Array GenState → Array GenState → Prop} {n : Nat} {P : Nat → Value → Prop} {St : Nat → Shared → Prop}
theorem tset_moved {h h' : Heap} {S : Addr} {l : List Str} (T : TSet prog w h S l) (k : ∀ o, h.get? S = some o → h'.get? S = some o) : TSet prog w h' S l := by
  obtain ⟨o, es, ep, t, ho, r⟩ := T
  exact ⟨o, es, ep, t, k o ho, r⟩
theorem updLoopT (W : WalksS prog w A.in1 I fp wr G n P St) (S : Addr) (hSf : S ∉ fp) (val : Nat → Str) (hval : ∀ i v, P i v → ∃ t, v = .str (val i) t) (hb : n + 1 < scanBound) :
    ∀ (k i : Nat) (s : Shared), n - i = k → i ≤ n → St i s → TSet prog w s.heap S (metI val i) →
      (∀ s', Moved (S :: wr) G s s' → TSet prog w s'.heap S (metI val n) → R (.ok (.ret .none)) s') →
      codeAny (model prog w) A (.builtin "set.update.loop" ⟨[.ref S, .ref I], []⟩) R s := by
  have hSw : S ∉ wr := fun h => hSf (W.sub _ h)
  have hsub : ∀ b ∈ wr, b ∈ S :: wr := fun b hb => List.mem_cons_of_mem _ hb
  intro k
  induction k with
  | zero =>
    intro i s hk hi hst hS hR
    obtain rfl : i = n := by omega
    refine codeAny_builtin F.entry_set_update_loop ?_
    rw [Around.under_plainId F.plain_set_update_loop _]
    show wpAny _ A.in1 (pyNext (.ref I) >>= _) _ _ s
    refine wpAny_bind (W.done s _ _ hst fun s' hm => ?_)
    show wpAny _ A.in1 (ret Value.none) _ _ s'
    exact wpAny_pure (hR s' (hm.mono hsub) (tset_moved hS fun o e => hm.heap S _ hSw e))
  | succ k ih =>
    intro i s hk hi hst hS hR
    have hlt : i < n := by omega
    refine codeAny_builtin F.entry_set_update_loop ?_
    rw [Around.under_plainId F.plain_set_update_loop _]
    show wpAny _ A.in1 (pyNext (.ref I) >>= _) _ _ s
    refine wpAny_bind (W.item i s _ _ hlt hst fun v s' hP hst' hm => ?_)
    obtain ⟨t, rfl⟩ := hval i v hP
    have hS' : TSet prog w s'.heap S (metI val i) := tset_moved hS fun o e => hm.heap S _ hSw e
    show wpAny _ A.in1 (holding [Value.str (val i) t] (setAdd S (.str (val i) t)) >>= _) _ _ s'
    refine wpAny_bind (wpAny_holding ?_)
    unfold setAdd
    refine wpAny_holding ?_
    have hkey : (PySem.strKind prog w).is (val i) (.str (val i) t) = true := by simp [PySem.strKind, Value.isStrOf]
    refine wpAny_bind ((PySem.strKind prog w).pyHash hkey ?_)
    have hroom : (metI val i).length + 1 < scanBound := by have := metI_len val i; omega
    refine wpAny_addT (s := { s' with toks := s'.toks + 1 }) hS' hroom fun h' b hsb hS2 => ?_
    have hSi : TSet prog w h' S (metI val (i + 1)) := by rw [metI_succ]; exact hS2
    refine wpAny_pure ⟨plainId_quiet F.plain_set_update_loop _, ih (i + 1) _ (by omega) hlt (W.frame _ s' _ _ hst' (Nat.le_succ _) fun b hb o e => ?_) hSi fun s'' hm'' hS'' => ?_⟩
    · rw [hsb.2 b (fun h : b = S => hSf (by rw [← h]; exact hb))]; exact e
    · refine hR s'' (Moved.trans W.gtrans ((hm.mono hsub).then_heap (Nat.le_succ _) fun b o hb e => ?_) hm'') hS''
      rw [hsb.2 b (fun h : b = S => hb (by rw [h]; exact List.mem_cons_self))]; exact e
end
end Mine

end
section
open PySem PyProof.Rows PySem.Spec
set_option Elab.async false
set_option maxRecDepth 100000
namespace Mine
section
variable {prog : Program} {w : World} {A : Around} {E : Value → Shared → Prop} {s : Shared}
theorem tset_fresh {h : Heap} {a : Addr} {led : Bool} (e : h.get? a = some { cls := .type "set", dict := none, data := .set #[] 0 (.fresh 0 0 led) }) : TSet prog w h a [] :=
  ⟨_, #[], 0, _, e, ⟨rfl, rfl, rfl⟩, rfl, fun e he => by simp at he, fun k => by simp, by decide, by rfl, rfl, fun h => absurd rfl h⟩
theorem strs_at' {vs : List Value} {ss : List Str} (hS : StrsAre vs ss) : ∀ (i : Nat) (v : Value), vs[i]? = some v → ∃ t, v = .str (ss.getD i ⟨#[]⟩) t := by
  induction hS with
  | nil => intro i v h; simp at h
  | cons x t _ ih =>
    intro i v h
    cases i with
    | zero => simp at h; exact ⟨t, by rw [← h]; rfl⟩
    | succ i =>
      obtain ⟨t', e⟩ := ih i v (by simpa using h)
      exact ⟨t', by rw [e]; rfl⟩
set_option maxHeartbeats 3200000 in
theorem call_setT {l : Addr} {items : Array Value} {ss : List Str} {Q : Value → Shared → Prop} (hh : A.handled = none) (hl : s.heap.IsList l items) (hi : StrsAre items.toList ss) (hb : items.size + 1 < scanBound)
    (h : ∀ (h' : Heap) (tk : Nat), TSet prog w h' s.heap.objs.size (metT ss) → (∀ b o, b < s.heap.objs.size → s.heap.get? b = some o → h'.get? b = some o) → s.toks ≤ tk → Q (.ref s.heap.objs.size) { s with heap := h', toks := tk }) :
    wpAny (model prog w) A (call (.type "set") [.ref l]) Q E s := by
  obtain ⟨c, tl, hmro⟩ := F.called_set.mro
  have hmade := F.called_set.made
  have hsub := F.called_set.sub
  refine wpAny_call (codeAny_of_tree ?_)
  show wpAny _ _ (callAny (.type "set") _) _ _ _
  refine wpAny_pure ⟨Code.quiet_builtin _ (by decide +kernel), codeAny_builtin F.entry_type_call ?_⟩
  rw [Around.under_plain (weight_type_call_type "set" [.ref l] []) rfl]
  have h1 := F.called_set.notType
  have h2 := F.called_set.canCreate
  have hct := F.typeCall_set_1 (.ref l)
  repeat (any_goals (first | assumption | wp_step))
  refine codeAny_mono (code_set_new_1 (.ref l) (E := E) (Q₁ := fun obj s₁ => ∃ led : Bool, obj = .ref s.heap.objs.size ∧ s₁ = { s with heap := s.heap.push { cls := .type "set", dict := none, data := .set #[] 0 (.fresh 0 0 led) } }) fun led => ⟨led, rfl, rfl⟩) fun r s₁ hr => ?_
  cases r with
  | error e => exact hr
  | ok fl =>
    cases fl with
    | ret obj =>
      obtain ⟨led, rfl, rfl⟩ := hr
      have hS : (s.heap.push { cls := .type "set", dict := none, data := .set #[] 0 (.fresh 0 0 led) }).get? s.heap.objs.size = some { cls := .type "set", dict := none, data := .set #[] 0 (.fresh 0 0 led) } := Heap.get?_push_size _ rfl
      have hT : Shared.TypeIs { s with heap := s.heap.push { cls := .type "set", dict := none, data := .set #[] 0 (.fresh 0 0 led) } } (.ref s.heap.objs.size) "set" := ⟨_, hS, rfl⟩
      have hli := F.called_set.init.lookup
      have hbi := F.called_set.init.bind (.ref s.heap.objs.size)
      repeat (any_goals (first | assumption | wp_step))
      refine codeAny_mono (codeAny_call_builtin (R := wants (fun r s₂ => r = .none ∧ ∃ h' tk, s₂ = { s with heap := h', toks := tk } ∧ TSet prog w h' s.heap.objs.size (metT ss) ∧
          (∀ b o, b < s.heap.objs.size → s.heap.get? b = some o → h'.get? b = some o) ∧ s.toks ≤ tk) E) F.called_set.init.plain F.entry_set_init (check_set_init_1 hT ?_)) fun r₂ s₂ hr₂ => ?_
      · obtain ⟨ol, hol, hcl, nl, hdl⟩ := hl
        obtain ⟨ocls, odict, odata, oslots⟩ := ol
        simp only at hcl hdl
        subst hcl; subst hdl
        have hol' : (s.heap.push { cls := .type "set", dict := none, data := .set #[] 0 (.fresh 0 0 led) }).get? l = some { cls := .type "list", dict := odict, data := .seq items nl, slots := oslots } := Heap.get?_push_of_some _ hol
        have hsls := F.sub_list_set
        have hslf := F.sub_list_frozenset
        have hne : (Value.type "list" == Value.type "dict") = false := by decide
        have hl1 : (s.heap.push { cls := .type "set", dict := none, data := .set #[] 0 (.fresh 0 0 led) }).IsList l items := ⟨_, hol', rfl, nl, rfl⟩
        unfold Builtin.«set.__init__» noKeywords Builtin.Frozenset.updateFrom
        generalize hPI : pyIter = PI
        wp_walk
        subst hPI
        refine wpAny_pyIter_list hl1 ?_
        refine wpAny_bind (wpAny_runValue ?_)
        have hlS : l < s.heap.objs.size := Heap.lt_size hol
        have hh3 : A.in1.in1.in1.handled = none := by simp [hh]
        have hneI : l ≠ (s.heap.push { cls := .type "set", dict := none, data := .set #[] 0 (.fresh 0 0 led) }).objs.size := by
          rw [Heap.size_push]; exact Nat.ne_of_lt (Nat.lt_succ_of_lt hlS)
        have hSf : s.heap.objs.size ∉ [(s.heap.push { cls := .type "set", dict := none, data := .set #[] 0 (.fresh 0 0 led) }).objs.size, l] := by
          rw [Heap.size_push]; simp only [List.mem_cons, List.not_mem_nil, or_false, not_or]
          exact ⟨Nat.ne_of_lt (Nat.lt_succ_self _), Nat.ne_of_gt hlS⟩
        have hval : ∀ (i : Nat) (v : Value), items[i]? = some v → ∃ t, v = .str ((fun i => ss.getD i ⟨#[]⟩) i) t := fun i v hv => strs_at' hi i v (by rw [Array.getElem?_toList]; exact hv)
        have hall : metI (fun i => ss.getD i ⟨#[]⟩) items.size = metT ss := by
          have e : items.size = ss.length := by rw [← hi.length, Array.length_toList]
          unfold metI
          congr 1
          rw [e]
          apply List.ext_getElem?
          intro j
          rw [List.getElem?_map]
          by_cases hj : j < ss.length
          · rw [List.getElem?_range hj]; simp [List.getD, hj]
          · rw [List.getElem?_eq_none (by simp; omega), List.getElem?_eq_none (by omega)]; rfl
        refine updLoopT ((Walks.list hh3 _ l hneI items).toS) s.heap.objs.size hSf (fun i => ss.getD i ⟨#[]⟩) hval hb (items.size - 0) 0 _ (by omega) (Nat.zero_le _)
          ⟨⟨_, Heap.get?_push_size _ rfl, rfl, rfl⟩, (hl1.push _)⟩ ?hS0 ?hR
        case hS0 => exact tset_fresh (Heap.get?_push_of_some _ hS)
        case hR =>
          intro s' hm hS'
          rw [hall] at hS'
          have htk : s.toks ≤ s'.toks := hm.toks
          obtain ⟨h', g', d', tk', os'⟩ := s'
          have eg : g' = s.gens := hm.gens
          have ed : d' = s.drawn := hm.drawn
          have eo : os' = s.os := hm.os
          subst eg; subst ed; subst eo
          show wpAny _ _ _ _ _ _
          refine wpAny_pure ?_
          show wpAny _ _ (ret Value.none) _ _ _
          refine wpAny_pure ⟨rfl, h', tk', rfl, hS', fun b o hb e => ?_, htk⟩
          have hb1 : b ≠ s.heap.objs.size := Nat.ne_of_lt hb
          have hb2 : b ≠ (s.heap.push { cls := .type "set", dict := none, data := .set #[] 0 (.fresh 0 0 led) }).objs.size := by
            rw [Heap.size_push]; exact Nat.ne_of_lt (Nat.lt_succ_of_lt hb)
          exact hm.heap b o (by simp only [List.mem_cons, List.not_mem_nil, or_false, not_or]; exact ⟨hb1, hb2⟩) (Heap.get?_push_of_some _ (Heap.get?_push_of_some _ e))
      · cases r₂ with
        | error e => exact hr₂
        | ok fl₂ =>
          cases fl₂ with
          | ret r =>
            obtain ⟨rfl, h', tk, rfl, hS', hk', htk⟩ := hr₂
            repeat (any_goals (first | assumption | wp_step))
            exact h _ _ hS' hk' htk
          | _ => exact hr₂.elim
    | _ => exact hr.elim
end
end Mine

end
section
open PySem PyProof.Rows PySem.Spec
set_option Elab.async false
set_option maxRecDepth 100000
namespace Mine
section
variable {prog : Program} {w : World} {A : Around} {E : Value → Shared → Prop} {s : Shared}
theorem wpAny_chooseI {M : Model} {src : Source} {n : Nat} {Q : Nat → Shared → Prop} (hn : 0 < n) (h : ∀ i, i < n → Q i { s with drawn := s.drawn.bump src }) : wpAny M A (choose src n) Q E s := by
  intro Γ p hΓ
  unfold choose
  rw [Sem.wp_choose]
  exact ⟨by omega, (wpAny_pure (M := M) (A := A) (E := E) (h _ (Nat.mod_lt _ hn))) Γ p hΓ⟩
theorem perm_erase {α : Type} : ∀ {l : List α} {i : Nat} {x : α}, l[i]? = some x → (x :: l.eraseIdx i).Perm l
  | [], i, x, h => by simp at h
  | y :: l, 0, x, h => by simp at h; subst h; exact List.Perm.refl _
  | y :: l, i + 1, x, h => by
    have ih := perm_erase (l := l) (i := i) (x := x) (by simpa using h)
    exact (List.Perm.swap y x _).trans (List.Perm.cons y ih)
theorem wpAny_drawOrder {α : Type} : ∀ (n : Nat) (xs : List α) (s : Shared) (Q : List α → Shared → Prop), xs.length = n →
    (∀ l d, l.Perm xs → Q l { s with drawn := d }) → wpAny (model prog w) A (drawOrder n xs) Q E s
  | 0, xs, s, Q, hn, h => by
    have : xs = [] := List.length_eq_zero_iff.mp hn
    subst this
    exact wpAny_pure (h [] s.drawn (List.Perm.refl _))
  | n + 1, [], s, Q, hn, h => by simp at hn
  | n + 1, y :: ys, s, Q, hn, h => by
    unfold drawOrder
    refine wpAny_bind (wpAny_chooseI (by simp) fun i hi => ?_)
    have hx : (y :: ys)[i]? = some (y :: ys)[i] := List.getElem?_eq_getElem hi
    rw [hx]
    dsimp only
    refine wpAny_bind (wpAny_drawOrder n _ _ _ (by rw [List.length_eraseIdx_of_lt hi, hn]; rfl) fun l d hp => ?_)
    exact wpAny_pure (h _ d ((List.Perm.cons _ hp).trans (perm_erase hx)))
end
end Mine

end
section
open PySem PyProof.Rows PySem.Spec
set_option Elab.async false
set_option maxRecDepth 100000
namespace Mine
theorem slot_set_iter : Slot "set" "__iter__" "set.__iter__" :=
  .of (owner := "set") (n := "__iter__") (by rw [typeLookup_type, builtinLookup_eq_fast]; kernel_rfl) (by decide +kernel) (by decide +kernel) (by decide +kernel)
    (by first | exact .inl (by decide +kernel) | exact .inr (by decide +kernel)) (by rw [isSubtype_type]; kernel_rfl)
theorem entry_set_iter : entryFor table "set.__iter__" = some Builtin.«frozenset.__iter__» :=
  entryFor_alias (id' := "frozenset.__iter__") (by kernel_rfl) rfl (by decide +kernel) (by kernel_rfl)
theorem args_set_iter (a : Value) : argsOk "set.__iter__" ⟨[a], []⟩ := by unfold argsOk; kernel_rfl
theorem slot_setiter_next : Slot "set_iterator" "__next__" "set_iterator.__next__" :=
  .of (owner := "set_iterator") (n := "__next__") (by rw [typeLookup_type, builtinLookup_eq_fast]; kernel_rfl) (by decide +kernel) (by decide +kernel) (by decide +kernel)
    (by first | exact .inl (by decide +kernel) | exact .inr (by decide +kernel)) (by rw [isSubtype_type]; kernel_rfl)
theorem entry_setiter_next : entryFor table "set_iterator.__next__" = some Builtin.«set_iterator.__next__» := entryFor_of_fast (by kernel_rfl)
theorem args_setiter_next (a : Value) : argsOk "set_iterator.__next__" ⟨[a], []⟩ := by unfold argsOk; kernel_rfl
theorem slot_setiter_iter : Slot "set_iterator" "__iter__" "set_iterator.__iter__" :=
  .of (owner := "set_iterator") (n := "__iter__") (by rw [typeLookup_type, builtinLookup_eq_fast]; kernel_rfl) (by decide +kernel) (by decide +kernel) (by decide +kernel)
    (by first | exact .inl (by decide +kernel) | exact .inr (by decide +kernel)) (by rw [isSubtype_type]; kernel_rfl)
theorem entry_setiter_iter : entryFor table "set_iterator.__iter__" = some Builtin.«dict_keyiterator.__iter__» :=
  entryFor_alias (id' := "dict_keyiterator.__iter__") (by kernel_rfl) rfl (by decide +kernel) (by kernel_rfl)
theorem args_setiter_iter (a : Value) : argsOk "set_iterator.__iter__" ⟨[a], []⟩ := by unfold argsOk; kernel_rfl
theorem pick_go {α : Type} (next : Nat → Nat) : ∀ (fuel k : Nat) (left : List α) (out : Array α), left.length ≤ fuel → (pickOrder.go next fuel k left out).toList.Perm (out.toList ++ left)
  | 0, k, left, out, h => by
    have : left = [] := List.length_eq_zero_iff.mp (by omega)
    subst this
    unfold pickOrder.go
    simp
  | fuel + 1, k, [], out, h => by
    unfold pickOrder.go
    simp
  | fuel + 1, k, y :: ys, out, h => by
    unfold pickOrder.go
    have hi : next k % (y :: ys).length < (y :: ys).length := Nat.mod_lt _ (by simp)
    have hx : (y :: ys)[next k % (y :: ys).length]? = some (y :: ys)[next k % (y :: ys).length] := List.getElem?_eq_getElem hi
    rw [hx]
    dsimp only
    refine (pick_go next fuel (k + 1) _ _ (by rw [List.length_eraseIdx_of_lt hi]; simp at h ⊢; omega)).trans ?_
    rw [Array.toList_push, List.append_assoc]
    exact List.Perm.append_left _ (perm_erase hx)
theorem pickOrder_perm {α : Type} (next : Nat → Nat) (xs : Array α) : (pickOrder next xs).toList.Perm xs.toList := by
  have := pick_go next xs.size 0 xs.toList #[] (by simp)
  simpa [pickOrder] using this
end Mine

end
section
open PySem PyProof.Rows PySem.Spec
set_option Elab.async false
set_option maxRecDepth 100000
namespace Mine
section
variable {prog : Program} {w : World} {A : Around} {E : Value → Shared → Prop} {s : Shared}
/-- a set's iterator -/
abbrev setIter (first : Value) (i : Nat) (a : Addr) (n ep : Nat) : Obj := { cls := .type "set_iterator", data := .fields #[first, rawInt i, .ref a, rawInt n, rawInt ep] }
theorem wpAny_setsByText {Q : Bool → Shared → Prop} (h : Q (w.params.followText "set-order") s) : wpAny (model prog w) A setsByText Q E s := by
  unfold setsByText
  exact wpAny_bind (wpAny_askSetting (wpAny_pure h))
theorem wpAny_pyIter_set {a : Addr} {o : Obj} {es : Array (Int × Value)} {ep : Nat} {t : SetTable} {Q : Value → Shared → Prop} (ho : s.heap.get? a = some o) (hex : o.ExactSet) (hd : o.data = .set es ep t) (hf : t.fits es.size = true)
    (hp : t.plain = false) (h2 : 2 ≤ es.size) (hsb : es.size < scanBound)
    (q1 : w.params.followText "set-order" = true → Q (.ref s.heap.objs.size) { s with heap := s.heap.push (setIter (rawInt 0) 0 a es.size ep) })
    (q2 : w.params.followText "set-order" = false → ∀ (l : List Nat) (d : Drawn), l.Perm (List.range es.size) →
      Q (.ref (s.heap.objs.size + 1)) { s with heap := (s.heap.push (seqObj "tuple" (l.map fun (i : Nat) => rawInt i).toArray 0)).push (setIter (.ref s.heap.objs.size) 0 a es.size ep), drawn := d }) :
    wpAny (model prog w) A (pyIter (.ref a)) Q E s := by
  have hT : s.TypeIs (.ref a) "set" := ⟨_, ho, hex.1⟩
  refine wpAny_pyIter_slot hT slot_set_iter (wpAny_call_entry slot_set_iter hT entry_set_iter ?_ (args_set_iter _))
  show wpAny _ _ (do
    let n ← Builtin.Frozenset.sizeOf a
    let first ← if ← setDrawn a then newTuple ((← drawOrder n (List.range n)).map fun (i : Nat) => rawInt i) else pure (rawInt 0)
    ret (← newFields "set_iterator" [first, rawInt 0, .ref a, rawInt n, rawInt (← setEpoch a)])) _ _ s
  unfold Builtin.Frozenset.sizeOf
  refine wpAny_bind (wpAny_bind (wpAny_setEntries_of ho hd hf (wpAny_pure ?_)))
  unfold setDrawn
  refine wpAny_bind (wpAny_bind (wpAny_setState_of ho hd hf ?_))
  dsimp only
  refine wpAny_bind (wpAny_setsByText ?_)
  refine wpAny_pure ?_
  have hdr : (!t.plain && decide (es.size > 1)) = true := by rw [hp]; simp; omega
  have hn : ∀ (I : Addr) (h : Heap) (first : Value) , ({ s with heap := h.push (setIter first 0 a es.size ep) } : Shared).TypeIs (.ref h.objs.size) "set_iterator" := fun I h first => ⟨_, Heap.get?_push_size _ rfl, rfl⟩
  cases hb : w.params.followText "set-order" with
  | true =>
    rw [if_neg (by simp)]
    refine wpAny_bind (wpAny_pure ?_)
    refine wpAny_bind (wpAny_setEpoch_of ho hd hf ?_)
    refine wpAny_bind (wpAny_newObj_type (wpAny_pure ⟨_, rfl, "set_iterator", _, ⟨_, Heap.get?_push_size _ rfl, rfl⟩, slot_setiter_next.lookup, q1 hb⟩))
  | false =>
    rw [if_pos (by exact hdr)]
    refine wpAny_bind (wpAny_drawOrder _ _ _ _ (by simp) fun l d hl => ?_)
    refine wpAny_bind (wpAny_newTuple ?_ (by rw [List.length_map, hl.length_eq, List.length_range]; exact fits_of_scanBound hsb))
    refine wpAny_bind (wpAny_setEpoch_of (Heap.get?_push_of_some _ ho) hd hf ?_)
    refine wpAny_bind (wpAny_newObj_type (wpAny_pure ⟨_, rfl, "set_iterator", _, ⟨_, Heap.get?_push_size _ rfl, rfl⟩, slot_setiter_next.lookup, ?_⟩))
    have := q2 hb l d hl
    dsimp only
    rw [Heap.size_push]
    exact this
theorem slotArgs_next (I : Addr) : slotArgs "__next__" 0 ⟨[Value.ref I], []⟩ = pure (Value.ref I, []) := rfl
theorem wpAny_pyNext_set_text {I a : Addr} {o : Obj} {es : Array (Int × Value)} {ep i : Nat} {t : SetTable} {x : Value} {Q : Option Value → Shared → Prop} (hb : w.params.followText "set-order" = true)
    (hI : s.heap.get? I = some (setIter (rawInt 0) i a es.size ep)) (ho : s.heap.get? a = some o) (hd : o.data = .set es ep t) (hf : t.fits es.size = true) (hne : a ≠ I)
    (hx : ((pickOrder (w.params.setOrder a ep) es)[i]?).map (·.2) = some x)
    (h : ∀ h', h'.get? I = some (setIter (rawInt 0) (i + 1) a es.size ep) → Heap.SameBut I s.heap h' → Q (some x) { s with heap := h' }) :
    wpAny (model prog w) A (pyNext (.ref I)) Q E s := by
  have hT : s.TypeIs (.ref I) "set_iterator" := ⟨_, hI, rfl⟩
  unfold pyNext
  refine wpAny_bind (wpAny_attempt (wpAny_callSpecial?_slot (name := Str.ofString "__next__") hT slot_setiter_next
    (wpAny_call_entry slot_setiter_next hT entry_setiter_next ?_ (args_setiter_next _))))
  unfold Builtin.«set_iterator.__next__»
  rw [slotArgs_next]
  refine wpAny_bind (wpAny_pure ?_)
  dsimp only
  refine wpAny_bind (wpAny_fieldsOf hI rfl ?_)
  simp only [rawInt]
  refine wpAny_bind (wpAny_setEntries_of ho hd hf ?_)
  rw [if_neg (by simp)]
  refine wpAny_bind ?_
  unfold setNext
  refine wpAny_bind (wpAny_setState_of ho hd hf ?_)
  dsimp only
  refine wpAny_bind (wpAny_setsByText ?_)
  rw [hb, if_pos rfl, if_neg (by simp)]
  unfold setWalk
  refine wpAny_bind ?_
  refine wpAny_bind (wpAny_setState_of ho hd hf ?_)
  dsimp only
  refine wpAny_bind (wpAny_setsByText ?_)
  rw [hb, if_pos rfl]
  refine wpAny_bind (wpAny_askSetting ?_)
  refine wpAny_pure ?_
  refine wpAny_pure ?_
  cases he : (pickOrder (w.params.setOrder a ep) es)[i]? with
  | none => rw [he] at hx; cases hx
  | some e =>
    rw [he] at hx
    obtain rfl : e.2 = x := by simpa using hx
    have he' : (pickOrder ((model prog w).w.params.setOrder a ep) es)[i]? = some e := he
    simp only [Int.toNat_natCast, he', Option.map_some]
    refine wpAny_bind (wpAny_setField_rec (k := 0) hI (by simp) fun h1 g1 b1 => ?_)
    refine wpAny_bind (wpAny_setField_rec (k := 1) (s := { s with heap := h1 }) g1 (by simp) fun h2 g2 b2 => ?_)
    refine wpAny_pure ⟨_, rfl, wpAny_pure (h h2 ?_ (b1.trans b2))⟩
    rw [g2]
    rfl
end
end Mine

end
section
open PySem PyProof.Rows PySem.Spec
set_option Elab.async false
set_option maxRecDepth 100000
namespace Mine
section
variable {prog : Program} {w : World} {A : Around} {E : Value → Shared → Prop} {s : Shared}
/-- the end of a walk is told by StopIteration, which pyNext takes -/
theorem wpAny_stopI {Q : Option Value → Shared → Prop} {R : PySem.Fin → Shared → Prop} (hh : A.handled = none)
    (h : ∀ h', (∀ b o, s.heap.get? b = some o → h'.get? b = some o) → Q none { s with heap := h' }) :
    wpAny (model prog w) A.in1 (do let e ← newExc (.type "StopIteration") []; raiseNew e) R
      (fun e s' => wpAny (model prog w) A (do if ← isInstance e (.type "StopIteration") then pure none else throw e) Q E s') s := by
  refine wpAny_bind ?_
  simp only [newExc, newTuple]
  refine wpAny_bind (wpAny_newObj_type ?_ (by size_fits))
  refine wpAny_bind (m := firstArgMember _ _) (wpAny_of_eq (a := Value.none) (by first | rfl | (simp only [firstArgMember]; rfl)) ?_)
  refine wpAny_newObj_type ?_ (by size_fits)
  simp only [raiseNew]
  refine wpAny_bind (wpAny_handled ?_)
  rw [show A.in1.handled = none from hh]
  refine wpAny_bind (wpAny_pure (wpAny_throw ?_))
  refine wpAny_bind (wpAny_isInstance (T := "StopIteration") (b := true) ⟨_, Heap.get?_push_size _ rfl, rfl⟩ isSubtype_stop ?_)
  exact wpAny_pure (h _ fun b o e => Heap.get?_push_of_some _ (Heap.get?_push_of_some _ e))
theorem wpAny_pyNext_set_textEnd {I a : Addr} {o : Obj} {es : Array (Int × Value)} {ep : Nat} {t : SetTable} {Q : Option Value → Shared → Prop} (hh : A.handled = none) (hb : w.params.followText "set-order" = true)
    (hI : s.heap.get? I = some (setIter (rawInt 0) es.size a es.size ep)) (ho : s.heap.get? a = some o) (hd : o.data = .set es ep t) (hf : t.fits es.size = true)
    (h : ∀ h', Heap.ExtBut I s.heap h' → Q none { s with heap := h' }) :
    wpAny (model prog w) A (pyNext (.ref I)) Q E s := by
  have hT : s.TypeIs (.ref I) "set_iterator" := ⟨_, hI, rfl⟩
  unfold pyNext
  refine wpAny_bind (wpAny_attempt (wpAny_callSpecial?_slot (name := Str.ofString "__next__") hT slot_setiter_next
    (wpAny_call_entry slot_setiter_next hT entry_setiter_next ?_ (args_setiter_next _))))
  unfold Builtin.«set_iterator.__next__»
  rw [slotArgs_next]
  refine wpAny_bind (wpAny_pure ?_)
  dsimp only
  refine wpAny_bind (wpAny_fieldsOf hI rfl ?_)
  simp only [rawInt]
  refine wpAny_bind (wpAny_setEntries_of ho hd hf ?_)
  rw [if_neg (by simp)]
  refine wpAny_bind ?_
  unfold setNext
  refine wpAny_bind (wpAny_setState_of ho hd hf ?_)
  dsimp only
  refine wpAny_bind (wpAny_setsByText ?_)
  rw [hb, if_pos rfl, if_neg (by simp)]
  unfold setWalk
  refine wpAny_bind ?_
  refine wpAny_bind (wpAny_setState_of ho hd hf ?_)
  dsimp only
  refine wpAny_bind (wpAny_setsByText ?_)
  rw [hb, if_pos rfl]
  refine wpAny_bind (wpAny_askSetting ?_)
  refine wpAny_pure ?_
  refine wpAny_pure ?_
  have he' : (pickOrder ((model prog w).w.params.setOrder a ep) es)[es.size]? = none := by
    rw [Array.getElem?_eq_none]
    have := (pickOrder_perm ((model prog w).w.params.setOrder a ep) es).length_eq
    simp only [Array.length_toList] at this
    omega
  simp only [Int.toNat_natCast, he', Option.map_none]
  refine wpAny_bind (wpAny_setField_rec (k := 2) hI (by simp) fun h1 g1 b1 => ?_)
  refine wpAny_stopI (s := { s with heap := h1 }) hh fun h2 k2 => h h2 fun b o hbI e => k2 b o ?_
  rw [b1.2 b hbI]; exact e
theorem wpAny_pyNext_set_drawn {I a T : Addr} {o : Obj} {es : Array (Int × Value)} {ep i p : Nat} {t : SetTable} {x : Value} {pl : List Nat} {Q : Option Value → Shared → Prop}
    (hI : s.heap.get? I = some (setIter (.ref T) i a es.size ep)) (ho : s.heap.get? a = some o) (hd : o.data = .set es ep t) (hf : t.fits es.size = true)
    (hT : s.heap.get? T = some (seqObj "tuple" (pl.map fun (i : Nat) => rawInt i).toArray 0)) (hp : pl[i]? = some p) (hx : (es[p]?).map (·.2) = some x)
    (h : ∀ h', h'.get? I = some (setIter (.ref T) (i + 1) a es.size ep) → Heap.SameBut I s.heap h' → Q (some x) { s with heap := h' }) :
    wpAny (model prog w) A (pyNext (.ref I)) Q E s := by
  have hTy : s.TypeIs (.ref I) "set_iterator" := ⟨_, hI, rfl⟩
  unfold pyNext
  refine wpAny_bind (wpAny_attempt (wpAny_callSpecial?_slot (name := Str.ofString "__next__") hTy slot_setiter_next
    (wpAny_call_entry slot_setiter_next hTy entry_setiter_next ?_ (args_setiter_next _))))
  unfold Builtin.«set_iterator.__next__»
  rw [slotArgs_next]
  refine wpAny_bind (wpAny_pure ?_)
  dsimp only
  refine wpAny_bind (wpAny_fieldsOf hI rfl ?_)
  simp only [rawInt]
  refine wpAny_bind (wpAny_setEntries_of ho hd hf ?_)
  rw [if_neg (by simp)]
  refine wpAny_bind (wpAny_seqItems hT rfl ?_)
  have hp' : ((pl.map fun (i : Nat) => Value.int i 0).toArray)[i]? = some (Value.int p 0) := by simp [hp]
  simp only [rawInt, Int.toNat_natCast, hp']
  unfold setNextDrawn
  refine wpAny_bind ?_
  refine wpAny_bind (wpAny_setState_of ho hd hf ?_)
  dsimp only
  rw [if_neg (by simp)]
  cases he : es[p]? with
  | none => rw [he] at hx; cases hx
  | some e =>
    rw [he] at hx
    obtain rfl : e.2 = x := by simpa using hx
    dsimp only
    refine wpAny_pure ?_
    refine wpAny_bind (wpAny_setField_rec (k := 1) hI (by simp) fun h1 g1 b1 => ?_)
    refine wpAny_pure ⟨_, rfl, wpAny_pure (h h1 ?_ b1)⟩
    rw [g1]
    rfl
theorem wpAny_pyNext_set_drawnEnd {I a T : Addr} {o : Obj} {es : Array (Int × Value)} {ep : Nat} {t : SetTable} {pl : List Nat} {Q : Option Value → Shared → Prop} (hh : A.handled = none)
    (hI : s.heap.get? I = some (setIter (.ref T) es.size a es.size ep)) (ho : s.heap.get? a = some o) (hd : o.data = .set es ep t) (hf : t.fits es.size = true)
    (hT : s.heap.get? T = some (seqObj "tuple" (pl.map fun (i : Nat) => rawInt i).toArray 0)) (hp : pl.length = es.size)
    (h : ∀ h', Heap.ExtBut I s.heap h' → Q none { s with heap := h' }) :
    wpAny (model prog w) A (pyNext (.ref I)) Q E s := by
  have hTy : s.TypeIs (.ref I) "set_iterator" := ⟨_, hI, rfl⟩
  unfold pyNext
  refine wpAny_bind (wpAny_attempt (wpAny_callSpecial?_slot (name := Str.ofString "__next__") hTy slot_setiter_next
    (wpAny_call_entry slot_setiter_next hTy entry_setiter_next ?_ (args_setiter_next _))))
  unfold Builtin.«set_iterator.__next__»
  rw [slotArgs_next]
  refine wpAny_bind (wpAny_pure ?_)
  dsimp only
  refine wpAny_bind (wpAny_fieldsOf hI rfl ?_)
  simp only [rawInt]
  refine wpAny_bind (wpAny_setEntries_of ho hd hf ?_)
  rw [if_neg (by simp)]
  refine wpAny_bind (wpAny_seqItems hT rfl ?_)
  have hp' : ((pl.map fun (i : Nat) => Value.int i 0).toArray)[es.size]? = none := by simp [hp]
  simp only [rawInt, Int.toNat_natCast, hp']
  refine wpAny_bind (wpAny_setField_rec (k := 0) hI (by simp) fun h1 g1 b1 => ?_)
  refine wpAny_bind (wpAny_setField_rec (k := 2) (s := { s with heap := h1 }) g1 (by simp) fun h2 g2 b2 => ?_)
  refine wpAny_stopI (s := { s with heap := h2 }) hh fun h3 k3 => h h3 fun b o hbI e => k3 b o ?_
  rw [b2.2 b hbI, b1.2 b hbI]; exact e
end
end Mine

end
section
open PySem PyProof.Rows PySem.Spec
set_option Elab.async false
set_option maxRecDepth 100000
namespace Mine
theorem perm_of_sub : ∀ {l m : List Str}, l.Nodup → (∀ k ∈ l, k ∈ m) → l.length = m.length → l.Perm m
  | [], m, _, _, h => by
    have : m = [] := List.length_eq_zero_iff.mp h.symm
    rw [this]
  | k :: l, m, hn, hs, hl => by
    obtain ⟨m1, m2, rfl⟩ := List.append_of_mem (hs k List.mem_cons_self)
    have hn2 := List.nodup_cons.mp hn
    have ih : l.Perm (m1 ++ m2) := perm_of_sub hn2.2 (fun x hx => by
      have := hs x (List.mem_cons_of_mem _ hx)
      simp only [List.mem_append, List.mem_cons] at this ⊢
      rcases this with h | rfl | h
      · exact .inl h
      · exact absurd hx hn2.1
      · exact .inr h) (by simp at hl ⊢; omega)
    exact (List.Perm.cons k ih).trans List.perm_middle.symm
section
variable {prog : Program} {w : World} {A : Around} {E : Value → Shared → Prop} {s : Shared}
theorem elems_strs {es : List (Int × Value)} (h : ElemsOf (PySem.strKind prog w) es) : StrsAre (es.map (·.2)) (es.map fun e => strOf e.2) := by
  have h1 := strsAre_map (es.map (·.2)) (by
    intro v hv
    obtain ⟨e, he, rfl⟩ := List.mem_map.mp hv
    obtain ⟨⟨k, hk, _⟩, _⟩ := h e he
    obtain ⟨t, ht⟩ := Value.isStrOf_shape hk
    exact ⟨k, t, ht⟩)
  rwa [List.map_map] at h1
theorem elems_perm {es : Array (Int × Value)} {l : List Str} (h : ElemsOf (PySem.strKind prog w) es.toList) (hmem : ∀ k, k ∈ l ↔ ∃ e ∈ es.toList, (PySem.strKind prog w).is k e.2 = true) (hn : es.size = l.length) (hl : l.Nodup) :
    (es.toList.map fun e => strOf e.2).Perm l := by
  refine (perm_of_sub hl (fun k hk => ?_) (by rw [List.length_map, Array.length_toList]; exact hn.symm)).symm
  obtain ⟨e, he, hi⟩ := (hmem k).mp hk
  obtain ⟨t, ht⟩ := Value.isStrOf_shape hi
  exact List.mem_map.mpr ⟨e, he, by rw [ht]; rfl⟩
/-- a set is walked: its texts come, each once, in some order -/
theorem pyIter_setW {a : Addr} {l : List Str} {Q : Value → Shared → Prop} (T : TSet prog w s.heap a l) (hl : l.Nodup) (h2 : 2 ≤ l.length)
    (h : ∀ (h' : Heap) (d : Drawn) (I : Addr) (fp : List Addr) (St : Nat → Heap → Prop) (O : List Value) (l' : List Str),
      (∀ A' : Around, A'.handled = none → Walks prog w A' I fp [I] O.length (fun i v => O[i]? = some v) St) → St 0 h' → (∀ b o, s.heap.get? b = some o → h'.get? b = some o) → s.heap.objs.size ≤ I → (∀ b ∈ fp, b = a ∨ s.heap.objs.size ≤ b) →
      StrsAre O l' → l'.Perm l → Q (.ref I) { s with heap := h', drawn := d }) : wpAny (model prog w) A (pyIter (.ref a)) Q E s := by
  obtain ⟨o, es, ep, t, ho, hex, hd, hel, hmem, hb, hf, hn, hpl⟩ := T
  have hp : t.plain = false := hpl (fun e => by rw [e] at h2; simp at h2)
  have ha : a < s.heap.objs.size := Heap.lt_size ho
  have hS := elems_strs hel
  have hP := elems_perm hel hmem hn hl
  refine wpAny_pyIter_set ho hex hd hf hp (by rw [hn]; exact h2) hb (fun hbt => ?_) (fun hbt pl d hpp => ?_)
  · have hO := pickOrder_perm (w.params.setOrder a ep) es
    have hOl : ((pickOrder (w.params.setOrder a ep) es).toList.map (·.2)).length = es.size := by rw [List.length_map, hO.length_eq, Array.length_toList]
    refine h _ s.drawn s.heap.objs.size [s.heap.objs.size, a] (fun i h => h.get? s.heap.objs.size = some (setIter (rawInt 0) i a es.size ep) ∧ h.get? a = some o) ((pickOrder (w.params.setOrder a ep) es).toList.map (·.2)) ((pickOrder (w.params.setOrder a ep) es).toList.map fun e => strOf e.2)
      (fun A' hA => ?_) ⟨Heap.get?_push_size _ rfl, Heap.get?_push_of_some _ ho⟩ (fun b o e => Heap.get?_push_of_some _ e) (Nat.le_refl _) (fun b hb => ?_) (elems_strs (hel.perm hO)) ((hO.map _).trans hP)
    · exact {
        sub := fun b hb => by simp at hb; simp [hb]
        frame := fun i h h' st hk => ⟨hk _ (by simp) _ st.1, hk _ (by simp) _ st.2⟩
        item := fun i s' Q' E' hi st hQ => by
          have hx : (((pickOrder (w.params.setOrder a ep) es)[i]?).map (·.2)) = some ((pickOrder (w.params.setOrder a ep) es).toList.map (·.2))[i] := by
            rw [← Array.getElem?_toList, ← List.getElem?_map]; exact List.getElem?_eq_getElem hi
          refine wpAny_pyNext_set_text hbt st.1 st.2 hd hf (Nat.ne_of_lt ha) hx fun h' e1 e2 => ?_
          exact hQ _ h' s'.toks (List.getElem?_eq_getElem hi) ⟨e1, by rw [e2.2 a (Nat.ne_of_lt ha)]; exact st.2⟩ fun b o hb e => by rw [e2.2 b (fun q => hb (by simp [q]))]; exact e
        done := fun s' Q' E' st hQ => by
          rw [hOl] at st
          exact wpAny_pyNext_set_textEnd hA hbt st.1 st.2 hd hf fun h' he => hQ h' s'.toks fun b o hb e => he b o (fun q => hb (by simp [q])) e
        self := fun i s' Q' E' st hQ => by
          have hT : s'.TypeIs (.ref s.heap.objs.size) "set_iterator" := ⟨_, st.1, rfl⟩
          refine wpAny_pyIter_slot hT slot_setiter_iter (wpAny_call_entry slot_setiter_iter hT entry_setiter_iter ?_ (args_setiter_iter _))
          show wpAny _ _ (ret (.ref _)) _ _ s'
          exact wpAny_pure ⟨_, rfl, "set_iterator", _, hT, slot_setiter_next.lookup, hQ⟩ }
    · simp at hb
      rcases hb with rfl | rfl
      · exact .inr (Nat.le_refl _)
      · exact .inl rfl
  · have hrange : (List.range es.size).map (fun p => ((es[p]?).map (·.2)).getD Value.none) = es.toList.map (·.2) := by
      apply List.ext_getElem?
      intro j
      have e1 : es.toList[j]? = es[j]? := Array.getElem?_toList ..
      rw [List.getElem?_map, List.getElem?_map, e1]
      by_cases hj : j < es.size
      · rw [List.getElem?_range hj]; simp [hj]
      · rw [List.getElem?_eq_none (by simp; omega), Array.getElem?_eq_none (by omega)]; rfl
    have hOp : (pl.map fun p => ((es[p]?).map (·.2)).getD Value.none).Perm (es.toList.map (·.2)) := by
      rw [← hrange]; exact hpp.map _
    have hpl : pl.length = es.size := by rw [hpp.length_eq, List.length_range]
    have hOS : StrsAre (pl.map fun p => ((es[p]?).map (·.2)).getD Value.none) ((pl.map fun p => ((es[p]?).map (·.2)).getD Value.none).map strOf) := strsAre_map _ fun v hv => hS.all v (hOp.mem_iff.mp hv)
    have hOl : ((pl.map fun p => ((es[p]?).map (·.2)).getD Value.none).map strOf).Perm l := by
      refine (hOp.map strOf).trans ?_
      rw [List.map_map]; exact hP
    have hne : a ≠ s.heap.objs.size + 1 := Nat.ne_of_lt (Nat.lt_succ_of_lt ha)
    refine h _ d (s.heap.objs.size + 1) [s.heap.objs.size + 1, a, s.heap.objs.size]
      (fun i h => h.get? (s.heap.objs.size + 1) = some (setIter (.ref s.heap.objs.size) i a es.size ep) ∧ h.get? a = some o ∧ h.get? s.heap.objs.size = some (seqObj "tuple" (pl.map fun (i : Nat) => rawInt i).toArray 0))
      (pl.map fun p => ((es[p]?).map (·.2)).getD Value.none) _ (fun A' hA => ?_) ⟨?_, Heap.get?_push_of_some _ (Heap.get?_push_of_some _ ho), Heap.get?_push_of_some _ (Heap.get?_push_size _ rfl)⟩ (fun b o e => Heap.get?_push_of_some _ (Heap.get?_push_of_some _ e)) (Nat.le_succ _) (fun b hb => ?_) hOS hOl
    · exact {
        sub := fun b hb => by rw [List.mem_singleton.mp hb]; exact List.mem_cons_self
        frame := fun i h h' st hk => ⟨hk _ (by simp) _ st.1, hk _ (by simp) _ st.2.1, hk _ (by simp) _ st.2.2⟩
        item := fun i s' Q' E' hi st hQ => by
          have hi' : i < pl.length := by simpa using hi
          have hpi : pl[i]? = some pl[i] := List.getElem?_eq_getElem hi'
          have hlt : pl[i] < es.size := List.mem_range.mp (hpp.mem_iff.mp (List.getElem_mem hi'))
          have hx : ((es[pl[i]]?).map (·.2)) = some es[pl[i]].2 := by simp [hlt]
          refine wpAny_pyNext_set_drawn st.1 st.2.1 hd hf st.2.2 hpi hx fun h' e1 e2 => ?_
          refine hQ _ h' s'.toks (by rw [List.getElem?_map, hpi, Option.map_some, hx]; rfl) ⟨e1, by rw [e2.2 a hne]; exact st.2.1, by rw [e2.2 _ (Nat.ne_of_lt (Nat.lt_succ_self _))]; exact st.2.2⟩ fun b o hb e => by rw [e2.2 b (fun q => hb (by simp [q]))]; exact e
        done := fun s' Q' E' st hQ => by
          rw [List.length_map, hpl] at st
          exact wpAny_pyNext_set_drawnEnd hA st.1 st.2.1 hd hf st.2.2 hpl fun h' he => hQ h' s'.toks fun b o hb e => he b o (fun q => hb (by simp [q])) e
        self := fun i s' Q' E' st hQ => by
          have hT : s'.TypeIs (.ref (s.heap.objs.size + 1)) "set_iterator" := ⟨_, st.1, rfl⟩
          refine wpAny_pyIter_slot hT slot_setiter_iter (wpAny_call_entry slot_setiter_iter hT entry_setiter_iter ?_ (args_setiter_iter _))
          show wpAny _ _ (ret (.ref _)) _ _ s'
          exact wpAny_pure ⟨_, rfl, "set_iterator", _, hT, slot_setiter_next.lookup, hQ⟩ }
    · have e : (s.heap.push (seqObj "tuple" (pl.map fun (i : Nat) => rawInt i).toArray 0)).objs.size = s.heap.objs.size + 1 := Heap.size_push ..
      rw [← e]
      exact Heap.get?_push_size _ rfl
    · simp at hb
      rcases hb with rfl | rfl | rfl
      · exact .inr (Nat.le_succ _)
      · exact .inl rfl
      · exact .inr (Nat.le_refl _)
end
end Mine

end
section
open PySem PyProof.Rows PySem.Spec
set_option Elab.async false
set_option maxRecDepth 100000
namespace Mine
theorem set_len : typeLookup (.type "set") "__len__" = pure (some (.builtin "set.__len__")) := by rw [typeLookup_type, builtinLookup_eq_fast]; kernel_rfl
section
variable {prog : Program} {w : World} {A : Around} {E : Value → Shared → Prop} {s : Shared}
set_option maxHeartbeats 4000000 in
theorem collect_setT {a : Addr} {l : List Str} {Q : List Value → Shared → Prop} (hh : A.handled = none) (T : TSet prog w s.heap a l) (hl : l.Nodup) (h2 : 2 ≤ l.length) (hn : l.length ≤ sizeLine)
    (hQ : ∀ (h' : Heap) (d : Drawn) (tk : Nat) (O : List Value) (l' : List Str), (∀ b o, s.heap.get? b = some o → h'.get? b = some o) → s.heap.objs.size ≤ h'.objs.size → s.toks ≤ tk → StrsAre O l' → l'.Perm l → Q O { s with heap := h', drawn := d, toks := tk }) :
    wpAny (model prog w) A (collect (.ref a)) Q E s := by
  have ha : ∃ o, s.heap.get? a = some o ∧ o.ExactSet := by obtain ⟨o, _, _, _, h1, h2, _⟩ := T; exact ⟨o, h1, h2⟩
  obtain ⟨o, ho, hex⟩ := ha
  have halt : a < s.heap.objs.size := Heap.lt_size ho
  unfold collect
  refine wpAny_bind (wpAny_runValue (codeAny_builtin F.entry_proto_collect ?_))
  rw [Around.under_plainId F.plain_proto_collect _]
  show wpAny _ A.in1 (newList [] >>= fun l => again (.builtin "list.__iadd__" ⟨[l, .ref a], []⟩)) _ _ s
  refine wpAny_bind (wpAny_newObj_type ?_)
  refine wpAny_pure ⟨plainId_quiet F.plain_list_iadd _, codeAny_builtin F.entry_list_iadd ?_⟩
  rw [Around.under_plainId F.plain_list_iadd _]
  have ho1 : (s.heap.push { cls := .type "list", data := .seq ([] : List Value).toArray }).get? a = some o := Heap.get?_push_of_some _ ho
  have hT1 : Shared.TypeIs { s with heap := s.heap.push { cls := .type "list", data := .seq ([] : List Value).toArray } } (.ref a) "set" := ⟨_, ho1, hex.1⟩
  show wpAny _ A.in1 (Builtin.List.listExtendWith (.ref s.heap.objs.size) (.ref a) (.ref s.heap.objs.size)) _ _ _
  unfold Builtin.List.listExtendWith
  refine wpAny_bind (wpAny_typeOf hT1 ?_)
  have h1 : Builtin.List.listSameRef (.ref s.heap.objs.size) (.ref a) = false := by
    have hne : ¬ (s.heap.objs.size = a) := fun e => Nat.lt_irrefl _ (by rw [e] at halt; exact halt)
    simp [Builtin.List.listSameRef, hne]
  have h2' : (Value.type "set" == Value.type "list") = false := by decide
  have h3 : (Value.type "set" == Value.type "tuple") = false := by decide
  simp only [h1, h2', h3, Bool.or_false, Bool.false_eq_true, if_false]
  have T1 : TSet prog w (s.heap.push { cls := .type "list", data := .seq ([] : List Value).toArray }) a l := tset_moved T fun o e => Heap.get?_push_of_some _ e
  refine wpAny_bind (pyIter_setW (s := { s with heap := s.heap.push { cls := .type "list", data := .seq ([] : List Value).toArray } }) T1 hl h2 fun h' d I fp St O l' W st k hI hfp hO hP => ?_)
  refine wpAny_bind (wpAny_holding ?_)
  have hT2 : Shared.TypeIs { s with heap := h', drawn := d } (.ref a) "set" := ⟨_, k _ _ ho1, hex.1⟩
  unfold Builtin.List.listLengthHint
  refine wpAny_bind (wpAny_specialOf hT2 set_len ?_)
  wp_delta
  refine wpAny_bind (wpAny_isInstance (T := "set") (b := true) hT2 (by rw [isSubtype_type]; kernel_rfl) ?_)
  show wpAny _ A.in1 (typeOf (Value.ref a) >>= _) _ _ _
  refine wpAny_bind (wpAny_typeOf hT2 ?_)
  refine wpAny_pure ?_
  rw [if_pos (by decide)]
  show wpAny _ A.in1 (rule "list.extend.makes-room" >>= fun _ => Builtin.List.listTouch (.ref s.heap.objs.size) >>= fun _ =>
    again (.builtin "list.extend.loop" ⟨[.ref s.heap.objs.size, .ref I, .ref s.heap.objs.size], []⟩)) _ _ _
  refine wpAny_bind (wpAny_rule ?_)
  have hS₁ : h'.get? s.heap.objs.size = some { cls := .type "list", data := .seq ([] : List Value).toArray } := k _ _ (Heap.get?_push_size _ rfl)
  refine wpAny_bind ?_
  show wpAny _ A.in1 (updateSeq s.heap.objs.size (·.push .none) >>= fun _ => updateSeq s.heap.objs.size (·.pop)) _ _ _
  refine wpAny_bind (wpAny_updateSeq hS₁ rfl ?_)
  have hS₂ := Heap.get?_update_self (Obj.mapSeq (·.push Value.none)) hS₁ rfl
  refine wpAny_updateSeq hS₂ rfl ?_
  have hS₃ := Heap.get?_update_self (Obj.mapSeq (·.pop)) hS₂ rfl
  have oth : ∀ b o, b ≠ s.heap.objs.size → h'.get? b = some o → ((h'.update s.heap.objs.size (Obj.mapSeq (·.push Value.none))).update s.heap.objs.size (Obj.mapSeq (·.pop))).get? b = some o :=
    fun b o hb e => (Heap.get?_update_other _ _ (Ne.symm hb)).trans ((Heap.get?_update_other _ _ (Ne.symm hb)).trans e)
  have hsz1 : (s.heap.push { cls := .type "list", data := .seq ([] : List Value).toArray }).objs.size = s.heap.objs.size + 1 := Heap.size_push ..
  have hSf : s.heap.objs.size ∉ fp := fun hm => by
    rcases hfp _ hm with e | e
    · exact absurd halt (by rw [← e]; exact Nat.lt_irrefl _)
    · rw [show ({ s with heap := s.heap.push { cls := .type "list", data := .seq ([] : List Value).toArray } } : Shared).heap.objs.size = s.heap.objs.size + 1 from hsz1] at e
      exact absurd e (Nat.not_succ_le_self _)
  have hOn : O.length ≤ sizeLine := by rw [hO.length, hP.length_eq]; exact hn
  refine wpAny_pure ⟨plainId_quiet F.plain_extend_loop _, codeAny_extend_loopS ((W A.in1 hh).toS) hOn _ hSf _ O.length 0 _ _ _ rfl (Nat.zero_le _) ?st hS₃ (ItemsOf.nil _) fun s' acc' c' hm hS' hacc => ?_⟩
  case st => exact (W A.in1 hh).frame 0 h' _ st fun b hb o e => oth b o (fun q => hSf (by rw [← q]; exact hb)) e
  show wpAny _ A (load s.heap.objs.size >>= _) _ _ s'
  refine wpAny_bind (wpAny_load hS' ?_)
  refine wpAny_pure ?_
  have hacO : acc'.toList = O := by
    apply List.ext_getElem?
    intro j
    rw [Array.getElem?_toList]
    by_cases hj : j < O.length
    · have hj' : j < acc'.size := by rw [hacc.1]; exact hj
      have e1 : acc'[j]? = some acc'[j] := getElem?_pos acc' j hj'
      rw [e1, hacc.2 j _ e1]
    · have hj' : ¬ j < acc'.size := by rw [hacc.1]; exact hj
      rw [List.getElem?_eq_none (by omega), Array.getElem?_eq_none (by omega)]
  rw [hacO]
  have hfin := hQ s'.heap s'.drawn s'.toks O l'
  have eg : s'.gens = s.gens := hm.gens
  have eo : s'.os = s.os := hm.os
  have htk : s.toks ≤ s'.toks := hm.toks
  have hkeep : ∀ b o, s.heap.get? b = some o → s'.heap.get? b = some o := fun b o e => by
    have hb : b < s.heap.objs.size := Heap.lt_size e
    have e1 := oth b o (Nat.ne_of_lt hb) (k _ _ (Heap.get?_push_of_some _ e))
    refine hm.heap b o (fun q => ?_) e1
    rcases List.mem_cons.mp q with rfl | q
    · exact Nat.lt_irrefl _ hb
    · rw [List.mem_singleton.mp q] at hb
      have : ({ s with heap := s.heap.push { cls := .type "list", data := .seq ([] : List Value).toArray } } : Shared).heap.objs.size ≤ I := hI
      rw [show ({ s with heap := s.heap.push { cls := .type "list", data := .seq ([] : List Value).toArray } } : Shared).heap.objs.size = s.heap.objs.size + 1 from hsz1] at this
      exact Nat.lt_irrefl _ (Nat.lt_trans hb (Nat.lt_of_succ_le this))
  have hfin2 := hfin hkeep (Nat.le_of_lt (Heap.lt_size hS')) htk hO hP
  obtain ⟨h3, g3, d3, tk3, os3⟩ := s'
  dsimp only at eg eo hfin2
  subst eg; subst eo
  exact hfin2
end
end Mine

end
section
open PySem PyProof.Rows PySem.Spec
set_option Elab.async false
set_option maxRecDepth 100000
namespace Mine
section
variable {prog : Program} {w : World} {A : Around} {E : Value → Shared → Prop} {s : Shared}
/-- sorted(a set of texts): a list of just these texts, each once -/
theorem sorted_setT {a : Addr} {l : List Str} {Q : Value → Shared → Prop} (hh : A.handled = none) (T : TSet prog w s.heap a l) (hl : l.Nodup) (h2 : 2 ≤ l.length) (hn : l.length ≤ sizeLine)
    (hQ : ∀ (h' : Heap) (d : Drawn) (tk : Nat) (D : Addr) (out : Array Value) (ss : List Str) (e : Nat), (∀ b o, s.heap.get? b = some o → h'.get? b = some o) → s.heap.objs.size ≤ D → h'.get? D = some (seqObj "list" out e) →
      StrsAre out.toList ss → ss.Perm l → s.toks ≤ tk → Q (.ref D) { s with heap := h', drawn := d, toks := tk }) :
    wpAny (model prog w) A (call (.builtin "sorted") [.ref a]) Q E s := by
  refine Calls.call_function_entry kind_sorted plain_sorted entry_sorted (args_sorted1 _) ?_
  unfold Builtin.«sorted»
  refine wpAny_bind (m := checkCount "sorted" 1 1 _) (wpAny_pure ?_)
  refine wpAny_bind (collect_setT hh T hl h2 hn fun h' d tk O l' keep hsz htk hO hP => ?_)
  refine wpAny_bind (wpAny_newList ?_ (by rw [hO.length, hP.length_eq]; exact hn))
  have hoL : (h'.push (seqObj "list" O.toArray 0)).get? h'.objs.size = some (seqObj "list" O.toArray 0) := Heap.get?_push_size _ rfl
  show wpAny _ _ _ _ _ { s with heap := h'.push (seqObj "list" O.toArray 0), drawn := d, toks := tk }
  refine wpAny_bind (wpAny_holding (wpAny_call_entry slot_list_sort ⟨_, hoL, rfl⟩ entry_list_sort (list_sort_treeI hoL hO (by rw [hO.length, hP.length_eq]; exact hn) fun out hp => ⟨_, rfl, ?_⟩) (args_list_sort _)))
  refine wpAny_pure ⟨_, rfl, ?_⟩
  obtain ⟨e, he⟩ := sortedHeap_at (out := out) hoL
  refine hQ _ d tk h'.objs.size out (out.toList.map strOf) e (fun b o eb => ?_) hsz he (strsAre_map _ fun v hv => ?_) ?_ htk
  · have hb := Heap.lt_size (keep _ _ eb)
    rw [sortedHeap_old (Nat.ne_of_lt hb) (by rw [size_push']; exact Nat.lt_succ_of_lt hb), Heap.get?_push_ne _ _ _ (Nat.ne_of_lt hb)]
    exact keep _ _ eb
  · exact hO.all v (hp.mem_iff.mp hv)
  · refine ((hp.map strOf).trans ?_).trans hP
    rw [hO.strs]
end
end Mine

end
section
open PySem PySem.W PyProof.Rows PySem.Spec
set_option Elab.async false
set_option maxRecDepth 100000
namespace Mine
section
variable {prog : Program} {w : World} {A : Around} {E : Value → Shared → Prop} {s : Shared} {h₀ : Heap} {L : Addr} {m : Str → Option Value} {news : List (Addr × Obj)}
theorem set_TN {l : Addr} {vs : List Value} {n : Nat} {ss : List Str} {Q : Value → Shared → Prop} (F : Fr h₀ L s.heap m) (N : News h₀ L s.heap news) (hm : (l, listOf vs.toArray n) ∈ news) (hS : StrsAre vs ss) (hh : A.handled = none)
    (hb : vs.length + 1 < scanBound) (ht : 0 < s.toks)
    (h : ∀ h' tk D, Fr h₀ L h' m → News h₀ L h' news → TSet prog w h' D (metT ss) → 0 < tk → Q (.ref D) { s with heap := h', toks := tk }) :
    wpAny (model prog w) A (call (.type "set") [.ref l]) Q E s := by
  have hl := PySem.IsL.isList (n := n) (N _ hm).1
  refine call_setT (items := vs.toArray) hh hl (by simpa using hS) (by simpa using hb) fun h' tk T keep htk => ?_
  have k : ∀ b o, s.heap.get? b = some o → h'.get? b = some o := fun b o e => keep b o (Heap.lt_size e) e
  exact h h' tk _ (F.kept k) (fun p hp => ⟨k _ _ (N p hp).1, (N p hp).2⟩) T (Nat.lt_of_lt_of_le ht htk)
theorem sorted_TN {a : Addr} {l : List Str} {Q : Value → Shared → Prop} (F : Fr h₀ L s.heap m) (N : News h₀ L s.heap news) (T : TSet prog w s.heap a l) (hh : A.handled = none) (hl : l.Nodup) (h2 : 2 ≤ l.length) (hn : l.length ≤ sizeLine) (ht : 0 < s.toks)
    (h : ∀ h' d tk D vs ss e, Fr h₀ L h' m → News h₀ L h' ((D, listOf vs.toArray e) :: news) → StrsAre vs ss → ss.Perm l → 0 < tk → Q (.ref D) { s with heap := h', drawn := d, toks := tk }) :
    wpAny (model prog w) A (call (.builtin "sorted") [.ref a]) Q E s := by
  refine sorted_setT hh T hl h2 hn fun h' d tk D out ss e keep hD he hS hP htk => ?_
  exact h h' d tk D out.toList ss e (F.kept keep) (N.kept_cons F keep hD (by simpa using he)) hS hP (Nat.lt_of_lt_of_le ht htk)
end
end Mine

end
section
open PySem PySem.W PyProof.Rows PySem.Calls
set_option Elab.async false
set_option maxRecDepth 100000
set_option maxHeartbeats 1000000
namespace Mine
theorem endsF_last (l : List Nat) : (endsF l).2 = l.getLast? := by
  rcases List.eq_nil_or_concat l with rfl | ⟨p, z, rfl⟩
  · rfl
  · rw [List.concat_eq_append, endsF_snoc]; simp [endsStep]
theorem norm_snoc (l : List Nat) (c : Nat) : norm (l ++ [c]) = if c = 13 then norm l ++ [10] else if c ≠ 10 ∨ l.getLast? ≠ some 13 then norm l ++ [c] else norm l := by
  rw [← endsF_eq, endsF_snoc, ← endsF_last, ← endsF_eq]; rfl
theorem norm_cr (l : List Nat) : norm (l ++ [13]) = norm l ++ [10] := by rw [norm_snoc, if_pos rfl]
theorem norm_crlf (l : List Nat) : norm (l ++ [13, 10]) = norm l ++ [10] := by
  have : l ++ [13, 10] = (l ++ [13]) ++ [10] := by simp
  rw [this, norm_snoc, if_neg (by decide), if_neg (by simp), norm_cr]
theorem norm_sign {c : Nat} (h : c ≠ 13) (h2 : c ≠ 10) (l : List Nat) : norm (l ++ [c]) = norm l ++ [c] := by rw [norm_snoc, if_neg h, if_pos (.inl h2)]
/-- one more line end -/
def addE3 (ls : List (List Nat)) : List (List Nat) := ls.flatMap fun t => [t ++ [10], t ++ [13], t ++ [13, 10]]
def addC (c : Nat) (ls : List (List Nat)) : List (List Nat) := ls.map (· ++ [c])
/-- what stands after the signs p: all texts ls, those written so (vf, vb: with CR alone at the end) -/
structure Cnt (p : List Nat) (ls vf vb : List (List Nat)) : Prop where
  nd : (vf ++ vb).Nodup
  hf : ∀ t ∈ vf, t.getLast? ≠ some 13
  hb : ∀ t ∈ vb, t.getLast? = some 13
  hm : ∀ t, t ∈ vf ++ vb ↔ t ∈ ls ∧ norm t = p
  hl : ∀ t ∈ ls, (norm t).length ≤ p.length
  hn : ∀ t ∈ ls, noCtl t ∧ t.length ≤ 2 * p.length
theorem Cnt.start : Cnt [] [[]] [[]] [] := ⟨by simp, by simp, by simp, by intro t; simp; intro h; subst h; rfl, by intro t ht; simp at ht; subst ht; simp [norm, crlf], by intro t ht; simp at ht; subst ht; simp [noCtl]⟩
theorem app_inj1 (c : Nat) {a b : List Nat} (h : a ++ [c] = b ++ [c]) : a = b := List.append_cancel_right h
theorem Cnt.sign {p : List Nat} {ls vf vb : List (List Nat)} {c : Nat} (h : Cnt p ls vf vb) (h13 : c ≠ 13) (h10 : c ≠ 10) (hc : ctl c = false) : Cnt (p ++ [c]) (addC c ls) (addC c (vf ++ vb)) [] := by
  refine ⟨?_, ?_, by simp, ?_, ?_, ?_⟩
  · rw [List.append_nil]
    exact List.Pairwise.map _ (fun a b hab e => hab (app_inj1 c e)) h.nd
  · intro t ht
    obtain ⟨u, _, rfl⟩ := List.mem_map.mp ht
    simp [h13]
  · intro t
    rw [List.append_nil]
    constructor
    · intro ht
      obtain ⟨u, hu, rfl⟩ := List.mem_map.mp ht
      have := (h.hm u).mp hu
      exact ⟨List.mem_map.mpr ⟨u, this.1, rfl⟩, by rw [norm_sign h13 h10, this.2]⟩
    · rintro ⟨ht, hn⟩
      obtain ⟨u, hu, rfl⟩ := List.mem_map.mp ht
      rw [norm_sign h13 h10] at hn
      exact List.mem_map.mpr ⟨u, (h.hm u).mpr ⟨hu, app_inj1 c hn⟩, rfl⟩
  · intro t ht
    obtain ⟨u, hu, rfl⟩ := List.mem_map.mp ht
    rw [norm_sign h13 h10, List.length_append, List.length_append]
    have := h.hl u hu
    simp; exact this
  · intro t ht
    obtain ⟨u, hu, rfl⟩ := List.mem_map.mp ht
    have := h.hn u hu
    refine ⟨fun k hk => ?_, by simp; omega⟩
    rcases List.mem_append.mp hk with e | e
    · exact this.1 k e
    · rw [List.mem_singleton.mp e]; exact hc
theorem mem_addE3 {t : List Nat} {ls : List (List Nat)} : t ∈ addE3 ls ↔ ∃ u ∈ ls, t = u ++ [10] ∨ t = u ++ [13] ∨ t = u ++ [13, 10] := by
  unfold addE3
  rw [List.mem_flatMap]
  simp only [List.mem_cons, List.not_mem_nil, or_false]
theorem crlf_ne {u : List Nat} : u ++ [13, 10] = (u ++ [13]) ++ [10] := by simp
theorem Cnt.fold {p : List Nat} {ls vf vb : List (List Nat)} (h : Cnt p ls vf vb) : Cnt (p ++ [10]) (addE3 ls) (addC 10 vf ++ (vf ++ vb).map (· ++ [13, 10])) (addC 13 (vf ++ vb)) := by
  refine ⟨?_, ?_, ?_, ?_, ?_, ?_⟩
  · rw [List.nodup_append, List.nodup_append]
    have hnf : vf.Nodup := (List.nodup_append.mp h.nd).1
    refine ⟨⟨?_, ?_, ?_⟩, ?_, ?_⟩
    · exact List.Pairwise.map _ (fun a b hab e => hab (app_inj1 10 e)) hnf
    · exact List.Pairwise.map _ (fun a b hab e => hab (List.append_cancel_right e)) h.nd
    · intro a ha b hb e
      obtain ⟨u, hu, rfl⟩ := List.mem_map.mp ha
      obtain ⟨v, hv, rfl⟩ := List.mem_map.mp hb
      have e : u ++ [10] = v ++ [13, 10] := e
      rw [crlf_ne] at e
      have e2 := app_inj1 10 e
      exact h.hf u hu (by rw [e2]; simp)
    · exact List.Pairwise.map _ (fun a b hab e => hab (app_inj1 13 e)) h.nd
    · intro a ha b hb e
      subst e
      obtain ⟨v, hv, e⟩ := List.mem_map.mp hb
      rcases List.mem_append.mp ha with ha | ha
      · obtain ⟨u, hu, rfl⟩ := List.mem_map.mp ha
        have := congrArg List.getLast? e
        simp at this
      · obtain ⟨u, hu, rfl⟩ := List.mem_map.mp ha
        have := congrArg List.getLast? e
        simp at this
  · intro t ht
    rcases List.mem_append.mp ht with ht | ht
    · obtain ⟨u, hu, rfl⟩ := List.mem_map.mp ht
      simp
    · obtain ⟨u, hu, rfl⟩ := List.mem_map.mp ht
      simp
  · intro t ht
    obtain ⟨u, hu, rfl⟩ := List.mem_map.mp ht
    simp
  · intro t
    constructor
    · intro ht
      rcases List.mem_append.mp ht with ht | ht
      · rcases List.mem_append.mp ht with ht | ht
        · obtain ⟨u, hu, rfl⟩ := List.mem_map.mp ht
          have := (h.hm u).mp (List.mem_append_left _ hu)
          refine ⟨mem_addE3.mpr ⟨u, this.1, .inl rfl⟩, ?_⟩
          rw [norm_snoc, if_neg (by decide), if_pos (.inr (h.hf u hu)), this.2]
        · obtain ⟨u, hu, rfl⟩ := List.mem_map.mp ht
          have := (h.hm u).mp hu
          exact ⟨mem_addE3.mpr ⟨u, this.1, .inr (.inr rfl)⟩, by rw [norm_crlf, this.2]⟩
      · obtain ⟨u, hu, rfl⟩ := List.mem_map.mp ht
        have := (h.hm u).mp hu
        exact ⟨mem_addE3.mpr ⟨u, this.1, .inr (.inl rfl)⟩, by rw [norm_cr, this.2]⟩
    · rintro ⟨ht, hn⟩
      obtain ⟨u, hu, e⟩ := mem_addE3.mp ht
      rcases e with rfl | rfl | rfl
      · rw [norm_snoc, if_neg (by decide)] at hn
        by_cases hl : u.getLast? = some 13
        · rw [if_neg (by simp [hl])] at hn
          have := h.hl u hu
          rw [hn] at this
          simp at this
          omega
        · rw [if_pos (.inr hl)] at hn
          have hu' := (h.hm u).mpr ⟨hu, app_inj1 10 hn⟩
          rcases List.mem_append.mp hu' with h1 | h1
          · exact List.mem_append_left _ (List.mem_append_left _ (List.mem_map.mpr ⟨u, h1, rfl⟩))
          · exact absurd (h.hb u h1) hl
      · rw [norm_cr] at hn
        exact List.mem_append_right _ (List.mem_map.mpr ⟨u, (h.hm u).mpr ⟨hu, app_inj1 10 hn⟩, rfl⟩)
      · rw [norm_crlf] at hn
        exact List.mem_append_left _ (List.mem_append_right _ (List.mem_map.mpr ⟨u, (h.hm u).mpr ⟨hu, app_inj1 10 hn⟩, rfl⟩))
  · intro t ht
    obtain ⟨u, hu, e⟩ := mem_addE3.mp ht
    have := h.hl u hu
    rcases e with rfl | rfl | rfl
    · rw [norm_snoc, if_neg (by decide), List.length_append]
      split
      · rw [List.length_append]; simp; exact this
      · simp; omega
    · rw [norm_cr, List.length_append, List.length_append]; simp; exact this
    · rw [norm_crlf, List.length_append, List.length_append]; simp; exact this
  · intro t ht
    obtain ⟨u, hu, e⟩ := mem_addE3.mp ht
    have := h.hn u hu
    have k : ∀ q : List Nat, (∀ k ∈ q, ctl k = false) → noCtl (u ++ q) := fun q hq k hk => (List.mem_append.mp hk).elim (this.1 k) (hq k)
    rcases e with rfl | rfl | rfl
    · exact ⟨k _ (by decide), by simp; omega⟩
    · exact ⟨k _ (by decide), by simp; omega⟩
    · exact ⟨k _ (by decide), by simp; omega⟩
/-- written as p is: the line ends are p's -/
theorem esc_eq_iff {t p : List Nat} (hp : ∀ c ∈ p, c ≠ 13) : escL t = escL p ↔ norm t = p := by
  constructor
  · intro h
    have h1 := readL_esc t
    rw [h, readL_esc, norm_free hp] at h1
    exact (Option.some.inj h1).symm
  · intro h
    unfold escL norm at *
    rw [crlf_free p hp, ← h]
    have : ∀ l : List Nat, l.flatMap escC = (l.map nl).flatMap escC := by
      intro l
      induction l with
      | nil => rfl
      | cons c r ih =>
        rw [List.map_cons, List.flatMap_cons, List.flatMap_cons, ih]
        congr 1
        by_cases h : c = 13
        · subst h; rfl
        · unfold nl; rw [if_neg h]
    exact this _
theorem escL_snoc {p : List Nat} {c : Nat} (hp : ∀ k ∈ p, k ≠ 13) (hc : c ≠ 13) : escL (p ++ [c]) = escL p ++ escC c := by
  rw [escL_free hp, escL_free (l := p ++ [c]) (by intro k hk; rcases List.mem_append.mp hk with e | e; exact hp k e; rw [List.mem_singleton.mp e]; exact hc)]
  simp
/-- the count -/
theorem Cnt.count {p : List Nat} {ls vf vb : List (List Nat)} (h : Cnt p ls vf vb) (hp : ∀ c ∈ p, c ≠ 13) {ss : List Str} (hs : ss.Perm (metT (ls.map mkS))) : (ss.filter fun x => escS x == mkS (escL p)).length = vf.length + vb.length := by
  rw [← List.length_append]
  have h1 : (ss.filter fun x => escS x == mkS (escL p)).Perm ((vf ++ vb).map mkS) := by
    refine (List.perm_ext_iff_of_nodup ?_ ?_).mpr ?_
    · exact List.Nodup.sublist List.filter_sublist ((hs.nodup_iff).mpr (metT_nodup _))
    · exact List.Pairwise.map _ (fun a b hab e => hab (mkS_inj.mp e)) h.nd
    · intro x
      have e : ∀ t : List Nat, (escS (mkS t) == mkS (escL p)) = true ↔ norm t = p := by
        intro t
        rw [beq_iff_eq, ← esc_eq_iff hp]
        exact mkS_inj
      rw [List.mem_filter, hs.mem_iff, metT_mem]
      simp only [List.mem_map]
      constructor
      · rintro ⟨⟨t, ht, rfl⟩, h2⟩
        exact ⟨t, (h.hm t).mpr ⟨ht, (e t).mp h2⟩, rfl⟩
      · rintro ⟨t, ht, rfl⟩
        have := (h.hm t).mp ht
        exact ⟨⟨t, this.1, rfl⟩, (e t).mpr this.2⟩
  rw [h1.length_eq, List.length_map]
/-- without the line ends -/
theorem esc_drop {p : List Nat} (hp : ∀ c ∈ p, c ≠ 13) : escL (p.filter (· != 10)) = (escL p).filter (· != 10) := by
  rw [escL_free hp, escL_free (fun c hc => hp c (List.mem_filter.mp hc).1)]
  induction p with
  | nil => rfl
  | cons c r ih =>
    have ih := ih fun k hk => hp k (List.mem_cons_of_mem _ hk)
    have h1 : c ≠ 13 := hp c List.mem_cons_self
    rw [List.flatMap_cons, List.filter_append, ← ih, List.filter_cons]
    by_cases h2 : c = 38
    · subst h2; rfl
    by_cases h3 : c = 60
    · subst h3; rfl
    by_cases h4 : c = 62
    · subst h4; rfl
    have e : escC c = [c] := by unfold escC; simp [h1, h2, h3, h4]
    rw [e]
    by_cases h5 : c = 10
    · subst h5; rfl
    · have : (c != 10) = true := by simpa using h5
      rw [if_pos this, List.flatMap_cons, e, List.filter_cons, if_pos this]; rfl
theorem replGo_drop : ∀ l : List Nat, replGo [10] [] 0 l = l.filter (· != 10)
  | [] => rfl
  | c :: r => by
    rw [replGo]
    by_cases h : c = 10
    · subst h
      rw [if_pos (by simp [List.isPrefixOf])]
      exact replGo_drop r
    · rw [if_neg (by simp [List.isPrefixOf]; exact fun e => h e.symm), List.filter_cons, if_pos (by simpa using h), replGo_drop r]
theorem replace_drop (l : List Nat) : Txt.replace (mkS l) (Str.ofString "\n") (Str.ofString "") = mkS (l.filter (· != 10)) := by
  have h := replace_toList (mkS l) (Str.ofString "\n") (Str.ofString "") (by decide)
  have e1 : (Str.ofString "\n").cps.toList = [10] := by decide
  have e2 : (Str.ofString "").cps.toList = [] := by decide
  rw [e1, e2, mkS_toList, replGo_drop] at h
  rw [← h, mkS_cps]
end Mine
namespace Mine
theorem cnt_is (c : Nat) : ∀ l : List Nat, cnt c l = (l.count c : Int)
  | [] => rfl
  | a :: r => by
    rw [cnt_cons, cnt_is c r, List.count_cons]
    by_cases h : a = c
    · subst h; simp; omega
    · simp [h]
theorem count_lf (l : List Nat) : Txt.count (mkS l) (Str.ofString "\n") = (l.count 10 : Int) := by
  have e : Str.ofString "\n" = ⟨#[10]⟩ := by decide
  rw [e, count_cnt, cnt_is, mkS_toList]
end Mine

end
section
open PySem PySem.W PyProof.Rows PySem.Calls
set_option Elab.async false
set_option maxRecDepth 100000
set_option maxHeartbeats 1000000
namespace Mine
section
variable {prog : Program} {w : World} {A : Around} {s : Shared} {env : Env} {h₀ : Heap} {x : Str} {px : Pos} {body : List Stmt} {Q : Flow → Shared → Prop}
/-- a for loop whose name is a cell -/
theorem sloopC {σ : Type} {I cS : Addr} {oS : Obj} {fp : List Addr} {n : Nat} {Pv : Nat → Value → Prop} {St : Nat → Heap → Prop} {m₀ : Str → Option Value} (Led : σ → List (Addr × Obj)) (ps : σ → List (Str × Value)) (stored : List Str) (P : Nat → σ → Prop) (c₀ : σ)
    (W : Walks prog w A I fp [I] n Pv St) (hkf : env.scope.kind = .function) (hx : env.kindOf x = some .cell) (hc : env.cells.lookup x = some cS)
    (hI : I ≠ env.locals) (hI₀ : h₀.get? I = none) (hSt : ∀ i h, St i h → ∃ o, h.get? I = some o)
    (hfp : ∀ b ∈ fp, b = I)
    (hst : St 0 s.heap) (F : Fr h₀ env.locals s.heap m₀) (N : News h₀ env.locals s.heap ((cS, oS) :: Led c₀)) (hoS : ∃ v, oS.data = .cell v) (hne : AllNe I ((cS, oS) :: Led c₀)) (hneC : AllNe cS (Led c₀)) (ht : 0 < s.toks)
    (hk : ∀ p ∈ ps c₀, m₀ p.1 = some p.2) (h0 : P 0 c₀)
    (turn : ∀ (c : σ) (o : Obj) i v (u : Str → Option Value) h tk oI, i < n → Pv i v → P i c → o.data = .cell (some v) → 0 < tk → AllNe I ((cS, o) :: Led c) → AllNe cS (Led c) →
      Fr h₀ env.locals h (locs4 m₀ u stored (ps c)) → News h₀ env.locals h ((I, oI) :: (cS, o) :: Led c) →
      wpAny (model prog w) A (execs body env) (SPost h₀ env.locals (fun d : σ × Obj => (cS, d.2) :: Led d.1) (fun d => ps d.1) (fun _ => False) stored m₀ [(I, oI)] (fun d => P (i + 1) d.1 ∧ (∃ v, d.2.data = .cell v) ∧ AllNe cS (Led d.1)) s Q) NoE { s with heap := h, toks := tk })
    (done : ∀ (c : σ) (o : Obj) (u : Str → Option Value) h tk, P n c → (∃ v, o.data = .cell v) → AllNe cS (Led c) → 0 < tk → Fr h₀ env.locals h (locs4 m₀ u stored (ps c)) → News h₀ env.locals h ((cS, o) :: Led c) → Q .next { s with heap := h, toks := tk }) :
    codeAny (model prog w) A (.forLoop (.Name x px) (.ref I) body [] env) (fun r s' => match r with | .ok f => Q f s' | .error e => cameBackBy (model prog w) A env NoE e s') s := by
  have hIf : I ∈ fp := W.sub I (List.mem_singleton.mpr rfl)
  refine codeAny_forLoop (fun k s' => ∃ c o h' tk m' i, s' = { s with heap := h', toks := tk } ∧ 0 < tk ∧ St i h' ∧ Fr h₀ env.locals h' m' ∧ News h₀ env.locals h' ((cS, o) :: Led c) ∧ (∃ v, o.data = .cell v) ∧ AllNe I ((cS, o) :: Led c) ∧ AllNe cS (Led c) ∧ (∀ p ∈ ps c, m' p.1 = some p.2) ∧ (∀ z, ¬ False → (∀ p ∈ ps c, z ≠ p.1) → stored.contains z = false → m' z = m₀ z) ∧ P i c ∧ i ≤ n ∧ k = n + 1 - i) ?_ (n + 1)
    ⟨c₀, oS, s.heap, s.toks, m₀, 0, rfl, ht, hst, F, N, hoS, hne, hneC, hk, fun _ _ _ _ => rfl, h0, Nat.zero_le _, rfl⟩
  rintro k s' ⟨c, o, h', tk, m', i, rfl, htk, hst', F', N', ⟨v₀, ho⟩, hne', hneC', hk', hr', hP, hi, rfl⟩
  have old : ∀ b o, h₀.get? b = some o → b ∉ [I] := fun b o e hb => by rw [List.mem_singleton.mp hb, hI₀] at e; cases e
  have next : ∀ h₁ : Heap, (∀ b o, b ∉ [I] → h'.get? b = some o → h₁.get? b = some o) → Fr h₀ env.locals h₁ m' ∧ News h₀ env.locals h₁ ((cS, o) :: Led c) := fun h₁ hk₁ =>
    ⟨⟨F'.ns.at' fun o e => hk₁ _ o (fun q => hI (List.mem_singleton.mp q).symm) e, fun b o e => hk₁ b o (old b o e) (F'.keep b o e), F'.above⟩,
      fun p hp => ⟨hk₁ _ _ (fun q => (allNe_iff.mp hne' p hp) (List.mem_singleton.mp q)) (N' p hp).1, (N' p hp).2⟩⟩
  have em : locs4 m₀ m' stored (ps c) = m' := by
    funext y
    exact locs_eq (nm := fun _ => False) hk' hr' (fun q => q)
  by_cases hlt : i < n
  · refine wpAny_pos htk (W.item i _ _ _ hlt hst' fun v h₁ tk₁ hv hst₁ hk₁ htk₁ => ?_)
    obtain ⟨F₁, N₁⟩ := next h₁ hk₁
    have hmem := N₁ (cS, o) (.head _)
    have hIC : I ≠ cS := fun q => hne'.1 q.symm
    refine wpAny_assign_Name (wpAny_storeName_cell hkf hx hc ⟨o, hmem.1, ho⟩ fun h₂ hv₂ hs₂ => ?_)
    obtain ⟨o₂, ho₂, hd₂⟩ := hv₂
    have F₂ : Fr h₀ env.locals h₂ m' := ⟨F₁.ns.sameBut hs₂ (Ne.symm hmem.2.1), fun b ob e => (hs₂.2 b (fun q => by rw [q] at e; have := hmem.2.2; rw [e] at this; cases this)).trans (F₁.keep b ob e), F₁.above⟩
    have N₂ : News h₀ env.locals h₂ ((cS, o₂) :: Led c) := by
      have := N₁
      exact News.setAt (own := []) this (fun p hp => nomatch hp) (fun p hp => allNe_iff.mp hneC' p hp) hs₂ ho₂
    obtain ⟨oI, hoI⟩ := hSt _ _ hst₁
    have hoI₂ : h₂.get? I = some oI := (hs₂.2 I hIC).trans hoI
    have hst₂ : St (i + 1) h₂ := W.frame _ _ _ hst₁ fun b hb o e => by
      rw [hfp b hb] at e ⊢
      exact (hs₂.2 I hIC).trans e
    refine wpAny_mono (wpAny_pos (show 0 < tk₁ from htk₁) (wpAny_mono (turn c o₂ i v m' h₂ _ oI hlt hv hP hd₂ (show 0 < tk₁ from htk₁) hne' hneC' (by rw [em]; exact F₂) (fun p hp => ?_)) (fun f s₃ h₃ => ?_) fun _ _ y _ => y)) (fun _ _ y => y) fun _ _ y => y.elim
    · rcases List.mem_cons.mp hp with rfl | hp
      · exact ⟨hoI₂, hI, hI₀⟩
      · exact N₂ p hp
    intro htk₃
    have fin : SEnd h₀ env.locals (fun d : σ × Obj => (cS, d.2) :: Led d.1) (fun d => ps d.1) (fun _ => False) stored m₀ [(I, oI)] (fun d => P (i + 1) d.1 ∧ (∃ v, d.2.data = .cell v) ∧ AllNe cS (Led d.1)) s s₃ → ∃ m, m < n + 1 - i ∧ ∃ c o h' tk m' i, s₃ = { s with heap := h', toks := tk } ∧ 0 < tk ∧ St i h' ∧ Fr h₀ env.locals h' m' ∧ News h₀ env.locals h' ((cS, o) :: Led c) ∧ (∃ v, o.data = .cell v) ∧ AllNe I ((cS, o) :: Led c) ∧ AllNe cS (Led c) ∧ (∀ p ∈ ps c, m' p.1 = some p.2) ∧ (∀ z, ¬ False → (∀ p ∈ ps c, z ≠ p.1) → stored.contains z = false → m' z = m₀ z) ∧ P i c ∧ i ≤ n ∧ m = n + 1 - i := by
      clear h₃
      rintro ⟨c', H₃, tk₃, m₃, rfl, F₃, N₃, hne₃, hk₃, hr₃, hP₃, hd₃, hC₃⟩
      refine ⟨n + 1 - (i + 1), by omega, c'.1, c'.2, H₃, tk₃, m₃, i + 1, rfl, htk₃, ?_, F₃, fun p hp => N₃ p (List.mem_append_right _ hp), hd₃, hne₃ _ (List.mem_singleton.mpr rfl), hC₃, hk₃, hr₃, hP₃, hlt, rfl⟩
      refine W.frame _ _ _ hst₂ fun b hb o e => ?_
      rw [hfp b hb] at e ⊢
      rw [hoI₂] at e; cases e
      exact (N₃ _ (List.mem_append_left _ (List.mem_singleton.mpr rfl))).1
    cases f with
    | ret v => exact h₃
    | brk => exact h₃
    | next => exact fin h₃
    | cont => exact fin h₃
  · have hin : i = n := by omega
    subst hin
    refine wpAny_pos htk (W.done _ _ _ hst' fun h₁ tk₁ hk₁ htk₁ => wpAny_execs_nil ?_)
    obtain ⟨F₁, N₁⟩ := next h₁ hk₁
    refine done c o m' h₁ tk₁ hP ⟨v₀, ho⟩ hneC' htk₁ ?_ N₁
    rw [em]; exact F₁

theorem for_strC {σ : Type} {cS : Addr} {oS : Obj} {xt : Str} {tx : Tok} {m₀ : Str → Option Value} (Led : σ → List (Addr × Obj)) (ps : σ → List (Str × Value)) (stored : List Str) (P : Nat → σ → Prop) (c₀ : σ)
    (hh : A.handled = none) (hkf : env.scope.kind = .function) (hx : env.kindOf x = some .cell) (hc : env.cells.lookup x = some cS)
    (F : Fr h₀ env.locals s.heap m₀) (N : News h₀ env.locals s.heap ((cS, oS) :: Led c₀)) (hoS : ∃ v, oS.data = .cell v) (hneC : AllNe cS (Led c₀)) (ht : 0 < s.toks) (hk : ∀ p ∈ ps c₀, m₀ p.1 = some p.2) (h0 : P 0 c₀)
    (turn : ∀ (c : σ) (o : Obj) (i n : Nat) (t : Tok) (u : Str → Option Value) h tk (I : Addr) oI, xt.cps.toList[i]? = some n → P i c → o.data = .cell (some (.str ⟨#[n]⟩ t)) → 0 < tk → AllNe I ((cS, o) :: Led c) → AllNe cS (Led c) →
      Fr h₀ env.locals h (locs4 m₀ u stored (ps c)) → News h₀ env.locals h ((I, oI) :: (cS, o) :: Led c) →
      wpAny (model prog w) A (execs body env) (SPost h₀ env.locals (fun d : σ × Obj => (cS, d.2) :: Led d.1) (fun d => ps d.1) (fun _ => False) stored m₀ [(I, oI)] (fun d => P (i + 1) d.1 ∧ (∃ v, d.2.data = .cell v) ∧ AllNe cS (Led d.1)) s Q) NoE { s with heap := h, toks := tk })
    (done : ∀ (c : σ) (o : Obj) (u : Str → Option Value) h tk, P xt.length c → (∃ v, o.data = .cell v) → AllNe cS (Led c) → 0 < tk → Fr h₀ env.locals h (locs4 m₀ u stored (ps c)) → News h₀ env.locals h ((cS, o) :: Led c) → Q .next { s with heap := h, toks := tk }) :
    wpAny (model prog w) A (pyIter (.str xt tx)) (fun it s₂ => codeAny (model prog w) A (.forLoop (.Name x px) it body [] env) (fun r s' => match r with | .ok f => Q f s' | .error e => cameBackBy (model prog w) A env NoE e s') s₂) NoE s := by
  have key : ∀ (o : Obj) (St : Nat → Heap → Prop), Walks prog w A s.heap.objs.size [s.heap.objs.size] [s.heap.objs.size] xt.cps.size (SignAt xt) St → (∀ i h, St i h → ∃ o, h.get? s.heap.objs.size = some o) → St 0 (s.heap.push o) →
      codeAny (model prog w) A (.forLoop (.Name x px) (.ref s.heap.objs.size) body [] env) (fun r s' => match r with | .ok f => Q f s' | .error e => cameBackBy (model prog w) A env NoE e s') { s with heap := s.heap.push o } := by
    intro o St W hSt hst
    refine sloopC (s := { s with heap := s.heap.push o }) (oS := oS) Led ps stored P c₀ W hkf hx hc (Nat.ne_of_gt F.ns.lt) (next_is_new F) hSt (fun b hb => List.mem_singleton.mp hb) hst (F.push _) (fun p hp => ⟨Heap.get?_push_of_some _ (N p hp).1, (N p hp).2⟩) hoS
      (allNe_iff.mpr fun p hp => Nat.ne_of_lt (Heap.lt_size (N p hp).1)) hneC ht hk h0 ?_ ?_
    · rintro c o i v u h tk oI _ ⟨n, t, hn, rfl⟩ hP hd htk hne hneC F' N'
      exact turn c o i n t u h tk _ oI (by rw [← hn]; simp) hP hd htk hne hneC F' N'
    · intro c o u h tk hP hd hneC htk F' N'
      exact done c o u h tk hP hd hneC htk F' N'
  cases ha : xt.cps.all (· < 128)
  · exact wpAny_pyIter_wide ha (key _ _ (Walks.strWide hh _ xt tx) (fun i h st => let ⟨o, e, _⟩ := st; ⟨o, e⟩) ⟨_, Heap.get?_push_size _ rfl, rfl, rfl⟩)
  · exact wpAny_pyIter_ascii ha (key _ _ (Walks.strAscii hh _ xt tx) (fun i h st => let ⟨o, e, _⟩ := st; ⟨o, e⟩) ⟨_, Heap.get?_push_size _ rfl, rfl, rfl⟩)
end
end Mine

end
section
open PySem PySem.W PyProof.Rows PySem.Calls
set_option Elab.async false
set_option maxRecDepth 100000
set_option maxHeartbeats 1000000
namespace Mine
/-- a comprehension with two sources -/
abbrev Nest (elt : Expr) (x : Str) (px : Pos) (iter : Expr) (z : Str) (pz : Pos) (iter2 : Expr) (scope : Scope) (pos : Pos) : Expr :=
  .ListComp elt [⟨.Name x px, iter, [], 0⟩, ⟨.Name z pz, iter2, [], 0⟩] scope pos
section
variable {prog : Program} {w : World} {A : Around} {R : Result → Shared → Prop} {s : Shared} {elt iter iter2 : Expr} {x z : Str} {px pz : Pos} {scope : Scope} {pos : Pos} {it acc : Value} {env : Env}
theorem turn_d1 : compTurn (Nest elt x px iter z pz iter2 scope pos) 1 it acc env = (standAt iter2.pos >>= fun _ => pyNext it >>= fun r => match r with
      | none => pure (.done .next)
      | some v => letOwnedTupleGo (.Name z pz) it v >>= fun _ => assign (.Name z pz) env v >>= fun _ =>
        (eval elt env >>= fun x => call (.builtin "list.append") [acc, x] >>= fun _ => pure ()) >>= fun _ =>
          again (.compLoop (Nest elt x px iter z pz iter2 scope pos) 1 it acc env)) := by rfl
theorem loop_d1 (I : Nat → Shared → Prop)
    (turn : ∀ n s, I n s → wpAny (model prog w) A (pyNext it) (fun r s₁ => match r with
      | none => R (.ok .next) s₁
      | some v => wpAny (model prog w) A (assign (.Name z pz) env v) (fun _ s₂ => wpAny (model prog w) A (eval elt env) (fun x s₃ =>
          wpAny (model prog w) A (call (.builtin "list.append") [acc, x]) (fun _ s₄ => ∃ m, m < n ∧ I m s₄) (notedBy (model prog w) A env fun e s' => R (.error e) s') s₃)
          (notedBy (model prog w) A env fun e s' => R (.error e) s') s₂) (notedBy (model prog w) A env fun e s' => R (.error e) s') s₁) (notedBy (model prog w) A env fun e s' => R (.error e) s') s)
    (n : Nat) (h : I n s) :
    codeAny (model prog w) A (.compLoop (Nest elt x px iter z pz iter2 scope pos) 1 it acc env) R s := by
  refine codeAny_loop rfl I (fun n s hI => ?_) n h
  show wpAny _ _ ((compTurn (Nest elt x px iter z pz iter2 scope pos) 1 it acc env).onRaise (fun x => do noteFrame x env; theTreesLotGoes x)) _ _ s
  refine wpAny_noted ?_
  rw [turn_d1]
  refine wpAny_bind (wpAny_standAt (wpAny_bind (wpAny_mono (turn n s hI) (fun r s₁ h₁ => ?_) fun _ _ h' => h')))
  cases r with
  | none => exact wpAny_pure h₁
  | some v =>
    refine wpAny_bind (wpAny_of_eq (a := ()) rfl ?_)
    exact wpAny_bind (wpAny_mono h₁ (fun _ s₂ h₂ => wpAny_bind (wpAny_bind (wpAny_mono h₂ (fun x s₃ h₃ => wpAny_bind (wpAny_mono h₃
      (fun _ s₄ h₄ => wpAny_pure (wpAny_pure ⟨rfl, h₄⟩)) fun _ _ h' => h')) fun _ _ h' => h'))) fun _ _ h' => h')
theorem start_d1 {itv : Value}
    (h0 : codeAny (model prog w) A (.compLoop (Nest elt x px iter z pz iter2 scope pos) 1 itv acc env) R s)
    (h : wpAny (model prog w) A (pyIter itv) (fun it' s' => codeAny (model prog w) A (.compLoop (Nest elt x px iter z pz iter2 scope pos) 1 it' acc env) R s')
      (notedBy (model prog w) A env fun x s' => R (.error x) s') s) :
    codeAny (model prog w) A (.compStart (Nest elt x px iter z pz iter2 scope pos) 1 itv acc env) R s := by
  refine codeAny_of_tree ?_
  show wpAny _ _ ((compStart (Nest elt x px iter z pz iter2 scope pos) 1 itv acc env).onRaise (fun x => do noteFrame x env; standAt theWindowsPlace)) _ _ s
  refine wpAny_notedAt ?_
  unfold compStart
  show wpAny _ _ (ask >>= _) _ _ s
  refine wpAny_bind (wpAny_askSetting (wpAny_ite ?_))
  split
  · first
      | exact wpAny_bind (wpAny_pure (wpAny_pure (And.intro rfl h0)))
      | exact wpAny_pure (And.intro rfl h0)
  · first
      | exact wpAny_bind (wpAny_rule (wpAny_bind (wpAny_standAt (wpAny_bind (wpAny_mono h (fun it' s' h' => wpAny_pure (And.intro rfl h')) fun _ _ x => x)))))
      | (refine wpAny_bind (wpAny_rule ?_); show wpAny _ _ (standAt iter2.pos >>= _) _ _ s; exact wpAny_bind (wpAny_standAt (wpAny_bind (wpAny_mono h (fun it' s' h' => wpAny_pure (And.intro rfl h')) fun _ _ x => x))))
theorem turn_d0 : compTurn (Nest elt x px iter z pz iter2 scope pos) 0 it acc env = (standAt iter.pos >>= fun _ => pyNext it >>= fun r => match r with
      | none => pure (.done .next)
      | some v => letOwnedTupleGo (.Name x px) it v >>= fun _ => assign (.Name x px) env v >>= fun _ =>
        eval iter2 env >>= fun y => standAt iter2.pos >>= fun _ => foldedSetIterable iter2 env y >>= fun y => (holding [y] (pyIter y)) >>= fun i => runOwn (.compStart (Nest elt x px iter z pz iter2 scope pos) 1 i acc env) env >>= fun _ =>
          again (.compLoop (Nest elt x px iter z pz iter2 scope pos) 0 it acc env)) := by rfl
theorem loop_d0 (I : Nat → Shared → Prop)
    (turn : ∀ n s, I n s → wpAny (model prog w) A (pyNext it) (fun r s₁ => match r with
      | none => R (.ok .next) s₁
      | some v => wpAny (model prog w) A (assign (.Name x px) env v) (fun _ s₂ => wpAny (model prog w) A (eval iter2 env) (fun y s₃ =>
          wpAny (model prog w) A (pyIter y) (fun i s₄ => codeAny (model prog w) A (.compStart (Nest elt x px iter z pz iter2 scope pos) 1 i acc env) (fun r s' => match r with | .ok _ => ∃ m, m < n ∧ I m s' | .error e => cameBackBy (model prog w) A env (notedBy (model prog w) A env fun e s' => R (.error e) s') e s') s₄)
            (notedBy (model prog w) A env fun e s' => R (.error e) s') s₃)
          (notedBy (model prog w) A env fun e s' => R (.error e) s') s₂) (notedBy (model prog w) A env fun e s' => R (.error e) s') s₁) (notedBy (model prog w) A env fun e s' => R (.error e) s') s)
    (n : Nat) (h : I n s) (hs : ∀ y, foldedSetIterable iter2 env y = pure y) :
    codeAny (model prog w) A (.compLoop (Nest elt x px iter z pz iter2 scope pos) 0 it acc env) R s := by
  refine codeAny_loop rfl I (fun n s hI => ?_) n h
  show wpAny _ _ ((compTurn (Nest elt x px iter z pz iter2 scope pos) 0 it acc env).onRaise (fun x => do noteFrame x env; theTreesLotGoes x)) _ _ s
  refine wpAny_noted ?_
  rw [turn_d0]
  refine wpAny_bind (wpAny_standAt (wpAny_bind (wpAny_mono (turn n s hI) (fun r s₁ h₁ => ?_) fun _ _ h' => h')))
  cases r with
  | none => exact wpAny_pure h₁
  | some v =>
    refine wpAny_bind (wpAny_of_eq (a := ()) rfl ?_)
    refine wpAny_bind (wpAny_mono h₁ (fun _ s₂ h₂ => wpAny_bind (wpAny_mono h₂ (fun y s₃ h₃ => wpAny_bind (wpAny_standAt (wpAny_bind (wpAny_of_eq (hs y) (wpAny_bind (wpAny_holding (wpAny_mono h₃ (fun i s₄ h₄ => ?_) fun _ _ h' => h'))))))) fun _ _ h' => h')) fun _ _ h' => h')
    refine wpAny_bind (wpAny_runOwn (codeAny_mono h₄ fun r s' hr => ?_))
    cases r with
    | ok f => obtain ⟨m, hm, hI'⟩ := hr; exact wpAny_pure ⟨rfl, m, hm, hI'⟩
    | error e => exact hr
end
end Mine

end
section
open PySem PySem.W PyProof.Rows PySem.Calls
set_option Elab.async false
set_option maxRecDepth 100000
set_option maxHeartbeats 1000000
namespace Mine
theorem strs_at4 {ws : List Value} {us : List Str} (h : StrsAre ws us) : ∀ {j : Nat} {v : Value}, ws[j]? = some v → ∃ y t, us[j]? = some y ∧ v = .str y t := by
  induction h with
  | nil => intro i v e; simp at e
  | cons y t r ih =>
    intro i v e
    cases i with
    | zero => simp at e; exact ⟨y, t, rfl, e.symm⟩
    | succ i => exact ih (by simpa using e)
section
variable {prog : Program} {w : World} {A : Around} {R : Result → Shared → Prop} {s : Shared} {iter iter2 : Expr} {x z : Str} {px pz p1 p2 p3 : Pos} {scope : Scope} {pos : Pos} {env : Env}
/-- the inner loop of [x + z for x in .. for z in ..] -/
theorem inner4 {I ax D : Addr} {ws ys₀ : List Value} {us zs : List (List Nat)} {t : List Nat} {tt : Tok} {m : Str → Option Value}
    (hh : A.handled = none) (hk : env.scope.kind = .function) (hx : env.kindOf x = some .local) (hz : env.kindOf z = some .local) (hxz : x ≠ z) (dx : (x == ("__debug__" : Str)) = false) (dz : (z == ("__debug__" : Str)) = false)
    (hDC : D ≠ env.locals) (hIC : I ≠ env.locals) (hID : I ≠ D) (haI : ax ≠ I) (haC : ax ≠ env.locals) (haD : ax ≠ D)
    (hit : s.heap.IsListIter I ax 0) (hl : s.heap.IsList ax ws.toArray) (hS : StrsAre ws (us.map mkS)) (hacc : s.heap.PlainList D ys₀.toArray) (hY : StrsAre ys₀ (zs.map mkS)) (hn : s.heap.Ns env.locals m) (hm : m x = some (.str (mkS t) tt))
    (hsz : zs.length + us.length ≤ 1000) (htl : t.length ≤ 1000) (hul : ∀ u ∈ us, u.length ≤ 1000)
    (hR : ∀ h' tk m' ys, h'.Ns env.locals m' → h'.PlainList D (List.toArray ys) → StrsAre ys ((zs ++ us.map (t ++ ·)).map mkS) → (∀ b o, b ≠ env.locals → b ≠ I → b ≠ D → s.heap.get? b = some o → h'.get? b = some o) → s.toks ≤ tk → R (.ok .next) { s with heap := h', toks := tk }) :
    codeAny (model prog w) A (.compLoop (Nest (.BinOp (.Name x p1) .Add (.Name z p2) p3) x px iter z pz iter2 scope pos) 1 (.ref I) (.ref D) env) R s := by
  have hp : (env.scope.kind == .class || (env.scope.kind == .module && env.locals != env.globals)) = false := by rw [hk]; rfl
  have hul2 : ws.length = us.length := by rw [hS.length, List.length_map]
  refine loop_d1 (fun k s' => ∃ h' tk m' ys j, s' = { s with heap := h', toks := tk } ∧ h'.IsListIter I ax j ∧ h'.IsList ax ws.toArray ∧ h'.PlainList D (List.toArray ys) ∧ h'.Ns env.locals m' ∧ m' x = some (.str (mkS t) tt) ∧
      StrsAre ys ((zs ++ (us.take j).map (t ++ ·)).map mkS) ∧ j ≤ us.length ∧ k = us.length + 1 - j ∧ s.toks ≤ tk ∧
      ∀ b o, b ≠ env.locals → b ≠ I → b ≠ D → s.heap.get? b = some o → h'.get? b = some o) ?_ (us.length + 1)
    ⟨s.heap, s.toks, m, ys₀, 0, rfl, hit, hl, hacc, hn, hm, by simpa using hY, Nat.zero_le _, rfl, Nat.le_refl _, fun _ _ _ _ _ e => e⟩
  rintro k s' ⟨H, tk, m', ys, j, rfl, hit', hl', hacc', hn', hm', hY', hj, rfl, htk, hkp⟩
  cases hv : ws[j]? with
  | none =>
    have hge : us.length ≤ j := by rw [← hul2]; simpa using hv
    refine wpAny_pyNext_list_end hh hit' hl' (by simpa using hv) fun h₁ he₁ => ?_
    refine hR h₁ tk m' ys (hn'.extBut he₁ (Ne.symm hIC)) (hacc'.extBut he₁ (Ne.symm hID)) ?_ (fun b o hbC hbI hbD e => he₁ b o hbI (hkp b o hbC hbI hbD e)) htk
    rwa [List.take_of_length_le hge] at hY'
  | some v =>
    have hlt : j < us.length := by rw [← hul2]; exact (List.getElem?_eq_some_iff.mp hv).1
    obtain ⟨y, ty, hy, rfl⟩ := strs_at4 hS hv
    obtain ⟨u, hu, rfl⟩ : ∃ u, us[j]? = some u ∧ mkS u = y := by
      rw [List.getElem?_map] at hy
      cases e : us[j]? with
      | none => rw [e] at hy; cases hy
      | some q => rw [e] at hy; exact ⟨q, rfl, Option.some.inj hy⟩
    refine wpAny_pyNext_list_item hit' hl' (x := .str (mkS u) ty) (by simpa using hv) fun h₁ hit₁ hs₁ => ?_
    refine wpAny_assign_Name (wpAny_storeName_local hz (hn'.sameBut hs₁ (Ne.symm hIC)) (fun h₂ hn₂ hs₂ => ?_) hp)
    have hux := hul u (List.mem_of_getElem? hu)
    refine wpAny_BinOp (wpAny_Name (wpAny_loadName_local (v := .str (mkS t) tt) hk hx hn₂ (by show (if x = z then _ else m' x) = _; rw [if_neg hxz]; exact hm') ?_) dx)
    refine wpAny_Name (wpAny_loadName_local (v := .str (mkS u) ty) hk hz hn₂ (by show (if z = z then _ else _) = _; rw [if_pos rfl]) ?_) dz
    refine wpAny_mono (wpAny_toks_of (n := s.toks + 1) (by show s.toks + 1 ≤ tk + 1; omega) (addE (s := ⟨h₂, _, _, tk + 1, _⟩) (by rw [mkS_length, mkS_length]; omega) (Nat.succ_pos _) (Q := fun v s' => ∃ t' k, 0 < k ∧ v = .str (mkS (t ++ u)) t' ∧ s' = { s with heap := h₂, toks := k }) fun t' k hk' => ⟨t', k, hk', rfl, rfl⟩)) (fun v s₃ h₃ => ?_) fun _ _ e => e.2
    obtain ⟨htk₃, t', k', hk', rfl, rfl⟩ := h₃
    have hys : ys.length ≤ sizeLine := by
      have := hY'.length
      rw [List.length_map, List.length_append, List.length_map, List.length_take] at this
      rw [sizeLine_eq]; omega
    have hD₂ : h₂.PlainList D (List.toArray ys) := (hacc'.extBut hs₁.extBut (Ne.symm hID)).extBut hs₂.extBut hDC
    refine wpAny_list_append_plain (hsz := by simpa using hys) hD₂ fun h₅ hl₅ hs₅ => ?_
    have htk₃ : s.toks + 1 ≤ k' := htk₃
    refine ⟨us.length + 1 - (j + 1), by omega, h₅, k', _, ys ++ [.str (mkS (t ++ u)) t'], j + 1, rfl, ((hit₁.extBut hs₂.extBut hIC).extBut hs₅.extBut hID), ((hl'.extBut hs₁.extBut haI).extBut hs₂.extBut haC).extBut hs₅.extBut haD, by simpa using hl₅, hn₂.sameBut hs₅ (Ne.symm hDC),
      by show (if x = z then _ else m' x) = _; rw [if_neg hxz]; exact hm', ?_, hlt, rfl, by omega, fun b o hbC hbI hbD e => hs₅.extBut b o hbD (hs₂.extBut b o hbC (hs₁.extBut b o hbI (hkp b o hbC hbI hbD e)))⟩
    have e : (zs ++ (us.take (j + 1)).map (t ++ ·)) = (zs ++ (us.take j).map (t ++ ·)) ++ [t ++ u] := by rw [List.take_add_one, hu, List.map_append, ← List.append_assoc]; rfl
    rw [e, List.map_append]
    exact hY'.append' (.cons _ _ .nil)
/-- the outer loop -/
theorem outer4 {I ax D : Addr} {vs : List Value} {us ls : List (List Nat)} {m : Str → Option Value} {mx : Nat}
    (hh : A.handled = none) (hk : env.scope.kind = .function) (hx : env.kindOf x = some .local) (hz : env.kindOf z = some .local) (hxz : x ≠ z) (dx : (x == ("__debug__" : Str)) = false) (dz : (z == ("__debug__" : Str)) = false)
    (hs2 : ∀ y, foldedSetIterable iter2 env y = pure y)
    (hDC : D ≠ env.locals) (hIC : I ≠ env.locals) (hID : I ≠ D) (haI : ax ≠ I) (haC : ax ≠ env.locals) (haD : ax ≠ D)
    (hit : s.heap.IsListIter I ax 0) (hl : s.heap.IsList ax vs.toArray) (hS : StrsAre vs (ls.map mkS)) (hacc : s.heap.PlainList D #[]) (hn : s.heap.Ns env.locals m) (ht : 0 < s.toks)
    (hsz : ls.length * us.length ≤ 900) (hus : us.length ≤ 100) (htl : ∀ t ∈ ls, t.length ≤ 1000) (hul : ∀ u ∈ us, u.length ≤ 1000)
    (inner : ∀ (s₂ : Shared) (E : Value → Shared → Prop), 0 < s₂.toks → wpAny (model prog w) A (eval iter2 env) (fun y s₃ => ∃ l ws, y = .ref l ∧ s₂.heap.get? l = none ∧ s₃.heap.IsList l (List.toArray ws) ∧ StrsAre ws (us.map mkS) ∧ Keeps s₂ s₃ ∧ s₂.toks ≤ s₃.toks) E s₂)
    (hR : ∀ h' tk m' ys, h'.Ns env.locals m' → h'.PlainList D (List.toArray ys) → StrsAre ys ((ls.flatMap fun t => us.map (t ++ ·)).map mkS) → (∀ b o, b ≠ env.locals → b ≠ I → b ≠ D → s.heap.get? b = some o → h'.get? b = some o) → s.toks ≤ tk → R (.ok .next) { s with heap := h', toks := tk }) :
    codeAny (model prog w) A (.compLoop (Nest (.BinOp (.Name x p1) .Add (.Name z p2) p3) x px iter z pz iter2 scope pos) 0 (.ref I) (.ref D) env) R s := by
  have hp : (env.scope.kind == .class || (env.scope.kind == .module && env.locals != env.globals)) = false := by rw [hk]; rfl
  have hvl : vs.length = ls.length := by rw [hS.length, List.length_map]
  refine loop_d0 (fun k s' => ∃ h' tk m' ys j, s' = { s with heap := h', toks := tk } ∧ h'.IsListIter I ax j ∧ h'.IsList ax vs.toArray ∧ h'.PlainList D (List.toArray ys) ∧ h'.Ns env.locals m' ∧
      StrsAre ys (((ls.take j).flatMap fun t => us.map (t ++ ·)).map mkS) ∧ j ≤ ls.length ∧ k = ls.length + 1 - j ∧ s.toks ≤ tk ∧
      ∀ b o, b ≠ env.locals → b ≠ I → b ≠ D → s.heap.get? b = some o → h'.get? b = some o) ?_ (ls.length + 1)
    ⟨s.heap, s.toks, m, [], 0, rfl, hit, hl, hacc, hn, by simpa using StrsAre.nil, Nat.zero_le _, rfl, Nat.le_refl _, fun _ _ _ _ _ e => e⟩ hs2
  rintro k s' ⟨H, tk, m', ys, j, rfl, hit', hl', hacc', hn', hY', hj, rfl, htk, hkp⟩
  cases hv : vs[j]? with
  | none =>
    have hge : ls.length ≤ j := by rw [← hvl]; simpa using hv
    refine wpAny_pyNext_list_end hh hit' hl' (by simpa using hv) fun h₁ he₁ => ?_
    refine hR h₁ tk m' ys (hn'.extBut he₁ (Ne.symm hIC)) (hacc'.extBut he₁ (Ne.symm hID)) ?_ (fun b o hbC hbI hbD e => he₁ b o hbI (hkp b o hbC hbI hbD e)) htk
    rwa [List.take_of_length_le hge] at hY'
  | some v =>
    have hlt : j < ls.length := by rw [← hvl]; exact (List.getElem?_eq_some_iff.mp hv).1
    obtain ⟨y, ty, hy, rfl⟩ := strs_at4 hS hv
    obtain ⟨t, hu, rfl⟩ : ∃ u, ls[j]? = some u ∧ mkS u = y := by
      rw [List.getElem?_map] at hy
      cases e : ls[j]? with
      | none => rw [e] at hy; cases hy
      | some q => rw [e] at hy; exact ⟨q, rfl, Option.some.inj hy⟩
    refine wpAny_pyNext_list_item hit' hl' (x := .str (mkS t) ty) (by simpa using hv) fun h₁ hit₁ hs₁ => ?_
    refine wpAny_assign_Name (wpAny_storeName_local hx (hn'.sameBut hs₁ (Ne.symm hIC)) (fun h₂ hn₂ hs₂ => ?_) hp)
    refine wpAny_mono (inner ⟨h₂, s.gens, s.drawn, tk + 1, s.os⟩ (fun _ _ => False) (Nat.succ_pos _)) (fun yv s₃ h₃ => ?_) fun _ _ e => e.elim
    obtain ⟨l, ws, rfl, hln, hll, hWS, ⟨h₃, tk₃, rfl, hk₃⟩, htk₃⟩ := h₃
    have htk₃ : tk + 1 ≤ tk₃ := htk₃
    have hln : h₂.get? l = none := hln
    have hk₃ : ∀ b o, h₂.get? b = some o → h₃.get? b = some o := hk₃
    have hll : h₃.IsList l (List.toArray ws) := hll
    obtain ⟨ol, hol, _⟩ := id hll
    have hlsz := Heap.lt_size hol
    have upto : ∀ b o, b ≠ env.locals → b ≠ I → H.get? b = some o → h₃.get? b = some o := fun b o hbC hbI e => hk₃ b o (hs₂.extBut b o hbC (hs₁.extBut b o hbI e))
    have nel : ∀ b o, h₂.get? b = some o → l ≠ b := fun b o e q => by rw [← q, hln] at e; cases e
    have hD₂ : h₂.PlainList D (List.toArray ys) := (hacc'.extBut hs₁.extBut (Ne.symm hID)).extBut hs₂.extBut hDC
    have hit₂ := hit₁.extBut hs₂.extBut hIC
    have hl₂ : h₂.IsList ax vs.toArray := (hl'.extBut hs₁.extBut haI).extBut hs₂.extBut haC
    obtain ⟨oD, hoD⟩ : ∃ o, h₂.get? D = some o := let ⟨_, e⟩ := hD₂; ⟨_, e⟩
    obtain ⟨oI, hoI⟩ : ∃ o, h₂.get? I = some o := let ⟨o, e, _⟩ := hit₂; ⟨o, e⟩
    obtain ⟨oC, hoC⟩ : ∃ o, h₂.get? env.locals = some o := let ⟨o, _, _, e, _⟩ := hn₂; ⟨o, e⟩
    obtain ⟨oa, hoa⟩ : ∃ o, h₂.get? ax = some o := let ⟨o, e, _⟩ := hl₂; ⟨o, e⟩
    refine wpAny_pyIter_list hll ?_
    dsimp only
    generalize hIo : ({ cls := .type "list_iterator", data := .fields #[.ref l, .int 0 0] } : Obj) = io
    have hit4 : (h₃.push io).IsListIter h₃.objs.size l 0 := ⟨_, Heap.get?_push_size _ (by rw [← hIo]; rfl), by rw [← hIo], by rw [← hIo]; rfl⟩
    have up4 : ∀ b o, h₃.get? b = some o → (h₃.push io).get? b = some o := fun b o e => Heap.get?_push_of_some _ e
    have nes : ∀ b o, h₂.get? b = some o → h₃.objs.size ≠ b := fun b o e q => Nat.lt_irrefl _ (q ▸ Heap.lt_size (hk₃ b o e))
    refine (fun body => start_d1 body (wpAny_pyIter_listiter hit4 body)) ?_
    · refine inner4 (t := t) (tt := ty) (zs := (ls.take j).flatMap fun t => us.map (t ++ ·)) (us := us) (ws := ws) (ys₀ := ys) (ax := l) hh hk hx hz hxz dx dz hDC (nes _ _ hoC) (nes _ _ hoD) (Nat.ne_of_lt hlsz) (nel _ _ hoC) (nel _ _ hoD) hit4 (hll.at fun o e => up4 _ _ e) hWS (hD₂.at fun o e => up4 _ _ (hk₃ _ _ e)) hY' ((hn₂.at' fun o e => hk₃ _ _ e).at' fun o e => up4 _ _ e) (by simp) ?_ (htl t (List.mem_of_getElem? hu)) hul ?_
      · rw [List.length_flatMap]
        simp only [List.length_map]
        rw [List.map_const', List.sum_replicate_nat, List.length_take]
        have : min j ls.length * us.length ≤ ls.length * us.length := Nat.mul_le_mul_right _ (by omega)
        omega
      · intro h₅ tk₅ m₅ ys₅ hn₅ hD₅ hY₅ hk₅ htk₅
        have htk₅ : tk₃ ≤ tk₅ := htk₅
        have up5 : ∀ b o, b ≠ env.locals → b ≠ D → h₂.get? b = some o → h₅.get? b = some o := fun b o hbC hbD e => hk₅ b o hbC (Ne.symm (nes b o e)) hbD (up4 _ _ (hk₃ b o e))
        refine ⟨ls.length + 1 - (j + 1), by omega, h₅, tk₅, m₅, ys₅, j + 1, rfl, hit₂.at fun o e => up5 _ _ hIC hID e, hl₂.at fun o e => up5 _ _ haC haD e, hD₅, hn₅, ?_, hlt, rfl, by omega, fun b o hbC hbI hbD e => up5 b o hbC hbD (hs₂.extBut b o hbC (hs₁.extBut b o hbI (hkp b o hbC hbI hbD e)))⟩
        rw [List.take_add_one, hu, List.flatMap_append]
        simpa using hY₅
end
end Mine

end
section
open PySem PySem.W PyProof.Rows PySem.Calls
set_option Elab.async false
set_option maxRecDepth 100000
set_option maxHeartbeats 1000000
namespace Mine
section
variable {prog : Program} {w : World} {A : Around} {s : Shared} {iter iter2 elt : Expr} {x y z : Str} {px py pz p1 p2 p3 : Pos} {scope : Scope} {pos spos : Pos} {env : Env} {h₀ : Heap} {m : Str → Option Value} {news : List (Addr × Obj)} {Q : Flow → Shared → Prop} {cl : List (Str × Addr)} {ifs : List Expr}
theorem fr_self {h : Heap} {L : Addr} (F : Fr h₀ L h m) : h₀.get? L = none := by
  cases e : h₀.get? L with
  | none => rfl
  | some o => have h1 := Heap.lt_size e; have h2 := F.above; exact absurd (Nat.lt_of_lt_of_le h1 h2) (Nat.lt_irrefl _)
/-- what stands behind a block that has stored the new list in y -/
theorem fr_grow {h h' : Heap} {L D : Addr} {m' : Str → Option Value} {o : Obj} (F : Fr h₀ L h m) (N : News h₀ L h news) (hD : h.get? D = none) (ho : h'.get? D = some o) (hn : h'.Ns L m') (k : ∀ b o, b ≠ L → h.get? b = some o → h'.get? b = some o) :
    Fr h₀ L h' m' ∧ News h₀ L h' ((D, o) :: news) ∧ ∀ q ∈ news, q.1 ≠ D := by
  have hLD : D ≠ L := by
    rintro rfl
    obtain ⟨oL, _, _, hL, _⟩ := F.ns
    rw [hL] at hD; cases hD
  refine ⟨⟨hn, fun b o e => k b o (fun q => by rw [q, fr_self F] at e; cases e) (F.keep b o e), F.above⟩, fun q hq => ?_, fun q hq e => by have := (N q hq).1; rw [e, hD] at this; cases this⟩
  rcases List.mem_cons.mp hq with rfl | hq
  · refine ⟨ho, hLD, ?_⟩
    cases e : h₀.get? D with
    | none => rfl
    | some o' => rw [F.keep _ _ e] at hD; cases hD
  · exact ⟨k _ _ (N q hq).2.1 (N q hq).1, (N q hq).2⟩
/-- y = [elt for x in a list of the ledger if ..] -/
theorem alcomp_list {l : Addr} {vs : List Value} {n : Nat} (p : Value → Bool) (G : Value → Value → Prop)
    (hsw : swapsWith (.ListComp elt [⟨.Name x px, iter, ifs, 0⟩] scope pos) (some (.Name y py)) spos.line env = pure true)
    (F : Fr h₀ env.locals s.heap m) (N : News h₀ env.locals s.heap news) (hm : (l, listOf vs.toArray n) ∈ news)
    (hiter : ∀ Q' : Value → Shared → Prop, Q' (.ref l) s → wpAny (model prog w) A (eval iter env) Q' NoE s)
    (hh : A.handled = none) (hsz : vs.length ≤ sizeLine) (ht : 0 < s.toks)
    (hclos : closureFor scope env = pure cl) (hcell : ∀ y ∈ scope.names, y.2 ≠ .cell) (hkind : scope.kind = .function) (hnames : ∀ y ∈ scope.names, y.2 = .local → scope.names.lookup y.1 = some .local) (hx : scope.names.lookup x = some .local)
    (hy : env.kindOf y = some .local) (hp : (env.scope.kind == .class || (env.scope.kind == .module && env.locals != env.globals)) = false)
    (tests : ∀ C v s₃ m₃, v ∈ vs → s₃.heap.Ns C m₃ → m₃ x = some v → s.heap.StaysIn s₃.heap → 0 < s₃.toks →
      wpAny (model prog w) A (forIn ifs true fun c r => if r = true then do let ok ← isTrue c (compEnvC scope cl C env) (eval c (compEnvC scope cl C env)); pure (ForInStep.yield ok) else pure (ForInStep.yield r)) (fun ok s₄ => ok = p v ∧ Keeps s₃ s₄) NoE s₃)
    (helt : ∀ C v s₃ m₃, v ∈ vs → p v = true → s₃.heap.Ns C m₃ → m₃ x = some v → s.heap.StaysIn s₃.heap → 0 < s₃.toks →
      wpAny (model prog w) A (eval elt (compEnvC scope cl C env)) (fun y s₄ => G v y ∧ Keeps s₃ s₄) NoE s₃)
    (done : ∀ D h' tk (ys : List Value) n', Fr h₀ env.locals h' (fun q => if q = y then some (.ref D) else m q) → News h₀ env.locals h' ((D, listOf ys.toArray n') :: news) → (∀ q ∈ news, q.1 ≠ D) → Paired G (vs.filter p) ys → 0 < tk → Q .next { s with heap := h', toks := tk })
    (hs : ∀ x, foldedSetIterable iter env x = pure x := by intro _; rfl) :
    wpAny (model prog w) A (exec (.Assign [.Name y py] (.ListComp elt [⟨.Name x px, iter, ifs, 0⟩] scope pos) spos) env) Q NoE s := by
  refine wpAny_pos ht (wpAny_noRaise ?_)
  refine wpAny_Assign_ListComp_free p G hsw hclos hcell hkind hnames hx hy hp (hiter _ ?_) hs
  have hl : s.heap.IsList l vs.toArray := PySem.IsL.isList (n := n) (N _ hm).1
  obtain ⟨ol, hol, hol'⟩ := id hl
  have hlt := Heap.lt_size hol
  have hne : l ≠ s.heap.objs.size := Nat.ne_of_lt hlt
  have hLs : env.locals < s.heap.objs.size := F.ns.lt
  have up : ∀ (h₂ h₃ : Heap) (o : Obj), h₂ = s.heap.push o → (∀ b o, b ∉ [s.heap.objs.size] → h₂.get? b = some o → h₃.get? b = some o) → s.heap.StaysIn h₃ := by
    rintro h₂ h₃ o rfl hk b ob e
    exact hk b ob (fun q => absurd (Heap.lt_size e) (by rw [List.mem_singleton.mp q]; exact Nat.lt_irrefl _)) (Heap.get?_push_of_some _ e)
  refine wpAny_pyIter_list hl ⟨_, _, _, _, _, _, _, rfl, Walks.list hh s.heap.objs.size l hne vs.toArray, by simpa using hsz, ⟨⟨_, Heap.get?_push_size _ rfl, rfl, rfl⟩, hl.at fun o e => Heap.get?_push_of_some _ e⟩, ?_, ?_, (F.push _).ns, ⟨?_, ?_⟩, ?_⟩
  · intro b hb
    rw [Heap.size_push]
    rcases List.mem_cons.mp hb with rfl | hb
    · exact Nat.lt_succ_self _
    · rw [List.mem_singleton.mp hb]; exact Nat.lt_succ_of_lt hlt
  · intro q
    rw [List.mem_singleton.mp q] at hLs
    exact Nat.lt_irrefl _ hLs
  · intro C i v s₃ m₃ E' hC hv hn hm hk htk
    refine wpAny_noRaise (tests C v s₃ m₃ ?_ hn hm (up _ _ _ rfl hk) (Nat.lt_of_lt_of_le ht htk))
    exact List.mem_of_getElem? (by simpa using hv)
  · intro C i v s₃ m₃ E' hC hv hpv hn hm hk htk
    refine wpAny_noRaise (helt C v s₃ m₃ ?_ hpv hn hm (up _ _ _ rfl hk) (Nat.lt_of_lt_of_le ht htk))
    exact List.mem_of_getElem? (by simpa using hv)
  · rintro D h' tk ys vs' hD _ ⟨n', hpl⟩ hlen hP hF hn hk htk
    obtain ⟨ys⟩ := ys
    rw [items_of hlen hP] at hF
    have hD' : s.heap.get? D = none := by
      cases e : s.heap.get? D with
      | none => rfl
      | some o => rw [Heap.get?_push_of_some _ e] at hD; cases hD
    obtain ⟨F', N', hne'⟩ := fr_grow F N hD' hpl hn (fun b o hb e => hk b o hb (fun q => absurd (Heap.lt_size e) (by rw [List.mem_singleton.mp q]; exact Nat.lt_irrefl _)) (Heap.get?_push_of_some _ e))
    exact done D h' tk ys n' F' N' hne' (by simpa using hF) htk
/-- three line ends, laid out -/
theorem ends_list {s₂ : Shared} {E : Value → Shared → Prop} {q1 q2 q3 q4 : Pos} {k1 k2 k3 : Nat} (ht : 0 < s₂.toks) :
    wpAny (model prog w) A (eval (.List [.Constant (.str (Str.ofString "\n")) k1 q1, .Constant (.str (Str.ofString "\u000d")) k2 q2, .Constant (.str (Str.ofString "\u000d\n")) k3 q3] q4) env)
      (fun y s₃ => ∃ l ws, y = .ref l ∧ s₂.heap.get? l = none ∧ s₃.heap.IsList l (List.toArray ws) ∧ StrsAre ws (([[10], [13], [13, 10]] : List (List Nat)).map mkS) ∧ Keeps s₂ s₃ ∧ s₂.toks ≤ s₃.toks) E s₂ := by
  obtain ⟨hp, gs, d, tk, os⟩ := s₂
  have e1 : Str.ofString "\n" = mkS [10] := by decide
  have e2 : Str.ofString "\u000d" = mkS [13] := by decide
  have e3 : Str.ofString "\u000d\n" = mkS [13, 10] := by decide
  rw [e1, e2, e3]
  refine List_ ?_
  refine spliced_cons ?_
  show wpAny _ _ (eval (.Constant (.str (mkS [10])) k1 q1) _) _ _ _
  refine const_str fun t1 tk1 h1 h1' => ?_
  refine spliced_cons ?_
  show wpAny _ _ (eval (.Constant (.str (mkS [13])) k2 q2) _) _ _ _
  refine const_str fun t2 tk2 h2 h2' => ?_
  refine spliced_cons ?_
  show wpAny _ _ (eval (.Constant (.str (mkS [13, 10])) k3 q3) _) _ _ _
  refine const_str fun t3 tk3 h3 h3' => ?_
  refine spliced_nil ?_
  refine wpAny_newObj_type ?_
  refine ⟨_, [.str (mkS [10]) t1, .str (mkS [13]) t2, .str (mkS [13, 10]) t3], rfl, Heap.get?_none_of_le (Nat.le_refl _), ⟨_, Heap.get?_push_size _ rfl, rfl, _, rfl⟩, .cons _ _ (.cons _ _ (.cons _ _ .nil)), ⟨_, _, rfl, fun b o e => Heap.get?_push_of_some _ e⟩, ?_⟩
  show tk ≤ tk3
  omega
/-- y = [x + z for x in a list of the ledger for z in ..] -/
theorem alcomp_nest {l : Addr} {vs : List Value} {n : Nat} {us ls : List (List Nat)}
    (hsw : swapsWith (Nest (.BinOp (.Name x p1) .Add (.Name z p2) p3) x px iter z pz iter2 scope pos) (some (.Name y py)) spos.line env = pure true)
    (F : Fr h₀ env.locals s.heap m) (N : News h₀ env.locals s.heap news) (hm : (l, listOf vs.toArray n) ∈ news)
    (hiter : ∀ Q' : Value → Shared → Prop, Q' (.ref l) s → wpAny (model prog w) A (eval iter env) Q' NoE s)
    (hh : A.handled = none) (hS : StrsAre vs (ls.map mkS)) (ht : 0 < s.toks)
    (hsz : ls.length * us.length ≤ 900) (hus : us.length ≤ 100) (htl : ∀ t ∈ ls, t.length ≤ 1000) (hul : ∀ u ∈ us, u.length ≤ 1000)
    (hclos : closureFor scope env = pure cl) (hcell : ∀ y ∈ scope.names, y.2 ≠ .cell) (hkind : scope.kind = .function) (hnames : ∀ y ∈ scope.names, y.2 = .local → scope.names.lookup y.1 = some .local) (hx : scope.names.lookup x = some .local) (hz : scope.names.lookup z = some .local)
    (hxz : x ≠ z) (dx : (x == ("__debug__" : Str)) = false) (dz : (z == ("__debug__" : Str)) = false)
    (hy : env.kindOf y = some .local) (hp : (env.scope.kind == .class || (env.scope.kind == .module && env.locals != env.globals)) = false)
    (hs2 : ∀ e y, foldedSetIterable iter2 e y = pure y)
    (inner : ∀ (e : Env) (s₂ : Shared) (E : Value → Shared → Prop), 0 < s₂.toks → wpAny (model prog w) A (eval iter2 e) (fun y s₃ => ∃ l ws, y = .ref l ∧ s₂.heap.get? l = none ∧ s₃.heap.IsList l (List.toArray ws) ∧ StrsAre ws (us.map mkS) ∧ Keeps s₂ s₃ ∧ s₂.toks ≤ s₃.toks) E s₂)
    (done : ∀ D h' tk (ys : List Value) n', Fr h₀ env.locals h' (fun q => if q = y then some (.ref D) else m q) → News h₀ env.locals h' ((D, listOf ys.toArray n') :: news) → (∀ q ∈ news, q.1 ≠ D) → StrsAre ys ((ls.flatMap fun t => us.map (t ++ ·)).map mkS) → 0 < tk → Q .next { s with heap := h', toks := tk })
    (hs : ∀ x, foldedSetIterable iter env x = pure x := by intro _; rfl) :
    wpAny (model prog w) A (exec (.Assign [.Name y py] (Nest (.BinOp (.Name x p1) .Add (.Name z p2) p3) x px iter z pz iter2 scope pos) spos) env) Q NoE s := by
  refine wpAny_pos ht (wpAny_noRaise ?_)
  rw [exec_Assign_Name_used _ _ _ _ hsw]
  refine wpAny_bind (wpAny_standAt (wpAny_bind ?_))
  show wpAny _ A (do let _ ← comprehension (Nest (.BinOp (.Name x p1) .Add (.Name z p2) p3) x px iter z pz iter2 scope pos) scope env _ (newList []) false (eval iter env) (some (assign (.Name y py) env))) _ _ s
  refine wpAny_bind (wpAny_mono (wpAny_comprehension_free (use := some (assign (.Name y py) env)) (Q := fun _ s' => 0 < s'.toks → Q .next s') rfl hs hclos hkind hnames
    (hiter _ ?_)) (fun _ s' hq => wpAny_pure (wpAny_pure hq)) fun _ _ e => e)
  have hl : s.heap.IsList l vs.toArray := PySem.IsL.isList (n := n) (N _ hm).1
  obtain ⟨ol, hol, hol'⟩ := id hl
  have hlt := Heap.lt_size hol
  have hLs : env.locals < s.heap.objs.size := F.ns.lt
  refine wpAny_pyIter_list hl ?_
  (try dsimp only)
  generalize hIo : ({ cls := .type "list_iterator", data := .fields #[.ref l, .int 0 0] } : Obj) = io
  refine wpAny_newObj_type (wpAny_newFunctionEnv hcell (by intro y hy; simp at hy) (fun h₁ hns₁ hsb₁ => ?_) hkind)
  dsimp only at hns₁ hsb₁ ⊢
  generalize hLo : ({ cls := .type "list", dict := none, data := .seq ([] : List Value).toArray } : Obj) = lo at hns₁ hsb₁ ⊢
  generalize hH2 : (s.heap.push io).push lo = H2 at hns₁ hsb₁ ⊢
  have hD : (s.heap.push io).objs.size = s.heap.objs.size + 1 := Heap.size_push ..
  have hC : H2.objs.size = s.heap.objs.size + 2 := by rw [← hH2, Heap.size_push, Heap.size_push]
  rw [hD]
  have old : ∀ b o, s.heap.get? b = some o → h₁.get? b = some o := fun b o e => hsb₁.extBut b o (by have := Heap.lt_size e; rw [hC]; exact Nat.ne_of_lt (Nat.lt_succ_of_lt (Nat.lt_succ_of_lt this))) (Heap.get?_push_of_some _ (hH2 ▸ Heap.get?_push_of_some _ (Heap.get?_push_of_some _ e)))
  have eI : h₁.get? s.heap.objs.size = some io := hsb₁.extBut _ _ (by rw [hC]; exact Nat.ne_of_lt (Nat.lt_succ_of_lt (Nat.lt_succ_self _))) (Heap.get?_push_of_some _ (hH2 ▸ Heap.get?_push_of_some _ (Heap.get?_push_size _ (by rw [← hIo]; rfl))))
  have eD : h₁.get? (s.heap.objs.size + 1) = some lo := hsb₁.extBut _ _ (by rw [hC]; exact Nat.ne_of_lt (Nat.lt_succ_self _)) (Heap.get?_push_of_some _ (hH2 ▸ (hD ▸ Heap.get?_push_size _ (by rw [← hLo]; rfl))))
  have n1 : ∀ b o, s.heap.get? b = some o → b ≠ H2.objs.size ∧ b ≠ s.heap.objs.size ∧ b ≠ s.heap.objs.size + 1 := fun b o e => by
    have := Heap.lt_size e
    rw [hC]
    exact ⟨Nat.ne_of_lt (Nat.lt_succ_of_lt (Nat.lt_succ_of_lt this)), Nat.ne_of_lt this, Nat.ne_of_lt (Nat.lt_succ_of_lt this)⟩
  obtain ⟨m1, m2, m3⟩ := n1 _ _ hol
  have hDC : s.heap.objs.size + 1 ≠ H2.objs.size := by rw [hC]; exact Nat.ne_of_lt (Nat.lt_succ_self _)
  have hIC : s.heap.objs.size ≠ H2.objs.size := by rw [hC]; exact Nat.ne_of_lt (Nat.lt_succ_of_lt (Nat.lt_succ_self _))
  have hID : s.heap.objs.size ≠ s.heap.objs.size + 1 := Nat.ne_of_lt (Nat.lt_succ_self _)
  have fresh : ∀ a, s.heap.objs.size ≤ a → s.heap.get? a = none := fun a ha => Heap.get?_none_of_le ha
  have hit : h₁.IsListIter s.heap.objs.size l 0 := ⟨_, eI, by rw [← hIo], by rw [← hIo]; rfl⟩
  have loop : codeAny (model prog w) A (.compLoop (Nest (.BinOp (.Name x p1) .Add (.Name z p2) p3) x px iter z pz iter2 scope pos) 0 (.ref s.heap.objs.size) (.ref (s.heap.objs.size + 1)) (compEnvC scope cl H2.objs.size env))
      (compPost (model prog w) A (fun _ _ => False) (some (assign (.Name y py) env)) (fun _ s' => 0 < s'.toks → Q .next s') (.ref (s.heap.objs.size + 1)) H2.objs.size) { s with heap := h₁, toks := s.toks + ([] : List (Str × Value)).length } := by
    refine outer4 (env := compEnvC scope cl H2.objs.size env) (ax := l) (vs := vs) (us := us) (ls := ls) (mx := 0) hh (by simp [compEnvC, relabel, hkind]) (lookup_relabel_local hx) (lookup_relabel_local hz) hxz dx dz (hs2 _) hDC hIC hID m2 m1 m3 hit (hl.at fun o e => old _ _ e) hS ⟨_, by rw [eD, ← hLo]⟩ hns₁ ht hsz hus htl hul (fun s₂ E h0 => inner _ s₂ E h0) ?_
    intro h' tk m' ys hn hpl hY hk htk
    obtain ⟨n', hpl⟩ := hpl
    have k1 : ∀ b o, s.heap.get? b = some o → h'.get? b = some o := fun b o e => hk b o (n1 b o e).1 (n1 b o e).2.1 (n1 b o e).2.2 (old b o e)
    have hLC : env.locals ≠ H2.objs.size := by obtain ⟨oL, _, _, hL, _⟩ := F.ns; exact (n1 _ _ hL).1
    have hLD : env.locals ≠ s.heap.objs.size + 1 := by obtain ⟨oL, _, _, hL, _⟩ := F.ns; exact (n1 _ _ hL).2.2
    show wpAny _ A (assign (.Name y py) env (.ref (s.heap.objs.size + 1))) _ _ _
    refine wpAny_assign_Name (wpAny_storeName_local hy (F.ns.at' fun o e => k1 _ o e) (fun h₂ hn₂ hs₂ => ?_) hp)
    refine ⟨m', hn.sameBut hs₂ (Ne.symm hLC), fun h₃ hs₃ => ?_⟩
    intro htk'
    obtain ⟨F', N', hne'⟩ := fr_grow F N (fresh (s.heap.objs.size + 1) (Nat.le_succ _)) (hs₃.extBut _ _ hDC (hs₂.extBut _ _ (Ne.symm hLD) hpl)) (hn₂.sameBut hs₃ hLC) (fun b o hb e => hs₃.extBut b o (n1 b o e).1 (hs₂.extBut b o hb (k1 b o e)))
    exact done _ h₃ _ ys n' F' N' hne' hY htk'
  exact codeAny_compStart_list loop (wpAny_pyIter_listiter hit loop)
end
end Mine

end
section
open PySem PySem.W PyProof.Rows PySem.Calls
set_option Elab.async false
set_option maxRecDepth 100000
set_option maxHeartbeats 1000000
namespace Mine
section
variable {prog : Program} {w : World} {A : Around} {s : Shared} {iter elt : Expr} {x y : Str} {px py : Pos} {scope : Scope} {pos spos : Pos} {env : Env} {h₀ : Heap} {m : Str → Option Value} {news : List (Addr × Obj)} {Q : Flow → Shared → Prop} {cl : List (Str × Addr)} {ifs : List Expr}
/-- y = [elt for x in range(n) if ..] -/
theorem alcomp_range (p : Value → Bool) (G : Value → Value → Prop) (n : Nat)
    (hsw : swapsWith (.ListComp elt [⟨.Name x px, iter, ifs, 0⟩] scope pos) (some (.Name y py)) spos.line env = pure true)
    (F₀ : Fr h₀ env.locals s.heap m) (N₀ : News h₀ env.locals s.heap news)
    (hiter : ∀ Q' : Value → Shared → Prop, (∀ h₁ tk₁ r t₀ u₀ v₀, IsRange h₁ r 0 n 1 t₀ u₀ v₀ → Fr h₀ env.locals h₁ m → News h₀ env.locals h₁ news → 0 < tk₁ → Q' (.ref r) { s with heap := h₁, toks := tk₁ }) → wpAny (model prog w) A (eval iter env) Q' NoE s)
    (hh : A.handled = none) (hn1 : n ≤ 1000) (ht : 0 < s.toks)
    (hclos : closureFor scope env = pure cl) (hcell : ∀ y ∈ scope.names, y.2 ≠ .cell) (hkind : scope.kind = .function) (hnames : ∀ y ∈ scope.names, y.2 = .local → scope.names.lookup y.1 = some .local) (hx : scope.names.lookup x = some .local)
    (hy : env.kindOf y = some .local) (hp : (env.scope.kind == .class || (env.scope.kind == .module && env.locals != env.globals)) = false)
    (tests : ∀ C (i : Nat) t s₃ m₃, i < n → s₃.heap.Ns C m₃ → m₃ x = some (.int (i : Int) t) → h₀.StaysIn s₃.heap → 0 < s₃.toks →
      wpAny (model prog w) A (forIn ifs true fun c r => if r = true then do let ok ← isTrue c (compEnvC scope cl C env) (eval c (compEnvC scope cl C env)); pure (ForInStep.yield ok) else pure (ForInStep.yield r)) (fun ok s₄ => ok = p (.int (i : Int) t) ∧ Keeps s₃ s₄) NoE s₃)
    (helt : ∀ C (i : Nat) t s₃ m₃, i < n → p (.int (i : Int) t) = true → s₃.heap.Ns C m₃ → m₃ x = some (.int (i : Int) t) → h₀.StaysIn s₃.heap → 0 < s₃.toks →
      wpAny (model prog w) A (eval elt (compEnvC scope cl C env)) (fun y s₄ => G (.int (i : Int) t) y ∧ Keeps s₃ s₄) NoE s₃)
    (done : ∀ D h' tk (vs ys : List Value) n', Fr h₀ env.locals h' (fun q => if q = y then some (.ref D) else m q) → News h₀ env.locals h' ((D, listOf ys.toArray n') :: news) → (∀ q ∈ news, q.1 ≠ D) → vs.length = n → (∀ (j : Nat) v, vs[j]? = some v → ∃ t, v = .int (j : Int) t) → Paired G (vs.filter p) ys → 0 < tk → Q .next { s with heap := h', toks := tk })
    (hs : ∀ x, foldedSetIterable iter env x = pure x := by intro _; rfl) :
    wpAny (model prog w) A (exec (.Assign [.Name y py] (.ListComp elt [⟨.Name x px, iter, ifs, 0⟩] scope pos) spos) env) Q NoE s := by
  refine wpAny_pos ht (wpAny_noRaise ?_)
  refine wpAny_Assign_ListComp_free p G hsw hclos hcell hkind hnames hx hy hp (hiter _ ?_) hs
  intro h₁ tk₁ r t₀ u₀ v₀ hr F N htk₁
  refine wpAny_pyIter_range hr (small_one (by decide) (by decide) (by omega) (by omega)) ?_
  have hnn : Builtin.Range.rangeSize 0 (n : Int) 1 = (n : Int) := by rw [rangeSize_nat]; omega
  have W : Walks prog w A h₁.objs.size [h₁.objs.size] [h₁.objs.size] n (fun i v => i < n ∧ ∃ t, v = .int (0 + (i : Int) * 1) t)
      (fun i h => IsRangeIter h h₁.objs.size (0 + (i : Nat) * 1) ((n : Int) - (i : Nat)) 1) := (Walks.range hh _ 0 1 n).bound
  have hLs : env.locals < h₁.objs.size := F.ns.lt
  have up : ∀ (h₂ h₃ : Heap) (o : Obj), h₂ = h₁.push o → (∀ b o, b ∉ [h₁.objs.size] → h₂.get? b = some o → h₃.get? b = some o) → h₀.StaysIn h₃ := by
    rintro h₂ h₃ o rfl hk b ob e
    have e := F.keep _ _ e
    exact hk b ob (fun q => absurd (Heap.lt_size e) (by rw [List.mem_singleton.mp q]; exact Nat.lt_irrefl _)) (Heap.get?_push_of_some _ e)
  refine ⟨_, _, _, _, _, _, _, rfl, W, by rw [sizeLine_eq]; omega, (by show IsRangeIter _ _ _ _ _; rw [hnn]; simpa using Heap.get?_push_size _ rfl), ?_, ?_, (F.push _).ns, ⟨?_, ?_⟩, ?_⟩
  · intro b hb
    rw [List.mem_singleton.mp hb, Heap.size_push]; exact Nat.lt_succ_self _
  · intro q
    rw [List.mem_singleton.mp q] at hLs
    exact Nat.lt_irrefl _ hLs
  · rintro C i v s₃ m₃ E' hC ⟨hi, t, rfl⟩ hn' hm hk htk
    have e : (0 : Int) + (i : Int) * 1 = (i : Int) := by omega
    rw [e] at hm ⊢
    exact wpAny_noRaise (tests C i t s₃ m₃ hi hn' hm (up _ _ _ rfl hk) (Nat.lt_of_lt_of_le htk₁ htk))
  · rintro C i v s₃ m₃ E' hC ⟨hi, t, rfl⟩ hpv hn' hm hk htk
    have e : (0 : Int) + (i : Int) * 1 = (i : Int) := by omega
    rw [e] at hm hpv ⊢
    exact wpAny_noRaise (helt C i t s₃ m₃ hi hpv hn' hm (up _ _ _ rfl hk) (Nat.lt_of_lt_of_le htk₁ htk))
  · rintro D h' tk ys vs' hD _ ⟨n', hpl⟩ hlen hP hF hn hk htk
    obtain ⟨ys⟩ := ys
    have hD' : h₁.get? D = none := by
      cases e : h₁.get? D with
      | none => rfl
      | some o => rw [Heap.get?_push_of_some _ e] at hD; cases hD
    obtain ⟨F', N', hne'⟩ := fr_grow F N hD' hpl hn (fun b o hb e => hk b o hb (fun q => absurd (Heap.lt_size e) (by rw [List.mem_singleton.mp q]; exact Nat.lt_irrefl _)) (Heap.get?_push_of_some _ e))
    exact done D h' tk vs' ys n' F' N' hne' hlen (fun j v e => by obtain ⟨_, t, rfl⟩ := hP j v e; exact ⟨t, by rw [Int.zero_add, Int.mul_one]⟩) hF htk
/-- not a tab, a line feed or a carriage return -/
theorem test_ctl {C : Addr} {m₃ : Str → Option Value} {i : Nat} {t : Tok} {s₃ : Shared} {q1 q2 q3 q4 q5 q6 : Pos} {k0 k1 k2 k3 : Nat} (hi : i < 32) (hn : s₃.heap.Ns C m₃) (hm : m₃ x = some (.int (i : Int) t))
    (hk : (compEnvC scope cl C env).scope.kind = .function) (hx : (compEnvC scope cl C env).kindOf x = some .local) (dx : (x == ("__debug__" : Str)) = false) :
    wpAny (model prog w) A (forIn [Expr.Compare (.Name x q1) [.NotIn] [.Tuple [.Constant (.int 9) k1 q2, .Constant (.int 10) k2 q3, .Constant (.int 13) k3 q4] k0 q5] q6] true fun c r => if r = true then do let ok ← isTrue c (compEnvC scope cl C env) (eval c (compEnvC scope cl C env)); pure (ForInStep.yield ok) else pure (ForInStep.yield r))
      (fun ok s₄ => ok = (match Value.int (i : Int) t with | .int n _ => ctl n.toNat | _ => false) ∧ Keeps s₃ s₄) NoE s₃ := by
  obtain ⟨hp, gs, d, tk, os⟩ := s₃
  refine wpAny_tests_one (wpAny_isTrue_Compare1 ?_ (by rfl))
  refine comp_name hn hm hk hx dx ?_
  refine wpAny_Tuple ?_
  refine spliced_cons ?_
  show wpAny _ _ (eval (.Constant (.int 9) k1 q2) _) _ _ _
  refine const_int fun t1 tk1 h1 h1' => ?_
  refine spliced_cons ?_
  show wpAny _ _ (eval (.Constant (.int 10) k2 q3) _) _ _ _
  refine const_int fun t2 tk2 h2 h2' => ?_
  refine spliced_cons ?_
  show wpAny _ _ (eval (.Constant (.int 13) k3 q4) _) _ _ _
  refine const_int fun t3 tk3 h3 h3' => ?_
  refine spliced_nil ?_
  refine ⟨by rw [sizeLine_eq]; exact Nat.le_of_ble_eq_true rfl, ?_⟩
  refine notin_tuple_ints (items := #[.int 9 t1, .int 10 t2, .int 13 t3]) (ns := [9, 10, 13]) ⟨_, Heap.get?_push_size _ rfl, rfl, _, rfl⟩ (.cons _ _ (.cons _ _ (.cons _ _ .nil))) (wpAny_truthy_bool ⟨?_, ⟨_, _, rfl, fun b o e => Heap.get?_push_of_some _ e⟩⟩)
  show (!([(9 : Int), 10, 13].any fun z => z == (i : Int))) = ctl (i : Int).toNat
  rw [Int.toNat_natCast]
  cases h : ([(9 : Int), 10, 13].any fun z => z == (i : Int)) with
  | true => rw [ctl_no h]; rfl
  | false => rw [ctl_yes (by omega) h]; rfl
/-- chr(x) -/
theorem elt_chr {C : Addr} {m₃ mg mb : Str → Option Value} {K : Frag} {p : Program} {loose : List Str} {mean : ExcName → Option Value} {i : Nat} {t : Tok} {s₃ : Shared} {q1 q2 q3 : Pos} (hi : i < 32) (X : K.In s₃.heap) (T : Top p loose mean mg mb s₃.heap) (hn : s₃.heap.Ns C m₃) (hm : m₃ x = some (.int (i : Int) t))
    (hg : env.globals = mainGlobals) (hb : env.builtins = builtinsNs) (e1 : nsIn K mainGlobals (Str.ofString "chr") = some none)
    (hk : (compEnvC scope cl C env).scope.kind = .function) (h1 : (compEnvC scope cl C env).kindOf (Str.ofString "chr") = some .globalImplicit) (hx : (compEnvC scope cl C env).kindOf x = some .local) (dx : (x == ("__debug__" : Str)) = false) :
    wpAny (model prog w) A (eval (.Call (.Name (Str.ofString "chr") q1) [.Name x q2] [] q3) (compEnvC scope cl C env)) (fun y s₄ => (∃ t', y = .str ⟨#[i]⟩ t') ∧ Keeps s₃ s₄) NoE s₃ := by
  refine Call_ (Name_function_global hk h1 (loadGlobal_builtin (env := compEnvC scope cl C env) (by show s₃.heap.Ns env.globals _; rw [hg]; exact T.g) (mg_none_of X T.g e1) (by show s₃.heap.Ns env.builtins _; rw [hb]; exact T.b) ((T.builtins _ (by decide)).trans rfl) ?_) (by decide))
  refine callWith_builtin rfl ?_
  refine evalArgs_plain ?_
  refine spliced_cons ?_
  show wpAny _ _ (eval (.Name x q2) _) _ _ _
  refine comp_name hn hm hk hx dx ?_
  refine spliced_nil ?_
  refine PyProof.Rows.chr_of_range (by omega) (by omega) ?_
  exact ⟨⟨_, by rw [Int.toNat_natCast]⟩, ⟨_, _, rfl, fun _ _ e => e⟩⟩
theorem ctl_signs {ys : List Value} : ∀ {vs : List Value} {k : Nat}, (∀ (j : Nat) v, vs[j]? = some v → ∃ t, v = .int ((k + j : Nat) : Int) t) → Paired (fun v y => ∃ (i : Nat) (t t' : Tok), v = .int (i : Int) t ∧ y = .str ⟨#[i]⟩ t') (vs.filter fun v => match v with | .int n _ => ctl n.toNat | _ => false) ys →
    StrsAre ys (((List.range' k vs.length).filter ctl).map fun c => mkS [c]) := by
  intro vs
  induction vs generalizing ys with
  | nil => intro k _ h; cases h; exact .nil
  | cons v vs ih =>
    intro k hj h
    obtain ⟨t, rfl⟩ := hj 0 v rfl
    have ih := fun ys h => ih (ys := ys) (k := k + 1) (fun j v e => by obtain ⟨t, rfl⟩ := hj (j + 1) v (by simpa using e); exact ⟨t, by congr 2; omega⟩) h
    rw [List.length_cons, List.range'_succ, List.filter_cons]
    rw [List.filter_cons] at h
    have e : (match Value.int ((k + 0 : Nat) : Int) t with | .int n _ => ctl n.toNat | _ => false) = ctl k := by show ctl _ = _; rw [Int.toNat_natCast]; rfl
    rw [e] at h
    cases hc : ctl k with
    | false => rw [hc] at h; exact ih _ h
    | true =>
      rw [hc] at h
      cases h with
      | cons h1 h2 =>
        obtain ⟨i, t1, t2, e1, rfl⟩ := h1
        have : i = k := by have := (Value.int.inj e1).1; omega
        subst this
        exact .cons _ _ (ih _ h2)
end
end Mine

end
section
open PySem PySem.W PyProof.Rows
set_option Elab.async false
set_option maxRecDepth 100000
set_option maxHeartbeats 8000000
namespace Mine
open_top hd04 for PySem.Challenge.rw_dm0240_04
end Mine

end
section
open PySem PySem.W PyProof.Rows PySem.Calls
set_option Elab.async false
set_option maxRecDepth 100000
set_option maxHeartbeats 1000000

namespace Mine

local macro_rules | `(tactic| walk_at "go") => `(tactic| repeat' (first | (k_unfold; (try dsimp only)) | walk1 | (dsimp only; first | walk1 | (k_unfold; (try dsimp only)))))
local macro_rules | `(tactic| walk_at "exec For Name Name cons nil") => `(tactic| (refine wpAny_For ?_))
local macro_rules | `(tactic| walk_at "exec For Name Call cons nil") => `(tactic| (refine wpAny_For ?_))
local macro_rules | `(tactic| walk_at "exec For Name Subscript cons nil") => `(tactic| (refine wpAny_For ?_))
local macro_rules | `(tactic| walk_at "exec For Name BinOp cons nil") => `(tactic| (refine wpAny_For ?_))
local macro_rules | `(tactic| walk_at "exec For Name Attribute cons nil") => `(tactic| (refine wpAny_For ?_))
local macro_rules | `(tactic| walk_at "exec While Compare cons nil") => `(tactic| (refine halt ?_))
local macro_rules | `(tactic| walk_at "exec While BoolOp cons nil") => `(tactic| (refine halt ?_))
local macro_rules | `(tactic| walk_at "exec While Name cons nil") => `(tactic| (refine halt ?_))
local macro_rules | `(tactic| walk_at "execs cons Assign cons") => `(tactic| ((with_reducible show wpAny _ _ (execs (Stmt.Assign _ (Expr.List [] _) _ :: Stmt.For _ _ _ _ _ :: _) _) _ _ _); (refine wpAny_execs_cons ?_)))
local macro_rules | `(tactic| walk_at "room") => `(tactic| first | ((simp only [List.size_toArray, Array.size_push, List.length_append, List.length_cons, List.length_nil, sizeLine_eq]); omega) | (rw [sizeLine_eq]; omega))
local macro_rules | `(tactic| walk_at "call builtin:list.append") => `(tactic| (k_here; k_dflt (refine' append_K ?k1 ?k2 ?k3 ?_ ?z; (case k1 => k_asm); (case k2 => k_asm); (case k3 => k_upd); (case z => walk_at "room"); k_whole); intro h' F' N'; (try k_sweep)))
local macro_rules | `(tactic| walk_at "se_in") => `(tactic| first | (with_unfolding_all kst_in) | kst_inAny | (intro p hp; (try simp only [List.push_toArray, List.cons_append, List.nil_append, List.mem_cons, List.not_mem_nil, or_false] at hp ⊢); first | assumption | (rcases hp with hp | hp <;> simp_all; done) | (simp_all; done)))
local macro_rules | `(tactic| walk_at "se_ne") => `(tactic| (intro q hq; first | (cases hq; done) | (rw [List.mem_singleton.mp hq]; dsimp only [AllNe]; omega)))
local macro_rules | `(tactic| walk_at "se_all") => `(tactic| kst_all)
local macro_rules | `(tactic| walk_at "se_same") => `(tactic| (intro z h1 h2 h3; (simp only [List.forall_mem_cons, List.not_mem_nil, false_implies, implies_true, and_true, ne_eq] at h2); (try simp only [List.contains_cons, List.contains_nil, Bool.or_false, Bool.or_eq_false_iff, beq_eq_false_iff_ne, ne_eq] at h3); first | rfl | (simp [locs4, kstB, h1, h2, h3]; done) | (simp_all [locs4, kstB]; done)))
local macro_rules | `(tactic| walk_at "eval Constant str") => `(tactic| (with_reducible refine const_str ?_; intro tt tk hTt hTk; try dsimp only))
local macro_rules | `(tactic| walk_at "eval Constant int") => `(tactic| (with_reducible refine const_int ?_; intro tt tk hTt hTk; try dsimp only))
local macro_rules | `(tactic| walk_at "subscriptTail Name Slice str ref") => `(tactic| ((with_reducible rename Fr _ _ _ _ => F'); (with_reducible rename News _ _ _ _ => N'); refine wpAny_pos (by walk_at "toks") ?_; (first | refine slice_strN_ns (hsz := ?hsz) (s := ⟨_, _, _, _, _⟩) F' N' ?_ | refine slice_strN_sn (hsz := ?hsz) (s := ⟨_, _, _, _, _⟩) F' N' ?_ | refine slice_strN_ss (hsz := ?hsz) (s := ⟨_, _, _, _, _⟩) F' N' ?_); (case hsz => (rw [sizeLine_eq]; first | omega | (simp only [mkS_length]; omega) | (refine Nat.le_trans (Txt.length_slice_le _ _ _) ?_; omega))); clear F' N'; intro h' t' k' F' N' hk'; dsimp only at hk' ⊢))
local macro_rules | `(tactic| walk_at "subscriptTail Subscript Slice str ref") => `(tactic| (refine halt ?_))
local macro_rules | `(tactic| walk_at "slice now") => `(tactic| ((with_reducible rename Fr _ _ _ _ => F'); (with_reducible rename News _ _ _ _ => N'); refine wpAny_pos (by walk_at "toks") ?_; (first | refine slice_strN_ns (hsz := ?hsz) (s := ⟨_, _, _, _, _⟩) F' N' ?_ | refine slice_strN_sn (hsz := ?hsz) (s := ⟨_, _, _, _, _⟩) F' N' ?_ | refine slice_strN_ss (hsz := ?hsz) (s := ⟨_, _, _, _, _⟩) F' N' ?_); (case hsz => (rw [sizeLine_eq]; first | omega | (simp only [mkS_length]; omega) | (refine Nat.le_trans (Txt.length_slice_le _ _ _) ?_; omega))); clear F' N'; intro h' t' k' F' N' hk'; dsimp only at hk' ⊢))
local macro_rules | `(tactic| walk_at "SPost") => `(tactic| (dsimp only [SPost]))
local macro_rules | `(tactic| walk_at "toks") => `(tactic| first | omega | (dsimp only; omega) | ((show @Ne Nat _ _); omega) | ((show @LT.lt Nat _ _ _); omega) | ((show @Ne Nat _ _); dsimp only; omega) | ((show @LT.lt Nat _ _ _); dsimp only; omega) | (simp only [List.length_cons, List.length_nil]; omega))
local macro_rules | `(tactic| walk_at "execs cons") => `(tactic| ((with_reducible first | show wpAny _ _ _ _ _ (Shared.mk _ _ _ (_ + _) _) | show wpAny _ _ _ _ _ (Shared.mk _ _ _ (Shared.toks _) _)); refine gen_toks (by walk_at "toks") ?_; intro tk htk))
local macro_rules | `(tactic| walk_at "execs nil") => `(tactic| ((with_reducible first | show wpAny _ _ _ _ _ (Shared.mk _ _ _ (_ + _) _) | show wpAny _ _ _ _ _ (Shared.mk _ _ _ (Shared.toks _) _)); refine gen_toks (by walk_at "toks") ?_; intro tk htk))

--PART S4a
section
theorem patIn04 (w : World) {h : Heap} (X : (Mine.hd04.heap_39 w.params).In h) : IsPat h 36 35 :=
  ⟨⟨_, _, X _ _ rfl⟩, ⟨_, X _ _ rfl⟩⟩
local macro_rules | `(tactic| walk_at "getMethod ref") => `(tactic| (with_reducible refine getMethod_search (IsPat.keeps (patIn04 _ (by assumption)) (Fr.keep (by assumption))) ?_))
local macro_rules | `(tactic| walk_at "call builtin:re.Pattern.search") => `(tactic| (refine halt ?_))
local macro_rules | `(tactic| walk_at "call builtin:str.replace") => `(tactic| ((first | refine replaceE 1 _ (by walk_at "toks") (by walk_at "toks") (by walk_at "toks") (by walk_at "toks") (by with_reducible assumption) (by decide) (by decide) (by decide) (by decide) (by decide) ?_ | refine replaceE 4 _ (by walk_at "toks") (by walk_at "toks") (by walk_at "toks") (by walk_at "toks") (by with_reducible assumption) (by decide) (by decide) (by decide) (by decide) (by decide) ?_ | refine replaceE 5 _ (by walk_at "toks") (by walk_at "toks") (by walk_at "toks") (by walk_at "toks") (by with_reducible assumption) (by decide) (by decide) (by decide) (by decide) (by decide) ?_); intro r' t' k' er' hl' hk'; dsimp only))
theorem esc04 (w : World) (mean : ExcName → Option Value) (mg mb : Str → Option Value) (x : Str) (t : Tok) (hx : x.length ≤ 160000) (hc : hasCtl x = false) : PF PySem.Challenge.rw_dm0240_04.row.prog w (Mine.hd04.heap_39 w.params) Mine.hd04.view_39 (looseW Mine.hd04.view_39 [Str.ofString "_controlCharPat"]) mean mg mb 1 8 43 [.str x t] (fun v => ∃ t', v = .str (escS x) t') := by
  w_on
  k_fill
  refine PF.enter (by k_is) (by k_is) rfl rfl (by decide) rfl rfl rfl ?_ (by decide)
  intro dp un gd fr base g L h₁ s B X T F N hd hu tk htk
  (try k_fold)
  walk_at "go"
  refine go_on (reSearch (IsPat.keeps (patIn04 _ (by assumption)) (Fr.keep (by assumption))) (by rw [sizeLine_eq]; omega) ?kno ?kyes)
  case kyes => intro hYes; rw [hc] at hYes; cases hYes
  intro hNo
  walk_at "go"
  have fin : ∀ (r : Str) (tr : Tok), r = es5 x → ∃ t', Value.str r tr = .str (escS x) t' := fun r tr e => ⟨tr, by rw [e, es5_eq]⟩
  refine PEnd.mk (by assumption) (by walk_at "toks") ?_
  refine fin _ _ ?_
  subst_vars
  rfl

end
--PART S4b
section
theorem chr_ok {k : Int} (h : 32 ≤ k) : ctl k.toNat = false := by unfold ctl; simp; omega
theorem sign04 (w : World) (mean : ExcName → Option Value) (mg mb : Str → Option Value) (n : Int) (t : Tok) : PF PySem.Challenge.rw_dm0240_04.row.prog w (Mine.hd04.heap_39 w.params) Mine.hd04.view_39 (looseW Mine.hd04.view_39 [Str.ofString "_controlCharPat"]) mean mg mb 1 8 50 [.int n t] (fun v => ∃ c t', ctl c = false ∧ c ≠ 13 ∧ c ≠ 10 ∧ v = .str ⟨#[c]⟩ t') := by
  w_on
  k_fill
  refine PF.enter (by k_is) (by k_is) rfl rfl (by decide) rfl rfl rfl ?_ (by decide)
  intro dp un gd fr base g L h₁ s B X T F N hd hu tk htk
  (try k_fold)
  have hf := Int.fmod_nonneg_of_pos (n.fdiv 5) (b := 1112032) (by decide)
  walk_at "go"
  all_goals refine PEnd.mk (by assumption) (by walk_at "toks") ?_
  all_goals first
    | exact ⟨9, _, rfl, by decide, by decide, rfl⟩
    | exact ⟨38, _, rfl, by decide, by decide, rfl⟩
    | exact ⟨60, _, rfl, by decide, by decide, rfl⟩
    | exact ⟨62, _, rfl, by decide, by decide, rfl⟩
    | exact ⟨_, _, chr_ok (by omega), by omega, by omega, rfl⟩
    | trace_state
end
--PART S4c
section
local macro_rules | `(tactic| walk_at "getMethod ref") => `(tactic| (with_reducible refine getMethod_search (IsPat.keeps (patIn04 _ (by assumption)) (Fr.keep (by assumption))) ?_))
local macro_rules | `(tactic| walk_at "call builtin:re.Pattern.search") => `(tactic| (refine halt ?_))
local macro_rules | `(tactic| walk_at "exec Raise some none") => `(tactic| (refine halt ?_))
theorem escR04 (w : World) (mean : ExcName → Option Value) (mg mb : Str → Option Value) (x : Str) (t : Tok) (hx : x.length ≤ 160000) (hc : hasCtl x = true) : PX PySem.Challenge.rw_dm0240_04.row.prog w (Mine.hd04.heap_39 w.params) Mine.hd04.view_39 (looseW Mine.hd04.view_39 [Str.ofString "_controlCharPat"]) mean mg mb 1 8 43 [.str x t] "ValueError" (fun ws => ∃ t', ws = [.str (Str.ofString "strings can't contain control characters; use bytes instead") t']) := by
  w_on
  k_fill
  refine PX.enter (by k_is) (by k_is) rfl rfl (by decide) rfl rfl rfl ?_ (by decide)
  intro dp un gd fr base g L h₁ s news B X T F N hd hu tk htk
  (try k_fold)
  walk_at "go"
  refine go_on (reSearch (IsPat.keeps (patIn04 _ (by assumption)) (Fr.keep (by assumption))) (by rw [sizeLine_eq]; omega) ?kno ?kyes)
  case kno => intro hNo; rw [hc] at hNo; cases hNo
  intro _ a o1 o2
  have F2 := (F.push o1).push o2
  have N2 : News g L ((h₁.push o1).push o2) news := fun p hp => ⟨Heap.get?_push_of_some _ (Heap.get?_push_of_some _ (N p hp).1), (N p hp).2⟩
  clear F N
  dsimp only
  walk_at "go"
  refine go_on ?_
  refine Raise_madeB PySem.F.excCall_ValueError PySem.F.excRaise_ValueError rfl ?_
  walk_at "go"
  refine ⟨_, _, _, _, _, _, rfl, rfl, ?_, (by assumption), (by assumption), Heap.MadeExc.of (by assumption), ⟨_, rfl⟩⟩
  walk_at "toks"
end
--PART S4d
section
local macro_rules | `(tactic| walk_at "call ref") => `(tactic| (refine halt ?_))
theorem got_kit {h₀ h : Heap} {L : Addr} {news : List (Addr × Obj)} {e t : Addr} {X : String} {vs : List Value} (N : News h₀ L h news) (G : Got news e t (.type X) vs) : KitAt e X h := by
  obtain ⟨oe, ot, ws, nt, h1, h2, hc, hd, h0, htc, htd⟩ := G
  exact ⟨oe, N.get h1, hc⟩
local macro_rules | `(tactic| walk_at "call type:type") => `(tactic| (refine halt ?_))
theorem refused04 (w : World) (mean : ExcName → Option Value) (mg mb : Str → Option Value) (x : Str) (t : Tok) (hx : x.length ≤ 160000) (hc : hasCtl x = true) : PT PySem.Challenge.rw_dm0240_04.row.prog w (Mine.hd04.heap_39 w.params) Mine.hd04.view_39 (looseW Mine.hd04.view_39 [Str.ofString "_controlCharPat"]) mean mg mb 3 24 57 [.str x t] (fun v => v = .bool true) := by
  w_on
  k_fill
  refine PT.enter (by k_is) (by k_is) rfl rfl (by decide) rfl rfl rfl ?_ (by omega)
  intro dp un gd fr base g L h₁ s B XB TB X T D T0 F N hd hu tk htk
  (try k_fold)
  walk_at "go"
  refine go_on (PX.call (escR04 _ _ _ _ x t hx hc) B X T F N (by omega) (by omega) (by walk_at "toks") ?_)
  rintro e te ws G h' tk' ⟨t', rfl⟩ FG RS U htk'
  dsimp only
  refine caught_SB RS FG B U XB TB D T0 (by k_is) PyProof.Rows.Boot.«ValueError» (by decide) PySem.F.isExc_ValueError PySem.F.notTuple_ValueError (by rw [isSubtype_type]; kernel_rfl) ?_
  intro h2 g' news₂ tk2 T1 F' N2 got N' B' X' T' D'
  clear RS FG U
  dsimp only
  walk_at "go"
  refine go_on (kto_cont (got_kit N2 got) (by decide) ?_)
  walk_at "go"
  rename Fr _ _ _ _ => F9
  exact PTEnd.mk T1 F9 (Nat.succ_pos _) (by simp)
end
--PART S4e
section

local macro_rules | `(tactic| walk_at "binaryOp Add str str") => `(tactic| (refine addE (by walk_at "addroom") (by walk_at "toks") ?_; intro t' k' hk'; (try dsimp only)))
local macro_rules | `(tactic| walk_at "inplaceOp Add str str") => `(tactic| (refine iaddE (by walk_at "addroom") (by walk_at "toks") ?_; intro t' k' hk'; (try dsimp only)))
local macro_rules | `(tactic| walk_at "binaryOp Mult str int") => `(tactic| (refine mulE (by decide) (by omega) (by omega) (by walk_at "toks") ?_; intro t' k' hk'; (try dsimp only)))
local macro_rules | `(tactic| walk_at "compareOp In str str") => `(tactic| (refine in1E ?_; dsimp only))
local macro_rules | `(tactic| walk_at "compareOp NotIn str str") => `(tactic| (refine notIn1E ?_; dsimp only))

local macro_rules | `(tactic| walk_at "pyIter ref") => `(tactic| (refine halt ?_))
local macro_rules | `(tactic| walk_at "subscriptTail Name Slice ref ref") => `(tactic| (refine halt ?_))
local macro_rules | `(tactic| walk_at "call builtin:sum") => `(tactic| (refine halt ?_))
local macro_rules | `(tactic| walk_at "exec Assign cons ListComp") => `(tactic| (refine halt ?_))
local macro_rules | `(tactic| walk_at "eval ListComp") => `(tactic| (refine halt ?_))
local macro_rules | `(tactic| walk_at "pyIter str") => `(tactic| (refine halt ?_))
local macro_rules | `(tactic| walk_at "subscriptTail Name BinOp ref int") => `(tactic| (refine halt ?_))
local macro_rules | `(tactic| walk_at "call type:set") => `(tactic| (refine halt ?_))
local macro_rules | `(tactic| walk_at "call builtin:sorted") => `(tactic| (refine halt ?_))
local macro_rules | `(tactic| walk_at "call ref") => `(tactic| (refine halt ?_))
local macro_rules | `(tactic| walk_at "exec For Name Call cons nil") => `(tactic| (refine halt ?_))
local macro_rules | `(tactic| walk_at "exec For Name Name cons nil") => `(tactic| (refine halt ?_))
local macro_rules | `(tactic| walk_at "call type:range") => `(tactic| (refine halt ?_))
theorem ldC {M : Model} {A : Around} {E : Value → Shared → Prop} {s : Shared} {env : Env} {h₀ : Heap} {L c : Addr} {x : Str} {v : Value} {o : Obj} {news : List (Addr × Obj)} {Q : Value → Shared → Prop} (N : News h₀ L s.heap news) (hk : env.scope.kind = .function) (hl : env.kindOf x = some .cell) (hc : env.cells.lookup x = some c) (hm : (c, o) ∈ news) (hd : o.data = .cell (some v)) (h : Q v s) : wpAny M A (loadName env x) Q E s :=
  wpAny_loadName_cell hk hl hc ⟨o, N.get hm, hd⟩ h
local macro_rules | `(tactic| walk_at "loadName") => `(tactic| (refine' ldC ?N rfl rfl rfl ?m ?d ?_; (case N => k_asm); (case m => k_mem); (case d => k_asm); k_whole))
theorem min_nat6 (n : Nat) : ∃ k : Nat, (if (n : Int) < 6 then (n : Int) else 6) = (k : Int) ∧ k ≤ 6 := by
  by_cases h : (n : Int) < 6
  · exact ⟨n, if_pos h, by omega⟩
  · exact ⟨6, if_neg h, by omega⟩
/-- the text that is built -/
structure Tx (i : Nat) (l : List Nat) : Prop where
  len : l.length = 2 + i
  no13 : ∀ c ∈ l, c ≠ 13
  noc : noCtl l
  cnt : l.count 10 ≤ 4
  hd : l.head? = some 10
theorem Tx.start : Tx 0 [10, 10] := ⟨rfl, by decide, by unfold noCtl; decide, by decide, rfl⟩
theorem Tx.sign {i : Nat} {l : List Nat} {c : Nat} (h : Tx i l) (h1 : c ≠ 13) (h2 : ctl c = false) (h3 : l.count 10 < 4 ∨ c ≠ 10) : Tx (i + 1) (l ++ [c]) := by
  refine ⟨by rw [List.length_append, h.len]; rfl, ?_, ?_, ?_, ?_⟩
  · intro k hk; rcases List.mem_append.mp hk with e | e
    · exact h.no13 k e
    · rw [List.mem_singleton.mp e]; exact h1
  · intro k hk; rcases List.mem_append.mp hk with e | e
    · exact h.noc k e
    · rw [List.mem_singleton.mp e]; exact h2
  · rw [List.count_append]
    have := h.cnt
    rcases h3 with h3 | h3
    · have : [c].count 10 ≤ 1 := List.count_le_length
      omega
    · rw [List.count_eq_zero_of_not_mem (a := 10) (l := [c]) (by simpa using fun e : 10 = c => h3 e.symm)]
      omega
  · have := h.hd
    cases l with
    | nil => cases this
    | cons a r => exact this
theorem ll4_0 : (Str.ofString "").length = 0 := by decide
theorem ll4_lf : (Str.ofString "\n").length = 1 := by decide
theorem lf_cps : (Str.ofString "\n").cps.toList = [10] := by decide
theorem len_cps4 (x : Str) : x.cps.toList.length = x.length := by simp [Str.length]
local macro_rules | `(tactic| walk_at "addroom") => `(tactic| (simp only [mkS_length, List.length_append, mkS_toList, len_cps4, one_length, ll4_0, ll4_lf]; omega))
theorem lf_room {l : List Nat} (h : Txt.count (mkS l) (Str.ofString "\n") < 4) : l.count 10 < 4 := by rw [count_lf] at h; omega
theorem fr_on {h₀ h h' : Heap} {L : Addr} {m : Str → Option Value} {news : List (Addr × Obj)} (F : Fr h₀ L h m) (N : News h₀ L h news) (k : h.StaysIn h') : Fr h₀ L h' m ∧ News h₀ L h' news := ⟨F.keeps k, fun q hq => ⟨k _ _ (N q hq).1, (N q hq).2⟩⟩
structure St4 where
  la : Addr
  nr : Nat
  vs : List Value
  ls : List (List Nat)
  vf : List (List Nat)
  vb : List (List Nat)
  fi : Int
  bi : Int
  ow : Obj
  t1 : Tok
  t2 : Tok
structure I4 (l : List Nat) (cw : Addr) (i : Nat) (c : St4) : Prop where
  hs : StrsAre c.vs (c.ls.map mkS)
  hc : Cnt (l.take i) c.ls c.vf c.vb
  how : ∃ t, c.ow.data = .cell (some (.str (mkS (escL (l.take i))) t))
  hn : c.ls.length = 3 ^ (l.take i).count 10
  hf : c.fi = c.vf.length
  hb : c.bi = c.vb.length
  h1 : 1 ≤ c.vf.length + c.vb.length
  h2 : 1 ≤ i → 2 ≤ c.vf.length + c.vb.length
  ne : @Ne Nat c.la cw
theorem I4.start {l : List Nat} {cw la : Addr} {nr : Nat} {t u t1 t2 : Tok} {o : Obj} (ho : o.data = .cell (some (.str (Str.ofString "") u))) (ne : @Ne Nat la cw) : I4 l cw 0 ⟨la, nr, [.str (Str.ofString "") t], [[]], [[]], [], 1, 0, o, t1, t2⟩ := by
  have e : Str.ofString "" = mkS [] := by decide
  refine ⟨by rw [e]; exact .cons _ _ .nil, Cnt.start, ⟨u, ?_⟩, rfl, rfl, rfl, Nat.le_refl _, fun h => absurd h (by decide), ne⟩
  rw [ho, e]; rfl
theorem paired_addC {n : Nat} : ∀ {vs ys : List Value} {ls : List (List Nat)}, StrsAre vs (ls.map mkS) → Paired (fun v y => ∀ (t : List Nat) tt, v = .str (mkS t) tt → ∃ t', y = .str (mkS (t ++ [n])) t') vs ys → StrsAre ys ((addC n ls).map mkS)
  | [], _, ls, h, .nil => by
    cases ls with
    | nil => exact .nil
    | cons a r => cases h
  | v :: vs, _, ls, h, .cons h1 r => by
    cases ls with
    | nil => cases h
    | cons a ls =>
      cases h with
      | cons y t h2 =>
        obtain ⟨t', rfl⟩ := h1 a t rfl
        exact .cons _ _ (paired_addC h2 r)
theorem elt_add {prog : Program} {w : World} {A : Around} {s : Shared} {env : Env} {scope : Scope} {cl : List (Str × Addr)} {C c : Addr} {m₃ : Str → Option Value} {x y : Str} {t : List Nat} {n : Nat} {tt tn : Tok} {p1 p2 p3 : Pos}
    (hn : s.heap.Ns C m₃) (hm : m₃ x = some (.str (mkS t) tt)) (hc : s.heap.IsCell c (some (.str ⟨#[n]⟩ tn))) (hl : t.length ≤ 1000) (ht : 0 < s.toks)
    (hk : (compEnvC scope cl C env).scope.kind = .function) (hx : (compEnvC scope cl C env).kindOf x = some .local) (hy : (compEnvC scope cl C env).kindOf y = some .cell) (hcl : cl.lookup y = some c) (dx : (x == ("__debug__" : Str)) = false) (dy : (y == ("__debug__" : Str)) = false) :
    wpAny (model prog w) A (eval (.BinOp (.Name x p1) .Add (.Name y p2) p3) (compEnvC scope cl C env)) (fun v s₄ => (∀ (t' : List Nat) tt', Value.str (mkS t) tt = .str (mkS t') tt' → ∃ t'', v = .str (mkS (t' ++ [n])) t'') ∧ Keeps s s₄) NoE s := by
  refine wpAny_BinOp (comp_name hn hm hk hx dx ?_)
  refine wpAny_Name (wpAny_loadName_cell hk hy hcl hc ?_) dy
  refine addE (by rw [mkS_length, one_length]; omega) ht fun t' k hk' => ?_
  refine ⟨fun t1 tt1 e => ?_, ⟨_, _, rfl, fun _ _ e => e⟩⟩
  have e1 : mkS t = mkS t1 := by injection e
  rw [mkS_inj] at e1
  subst e1
  exact ⟨t', rfl⟩
theorem sg_lf {n : Nat} (h : ((⟨#[n]⟩ : Str) == Str.ofString "\n") = true) : n = 10 := by
  have e : Str.ofString "\n" = ⟨#[10]⟩ := by decide
  rw [e, beq_one] at h; exact of_decide_eq_true h
theorem sg_nlf {n : Nat} (h : ((⟨#[n]⟩ : Str) == Str.ofString "\n") = false) : n ≠ 10 := by
  have e : Str.ofString "\n" = ⟨#[10]⟩ := by decide
  rw [e, beq_one] at h; exact of_decide_eq_false h
theorem pow81 {l : List Nat} {i : Nat} (h : l.count 10 ≤ 4) : 3 ^ (l.take i).count 10 ≤ 81 := by
  have h1 : (l.take i).count 10 ≤ l.count 10 := (List.take_sublist i l).count_le 10
  have : (l.take i).count 10 ≤ 4 := Nat.le_trans h1 h
  exact Nat.le_trans (Nat.pow_le_pow_right (by decide) this) (by decide)
theorem I4.fold {l : List Nat} {cw la la' : Addr} {i nr nr' : Nat} {vs ys : List Value} {ls vf vb : List (List Nat)} {fi bi : Int} {ow ow' : Obj} {t1 t2 t1' t2' tw : Tok} (h : I4 l cw i ⟨la, nr, vs, ls, vf, vb, fi, bi, ow, t1, t2⟩) (hi : l[i]? = some 10) (h13 : ∀ c ∈ l, c ≠ 13) (hY : StrsAre ys ((addE3 ls).map mkS))
    (ho : ow'.data = .cell (some (.str (mkS (escL (l.take i) ++ escC 10)) tw))) (ne : @Ne Nat la' cw) : I4 l cw (i + 1) ⟨la', nr', ys, addE3 ls, addC 10 vf ++ (vf ++ vb).map (· ++ [13, 10]), addC 13 (vf ++ vb), 2 * fi + bi, fi + bi, ow', t1', t2'⟩ := by
  have e : l.take (i + 1) = l.take i ++ [10] := by rw [List.take_add_one, hi]; rfl
  have h13' : ∀ k ∈ l.take i, k ≠ 13 := fun k hk => h13 k (List.mem_of_mem_take hk)
  have a1 := h.hf
  have a2 := h.hb
  have a3 := h.h1
  have a4 := h.hn
  dsimp only at a1 a2 a3 a4
  refine ⟨hY, by rw [e]; exact h.hc.fold, ⟨tw, ?_⟩, ?_, ?_, ?_, ?_, ?_, ne⟩
  · rw [e, escL_snoc h13' (by decide)]; exact ho
  · show (addE3 ls).length = _
    rw [e, List.count_append]
    have : (addE3 ls).length = ls.length * 3 := by unfold addE3; rw [List.length_flatMap]; simp only [List.length_cons, List.length_nil]; rw [List.map_const', List.sum_replicate_nat]
    rw [this, a4]; rfl
  · dsimp only; simp only [addC, List.length_append, List.length_map]; omega
  · dsimp only; simp only [addC, List.length_append, List.length_map]; omega
  · dsimp only; simp only [addC, List.length_append, List.length_map]; omega
  · intro _; dsimp only; simp only [addC, List.length_append, List.length_map]; omega
theorem I4.sign {l : List Nat} {cw la la' : Addr} {i nr nr' n : Nat} {vs ys : List Value} {ls vf vb : List (List Nat)} {fi bi : Int} {ow ow' : Obj} {t1 t2 t1' t2' tw : Tok} (h : I4 l cw i ⟨la, nr, vs, ls, vf, vb, fi, bi, ow, t1, t2⟩) (hi : l[i]? = some n) (h13 : ∀ c ∈ l, c ≠ 13) (hn : n ≠ 10) (hc : noCtl l) (hd : l.head? = some 10) (hY : StrsAre ys ((addC n ls).map mkS))
    (ho : ow'.data = .cell (some (.str (mkS (escL (l.take i) ++ escC n)) tw))) (ne : @Ne Nat la' cw) : I4 l cw (i + 1) ⟨la', nr', ys, addC n ls, addC n (vf ++ vb), [], fi + bi, 0, ow', t1', t2'⟩ := by
  have e : l.take (i + 1) = l.take i ++ [n] := by rw [List.take_add_one, hi]; rfl
  have h13' : ∀ k ∈ l.take i, k ≠ 13 := fun k hk => h13 k (List.mem_of_mem_take hk)
  have hm : n ∈ l := List.mem_of_getElem? hi
  have a1 := h.hf
  have a2 := h.hb
  have a3 := h.h1
  have a4 := h.hn
  have a5 := h.h2
  have hi1 : 1 ≤ i := by
    cases i with
    | succ i => omega
    | zero => cases l with
      | nil => cases hd
      | cons a r => simp at hi hd; omega
  dsimp only at a1 a2 a3 a4 a5
  refine ⟨hY, by rw [e]; exact h.hc.sign (h13 n hm) hn (hc n hm), ⟨tw, ?_⟩, ?_, ?_, ?_, ?_, ?_, ne⟩
  · rw [e, escL_snoc h13' (h13 n hm)]; exact ho
  · show (addC n ls).length = _
    rw [e, List.count_append, List.count_eq_zero_of_not_mem (a := 10) (l := [n]) (by simpa using fun e : 10 = n => hn e.symm)]
    simpa [addC] using a4
  · dsimp only; simp only [addC, List.length_append, List.length_map]; omega
  · rfl
  · dsimp only; simp only [addC, List.length_append, List.length_map, List.length_nil]; omega
  · intro _; dsimp only; simp only [addC, List.length_append, List.length_map, List.length_nil]; have := a5 hi1; omega
theorem kts_memX {env : Env} {L b : Addr} {outer : List Env} (hf : env.frame = some L) (hm : b ∈ (env :: outer).filterMap (·.frame)) : b = L ∨ b ∈ outer.filterMap (·.frame) := by
  obtain ⟨env', he, hf'⟩ := List.mem_filterMap.mp hm
  rcases List.mem_cons.mp he with rfl | he
  · exact .inl (Option.some.inj (hf.symm.trans hf')).symm
  · exact .inr (List.mem_filterMap.mpr ⟨env', he, hf'⟩)
theorem callX_PT {prog : Program} {w : World} {K : Frag} {p : Program} {loose : List Str} {mean : ExcName → Option Value} {mg mb : Str → Option Value} {d u : Nat} {f : Addr} {vs : List Value} {R : Value → Prop} {dp un : Nat} {gd : Option (List Code)} {fr : List Env} {base g₀ g : Heap} {L : Addr} {m : Str → Option Value} {news : List (Addr × Obj)} {env : Env} {s : Shared} {Q E : Value → Shared → Prop}
    (C : PT prog w K p loose mean mg mb d u f vs R) (B : Below (atop dp un gd fr) base fr g) (XB : K.In base) (TB : Top p loose mean mg mb base) (D : KtsDicts (fr.filterMap (·.frame)) g) (T0 : KtsTurn (fr.filterMap (·.frame)) g₀ g) (F : Fr g L s.heap m) (N : News g L s.heap news)
    (hd : dp + 1 + d < recursionLimit) (hu : un + 3 + u < cLine) (ht : 0 < s.toks)
    (h : ∀ v g' h' tk', R v → Below (atop dp un gd fr) base fr g' → K.In g' → Top p loose mean mg mb g' → KtsDicts (fr.filterMap (·.frame)) g' → KtsTurn (fr.filterMap (·.frame)) g₀ g' → Fr g' L h' m → News g' L h' news → 0 < tk' → Q v { s with heap := h', toks := tk' }) (hf : env.frame = some L) (hk : env.scope.kind = .function) :
    wpAny (model prog w) ((atop dp un gd fr).deeper env) (call (.ref f) vs) Q E s := by
  obtain ⟨oL, es, ep, hL, hLd, hLk, hLf⟩ := F.ns
  refine C (dp + 1) (un + 3) gd (env :: fr) base s Q E (pushX B F hf hk) XB TB (fun b hb => ?_) hd hu ht fun v g'' h' tk' r T' hst ht' => ?_
  · rcases kts_memX hf hb with rfl | hb
    · exact ⟨oL, es, ep, hL, hLd⟩
    · obtain ⟨o, es', n', ho', hd'⟩ := D b hb
      exact ⟨o, es', n', F.keep b o ho', hd'⟩
  have nL₀ : g.get? L = none := kts_self F
  obtain ⟨sl, hs⟩ := T'.up hL
  obtain ⟨T₁, S₁⟩ := kts_turn_at (h := h') (fs := fr.filterMap (·.frame)) (g := g)
    (fun b hb => by
      obtain ⟨_, o, ho', _⟩ := B.frames.mem hb
      exact ⟨o, ho'⟩)
    (fun b o e nmem => hst b o (T'.other b o (F.keep b o e) (fun q => by
      rcases kts_memX hf q with z | z
      · rw [z, nL₀] at e
        cases e
      · exact nmem z)))
    (fun b o e hm => by
      obtain ⟨sl', hs'⟩ := T'.up (F.keep b o e)
      exact ⟨sl', hst _ _ hs'⟩)
  have B₃ : Below (atop dp un gd fr) base fr (ktsHeap h' (fr.filterMap (·.frame)) g) := ⟨B.stack, fun b o e => T₁.other b o (B.stays b o e) (fun hm => by
    rw [(B.frames.mem hm).1] at e
    cases e), B.frames.of_keeps fun b o e _ => by
    obtain ⟨sl', hs'⟩ := T₁.up e
    exact ⟨_, hs', rfl⟩⟩
  refine h v _ h' tk' r B₃ (XB.keeps B₃.stays) (TB.keeps B₃.stays) (D.turn T₁) (T0.trans T₁) ⟨⟨_, es, ep, hst _ _ hs, hLd, hLk, hLf⟩, S₁, by rw [T₁.size]; exact F.above⟩ (fun q hq => ⟨hst _ _ (T'.other _ _ (N q hq).1 fun z => ?_), (N q hq).2.1, T₁.none_ _ (N q hq).2.2⟩) ht'
  rcases kts_memX hf z with z | z
  · exact (N q hq).2.1 z
  · obtain ⟨_, o, ho', _⟩ := B.frames.mem z
    rw [(N q hq).2.2] at ho'; cases ho'
theorem place_nat {l : List Nat} {n : Int} : ∃ pl : Nat, n.fmod (((mkS l).length : Int) + 1) = (pl : Int) ∧ pl ≤ l.length := by
  rw [mkS_length]
  have h0 := Int.fmod_nonneg_of_pos n (b := (l.length : Int) + 1) (by omega)
  have h1 := Int.fmod_lt_of_pos n (b := (l.length : Int) + 1) (by omega)
  exact ⟨(n.fmod ((l.length : Int) + 1)).toNat, by omega, by omega⟩
theorem turn0F {g g' h : Heap} {L : Addr} {m : Str → Option Value} (T : KtsTurn [] g g') (F : Fr g' L h m) : Fr g L h m := ⟨F.ns, fun b o e => F.keep b o (T.other b o e (by simp)), by rw [← T.size]; exact F.above⟩
theorem turn0N {g g' h : Heap} {L : Addr} {news : List (Addr × Obj)} (T : KtsTurn [] g g') (N : News g' L h news) : News g L h news := fun q hq => ⟨(N q hq).1, (N q hq).2.1, by
  cases e : g.get? q.1 with
  | none => rfl
  | some o => have := (N q hq).2.2; rw [T.other _ _ e (by simp)] at this; cases this⟩
theorem posSub {prog : Program} {w : World} {A : Around} {E : Value → Shared → Prop} {s : Shared} {h₀ : Heap} {L D : Addr} {news : List (Addr × Obj)} {vs : List Value} {n : Nat} {k : Int} {u : Tok} {x : Value} {value slice : PySem.Expr} {Q : Value → Shared → Prop} (N : News h₀ L s.heap news) (hm : (D, listOf vs.toArray n) ∈ news) (h0 : 0 ≤ k) (h1 : k < 1000) (hx : vs[k.toNat]? = some x) (h : Q x s)
    (hs : subscripted slice false (.ref D) (.int k u) = operate [.ref D, .int k u] (getItem (.ref D) (.int k u)) := by with_unfolding_all rfl) :
    wpAny (model prog w) A (subscriptTail value slice (.ref D) (.int k u)) Q E s := by
  refine subscriptTail_builtinR (Heap.IsList.typeIs (PySem.IsL.isList (n := n) (N _ hm).1)) list_getitem_lookup (x := x) (wpAny_getItem_list (PySem.IsL.isList (n := n) (N _ hm).1) h0 (by omega) (by simpa using hx) ⟨rfl, h⟩) hs
theorem ctl29 {ys : List Value} {k : Int} (h : StrsAre ys (((List.range' 0 32).filter ctl).map fun c => mkS [c])) (h0 : 0 ≤ k) (h1 : k < 29) : ∃ c t, ys[k.toNat]? = some (.str (mkS [c]) t) ∧ ctl c = true := by
  have hl : ((List.range' 0 32).filter ctl).length = 29 := by decide
  have hyl : ys.length = 29 := by rw [h.length, List.length_map, hl]
  have hk : k.toNat < ys.length := by omega
  obtain ⟨y, t, hy, e⟩ := strs_at4 h (List.getElem?_eq_getElem hk)
  rw [List.getElem?_map] at hy
  cases e2 : ((List.range' 0 32).filter ctl)[k.toNat]? with
  | none => rw [e2] at hy; cases hy
  | some c =>
    rw [e2] at hy
    have hy : mkS [c] = y := Option.some.inj hy
    subst hy
    exact ⟨c, t, by rw [List.getElem?_eq_getElem hk, e], (List.mem_filter.mp (List.mem_of_getElem? e2)).2⟩
theorem filt_strs {q : Str → Bool} : ∀ {ws : List Value} {ss : List Str}, StrsAre ws ss → (ws.filter fun v => match v with | .str x _ => q x | _ => false).length = (ss.filter q).length
  | _, _, .nil => rfl
  | _, _, .cons y t r => by
    rw [List.filter_cons, List.filter_cons]
    have ih := filt_strs (q := q) r
    cases h : q y with
    | true => simp [h, ih]
    | false => simp [h, ih]
theorem filt_len {ws ys : List Value} {ss : List Str} {l : List Nat} {ls vf vb : List (List Nat)} (hW : StrsAre ws ss) (hP : ss.Perm (metT (ls.map mkS))) (hC : Cnt l ls vf vb) (hl : ∀ c ∈ l, c ≠ 13)
    (hF : Paired (fun v y => y = v) (ws.toArray.toList.filter fun v => match v with | .str x _ => escS x == mkS (escL l) | _ => false) ys) : ys.length = vf.length + vb.length := by
  rw [← hF.length, ← hC.count hl hP]
  exact filt_strs hW
set_option maxHeartbeats 8000000 in
theorem law04 : PySem.Challenge.rw_dm0240_04.Holds := hd04 (by
  w_on
  k_go0
  refine wpAny_noRaise ?_
  rename Shared => s1
  rename Top _ _ _ _ _ _ => T
  rename Frag.In _ _ => KX
  rename Heap.IsList _ _ _ => hL
  rename IntsAre _ _ => hI
  rename Below _ _ _ _ => B0
  rename Fr _ _ _ _ => F0
  rename News _ _ _ _ => N0
  have hlen := hI.length
  (try k_fold)
  walk_at "go"
  refine go_on (wpAny_For (wpAny_pos (by walk_at "toks") ?_))
  walk_at "go"
  rename Fr _ _ _ _ => F1
  rename News _ _ _ _ => N1
  obtain ⟨kn, hkn, hk6⟩ := min_nat6 _
  rw [hkn]
  refine go_on (range1_rows F1 N1 ?_)
  clear F1 N1
  intro h1 tk1 ta tb tc R1 F1 N1 _ htk1
  dsimp only at htk1 ⊢
  refine for_range (n := kn) (σ := List Nat × Tok) (fun c => [(_, _), (_, _)]) (fun c => [(Str.ofString "text", .str (mkS c.1) c.2)]) [Str.ofString "number"]
        (fun i c => Tx i c.1) ([10, 10], ?q1) R1 (small_one (by decide) (by decide) (by omega) (by omega)) (by rw [rangeSize_nat]; omega) rfl rfl rfl F1 N1 htk1 ?d1 ?d2 ?turnt ?donet
  case d1 => kst_all
  case d2 => exact Tx.start
  case turnt =>
    --BEGIN A
    clear F1 N1 R1
    rintro ⟨l, tl⟩ i ti u h2 tk2 I oI hi hT htk2 hne2 F2 N2
    dsimp only at hT F2 N2
    dsimp only [AllNe] at hne2
    have hll : l.length = 2 + i := hT.len
    have hml : (mkS l).length = l.length := mkS_length l
    (try k_fold)
    walk_at "go"
    rename Fr _ _ _ _ => F3
    rename News _ _ _ _ => N3
    refine go_on (sliceH (s := ⟨_, _, _, _, _⟩) (hL.at fun o e => F3.keep _ o e) (.int _ _) .none (.int _ _) (by decide) (fun h3 D3 hst3 hD3 => ?_) (by with_unfolding_all rfl) (by intro _; with_unfolding_all rfl) (by rw [List.size_toArray, sizeLine_eq]; omega))
    obtain ⟨F4, N4⟩ := fr_on F3 N3 hst3
    clear F3 N3 hst3
    dsimp only
    walk_at "go"
    refine go_on (wpAny_pos (by walk_at "toks") (sumH (s := ⟨_, _, _, _, _⟩) rfl (vs := (slicePick _ _ _ _).toList) hD3 (hI.pick _ _ _) fun h5 tk5 num tn hst5 htk5 => ?_))
    obtain ⟨F5, N5⟩ := fr_on F4 N4 hst5
    clear F4 N4 hst5 hD3
    dsimp only at htk5 ⊢
    walk_at "go"
    · rename Fr _ _ _ _ => F6
      rename News _ _ _ _ => N6
      exact SEnd.mk (l ++ (Str.ofString "\n").cps.toList, _) F6 N6 (by walk_at "se_in") (by walk_at "se_ne") (by walk_at "se_all") (by walk_at "se_same") (by rw [lf_cps]; exact hT.sign (by decide) (by decide) (.inl (lf_room (by assumption))))
    iterate 2
      · rename Fr _ _ _ _ => F6
        rename News _ _ _ _ => N6
        refine go_on (callX_PF (sign04 _ _ _ _ _ _) B0 KX T F6 N6 (by decide) (by decide) (by walk_at "toks") ?_ rfl rfl)
        clear F6 N6
        rintro v h6 tk6 ⟨c, t6, hc1, hc2, hc3, rfl⟩ F6 N6 htk6
        dsimp only
        walk_at "go"
        rename Fr _ _ _ _ => F7
        rename News _ _ _ _ => N7
        exact SEnd.mk (l ++ [c], _) F7 N7 (by walk_at "se_in") (by walk_at "se_ne") (by walk_at "se_all") (by walk_at "se_same") (hT.sign hc2 hc1 (.inr hc3))
    --END A
  case donet =>
    clear F1 N1 R1
    rintro ⟨l, tl⟩ u h2 tk2 hT htk2 F2 N2
    dsimp only at hT F2 N2
    have hll : l.length = 2 + kn := hT.len
    have hml : (mkS l).length = l.length := mkS_length l
    (try k_fold)
    walk_at "go"
    rename_i oD _ _ _ hdict _ _ hl2 _ _ _ tt3 _ _ _ l1 _ hl1 _ _ _ _ _ _ _ _ _ _ _ _ D1 _ hD1 _ _ _ oW hW _ h3 F3 N3 tk3 htk3
    have N4 : News _ _ _ [(s1.heap.objs.size + 1 + 1, _), (l1, W.listOf #[Value.str (Str.ofString "") tt3] 0), (h2.objs.size, oD), (s1.heap.objs.size + 1, oW)] := kst_newsOf N3 (by
      intro p hp
      rcases List.mem_cons.mp hp with rfl | hp
      · exact .tail _ (.tail _ (.tail _ (.head _)))
      rcases List.mem_cons.mp hp with rfl | hp
      · exact .tail _ (.head _)
      rcases List.mem_cons.mp hp with rfl | hp
      · exact .tail _ (.tail _ (.head _))
      · rw [List.mem_singleton.mp hp]; exact .tail _ (.tail _ (.tail _ (.tail _ (.head _)))))
    clear N3
    refine go_on (wpAny_For ?_)
    walk_at "go"
    refine go_on ?_
    refine for_strC (σ := St4) (fun c => [(c.la, W.listOf c.vs.toArray c.nr), (h2.objs.size, oD), (s1.heap.objs.size + 1, c.ow)]) (fun c => [(Str.ofString "texts", .ref c.la), (Str.ofString "free", .int c.fi c.t1), (Str.ofString "bare", .int c.bi c.t2)]) []
      (I4 l (s1.heap.objs.size + 1)) ⟨l1, 0, [Value.str (Str.ofString "") tt3], [[]], [[]], [], 1, 0, oW, ?r1, ?r2⟩ rfl rfl rfl rfl F3 N4 ⟨_, by assumption⟩ ?nc htk3 ?k1 ?k2 ?turn4 ?done4
    case nc => exact ⟨by (show @Ne Nat l1 (s1.heap.objs.size + 1 + 1)); omega, by (show @Ne Nat h2.objs.size (s1.heap.objs.size + 1 + 1)); omega, by (show @Ne Nat (s1.heap.objs.size + 1) (s1.heap.objs.size + 1 + 1)); omega, trivial⟩
    case k1 => kst_all
    case k2 =>
      have hq1 : @Ne Nat l1 (s1.heap.objs.size + 1) := by omega
      exact I4.start hW hq1
    case turn4 =>
      clear F3 N4
      rintro ⟨la, nr, vs, ls, vf, vb, fi, bi, ow, t1, t2⟩ oS i n tn u h4 tk4 I oI hi hV hoS htk4 hneI hneC F4 N4
      dsimp only at F4 N4
      dsimp only [AllNe] at hneI hneC
      obtain ⟨tw, how⟩ := hV.how
      dsimp only at how
      have hne1 : @Ne Nat la (s1.heap.objs.size + 1) := hV.ne
      have hi8 : i < 8 := by have : i < l.length := (List.getElem?_eq_some_iff.mp hi).1; omega
      have hel : (escL (l.take i)).length ≤ 50 := by have := escL_len (l.take i); rw [List.length_take] at this; omega
      (try k_fold)
      walk_at "go"
      --BEGIN B
      · have en : n = 10 := sg_lf (by assumption)
        subst en
        rename Fr _ _ _ _ => F5
        rename News _ _ _ _ => N5
        refine go_on (alcomp_nest (us := [[10], [13], [13, 10]]) (ls := ls) rfl F5 N5 (.tail _ (.tail _ (.head _))) (fun Q' hq => wpAny_Name (wpAny_loadName_local rfl rfl F5.ns rfl hq) (by decide)) rfl hV.hs (by walk_at "toks") (by show ls.length * 3 ≤ 900; have h8 := hV.hn; have h9 := pow81 (i := i) hT.cnt; dsimp only at h8; omega) (by decide) ?ltl (by decide) rfl (by decide) rfl (by decide) rfl rfl (by decide) (by decide) (by decide) rfl rfl (fun _ _ => rfl) (fun e s₂ E h0 => ends_list h0) ?cdone)
        case ltl =>
          intro t ht
          have h8 := (hV.hc.hn t ht).2
          rw [List.length_take] at h8
          omega
        case cdone =>
          intro D5 h5 tk5 ys n5 F6 N6 hne6 hY htk5
          clear F5 N5
          have hne6 := allNe_iff.mpr hne6
          dsimp only [AllNe] at hne6
          dsimp only
          walk_at "go"
          rename Fr _ _ _ _ => F7
          rename News _ _ _ _ => N7
          rename Obj => oN
          exact SEnd.mk ((⟨D5, n5, ys, addE3 ls, addC 10 vf ++ (vf ++ vb).map (· ++ [13, 10]), addC 13 (vf ++ vb), 2 * fi + bi, fi + bi, oN, _, _⟩ : St4), oS) F7 N7 (by walk_at "se_in") (fun q hq => by rw [List.mem_singleton.mp hq]; refine ⟨?_, ?_, ?_, ?_, trivial⟩ <;> ((show @Ne Nat _ _); (try dsimp only); omega)) (by walk_at "se_all") (by walk_at "se_same")
            ⟨hV.fold hi hT.no13 hY (by assumption) (by omega), ⟨_, hoS⟩, by refine ⟨?_, ?_, ?_, trivial⟩ <;> ((show @Ne Nat _ _); (try dsimp only); omega)⟩
      --END B
      --BEGIN C
      · have en : n ≠ 10 := sg_nlf (by assumption)
        have hm : n ∈ l := List.mem_of_getElem? hi
        rename Fr _ _ _ _ => F5
        rename News _ _ _ _ => N5
        refine go_on (alcomp_list (fun _ => true) (fun v y => ∀ (t : List Nat) tt, v = .str (mkS t) tt → ∃ t', y = .str (mkS (t ++ [n])) t') rfl F5 N5 (.tail _ (.tail _ (.head _))) (fun Q' hq => wpAny_Name (wpAny_loadName_local rfl rfl F5.ns rfl hq) (by decide)) rfl (by rw [sizeLine_eq, hV.hs.length, List.length_map]; have h8 := hV.hn; have h9 := pow81 (i := i) hT.cnt; dsimp only at h8 ⊢; omega) (by walk_at "toks") rfl (by decide) rfl (by decide) rfl rfl rfl ?ctest ?celt ?cdone)
        case ctest =>
          intro C v s₃ m₃ _ _ _ _ _
          exact wpAny_tests_nil ⟨rfl, ⟨_, _, rfl, fun _ _ e => e⟩⟩
        case celt =>
          intro C v s₃ m₃ hv _ hn3 hm3 hst3 ht3
          obtain ⟨j, hj⟩ := List.getElem?_of_mem hv
          obtain ⟨y, ty, hy, rfl⟩ := strs_at4 hV.hs hj
          obtain ⟨t, ht, rfl⟩ : ∃ t ∈ ls, mkS t = y := List.mem_map.mp (List.mem_of_getElem? hy)
          have h8 := (hV.hc.hn t ht).2
          rw [List.length_take] at h8
          exact elt_add hn3 hm3 ⟨oS, hst3 _ _ (N5.get (.tail _ (.head _))), hoS⟩ (by omega) ht3 rfl rfl rfl rfl (by decide) (by decide)
        case cdone =>
          intro D5 h5 tk5 ys n5 F6 N6 hne6 hP5 htk5
          clear F5 N5
          rw [filter_true] at hP5
          have hY := paired_addC hV.hs hP5
          have hne6 := allNe_iff.mpr hne6
          dsimp only [AllNe] at hne6
          dsimp only
          walk_at "go"
          rename PyProof.V.Flat _ _ => hv
          rw [get3 n (hT.no13 n hm)] at hv
          obtain ⟨tv, rfl⟩ := PyProof.V.Flat.str_inv hv
          have hec : (escC n).length ≤ 5 := escC_len n
          dsimp only
          walk_at "go"
          rename Fr _ _ _ _ => F7
          rename News _ _ _ _ => N7
          rename Obj => oN
          exact SEnd.mk ((⟨D5, n5, ys, addC n ls, addC n (vf ++ vb), [], fi + bi, 0, oN, _, _⟩ : St4), oS) F7 N7 (by walk_at "se_in") (fun q hq => by rw [List.mem_singleton.mp hq]; refine ⟨?_, ?_, ?_, ?_, trivial⟩ <;> ((show @Ne Nat _ _); (try dsimp only); omega)) (by walk_at "se_all") (by walk_at "se_same")
            ⟨hV.sign hi hT.no13 en hT.noc hT.hd hY (by assumption) (by omega), ⟨_, hoS⟩, by refine ⟨?_, ?_, ?_, trivial⟩ <;> ((show @Ne Nat _ _); (try dsimp only); omega)⟩
      --END C
    case done4 =>
      clear F3 N4
      rintro ⟨la, nr, vs, ls, vf, vb, fi, bi, ow, t1, t2⟩ oS u4 h4 tk4 hV hoS hneC htk4 F4 N4
      dsimp only at F4 N4
      dsimp only [AllNe] at hneC
      obtain ⟨tw, how⟩ := hV.how
      dsimp only at how
      rw [mkS_length, List.take_length] at how
      have hC := hV.hc
      dsimp only at hC
      rw [mkS_length, List.take_length] at hC
      have h2v := hV.h2 (by rw [mkS_length]; omega)
      dsimp only at h2v
      have hne1 : @Ne Nat la (s1.heap.objs.size + 1) := hV.ne
      have hel : (escL l).length ≤ 50 := by have := escL_len l; omega
      (try k_fold)
      walk_at "go"
      refine go_on (lcomp_any (cl := [(Str.ofString "written", s1.heap.objs.size + 1)]) (fun v => match v with | .str x _ => escS x == mkS (escL l) | _ => false) (fun v y => y = v) rfl rfl (by decide) rfl (by decide) rfl (by walk_at "toks") ?_)
      refine wpAny_pos (by walk_at "toks") ?_
      walk_at "go"
      have hlsl : ls.length ≤ 81 := by have h8 := hV.hn; dsimp only at h8; have h9 := pow81 (i := (mkS l).length) hT.cnt; omega
      have hvsl : vs.length = ls.length := by have := hV.hs.length; rw [List.length_map] at this; exact this
      refine go_on (set_TN F4 N4 (.tail _ (.head _)) hV.hs rfl (by rw [hvsl]; exact Nat.lt_of_le_of_lt (Nat.succ_le_succ hlsl) (by decide)) (by walk_at "toks") ?_)
      intro h5 tk5 DS F5 N5 TS htk5
      dsimp only at TS
      have hmt1 : 2 ≤ (metT (ls.map mkS)).length := by
        have h8 := hC.count hT.no13 (List.Perm.refl (metT (ls.map mkS)))
        have h9 := List.length_filter_le (fun x => escS x == mkS (escL l)) (metT (ls.map mkS))
        omega
      have hmt2 : (metT (ls.map mkS)).length ≤ 81 := by
        have h8 := metT_len (ls.map mkS)
        rw [List.length_map] at h8
        omega
      dsimp only
      walk_at "go"
      rename Fr _ _ _ _ => F6
      rename News _ _ _ _ => N6
      refine go_on (sorted_TN F6 N6 TS rfl (metT_nodup _) hmt1 (by rw [sizeLine_eq]; omega) (by walk_at "toks") ?_)
      clear F6 N6 F4 N4
      intro h7 d7 tk7 D7 ws ss e7 F7 N7 hWS hPm htk7
      clear TS
      have hwl : ws.length ≤ 81 := by rw [hWS.length, hPm.length_eq]; exact hmt2
      have hss : ∀ x ∈ ss, ∃ t ∈ ls, mkS t = x := fun x hx => List.mem_map.mp (metT_mem.mp (hPm.mem_iff.mp hx))
      dsimp only
      intro _
      refine ⟨D7, ws.toArray, rfl, News.isList N7 (.head _), by rw [sizeLine_eq, List.size_toArray]; omega, htk7, ?ft, ?fe, ?fd⟩
      case ft =>
        intro C v s₃ m₃ hv hn3 hm3 hst3 hC3 ht3
        obtain ⟨j, hj⟩ := List.getElem?_of_mem (by simpa using hv : v ∈ ws)
        obtain ⟨x, tx, hx, rfl⟩ := strs_at4 hWS hj
        obtain ⟨t, ht, rfl⟩ := hss x (List.mem_of_getElem? hx)
        have h8 := hC.hn t ht
        have h9 := h8.2
        refine wpAny_tests_one (wpAny_isTrue_Compare1 ?_)
        refine comp_call1 (esc04 _ _ _ _ (mkS t) _ (by rw [mkS_length]; omega) (hasCtl_of h8.1)) (below_on (pushX B0 F7 rfl rfl) hst3) (KX.keeps fun b o e => hst3 b o (F7.keep b o e)) (T.keeps fun b o e => hst3 b o (F7.keep b o e)) (by decide) (by decide) ht3 hn3 hm3 rfl (by k_is) (by k_is) rfl rfl rfl (by decide) (by decide) fun y s' hR hK => ?_
        obtain ⟨t', rfl⟩ := hR
        obtain ⟨h9', tk9', rfl, hk9⟩ := hK
        refine wpAny_Name (wpAny_loadName_cell (c := s1.heap.objs.size + 1) rfl rfl rfl ⟨ow, hk9 _ _ (hst3 _ _ (N7.get (.tail _ (.tail _ (.tail _ (.tail _ (.head _))))))), how⟩ ?_) (by decide)
        refine eq_str ?_
        exact wpAny_truthy_bool ⟨rfl, ⟨_, _, rfl, hk9⟩⟩
      case fe =>
        intro C v s₃ m₃ hv _ hn3 hm3 hst3 hC3 ht3
        exact comp_name hn3 hm3 rfl rfl (by decide) ⟨rfl, ⟨_, _, rfl, fun _ _ e => e⟩⟩
      case fd =>
        intro D8 h8 tk8 ys8 n8 hD8 ho8 hP8 hst8 htk8
        obtain ⟨F8, N8, hne8⟩ := news_grow F7 N7 hst8 hD8 ho8
        have hlen8 := filt_len hWS hPm hC hT.no13 hP8
        have hys8 : ys8.length ≤ 81 := by rw [← hP8.length]; exact Nat.le_trans (List.length_filter_le _ _) (by simpa using hwl)
        clear F7 N7 hP8
        dsimp only
        walk_at "go"
        refine lenL N8 (.head _) (by omega) (by walk_at "toks") ?_
        intro t9 k9 hk9
        dsimp only
        have hcmp : ((ys8.length : Int) != fi + bi) = false := by
          have q1 := hV.hf
          have q2 := hV.hb
          dsimp only at q1 q2
          rw [hlen8, q1, q2]; simp
        walk_at "go"
        refine go_on (alcomp_range (fun v => match v with | .int n _ => ctl n.toNat | _ => false) (fun v y => ∃ (i : Nat) (t t' : Tok), v = .int (i : Int) t ∧ y = .str ⟨#[i]⟩ t') 32 rfl F8 N8 ?ri rfl (by decide) (by walk_at "toks") rfl (by decide) rfl (by decide) rfl rfl rfl ?rt ?re ?rd)
        case ri =>
          intro Q' hq
          refine wpAny_pos (by walk_at "toks") ?_
          walk_at "go"
          rename Fr _ _ _ _ => F9
          rename News _ _ _ _ => N9
          refine go_on (range1_rows F9 N9 ?_)
          intro h10 tk10 ta tb tc R10 F10 N10 _ htk10
          exact hq _ _ _ _ _ _ R10 F10 N10 htk10
        case rt =>
          intro C i t s₃ m₃ hi hn hm hst ht
          exact test_ctl hi hn hm rfl rfl (by decide)
        case re =>
          intro C i t s₃ m₃ hi hp hn hm hst ht
          exact wpAny_mono (elt_chr hi (KX.keeps hst) (T.keeps hst) hn hm rfl rfl (by k_is) rfl rfl rfl (by decide)) (fun y s₄ hy => ⟨⟨i, t, hy.1.choose, rfl, hy.1.choose_spec⟩, hy.2⟩) fun _ _ e => e
        case rd =>
          intro D9 h9 tk9 vs9 ys9 n9 F9 N9 hne9 hl9 hj9 hP9 htk9
          have hS9 := ctl_signs (k := 0) (fun j v e => by rw [Nat.zero_add]; exact hj9 j v e) hP9
          rw [hl9] at hS9
          clear F8 N8 hne8 hP9 hj9
          dsimp only
          have hmt : (mkS l).length = l.length := mkS_length l
          walk_at "go"
          refine go_on (wpAny_pos (by walk_at "toks") (sumH rfl (hL.at fun o e => F9.keep _ o e) hI fun h10 tk10 num1 tn1 hst10 htk10 => ?_))
          obtain ⟨F10, N10⟩ := fr_on F9 N9 hst10
          clear F9 N9 hst10
          dsimp only at htk10 ⊢
          walk_at "go"
          obtain ⟨cc, tcc, hcc1, hcc2⟩ := ctl29 (k := num1.fmod 29) hS9 (Int.fmod_nonneg_of_pos _ (by decide)) (Int.fmod_lt_of_pos _ (by decide))
          refine go_on (posSub N10 (.head _) (Int.fmod_nonneg_of_pos _ (by decide)) (Int.lt_trans (Int.fmod_lt_of_pos _ (by decide)) (by decide)) hcc1 ?_)
          dsimp only
          walk_at "go"
          refine go_on (wpAny_pos (by walk_at "toks") (sumH rfl (hL.at fun o e => F10.keep _ o e) hI fun h11 tk11 num2 tn2 hst11 htk11 => ?_))
          obtain ⟨F11, N11⟩ := fr_on F10 N10 hst11
          clear F10 N10 hst11 hcc1 hS9
          dsimp only at htk11 ⊢
          obtain ⟨pl, hpl, hpl2⟩ := place_nat (l := l) (n := num2.fdiv 29)
          walk_at "go"
          rename Fr _ _ _ _ => F12
          rename News _ _ _ _ => N12
          simp only [hpl] at F12 ⊢
          rw [slice_to (x := mkS l) (n := pl) (by rw [mkS_length]; exact hpl2), mkS_toList]
          have hl0 : [cc].length ≤ 1 := Nat.le_refl 1
          have hl1 : (l.take pl).length ≤ 8 := by rw [List.length_take]; omega
          have hl2 : (l.drop pl).length ≤ 8 := by rw [List.length_drop]; omega
          walk_at "go"
          rw [slice_fr (x := mkS l) (n := pl) (by rw [mkS_length]; exact hpl2), mkS_toList]
          walk_at "go"
          rename Fr _ _ _ _ => F13
          rename News _ _ _ _ => N13
          refine go_on (callX_PT (refused04 _ _ _ _ (mkS (l.take pl ++ [cc] ++ l.drop pl)) _ (by rw [mkS_length, List.length_append, List.length_append]; omega) (by rw [hasCtl_mk, List.any_append, List.any_append]; simp [hcc2])) B0 KX T ktsDicts_nil KtsTurn.refl F13 N13 (by decide) (by decide) (by walk_at "toks") ?_ rfl rfl)
          rintro v g14 h14 tk14 rfl B14 X14 T14 D14 TT14 F14 N14 htk14
          have F15 := turn0F TT14 F14
          have N15 := turn0N TT14 N14
          clear F13 N13 F14 N14 B14 X14 T14 D14 TT14
          dsimp only
          walk_at "go"
          refine replaceT (by walk_at "toks") (by walk_at "toks") (by walk_at "toks") (by decide) (by rw [mkS_length, ll4_0]; omega) (by walk_at "toks") fun tr16 k16 hk16 => ?_
          rw [replace_drop]
          dsimp only
          have hfl : (l.filter (· != 10)).length ≤ 8 := Nat.le_trans (List.length_filter_le _ _) (by omega)
          walk_at "go"
          rename Fr _ _ _ _ => F16
          rename News _ _ _ _ => N16
          refine go_on (callX_PF (esc04 _ _ _ _ (mkS (l.filter (· != 10))) _ (by rw [mkS_length]; omega) (hasCtl_of fun c hc => hT.noc c (List.mem_filter.mp hc).1)) B0 KX T F16 N16 (by decide) (by decide) (by walk_at "toks") ?_ rfl rfl)
          clear F16 N16
          rintro v h17 tk17 ⟨t17, rfl⟩ F17 N17 htk17
          dsimp only
          walk_at "go"
          refine replaceT (by walk_at "toks") (by walk_at "toks") (by walk_at "toks") (by decide) (by rw [mkS_length, ll4_0]; omega) (by walk_at "toks") fun tr18 k18 hk18 => ?_
          rw [replace_drop]
          dsimp only
          have hEq : (escS (mkS (l.filter (· != 10))) == mkS ((escL l).filter (· != 10))) = true := by
            show (mkS (escL (l.filter (· != 10))) == mkS ((escL l).filter (· != 10))) = true
            rw [esc_drop hT.no13]; simp
          walk_at "go"
          rw [hEq]
          wrow_close)
end
end Mine

end

theorem PySem.Challenge.cw_dm0240_04_holds : PySem.Challenge.rw_dm0240_04.Holds :=
  Mine.law04
