import PyProof.Rows.All
import Wide.All
import OpenK.AllK
import Wide.FinOn
import PySem.Challenge.RW_dm0240_01
set_option Elab.async false
section
open PySem PySem.W PyProof.Rows PySem.Calls PySem.Builtin PySem.Builtin.Re
set_option Elab.async false
set_option maxRecDepth 100000
set_option maxHeartbeats 1000000
namespace Mine

/-- the control signs that the pattern finds -/
def ctl (c : Nat) : Bool := decide (c < 32) && c != 9 && c != 10 && c != 13

def reVals : Array Value := #[.int 14 0, .int 14 0, .int 4 0, .int 1 0, .int 1 0, .int 9 0, .int 4294957567 0, .int 0 0, .int 0 0, .int 0 0, .int 0 0, .int 0 0, .int 0 0, .int 0 0, .int 0 0, .int 13 0, .int 11 0, .int 9 0, .int 4294957567 0, .int 0 0, .int 0 0, .int 0 0, .int 0 0, .int 0 0, .int 0 0, .int 0 0, .int 0 0, .int 1 0]
def reCode : Array Nat := #[14, 14, 4, 1, 1, 9, 4294957567, 0, 0, 0, 0, 0, 0, 0, 0, 13, 11, 9, 4294957567, 0, 0, 0, 0, 0, 0, 0, 0, 1]

theorem ctl_bits (c : Nat) (hc : c < 32) : (4294957567 : Nat).testBit c = (c != 9 && c != 10 && c != 13) := by
  have : ∀ c : Fin 32, (4294957567 : Nat).testBit c.val = (c.val != 9 && c.val != 10 && c.val != 13) := by decide +kernel
  exact this ⟨c, hc⟩

theorem inSet_at (i : Nat) (hi : i = 5 ∨ i = 17) (c : Nat) (seen : Sre.Seen) : ∃ seen', Sre.inSet reCode c 28 i true seen = .ok (ctl c, seen') := by
  have key : ∀ i : Nat, (i = 5 ∨ i = 17) → ∀ seen, Sre.inSet reCode c 28 i true seen =
      (if (decide (c < 256) && (reCode.getD (i + (1 + c / 32)) 0).testBit (c % 32)) = true then .ok (true, seen.add 9) else .ok (false, (seen.add 9).add 0)) := by
    rintro i (rfl | rfl) seen
    · rfl
    · rfl
  rw [key i hi seen]
  have hb : (decide (c < 256) && (reCode.getD (i + (1 + c / 32)) 0).testBit (c % 32)) = ctl c := by
    by_cases h : c < 32
    · have e1 : c / 32 = 0 := by omega
      have e2 : c % 32 = c := by omega
      have e3 : reCode.getD (i + (1 + 0)) 0 = 4294957567 := by rcases hi with rfl | rfl <;> rfl
      rw [e1, e2, e3, ctl_bits c h]
      unfold ctl
      simp [h, show c < 256 by omega]
    · have hn : ctl c = false := by unfold ctl; simp [h]
      rw [hn]
      by_cases h2 : c < 256
      · have e1 : 1 ≤ c / 32 ∧ c / 32 ≤ 7 := by omega
        have : ∀ k : Fin 8, k.val ≠ 0 → reCode.getD (i + (1 + k.val)) 0 = 0 := by rcases hi with rfl | rfl <;> decide +kernel
        have e3 := this ⟨c / 32, by omega⟩ (by show c / 32 ≠ 0; omega)
        simp only at e3
        rw [e3]; simp
      · simp [h2]
  rw [hb]
  cases hcc : ctl c with
  | true => exact ⟨_, rfl⟩
  | false => exact ⟨_, rfl⟩

theorem admitted_spec (m : Sre.M) (hcode : m.code = reCode) (hlim : m.lim = m.text.size) : ∀ (fuel s : Nat) (seen : Sre.Seen), m.lim < fuel + s →
    (∃ seen', m.admitted fuel s seen = .ok (none, seen') ∧ ∀ j, s ≤ j → j < m.lim → ctl (m.text.getD j 0) = false) ∨
    (∃ j seen', m.admitted fuel s seen = .ok (some j, seen') ∧ j < m.lim ∧ ctl (m.text.getD j 0) = true)
  | 0, s, seen, h => .inl ⟨_, rfl, fun j h1 h2 => absurd (Nat.lt_of_le_of_lt h1 h2) (by omega)⟩
  | fuel + 1, s, seen, h => by
    unfold Sre.M.admitted
    by_cases hs : s ≥ m.lim
    · rw [if_pos hs]; exact .inl ⟨_, rfl, fun j h1 h2 => absurd h2 (by omega)⟩
    · rw [if_neg hs, hcode]
      obtain ⟨seen', e⟩ := inSet_at 5 (.inl rfl) (m.text.getD s 0) seen
      have esz : reCode.size = 28 := rfl
      rw [esz, e]
      cases hc : ctl (m.text.getD s 0) with
      | true => exact .inr ⟨s, _, rfl, by omega, hc⟩
      | false =>
        rcases admitted_spec m hcode hlim fuel (s + 1) seen' (by omega) with ⟨x, h1, h2⟩ | ⟨j, x, h1, h2, h3⟩
        · refine .inl ⟨x, h1, fun j h3 h4 => ?_⟩
          by_cases hj : j = s
          · subst hj; exact hc
          · exact h2 j (by omega) h4
        · exact .inr ⟨j, x, h1, h2, h3⟩


def m0 (x : Array Nat) : Sre.M :=
  { code := reCode, text := x, lim := x.size, start := 0, pc := 15, pos := 0, handed := 0, marks := #[], seen := ({} : Sre.Seen).add 14 }
theorem forSearch_eq (x : Array Nat) : Sre.forSearch reCode x 0 0 x.size false =
    if (decide (0 > x.size) || decide (x.size - 0 < 1)) = true then (m0 x).say false else ({ m0 x with lastStart := x.size } : Sre.M).attemptFrom 0 true := rfl

theorem forSearch_none (x : Array Nat) (h : ∀ j, j < x.size → ctl (x.getD j 0) = false) : ((Sre.forSearch reCode x 0 0 x.size false).runFor 4).outcome = some .failed := by
  rw [forSearch_eq]
  split
  · rfl
  · unfold Sre.M.attemptFrom
    have hf : ({ m0 x with lastStart := x.size } : Sre.M).hasFirstSet = true := rfl
    rw [hf]
    rcases admitted_spec { m0 x with lastStart := x.size } rfl rfl (x.size + 1 - 0) 0 ({ m0 x with lastStart := x.size } : Sre.M).seen (by show x.size < _; omega) with ⟨s', h1, _⟩ | ⟨j, s', h1, h2, h3⟩
    · show ((match ({ m0 x with lastStart := x.size } : Sre.M).admitted (x.size + 1 - 0) 0 ({ m0 x with lastStart := x.size } : Sre.M).seen with
        | .ok (some s, seen) => ({ m0 x with lastStart := x.size, mustAdvance := false, seen } : Sre.M).attemptAt s true
        | .ok (none, seen) => ({ m0 x with lastStart := x.size, seen } : Sre.M).say false
        | .error why => ({ m0 x with lastStart := x.size } : Sre.M).stick why).runFor 4).outcome = some .failed
      rw [h1]; rfl
    · exact absurd (h j h2) (by show ¬ ctl (x.getD j 0) = false; rw [show ctl (x.getD j 0) = true from h3]; simp)

theorem accepts_at (c : Nat) (seen : Sre.Seen) (h : ctl c = true) : ∃ seen', Sre.accepts reCode 15 c seen = .ok (true, seen') := by
  obtain ⟨s', e⟩ := inSet_at 17 (.inr rfl) c seen
  exact ⟨s', by rw [← h]; exact e⟩

theorem step_in (m : Sre.M) (h0 : m.outcome = none) (h1 : m.answer = none) (h2 : m.code = reCode) (h3 : m.pc = 15) (h4 : m.pos < m.lim) (h5 : ctl (m.text.getD m.pos 0) = true) :
    ∃ seen', m.step = { m with seen := seen', pc := 27, pos := m.pos + 1 } := by
  obtain ⟨code, text, lim, start, ls, wt, ma, pc, pos, handed, om, marks, lm, li, loops, inner, frames, weight, answer, seen, outcome⟩ := m
  dsimp only at h0 h1 h2 h3 h4 h5
  subst h0 h1 h2 h3
  obtain ⟨s', e⟩ := accepts_at (text.getD pos 0) (seen.add 13) h5
  refine ⟨s', ?_⟩
  show (if pos ≥ lim then _ else (match Sre.accepts reCode 15 (text.getD pos 0) (seen.add 13) with
    | .error why => _
    | .ok (false, seen) => _
    | .ok (true, seen) => _) : Sre.M) = _
  rw [if_neg (by omega), e]
  rfl

theorem forSearch_some (x : Array Nat) (h : ∃ j, j < x.size ∧ ctl (x.getD j 0) = true) : ((Sre.forSearch reCode x 0 0 x.size false).runFor 4).outcome = some .matched := by
  obtain ⟨j0, hj0, hc0⟩ := h
  rw [forSearch_eq]
  rw [if_neg (by rw [Bool.or_eq_true, decide_eq_true_eq, decide_eq_true_eq]; omega)]
  unfold Sre.M.attemptFrom
  have hf : ({ m0 x with lastStart := x.size } : Sre.M).hasFirstSet = true := rfl
  rw [hf]
  rcases admitted_spec { m0 x with lastStart := x.size } rfl rfl (x.size + 1 - 0) 0 ({ m0 x with lastStart := x.size } : Sre.M).seen (by show x.size < _; omega) with ⟨s', h1, h2⟩ | ⟨j, s', h1, h2, h3⟩
  · exact absurd (h2 j0 (Nat.zero_le _) hj0) (by show ¬ ctl (x.getD j0 0) = false; rw [hc0]; simp)
  · show ((match ({ m0 x with lastStart := x.size } : Sre.M).admitted (x.size + 1 - 0) 0 ({ m0 x with lastStart := x.size } : Sre.M).seen with
        | .ok (some s, seen) => ({ m0 x with lastStart := x.size, mustAdvance := false, seen } : Sre.M).attemptAt s true
        | .ok (none, seen) => ({ m0 x with lastStart := x.size, seen } : Sre.M).say false
        | .error why => ({ m0 x with lastStart := x.size } : Sre.M).stick why).runFor 4).outcome = some .matched
    rw [h1]
    show ((({ m0 x with lastStart := x.size, mustAdvance := false, seen := s' } : Sre.M).attemptAt j true).runFor 4).outcome = some .matched
    have e2 : ({ m0 x with lastStart := x.size, mustAdvance := false, seen := s' } : Sre.M).attemptAt j true =
      { m0 x with lastStart := x.size, mustAdvance := false, seen := s', start := j, pos := j, frames := [{ wait := .nextStart, pc := 15, pos := j, outermost := true }], weight := 1, pc := 15, handed := j, outermost := true } := rfl
    rw [e2]
    obtain ⟨s2, e3⟩ := step_in { m0 x with lastStart := x.size, mustAdvance := false, seen := s', start := j, pos := j, frames := [{ wait := .nextStart, pc := 15, pos := j, outermost := true }], weight := 1, pc := 15, handed := j, outermost := true } rfl rfl rfl rfl h2 h3
    show (Sre.M.runFor 3 (Sre.M.step { m0 x with lastStart := x.size, mustAdvance := false, seen := s', start := j, pos := j, frames := [{ wait := .nextStart, pc := 15, pos := j, outermost := true }], weight := 1, pc := 15, handed := j, outermost := true })).outcome = some .matched
    rw [e3]
    rfl


theorem slot_re_search : Slot "re.Pattern" "search" "re.Pattern.search" :=
  .of (owner := "re.Pattern") (n := "search") (by rw [typeLookup_type, builtinLookup_eq_fast]; kernel_rfl) (by decide +kernel) (by decide +kernel) (by decide +kernel)
    (by first | exact .inl (by decide +kernel) | exact .inr (by decide +kernel)) (by rw [isSubtype_type]; kernel_rfl)
theorem type_re_search : typeOf (.builtin "re.Pattern.search") = pure (.type "method_descriptor") := by show builtinType _ = _; rw [builtinType_eq_fast]; kernel_rfl
theorem entry_re_search : entryFor table "re.Pattern.search" = some Builtin.«re.Pattern.search» := entryFor_of_tree (by kernel_rfl)
theorem args_re_search (a b : Value) : argsOk "re.Pattern.search" ⟨[a, b], []⟩ := by unfold argsOk; kernel_rfl
theorem plainAttrs_re : PlainAttrs "re.Pattern" :=
  ⟨⟨"object.__getattribute__", by rw [typeLookup_type, builtinLookup_eq_fast]; kernel_rfl, by decide +kernel⟩, by rw [typeLookup_type, builtinLookup_eq_fast]; kernel_rfl⟩

section
variable {prog : Program} {w : World} {A : Around} {E : Value → Shared → Prop} {s : Shared}

theorem reRunToEnd_spec {m : Sre.M} {Q : Option Sre.M → Shared → Prop} (h : ((m.runFor 4).outcome = some .failed ∧ Q none s) ∨ ((m.runFor 4).outcome = some .matched ∧ Q (some (m.runFor 4)) s)) :
    wpAny (model prog w) A (reRunToEnd m) Q E s := by
  have hs : (m.runFor 4).outcome.isSome = true := by rcases h with h | h <;> rw [h.1] <;> rfl
  unfold reRunToEnd
  have e : reDrive (2 ^ 64) m = pure (m.runFor 4) := by
    show reDrive ((2 ^ 64 - 1) + 1) m = _
    unfold reDrive
    show (if ((m.runFor 4).outcome.isSome = true) then _ else _) = _
    rw [if_pos hs]; rfl
  rw [e]
  refine wpAny_bind (wpAny_pure ?_)
  refine wpAny_bind (wpAny_forIn_list _ (fun _ _ s' => s' = s) _ ?_ ?_ _ _ rfl)
  · rintro i rest b s' rfl
    split
    · exact wpAny_bind (wpAny_rule (wpAny_pure rfl))
    · exact wpAny_pure rfl
  · rintro b s' rfl
    rcases h with ⟨h1, h2⟩ | ⟨h1, h2⟩
    · rw [h1]; exact wpAny_pure h2
    · rw [h1]; exact wpAny_pure h2

/-- the pattern's object and its code's tuple -/
structure IsPat (h : Heap) (p T : Addr) : Prop where
  pat : ∃ a b, h.get? p = some { cls := .type "re.Pattern", data := .fields #[a, b, .int 0 0, .none, .none, .ref T, .int 0 0] }
  code : ∃ n, h.get? T = some { cls := .type "tuple", data := .seq reVals n }

theorem IsPat.keeps {h h' : Heap} {p T : Addr} (x : IsPat h p T) (k : ∀ b o, h.get? b = some o → h'.get? b = some o) : IsPat h' p T :=
  ⟨let ⟨a, b, e⟩ := x.pat; ⟨a, b, k _ _ e⟩, let ⟨n, e⟩ := x.code; ⟨n, k _ _ e⟩⟩

def hasCtl (x : Str) : Bool := x.cps.toList.any ctl

theorem reSearch {p T : Addr} {x : Str} {t : Tok} {Q : Value → Shared → Prop} (P : IsPat s.heap p T) (hx : x.length ≤ sizeLine) (hno : hasCtl x = false → Q .none s)
    (hyes : hasCtl x = true → ∀ a o1 o2, Q (.ref a) { s with heap := (s.heap.push o1).push o2 }) :
    wpAny (model prog w) A (call (.builtin "re.Pattern.search") [.ref p, .str x t]) Q E s := by
  obtain ⟨fa, fb, hp⟩ := P.pat
  obtain ⟨n, hT⟩ := P.code
  refine wpAny_call_entry slot_re_search ⟨_, hp, rfl⟩ entry_re_search ?_ (args_re_search _ _)
  unfold Builtin.«re.Pattern.search»
  have hn : reNamed "re.Pattern.search" "search" ["string", "pos", "endpos"] 1 [.str x t] [] = pure [some (.str x t), none, none] := by rfl
  have ht : reTarget "re.Pattern.search" "search" ⟨[.ref p, .str x t], []⟩ = (do
      let fs ← fieldsOf (.ref p)
      let want := reRawNat (fs.getD 6 .none)
      if want == 0 && (0 : Nat) == 1 then raiseError "TypeError" "cannot use a string pattern on a bytes-like object"
      if want == 1 && (0 : Nat) == 0 then raiseError "TypeError" "cannot use a bytes pattern on a string-like object"
      let code ← reRawItems (fs.getD 5 .none)
      pure ({ pattern := .ref p, string := .str x t, code := code.map (·.toNat), text := x.cps, kind := 0, groups := reRawNat (fs.getD 2 .none), pos := min 0 x.cps.size, lim := min (2 ^ 63 - 1 : Int).toNat x.cps.size } : ReTarget)) := by
    rfl
  have hsz : min (2 ^ 63 - 1 : Int).toNat x.cps.size = x.cps.size := by
    have : x.cps.size ≤ 2 ^ 24 := hx
    have h2 : (2 ^ 63 - 1 : Int).toNat = 9223372036854775807 := by decide
    rw [h2]; omega
  rw [hsz] at ht
  show wpAny (model prog w) A.in1 (reTarget "re.Pattern.search" "search" ⟨[.ref p, .str x t], []⟩ >>= fun t => reAnswer t (Sre.forSearch t.code t.text t.groups t.pos t.lim false)) _ _ s
  rw [ht]
  refine wpAny_bind (wpAny_bind (wpAny_fieldsOf hp rfl ?_))
  refine wpAny_bind (wpAny_bind ?_)
  refine wpAny_seqItems hT rfl ?_
  refine wpAny_pure (wpAny_pure ?_)
  have hcode : Array.map (fun x : Int => x.toNat) (Array.map reRawOf (Option.getD (some reVals) #[])) = reCode := by decide +kernel
  have hmin : min 0 x.cps.size = 0 := Nat.zero_min _
  show wpAny (model prog w) A.in1 (reAnswer ⟨.ref p, .str x t, Array.map (fun x : Int => x.toNat) (Array.map reRawOf (Option.getD (some reVals) #[])), x.cps, 0, 0, min 0 x.cps.size, x.cps.size⟩
    (Sre.forSearch (Array.map (fun x : Int => x.toNat) (Array.map reRawOf (Option.getD (some reVals) #[]))) x.cps 0 (min 0 x.cps.size) x.cps.size false)) _ _ s
  rw [hcode, hmin]
  unfold reAnswer
  refine wpAny_bind (reRunToEnd_spec ?_)
  have hget : ∀ j, j < x.cps.size → ctl (x.cps.getD j 0) = true → hasCtl x = true := by
    intro j hj hc
    unfold hasCtl
    rw [List.any_eq_true]
    refine ⟨x.cps.getD j 0, ?_, hc⟩
    rw [Array.getD_eq_getD_getElem?, Array.getElem?_eq_getElem hj]
    exact Array.mem_toList_iff.mpr (Array.getElem_mem hj)
  cases hcc : hasCtl x with
  | false =>
    refine .inl ⟨forSearch_none _ fun j hj => ?_, wpAny_pure ⟨_, rfl, hno hcc⟩⟩
    cases hq : ctl (x.cps.getD j 0) with
    | false => rfl
    | true => rw [hget j hj hq] at hcc; cases hcc
  | true =>
    have hex : ∃ j, j < x.cps.size ∧ ctl (x.cps.getD j 0) = true := by
      unfold hasCtl at hcc
      obtain ⟨c, hc, h2⟩ := List.any_eq_true.mp hcc
      obtain ⟨j, hj, e⟩ := Array.mem_iff_getElem.mp (Array.mem_toList_iff.mp hc)
      refine ⟨j, hj, ?_⟩
      rw [Array.getD_eq_getD_getElem?, Array.getElem?_eq_getElem hj]
      show ctl x.cps[j] = true
      rw [e]; exact h2
    refine .inr ⟨forSearch_some _ hex, ?_⟩
    refine wpAny_bind ?_
    unfold reNewMatch
    dsimp only [List.range, List.range.loop, List.flatMap_nil, List.any_nil]
    refine wpAny_bind (wpAny_newTuple ?_ ?_)
    · refine wpAny_newObj_type ?_ ?_
      · exact wpAny_pure ⟨_, rfl, hyes hcc _ _ _⟩
      · size_fits
    · show 2 ≤ sizeLine; decide
end
end Mine

end
section
open PySem PySem.W PyProof.Rows PySem.Calls PySem.Builtin PySem.Builtin.Re
set_option Elab.async false
set_option maxRecDepth 100000
set_option maxHeartbeats 1000000
namespace Mine

abbrev atop (dp un : Nat) (gd : Option (List Code)) (fr : List Env) : Around := { handled := none, depth := dp, frames := some fr, guards := gd, units := un }

/-- a call that changes nothing that stands -/
def PF (prog : Program) (w : World) (K : Frag) (p : Program) (loose : List Str) (mean : ExcName → Option Value) (mg mb : Str → Option Value) (d u : Nat) (f : Addr) (vs : List Value) (R : Value → Prop) : Prop :=
  ∀ (dp un : Nat) (gd : Option (List Code)) (fr : List Env) (base : Heap) (s : Shared) (Q E : Value → Shared → Prop),
    Below (atop dp un gd fr) base fr s.heap → K.In s.heap → Top p loose mean mg mb s.heap → dp + d < recursionLimit → un + u < cLine → 0 < s.toks →
    (∀ v h' tk', R v → s.heap.StaysIn h' → 0 < tk' → Q v { s with heap := h', toks := tk' }) →
    wpAny (model prog w) (atop dp un gd fr) (call (.ref f) vs) Q E s

/-- the end of such a call's body -/
def PEnd (g : Heap) (s : Shared) (R : Value → Prop) (v : Value) (s' : Shared) : Prop := ∃ h' tk', s' = { s with heap := h', toks := tk' } ∧ g.StaysIn h' ∧ 0 < tk' ∧ R v

theorem PEnd.mk {g : Heap} {s : Shared} {R : Value → Prop} {v : Value} {h' : Heap} {tk' : Nat} {L : Addr} {m : Str → Option Value} (F : Fr g L h' m) (ht : 0 < tk') (hR : R v) : PEnd g s R v { s with heap := h', toks := tk' } :=
  ⟨h', tk', rfl, F.keep, ht, hR⟩

section
variable {prog : Program} {w : World} {K : Frag} {p : Program} {loose : List Str} {mean : ExcName → Option Value} {mg mb : Str → Option Value} {d u : Nat} {f : Addr} {vs : List Value} {R : Value → Prop}

theorem PF.mono {R' : Value → Prop} {d' u' : Nat} (C : PF prog w K p loose mean mg mb d u f vs R) (hR : ∀ v, R v → R' v) (hd : d ≤ d') (hu : u ≤ u') : PF prog w K p loose mean mg mb d' u' f vs R' :=
  fun dp un gd fr base s Q E B X T h1 h2 h3 hq => C dp un gd fr base s Q E B X T (by omega) (by omega) h3 fun v h' tk' r k => hq v h' tk' (hR v r) k

theorem PF.enter {name qual : Str} {params : Arguments} {body : List Stmt} {scope : Scope} {dV kV doc pm cdv ct oc : Value} {an od : Option Addr} {osl : Array (Option Value)} {binds : List (Str × Value)}
    (ho : K.lookup f = some ⟨oc, od, .func (fnOf name qual params body scope dV kV doc pm an cdv ct), osl⟩) (hcd : codeIn K cdv qual = true)
    (hbind : bindArgs (fnOf name qual params body scope dV kV doc pm an cdv ct) ⟨vs, []⟩ = pure binds) (hloc : (binds.all fun x => decide (scope.names.lookup x.1 = some .local)) = true)
    (hcell : ∀ x ∈ scope.names, x.2 ≠ .cell) (hco : scope.isCoroutine = false) (hgen : scope.isGenerator = false) (hk : scope.kind = .function)
    (h : ∀ (dp un : Nat) (gd : Option (List Code)) (fr : List Env) (base g : Heap) (L : Addr) (h₁ : Heap) (s : Shared),
      Below (atop dp un gd fr) base fr g → K.In g → Top p loose mean mg mb g → Fr g L h₁ (fun y => binds.reverse.lookup y) → News g L h₁ [] → dp + d < recursionLimit → un + u < cLine → ∀ tk, 0 < tk →
      wpAny (model prog w) ((atop dp un gd fr).deeper (envOf qual scope L f cdv)) (execs body (envOf qual scope L f cdv))
        (fun fl s' => PEnd g s R (match fl with | .ret v => v | _ => .none) s') (fun _ _ => False) { s with heap := h₁, toks := tk })
    (hd : 0 < d) : PF prog w K p loose mean mg mb d u f vs R := by
  intro dp un gd fr base s Q E B X T h1 h2 h3 hq
  refine wpAny_call (codeAny_call_def (fd := fnOf name qual params body scope dV kV doc pm an cdv ct) (body := body) (binds := binds) (by show dp < _; omega) (X _ _ ho) rfl T.nolimit (codeRec_of X hcd) rfl (BindsTo.of_eq hbind) hcell (locs hloc) (fun h₁ hns hk₁ => ?_) hco hgen hk)
  refine wpAny_mono (h dp un gd fr base s.heap s.heap.objs.size h₁ s B X T ⟨hns, hk₁, Nat.le_refl _⟩ News.nil h1 h2 _ (Nat.lt_of_lt_of_le h3 (Nat.le_add_right _ _))) (fun fl s' hp => ?_) fun _ _ y => y.elim
  obtain ⟨h', tk', e, hst, ht, hR⟩ := hp
  subst e
  exact hq _ h' tk' hR hst ht

/-- a call of a contract's def out of a def's frame -/
theorem PF.call {dp un : Nat} {gd : Option (List Code)} {fr : List Env} {base g : Heap} {L a : Addr} {m : Str → Option Value} {news : List (Addr × Obj)} {name : Str} {scope : Scope} {cd : Value} {s : Shared} {Q E : Value → Shared → Prop}
    (C : PF prog w K p loose mean mg mb d u f vs R) (B : Below (atop dp un gd fr) base fr g) (X : K.In g) (T : Top p loose mean mg mb g) (F : Fr g L s.heap m) (N : News g L s.heap news)
    (hd : dp + 1 + d < recursionLimit) (hu : un + 3 + u < cLine) (ht : 0 < s.toks)
    (h : ∀ v h' tk', R v → Fr g L h' m → News g L h' news → 0 < tk' → Q v { s with heap := h', toks := tk' }) (hk : scope.kind = .function := by rfl) :
    wpAny (model prog w) ((atop dp un gd fr).deeper (envOf name scope L a cd)) (call (.ref f) vs) Q E s :=
  C (dp + 1) (un + 3) gd (envOf name scope L a cd :: fr) base s Q E (B.push F hk) (X.keeps F.keep) (T.keeps F.keep) hd hu ht fun v h' tk' r k =>
    h v h' tk' r (F.keeps k) fun q hq => ⟨k _ _ (N q hq).1, (N q hq).2⟩
end

theorem gen_toks {α : Type} {M : Model} {A : Around} {t : Sem α} {Q : α → Shared → Prop} {E : Value → Shared → Prop} {h : Heap} {g : Array GenState} {d : Drawn} {o : OsState} {n : Nat} (h0 : 0 < n) (k : ∀ tk, 0 < tk → wpAny M A t Q E ⟨h, g, d, tk, o⟩) :
    wpAny M A t Q E ⟨h, g, d, n, o⟩ := k n h0

theorem getMethod_search {M : Model} {A : Around} {E : Value → Shared → Prop} {s : Shared} {p T : Addr} {pl : Sem Bool} {Q : Value × List Value → Shared → Prop} (P : IsPat s.heap p T)
   (h : Q (.builtin "re.Pattern.search", [.ref p]) s) : wpAny M A (getMethod (.ref p) "search" pl) Q E s := by
  obtain ⟨a, b, e⟩ := P.pat
  exact getMethod_builtin ⟨_, e, rfl⟩ plainAttrs_re slot_re_search type_re_search (fun x hx => by cases hx; exact ⟨_, e, rfl⟩) h

section
open Builtin.Str
variable {prog : Program} {w : World} {A : Around} {E : Value → Shared → Prop} {s : Shared} {x y z : Str} {t u v : Tok} {Q : Value → Shared → Prop}
/-- str.replace, with what is known of the token -/
theorem replaceT (hu : 0 < u) (hv : 0 < v) (huv : u ≠ v) (hyz : (y == z) = false) (hb : x.length + (x.length + 1) * z.length ≤ 16777216) (hs : 0 < s.toks)
    (hq : ∀ t' k, 0 < k → Q (.str (Txt.replace x y z) t') { s with toks := k }) : wpAny (model prog w) A (call (.builtin "str.replace") [.str x t, .str y u, .str z v]) Q E s := by
  have hl : tooLong (x.length + (occurrences x y 0 x.length (x.length + 1)).length * z.length) = false := by
    have h1 := StrLaws.occ_length_le x y 0 x.length (x.length + 1)
    have h2 : (occurrences x y 0 x.length (x.length + 1)).length * z.length ≤ (x.length + 1) * z.length := Nat.mul_le_mul_right _ h1
    unfold tooLong sizeLine
    exact decide_eq_false (by omega)
  have hu' : u ≠ 0 := Nat.ne_of_gt hu
  have hv' : v ≠ 0 := Nat.ne_of_gt hv
  refine call_gives F.slot_str_replace (typeIs_str _ _ _) F.entry_str_replace (F.args_str_replace_3 _ _ _)
    (gives_str_replace x y z t u v fun _ => ⟨by simp [hu', hv'], by simp [huv], hyz, hl⟩) ?_
  have hq' := hq
  unfold Txt.replace at hq'
  cases hc : ((occurrences x y 0 x.length (x.length + 1)).isEmpty || (y.length == 0 && z.length == 0))
  · rw [hc] at hq'
    simp only [Bool.false_eq_true, if_false] at hq' ⊢
    exact ⟨fits_replaced y hb, hq' _ _ (Nat.succ_pos _)⟩
  · rw [hc] at hq'
    simp only [if_true] at hq' ⊢
    exact hq' t s.toks hs
end
end Mine

end
section
open PySem PySem.W PyProof.Rows PySem.Calls PySem.Builtin PySem.Builtin.Re
set_option Elab.async false
set_option maxRecDepth 100000
set_option maxHeartbeats 1000000
namespace Mine
open StrLaws Builtin.Str

/-- replace, sign by sign; the number says how many signs are still to be passed over -/
def replGo (y z : List Nat) : Nat → List Nat → List Nat
  | _, [] => []
  | k + 1, _ :: r => replGo y z k r
  | 0, c :: r => if y.isPrefixOf (c :: r) then z ++ replGo y z (y.length - 1) r else c :: replGo y z 0 r

theorem replGo_nil (y z : List Nat) (k : Nat) : replGo y z k [] = [] := by cases k <;> rfl
theorem replGo_skip (y z : List Nat) : ∀ (k : Nat) (l : List Nat), replGo y z k l = replGo y z 0 (l.drop k)
  | 0, l => by simp
  | k + 1, [] => by simp [replGo_nil]
  | k + 1, _ :: r => by rw [List.drop_succ_cons]; exact replGo_skip y z k r
theorem replGo_none (y z : List Nat) : ∀ l : List Nat, (∀ k, y.isPrefixOf (l.drop k) = false ∨ l.length ≤ k) → replGo y z 0 l = l
  | [], _ => rfl
  | c :: r, h => by
    have h0 := (h 0).resolve_right (by simp)
    rw [List.drop_zero] at h0
    unfold replGo
    rw [h0, if_neg Bool.false_ne_true, replGo_none y z r fun k => (h (k + 1)).imp (fun e => by simpa using e) fun e => by simpa using e]
theorem replGo_at (y z : List Nat) (hy : 1 ≤ y.length) : ∀ (c : Nat) (l : List Nat), c + y.length ≤ l.length → (∀ k, k < c → y.isPrefixOf (l.drop k) = false) → y.isPrefixOf (l.drop c) = true →
    replGo y z 0 l = l.take c ++ z ++ replGo y z 0 (l.drop (c + y.length))
  | 0, [], hl, _, _ => by have : (0 : Nat) + y.length ≤ 0 := hl; omega
  | 0, a :: r, _, _, h => by
    rw [List.drop_zero] at h
    rw [replGo, h, if_pos rfl, replGo_skip]
    obtain ⟨n, hn⟩ : ∃ n, y.length = n + 1 := ⟨y.length - 1, by omega⟩
    rw [hn]
    have e1 : n + 1 - 1 = n := rfl
    have e2 : 0 + (n + 1) = n + 1 := by omega
    rw [e1, e2, List.drop_succ_cons, List.take_zero, List.nil_append]
  | c + 1, [], hl, _, _ => by simp at hl
  | c + 1, a :: r, hl, hn, h => by
    have h0 := hn 0 (by omega)
    rw [List.drop_zero] at h0
    have hl' : c + y.length ≤ r.length := by simp at hl; omega
    rw [replGo, h0, if_neg Bool.false_ne_true, replGo_at y z hy c r hl' (fun k hk => by simpa using hn (k + 1) (by omega)) (by simpa using h)]
    have e : c + 1 + y.length = (c + y.length) + 1 := by omega
    rw [e]; simp

theorem at_iff (x y : Str) (hw : 1 ≤ y.length) (i : Nat) : At x y x.length i ↔ y.cps.toList.isPrefixOf (x.cps.toList.drop i) = true := by
  unfold At
  rw [subAt_eq, beq_iff_eq, List.isPrefixOf_iff_prefix]
  have hyl : y.cps.toList.length = y.length := by simp [Str.length]
  have hxl : x.cps.toList.length = x.length := by simp [Str.length]
  constructor
  · rintro ⟨_, h2⟩
    rw [← h2]; exact List.take_prefix _ _
  · intro h
    have hlen := h.length_le
    rw [List.length_drop, hyl, hxl] at hlen
    refine ⟨by omega, ?_⟩
    have := List.prefix_iff_eq_take.mp h
    rw [hyl] at this
    exact this.symm

theorem replace_toList (x y z : Str) (hw : 1 ≤ y.length) : (Txt.replace x y z).cps.toList = replGo y.cps.toList z.cps.toList 0 x.cps.toList := by
  obtain ⟨f, hch, hno⟩ := occ_tight x y hw
  have hyl : y.cps.toList.length = y.length := by simp [Str.length]
  have hxl : x.cps.toList.length = x.length := by simp [Str.length]
  have key : ∀ (cuts : List Nat) (a : Nat), ChainG x y x.length a cuts f → (Str.join z (partsFrom x y.length a cuts)).cps.toList = replGo y.cps.toList z.cps.toList 0 (x.cps.toList.drop a) := by
    intro cuts
    induction cuts with
    | nil =>
      intro a h
      have e : f = a := h
      subst e
      show (strSub x f x.length).cps.toList = _
      rw [strSub_toList, replGo_none]
      · rw [List.take_of_length_le]; rw [List.length_drop, hxl]; exact Nat.le_refl _
      · intro k
        left
        have := hno (f + k) (by omega)
        rw [at_iff x y hw] at this
        rw [List.drop_drop]
        exact Bool.eq_false_iff.mpr this
    | cons c r ih =>
      intro a h
      obtain ⟨h1, h2, h3, h4⟩ := h
      have ih' := ih _ h4
      have hj : Str.join z (partsFrom x y.length a (c :: r)) = strSub x a c ++ z ++ Str.join z (partsFrom x y.length (c + y.length) r) := by
        show Str.join z (strSub x a c :: partsFrom x y.length (c + y.length) r) = _
        obtain ⟨p, q, e⟩ := partsFrom_ne x y.length (c + y.length) r
        rw [e]; rfl
      rw [hj]
      simp only [Str.cps_append, Array.toList_append]
      rw [ih', strSub_toList]
      have hin : c + y.length ≤ x.length := h2.1
      rw [replGo_at y.cps.toList z.cps.toList (by rw [hyl]; exact hw) (c - a) (x.cps.toList.drop a)]
      · rw [List.drop_drop, hyl]
        have e : a + (c - a + y.length) = c + y.length := by omega
        rw [e]
      · rw [List.length_drop, hyl, hxl]; omega
      · intro k hk
        have := h3 (a + k) (by omega) (by omega)
        rw [at_iff x y hw] at this
        rw [List.drop_drop]
        exact Bool.eq_false_iff.mpr this
      · rw [List.drop_drop]
        have e : a + (c - a) = c := by omega
        rw [e]; exact (at_iff x y hw c).mp h2
  unfold Txt.replace
  have h10 : (y.length == 0) = false := by
    cases hh : (y.length == 0) with
    | false => rfl
    | true => have := beq_iff_eq.mp hh; omega
  rw [h10, Bool.false_and, Bool.or_false]
  cases he : (occurrences x y 0 x.length (x.length + 1)).isEmpty
  · rw [if_neg Bool.false_ne_true, glued_eq_join, partsBetween_eq]
    have := key _ 0 hch
    rwa [List.drop_zero] at this
  · rw [if_pos rfl]
    have he' : occurrences x y 0 x.length (x.length + 1) = [] := List.isEmpty_iff.mp he
    rw [he'] at hch
    have := key [] 0 hch
    rw [List.drop_zero] at this
    rw [← this]
    show x.cps.toList = (strSub x 0 x.length).cps.toList
    rw [sub_whole]

theorem replGo_one (c : Nat) (z : List Nat) : ∀ l : List Nat, replGo [c] z 0 l = l.flatMap fun k => if k = c then z else [k]
  | [] => rfl
  | a :: r => by
    rw [replGo, List.flatMap_cons]
    have e : List.isPrefixOf [c] (a :: r) = decide (a = c) := by
      simp [List.isPrefixOf]
      by_cases h : a = c
      · simp [h]
      · simp [h]; exact fun e => h e.symm
    rw [e]
    by_cases h : a = c
    · simp only [h, decide_true, if_true]
      show z ++ replGo [c] z 0 r = _
      rw [replGo_one c z r]
    · simp only [h, decide_false, if_false, Bool.false_eq_true]
      rw [replGo_one c z r]; rfl

/-- CR LF as LF -/
def crlf : List Nat → List Nat
  | [] => []
  | 13 :: 10 :: r => 10 :: crlf r
  | c :: r => c :: crlf r

def escC (k : Nat) : List Nat := if k = 13 then [10] else if k = 38 then [38, 97, 109, 112, 59] else if k = 60 then [38, 108, 116, 59] else if k = 62 then [38, 103, 116, 59] else [k]
def escL (l : List Nat) : List Nat := (crlf l).flatMap escC
def escS (x : Str) : Str := ⟨(escL x.cps.toList).toArray⟩

theorem crlf_eq : ∀ l : List Nat, replGo [13, 10] [10] 0 l = crlf l
  | [] => rfl
  | [a] => by unfold replGo; simp [List.isPrefixOf, replGo]; unfold crlf; simp [crlf]
  | a :: b :: r => by
    unfold replGo
    by_cases h : a = 13 ∧ b = 10
    · obtain ⟨rfl, rfl⟩ := h
      have e : List.isPrefixOf [13, 10] (13 :: 10 :: r) = true := by simp [List.isPrefixOf]
      rw [e, if_pos rfl]
      show 10 :: replGo [13, 10] [10] 1 (10 :: r) = 10 :: crlf r
      rw [replGo_skip]
      show 10 :: replGo [13, 10] [10] 0 r = _
      rw [crlf_eq r]
    · have e : List.isPrefixOf [13, 10] (a :: b :: r) = false := by
        simp [List.isPrefixOf]
        intro h1 h2
        exact h ⟨h1.symm, h2.symm⟩
      rw [e, if_neg Bool.false_ne_true, crlf_eq (b :: r)]
      symm
      apply crlf.eq_3
      intro r' h1 h2
      apply h
      simp at h2
      exact ⟨h1, h2.1⟩

theorem escS_eq (x : Str) : Txt.replace (Txt.replace (Txt.replace (Txt.replace (Txt.replace x ⟨#[13, 10]⟩ ⟨#[10]⟩) ⟨#[13]⟩ ⟨#[10]⟩) ⟨#[38]⟩ ⟨#[38, 97, 109, 112, 59]⟩) ⟨#[60]⟩ ⟨#[38, 108, 116, 59]⟩) ⟨#[62]⟩ ⟨#[38, 103, 116, 59]⟩ = escS x := by
  refine Str.ext' ?_
  apply Array.ext'
  rw [replace_toList _ _ _ (by decide), replace_toList _ _ _ (by decide), replace_toList _ _ _ (by decide), replace_toList _ _ _ (by decide), replace_toList _ _ _ (by decide)]
  show replGo [62] [38, 103, 116, 59] 0 (replGo [60] [38, 108, 116, 59] 0 (replGo [38] [38, 97, 109, 112, 59] 0 (replGo [13] [10] 0 (replGo [13, 10] [10] 0 x.cps.toList)))) = (escL x.cps.toList).toArray.toList
  rw [crlf_eq, replGo_one, replGo_one, replGo_one, replGo_one, List.flatMap_assoc, List.flatMap_assoc, List.flatMap_assoc]
  show _ = escL x.cps.toList
  unfold escL
  congr 1
  funext k
  unfold escC
  by_cases h1 : k = 13
  · subst h1; decide
  by_cases h2 : k = 38
  · subst h2; decide
  by_cases h3 : k = 60
  · subst h3; decide
  by_cases h4 : k = 62
  · subst h4; decide
  simp [h1, h2, h3, h4]
theorem lit_crlf : Str.ofString "\u000d\n" = ⟨#[13, 10]⟩ := by decide
theorem lit_cr : Str.ofString "\u000d" = ⟨#[13]⟩ := by decide
theorem lit_lf : Str.ofString "\n" = ⟨#[10]⟩ := by decide
theorem lit_am : Str.ofString "&" = ⟨#[38]⟩ := by decide
theorem lit_amp : Str.ofString "&amp;" = ⟨#[38, 97, 109, 112, 59]⟩ := by decide
theorem lit_l : Str.ofString "<" = ⟨#[60]⟩ := by decide
theorem lit_lt : Str.ofString "&lt;" = ⟨#[38, 108, 116, 59]⟩ := by decide
theorem lit_g : Str.ofString ">" = ⟨#[62]⟩ := by decide
theorem lit_gt : Str.ofString "&gt;" = ⟨#[38, 103, 116, 59]⟩ := by decide

abbrev es1 (x : Str) : Str := Txt.replace x (Str.ofString "\u000d\n") (Str.ofString "\n")
abbrev es2 (x : Str) : Str := Txt.replace (es1 x) (Str.ofString "\u000d") (Str.ofString "\n")
abbrev es3 (x : Str) : Str := Txt.replace (es2 x) (Str.ofString "&") (Str.ofString "&amp;")
abbrev es4 (x : Str) : Str := Txt.replace (es3 x) (Str.ofString "<") (Str.ofString "&lt;")
abbrev es5 (x : Str) : Str := Txt.replace (es4 x) (Str.ofString ">") (Str.ofString "&gt;")

theorem es5_eq (x : Str) : es5 x = escS x := by
  unfold es5 es4 es3 es2 es1
  rw [lit_crlf, lit_cr, lit_lf, lit_am, lit_amp, lit_l, lit_lt, lit_g, lit_gt]
  exact escS_eq x

theorem flatMap_len {f : Nat → List Nat} {n : Nat} (hf : ∀ k, (f k).length ≤ n) : ∀ l : List Nat, (l.flatMap f).length ≤ n * l.length
  | [] => by simp
  | a :: r => by
    have h1 := flatMap_len hf r
    have h2 := hf a
    rw [List.flatMap_cons, List.length_append, List.length_cons, Nat.mul_add, Nat.mul_one]
    omega

theorem crlf_len : ∀ l : List Nat, (crlf l).length ≤ l.length
  | [] => Nat.le_refl _
  | [a] => by unfold crlf; split <;> simp_all [crlf]
  | a :: b :: r => by
    have h1 := crlf_len r
    have h2 := crlf_len (b :: r)
    unfold crlf
    split
    · simp
    · rename_i e; simp at e; obtain ⟨_, _, rfl⟩ := e; simp; omega
    · rename_i e; simp at e; obtain ⟨_, rfl⟩ := e; simp at h2 ⊢; omega

theorem str_len (x : Str) : x.length = x.cps.toList.length := by simp [Str.length]

theorem es1_len (x : Str) : (es1 x).length ≤ x.length := by
  rw [str_len, str_len]; unfold es1
  rw [lit_crlf, lit_lf, replace_toList _ _ _ (by decide)]
  show (replGo [13, 10] [10] 0 x.cps.toList).length ≤ _
  rw [crlf_eq]; exact crlf_len _

theorem es2_len (x : Str) : (es2 x).length ≤ x.length := by
  rw [str_len]; unfold es2
  rw [lit_cr, lit_lf, replace_toList _ _ _ (by decide)]
  show (replGo [13] [10] 0 (es1 x).cps.toList).length ≤ _
  rw [replGo_one]
  have h1 := flatMap_len (f := fun k => if k = 13 then [10] else [k]) (n := 1) (fun k => by split <;> simp) (es1 x).cps.toList
  have h2 := es1_len x
  rw [str_len] at h2
  omega

theorem es3_len (x : Str) : (es3 x).length ≤ 5 * x.length := by
  rw [str_len]; unfold es3
  rw [lit_am, lit_amp, replace_toList _ _ _ (by decide)]
  show (replGo [38] [38, 97, 109, 112, 59] 0 (es2 x).cps.toList).length ≤ _
  rw [replGo_one]
  have h1 := flatMap_len (f := fun k => if k = 38 then [38, 97, 109, 112, 59] else [k]) (n := 5) (fun k => by split <;> simp) (es2 x).cps.toList
  have h2 := es2_len x
  rw [str_len] at h2
  omega

theorem es4_len (x : Str) : (es4 x).length ≤ 5 * x.length := by
  rw [str_len]; unfold es4
  rw [lit_l, lit_lt, replace_toList _ _ _ (by decide)]
  show (replGo [60] [38, 108, 116, 59] 0 (es3 x).cps.toList).length ≤ _
  unfold es3
  rw [lit_am, lit_amp, replace_toList _ _ _ (by decide)]
  show (replGo [60] [38, 108, 116, 59] 0 (replGo [38] [38, 97, 109, 112, 59] 0 (es2 x).cps.toList)).length ≤ _
  rw [replGo_one, replGo_one, List.flatMap_assoc]
  have h1 := flatMap_len (f := fun x => List.flatMap (fun k => if k = 60 then [38, 108, 116, 59] else [k]) (if x = 38 then [38, 97, 109, 112, 59] else [x])) (n := 5) (fun k => by
    by_cases h : k = 38
    · rw [if_pos h]; decide
    · rw [if_neg h]; by_cases h' : k = 60 <;> simp [h']) (es2 x).cps.toList
  have h2 := es2_len x
  rw [str_len] at h2
  omega

theorem escC_len (k : Nat) : (escC k).length ≤ 5 := by unfold escC; (repeat' split) <;> simp
theorem escL_len (l : List Nat) : (escL l).length ≤ 5 * l.length := by
  have h1 := flatMap_len escC_len (crlf l)
  have h2 := crlf_len l
  unfold escL; omega
theorem escS_len (x : Str) : (escS x).length ≤ 5 * x.length := by
  rw [str_len, str_len]; exact escL_len _

theorem replGo_len (y z : List Nat) (c : Nat) (hc : 1 ≤ c) (hz : z.length ≤ c) : ∀ (k : Nat) (l : List Nat), (replGo y z k l).length ≤ c * l.length
  | _, [] => by rw [replGo_nil]; simp
  | k + 1, _ :: r => by
    have := replGo_len y z c hc hz k r
    rw [replGo, List.length_cons, Nat.mul_add]; omega
  | 0, a :: r => by
    have h1 := replGo_len y z c hc hz (y.length - 1) r
    have h2 := replGo_len y z c hc hz 0 r
    rw [replGo, List.length_cons, Nat.mul_add]
    split
    · rw [List.length_append]; omega
    · rw [List.length_cons]; omega

theorem replace_len (x y z : Str) (c : Nat) (hy : 1 ≤ y.length) (hc : 1 ≤ c) (hz : z.length ≤ c) : (Txt.replace x y z).length ≤ c * x.length := by
  rw [str_len, str_len x, replace_toList x y z hy]
  exact replGo_len _ _ c hc (by rw [← str_len]; exact hz) 0 _

section
variable {prog : Program} {w : World} {A : Around} {E : Value → Shared → Prop} {s : Shared} {x y z : Str} {t u v : Tok} {Q : Value → Shared → Prop}
/-- the same, its text a letter -/
theorem replaceE (c B : Nat) (hu : 0 < u) (hv : 0 < v) (huv : u ≠ v) (hs : 0 < s.toks) (hx : x.length ≤ B) (hy : 1 ≤ y.length) (hc : 1 ≤ c) (hz : z.length ≤ c) (hB : B + (B + 1) * c ≤ 16777216) (hyz : (y == z) = false)
    (hq : ∀ r t' k, r = Txt.replace x y z → r.length ≤ c * B → 0 < k → Q (.str r t') { s with toks := k }) : wpAny (model prog w) A (call (.builtin "str.replace") [.str x t, .str y u, .str z v]) Q E s := by
  refine replaceT hu hv huv hyz ?_ hs fun t' k => hq _ t' k rfl ?_
  · have h1 : (x.length + 1) * z.length ≤ (B + 1) * c := Nat.mul_le_mul (by omega) hz
    omega
  · exact Nat.le_trans (replace_len x y z c hy hc hz) (Nat.mul_le_mul_left _ hx)
end
theorem repl_room {x z : Str} {B : Nat} (hx : x.length ≤ B) (hz : z.length ≤ 5) (hB : B ≤ 2000000) : x.length + (x.length + 1) * z.length ≤ 16777216 := by
  have h1 : (x.length + 1) * z.length ≤ (x.length + 1) * 5 := Nat.mul_le_mul_left _ hz
  omega
end Mine

end
section
open PySem PySem.W PyProof.Rows PySem.Calls
set_option Elab.async false
set_option maxRecDepth 100000
set_option maxHeartbeats 1000000
namespace Mine

theorem runs_toks {M : Model} {Γ : Ctx} {p : Pos} {t : Sem Fin} {fs : List Frame} {s : Shared} {e : End} {s' : Shared} (h : Runs M Γ p t fs s e s') : s.toks ≤ s'.toks := by
  induction h <;> first
    | exact Nat.le_refl _
    | assumption
    | (simp only [Shared.setGen] at *; omega)
    | omega

theorem wp_toks {α : Type} (M : Model) (Γ : Ctx) (t : Sem α) : ∀ (Q : α → Pos → Shared → Prop) (E : Value → Pos → Shared → Prop) (p : Pos) (s : Shared), Sem.wp M Γ t Q E p s →
    Sem.wp M Γ t (fun a p' s' => Q a p' s' ∧ s.toks ≤ s'.toks) (fun e p' s' => E e p' s' ∧ s.toks ≤ s'.toks) p s := by
  induction t with
  | pure a => intro Q E p s h; unfold Sem.wp at h ⊢; exact ⟨h, Nat.le_refl _⟩
  | raise e => intro Q E p s h; unfold Sem.wp at h ⊢; exact ⟨h, Nat.le_refl _⟩
  | unsupported w => intro Q E p s h; unfold Sem.wp at h ⊢; exact h
  | finish w => intro Q E p s h; unfold Sem.wp at h ⊢; exact h
  | rule t k ih => intro Q E p s h; unfold Sem.wp at h ⊢; exact ih _ _ _ _ _ h
  | «at» t k ih => intro Q E p s h; unfold Sem.wp at h ⊢; exact ih _ _ _ _ _ h
  | load a q k ih => intro Q E p s h; unfold Sem.wp at h ⊢; obtain ⟨o, h1, h2⟩ := h; exact ⟨o, h1, ih _ _ _ _ _ h2⟩
  | update a q f k ih => intro Q E p s h; unfold Sem.wp at h ⊢; exact ⟨h.1, ih _ _ _ _ _ h.2⟩
  | alloc o k ih => intro Q E p s h; unfold Sem.wp at h ⊢; exact ih _ _ _ _ _ h
  | loadIfAlive a k ih => intro Q E p s h; unfold Sem.wp at h ⊢; exact ih _ _ _ _ _ h
  | point l k ih => intro Q E p s h; unfold Sem.wp at h ⊢; exact ih _ _ _ _ _ h
  | register a k ih => intro Q E p s h; unfold Sem.wp at h ⊢; exact h
  | fresh k ih =>
    intro Q E p s h; unfold Sem.wp at h ⊢
    exact Sem.wp_mono M Γ _ (fun a p' s' h' => ⟨h'.1, Nat.le_trans (Nat.le_succ _) h'.2⟩) (fun a p' s' h' => ⟨h'.1, Nat.le_trans (Nat.le_succ _) h'.2⟩) _ _ (ih _ _ _ _ _ h)
  | ask k ih => intro Q E p s h; unfold Sem.wp at h ⊢; exact ih _ _ _ _ _ h
  | choose src n k ih => intro Q E p s h; unfold Sem.wp at h ⊢; exact ⟨h.1, ih _ _ _ _ _ h.2⟩
  | os q l k ih => intro Q E p s h; unfold Sem.wp at h ⊢; exact ih _ _ _ _ _ h
  | call c hd g l k ih =>
    intro Q E p s h; unfold Sem.wp at h ⊢
    obtain ⟨r, s₁, h1, h2⟩ := h
    have hle := runs_toks h1
    exact ⟨r, s₁, h1, Sem.wp_mono M Γ _ (fun a p' s' h' => ⟨h'.1, Nat.le_trans hle h'.2⟩) (fun a p' s' h' => ⟨h'.1, Nat.le_trans hle h'.2⟩) _ _ (ih _ _ _ _ _ h2)⟩
  | handled own k ih => intro Q E p s h; unfold Sem.wp at h ⊢; exact ih _ _ _ _ _ h
  | newGen c k ih => intro Q E p s h; unfold Sem.wp at h ⊢; exact ih _ _ _ _ _ h
  | genState g k ih => intro Q E p s h; unfold Sem.wp at h ⊢; obtain ⟨o, h1, h2⟩ := h; exact ⟨o, h1, ih _ _ _ _ _ h2⟩
  | resume g r l k ih =>
    intro Q E p s h; unfold Sem.wp at h ⊢
    obtain ⟨r', s₁, h1, h2⟩ := h
    have hle : s.toks ≤ s₁.toks := by
      unfold Wakes at h1
      split at h1
      · exact h1.elim
      · split at h1
        · obtain ⟨e1, s2, h3, _, _, rfl⟩ := h1
          have := runs_toks h3
          simp only [Shared.setGen] at *; exact this
        · obtain ⟨_, rfl⟩ := h1; exact Nat.le_refl _
        · obtain ⟨_, rfl⟩ := h1; simp only [Shared.setGen]; exact Nat.le_refl _
      all_goals first
        | (obtain ⟨e1, s2, h3, _, _, rfl⟩ := h1
           have := runs_toks h3
           simp only [Shared.setGen] at *; exact this)
        | (obtain ⟨_, rfl⟩ := h1; first | exact Nat.le_refl _ | (simp only [Shared.setGen]; exact Nat.le_refl _))
    exact ⟨r', s₁, h1, Sem.wp_mono M Γ _ (fun a p' s' h' => ⟨h'.1, Nat.le_trans hle h'.2⟩) (fun a p' s' h' => ⟨h'.1, Nat.le_trans hle h'.2⟩) _ _ (ih _ _ _ _ _ h2)⟩
  | yield v g l k ih => intro Q E p s h; unfold Sem.wp at h ⊢; exact h
  | stack k ih => intro Q E p s h; unfold Sem.wp at h ⊢; exact ih _ _ _ _ _ h
  | fork c k ih => intro Q E p s h; unfold Sem.wp at h ⊢; exact h
  | thread k ih => intro Q E p s h; unfold Sem.wp at h ⊢; exact ih _ _ _ _ _ h
  | await a t d l k ih => intro Q E p s h; unfold Sem.wp at h ⊢; exact h

/-- tokens never fall -/
theorem wpAny_toks {α : Type} {M : Model} {A : Around} {t : Sem α} {Q : α → Shared → Prop} {E : Value → Shared → Prop} {s : Shared} (h : wpAny M A t Q E s) :
    wpAny M A t (fun a s' => Q a s' ∧ s.toks ≤ s'.toks) (fun e s' => E e s' ∧ s.toks ≤ s'.toks) s := fun Γ p hΓ => wp_toks M Γ t _ _ p s (h Γ p hΓ)

theorem wpAny_pos {α : Type} {M : Model} {A : Around} {t : Sem α} {Q : α → Shared → Prop} {E : Value → Shared → Prop} {s : Shared} (h0 : 0 < s.toks) (h : wpAny M A t (fun a s' => 0 < s'.toks → Q a s') (fun e s' => 0 < s'.toks → E e s') s) :
    wpAny M A t Q E s := wpAny_mono (wpAny_toks h) (fun _ _ h' => h'.1 (Nat.lt_of_lt_of_le h0 h'.2)) fun _ _ h' => h'.1 (Nat.lt_of_lt_of_le h0 h'.2)
end Mine

end
section
open PySem PySem.W PyProof.Rows PySem.Calls
set_option Elab.async false
set_option maxRecDepth 100000
set_option maxHeartbeats 1000000
namespace Mine

/-- a mark at which the walk stands still -/
def Halt (P : Prop) : Prop := P
theorem halt {P : Prop} (h : Halt P) : P := h
theorem go_on {P : Prop} (h : P) : Halt P := h

abbrev NoE : Value → Shared → Prop := fun _ _ => False

/-- the locals of a loop: those named, those forgotten, the rest -/
abbrev locs4 (m₀ u : Str → Option Value) (stored : List Str) (ps : List (Str × Value)) : Str → Option Value := kstB (fun z => if stored.contains z then u z else m₀ z) ps

def AllNe (I : Addr) : List (Addr × Obj) → Prop
  | [] => True
  | p :: r => @Ne Nat p.1 I ∧ AllNe I r
theorem allNe_iff {I : Addr} : ∀ {l : List (Addr × Obj)}, AllNe I l ↔ ∀ p ∈ l, p.1 ≠ I
  | [] => by simp [AllNe]
  | p :: r => by unfold AllNe; rw [allNe_iff, List.forall_mem_cons]

section
variable {prog : Program} {w : World} {A : Around} {s : Shared} {env : Env} {h₀ : Heap} {x : Str} {px : Pos} {body : List Stmt} {Q : Flow → Shared → Prop}

/-- behind a turn -/
def SEnd {σ : Type} (h₀ : Heap) (L : Addr) (Led : σ → List (Addr × Obj)) (ps : σ → List (Str × Value)) (nm : Str → Prop) (stored : List Str) (m₀ : Str → Option Value) (own : List (Addr × Obj)) (P : σ → Prop) (s s₂ : Shared) : Prop :=
  ∃ c' h' tk' m', s₂ = { s with heap := h', toks := tk' } ∧ Fr h₀ L h' m' ∧ News h₀ L h' (own ++ Led c') ∧ (∀ q ∈ own, AllNe q.1 (Led c')) ∧ (∀ p ∈ ps c', m' p.1 = some p.2) ∧ (∀ z, ¬ nm z → (∀ p ∈ ps c', z ≠ p.1) → stored.contains z = false → m' z = m₀ z) ∧ P c'

def SPost {σ : Type} (h₀ : Heap) (L : Addr) (Led : σ → List (Addr × Obj)) (ps : σ → List (Str × Value)) (nm : Str → Prop) (stored : List Str) (m₀ : Str → Option Value) (own : List (Addr × Obj)) (P : σ → Prop) (s : Shared) (Q : Flow → Shared → Prop) (f : Flow) (s₂ : Shared) : Prop :=
  match f with
  | .ret v => Q (.ret v) s₂
  | .brk => Q .next s₂
  | _ => SEnd h₀ L Led ps nm stored m₀ own P s s₂

theorem SEnd.mk {σ : Type} {L : Addr} {Led : σ → List (Addr × Obj)} {ps : σ → List (Str × Value)} {nm : Str → Prop} {stored : List Str} {m₀ : Str → Option Value} {own : List (Addr × Obj)} {P : σ → Prop} {s : Shared} (c' : σ) {h' : Heap} {tk' : Nat} {m' : Str → Option Value} {news : List (Addr × Obj)}
    (F : Fr h₀ L h' m') (N : News h₀ L h' news) (hs : ∀ p ∈ own ++ Led c', p ∈ news) (hne : ∀ q ∈ own, AllNe q.1 (Led c')) (hk : ∀ p ∈ ps c', m' p.1 = some p.2) (hr : ∀ z, ¬ nm z → (∀ p ∈ ps c', z ≠ p.1) → stored.contains z = false → m' z = m₀ z) (hP : P c') :
    SEnd h₀ L Led ps nm stored m₀ own P s { s with heap := h', toks := tk' } := ⟨c', h', tk', m', rfl, F, kst_newsOf N hs, hne, hk, hr, hP⟩

theorem locs_eq {nm : Str → Prop} {ps : List (Str × Value)} {stored : List Str} {m₀ m₁ : Str → Option Value} (h1 : ∀ p ∈ ps, m₁ p.1 = some p.2) (h2 : ∀ z, ¬ nm z → (∀ p ∈ ps, z ≠ p.1) → stored.contains z = false → m₁ z = m₀ z) {y : Str} (hy : ¬ nm y) :
    locs4 m₀ m₁ stored ps y = m₁ y := by
  refine kstB_eq h1 fun hn => ?_
  show (if stored.contains y = true then m₁ y else m₀ y) = m₁ y
  cases h3 : stored.contains y with
  | true => simp
  | false => simp only [Bool.false_eq_true, if_false]; exact (h2 y hy hn h3).symm

/-- a for loop over what walks by an iterator of its own; the ledger may grow -/
theorem sloop {σ : Type} {I : Addr} {fp : List Addr} {n : Nat} {Pv : Nat → Value → Prop} {St : Nat → Heap → Prop} {m₀ : Str → Option Value} (Led : σ → List (Addr × Obj)) (ps : σ → List (Str × Value)) (stored : List Str) (P : Nat → σ → Prop) (c₀ : σ)
    (W : Walks prog w A I fp [I] n Pv St) (hx : env.kindOf x = some .local) (hp : (env.scope.kind == .class || (env.scope.kind == .module && env.locals != env.globals)) = false)
    (hI : I ≠ env.locals) (hI₀ : h₀.get? I = none) (hSt : ∀ i h, St i h → ∃ o, h.get? I = some o)
    (hfp : ∀ b ∈ fp, b = I ∨ (∃ o, h₀.get? b = some o) ∨ ∃ o, ∀ c, (b, o) ∈ Led c)
    (hst : St 0 s.heap) (F : Fr h₀ env.locals s.heap m₀) (N : News h₀ env.locals s.heap (Led c₀)) (hne : AllNe I (Led c₀)) (ht : 0 < s.toks)
    (hk : ∀ p ∈ ps c₀, m₀ p.1 = some p.2) (h0 : P 0 c₀)
    (turn : ∀ (c : σ) i v (u : Str → Option Value) h tk oI, i < n → Pv i v → P i c → 0 < tk → AllNe I (Led c) →
      Fr h₀ env.locals h (fun y => if y = x then some v else locs4 m₀ u stored (ps c) y) → News h₀ env.locals h ((I, oI) :: Led c) →
      wpAny (model prog w) A (execs body env) (SPost h₀ env.locals Led ps (· = x) stored m₀ [(I, oI)] (P (i + 1)) s Q) NoE { s with heap := h, toks := tk })
    (done : ∀ (c : σ) (u : Str → Option Value) h tk, P n c → 0 < tk → Fr h₀ env.locals h (fun y => if y = x then u y else locs4 m₀ u stored (ps c) y) → News h₀ env.locals h (Led c) → Q .next { s with heap := h, toks := tk }) :
    codeAny (model prog w) A (.forLoop (.Name x px) (.ref I) body [] env) (fun r s' => match r with | .ok f => Q f s' | .error e => cameBackBy (model prog w) A env NoE e s') s := by
  have hIf : I ∈ fp := W.sub I (List.mem_singleton.mpr rfl)
  refine codeAny_forLoop (fun k s' => ∃ c h' tk m' i, s' = { s with heap := h', toks := tk } ∧ 0 < tk ∧ St i h' ∧ Fr h₀ env.locals h' m' ∧ News h₀ env.locals h' (Led c) ∧ AllNe I (Led c) ∧ (∀ p ∈ ps c, m' p.1 = some p.2) ∧ (∀ z, ¬ z = x → (∀ p ∈ ps c, z ≠ p.1) → stored.contains z = false → m' z = m₀ z) ∧ P i c ∧ i ≤ n ∧ k = n + 1 - i) ?_ (n + 1)
    ⟨c₀, s.heap, s.toks, m₀, 0, rfl, ht, hst, F, N, hne, hk, fun _ _ _ _ => rfl, h0, Nat.zero_le _, rfl⟩
  rintro k s' ⟨c, h', tk, m', i, rfl, htk, hst', F', N', hne', hk', hr', hP, hi, rfl⟩
  have old : ∀ b o, h₀.get? b = some o → b ∉ [I] := fun b o e hb => by rw [List.mem_singleton.mp hb, hI₀] at e; cases e
  have next : ∀ h₁ : Heap, (∀ b o, b ∉ [I] → h'.get? b = some o → h₁.get? b = some o) → Fr h₀ env.locals h₁ m' ∧ News h₀ env.locals h₁ (Led c) := fun h₁ hk₁ =>
    ⟨⟨F'.ns.at' fun o e => hk₁ _ o (fun q => hI (List.mem_singleton.mp q).symm) e, fun b o e => hk₁ b o (old b o e) (F'.keep b o e), F'.above⟩,
      fun p hp => ⟨hk₁ _ _ (fun q => (allNe_iff.mp hne' p hp) (List.mem_singleton.mp q)) (N' p hp).1, (N' p hp).2⟩⟩
  by_cases hlt : i < n
  · refine wpAny_pos htk (W.item i _ _ _ hlt hst' fun v h₁ tk₁ hv hst₁ hk₁ htk₁ => ?_)
    obtain ⟨F₁, N₁⟩ := next h₁ hk₁
    refine wpAny_assign_Name (wpAny_storeName_local hx F₁.ns (fun h₂ hn₂ hs₂ => ?_) hp)
    have F₂ := F₁.set hn₂ hs₂
    have N₂ := N₁.set hs₂
    obtain ⟨oI, hoI⟩ := hSt _ _ hst₁
    have hoI₂ : h₂.get? I = some oI := (hs₂.2 I hI).trans hoI
    have F₂' : Fr h₀ env.locals h₂ (fun y => if y = x then some v else locs4 m₀ m' stored (ps c) y) := by
      have em : (fun y => if y = x then some v else locs4 m₀ m' stored (ps c) y) = fun y => if y = x then some v else m' y := by
        funext y
        by_cases hy : y = x
        · rw [if_pos hy, if_pos hy]
        · rw [if_neg hy, if_neg hy]; exact locs_eq (nm := (· = x)) hk' hr' hy
      rw [em]; exact F₂
    have hst₂ : St (i + 1) h₂ := W.frame _ _ _ hst₁ fun b hb o e => by
      by_cases hbL : b = env.locals
      · rcases hfp b hb with rfl | ⟨o', e'⟩ | ⟨o', e'⟩
        · exact absurd hbL hI
        · have := F₁.above
          exact absurd (Heap.lt_size e') (by rw [hbL]; exact Nat.not_lt.mpr this)
        · exact absurd hbL ((N₁ _ (e' c)).2.1)
      · exact (hs₂.2 b hbL).trans e
    refine wpAny_mono (wpAny_pos (Nat.succ_pos _) (wpAny_mono (turn c i v m' h₂ _ oI hlt hv hP (Nat.succ_pos _) hne' F₂' (fun p hp => ?_)) (fun f s₃ h₃ => ?_) fun _ _ y _ => y)) (fun _ _ y => y) fun _ _ y => y.elim
    · rcases List.mem_cons.mp hp with rfl | hp
      · exact ⟨hoI₂, hI, hI₀⟩
      · exact N₂ p hp
    intro htk₃
    have fin : SEnd h₀ env.locals Led ps (· = x) stored m₀ [(I, oI)] (P (i + 1)) s s₃ → ∃ m, m < n + 1 - i ∧ ∃ c h' tk m' i, s₃ = { s with heap := h', toks := tk } ∧ 0 < tk ∧ St i h' ∧ Fr h₀ env.locals h' m' ∧ News h₀ env.locals h' (Led c) ∧ AllNe I (Led c) ∧ (∀ p ∈ ps c, m' p.1 = some p.2) ∧ (∀ z, ¬ z = x → (∀ p ∈ ps c, z ≠ p.1) → stored.contains z = false → m' z = m₀ z) ∧ P i c ∧ i ≤ n ∧ m = n + 1 - i := by
      clear h₃
      rintro ⟨c', H₃, tk₃, m₃, rfl, F₃, N₃, hne₃, hk₃, hr₃, hP₃⟩
      refine ⟨n + 1 - (i + 1), by omega, c', H₃, tk₃, m₃, i + 1, rfl, htk₃, ?_, F₃, fun p hp => N₃ p (List.mem_append_right _ hp), hne₃ _ (List.mem_singleton.mpr rfl), hk₃, hr₃, hP₃, hlt, rfl⟩
      refine W.frame _ _ _ hst₂ fun b hb o e => ?_
      rcases hfp b hb with rfl | ⟨o', e'⟩ | ⟨o', e'⟩
      · rw [hoI₂] at e; cases e
        exact (N₃ _ (List.mem_append_left _ (List.mem_singleton.mpr rfl))).1
      · have h5 := F₂.keep b o' e'
        have h6 : o = o' := Option.some.inj (e.symm.trans h5)
        rw [h6]
        exact F₃.keep b o' e'
      · have h5 := (N₂ _ (e' c)).1
        have h6 : o = o' := Option.some.inj (e.symm.trans h5)
        rw [h6]
        exact (N₃ _ (List.mem_append_right _ (e' c'))).1
    cases f with
    | ret v => exact h₃
    | brk => exact h₃
    | next => exact fin h₃
    | cont => exact fin h₃
  · have hin : i = n := by omega
    subst hin
    refine wpAny_pos htk (W.done _ _ _ hst' fun h₁ tk₁ hk₁ htk₁ => wpAny_execs_nil ?_)
    obtain ⟨F₁, N₁⟩ := next h₁ hk₁
    refine done c m' h₁ tk₁ hP htk₁ ?_ N₁
    have em : (fun y => if y = x then m' y else locs4 m₀ m' stored (ps c) y) = m' := by
      funext y
      by_cases hy : y = x
      · rw [if_pos hy]
      · rw [if_neg hy]; exact locs_eq (nm := (· = x)) hk' hr' hy
    rw [em]; exact F₁

theorem for_str {σ : Type} {xt : Str} {tx : Tok} {m₀ : Str → Option Value} (Led : σ → List (Addr × Obj)) (ps : σ → List (Str × Value)) (stored : List Str) (P : Nat → σ → Prop) (c₀ : σ)
    (hh : A.handled = none) (hx : env.kindOf x = some .local) (hp : (env.scope.kind == .class || (env.scope.kind == .module && env.locals != env.globals)) = false)
    (F : Fr h₀ env.locals s.heap m₀) (N : News h₀ env.locals s.heap (Led c₀)) (ht : 0 < s.toks) (hk : ∀ p ∈ ps c₀, m₀ p.1 = some p.2) (h0 : P 0 c₀)
    (turn : ∀ (c : σ) (i n : Nat) (t : Tok) (u : Str → Option Value) h tk (I : Addr) oI, xt.cps.toList[i]? = some n → P i c → 0 < tk → AllNe I (Led c) →
      Fr h₀ env.locals h (fun y => if y = x then some (.str ⟨#[n]⟩ t) else locs4 m₀ u stored (ps c) y) → News h₀ env.locals h ((I, oI) :: Led c) →
      wpAny (model prog w) A (execs body env) (SPost h₀ env.locals Led ps (· = x) stored m₀ [(I, oI)] (P (i + 1)) s Q) NoE { s with heap := h, toks := tk })
    (done : ∀ (c : σ) (u : Str → Option Value) h tk, P xt.length c → 0 < tk → Fr h₀ env.locals h (fun y => if y = x then u y else locs4 m₀ u stored (ps c) y) → News h₀ env.locals h (Led c) → Q .next { s with heap := h, toks := tk }) :
    wpAny (model prog w) A (pyIter (.str xt tx)) (fun it s₂ => codeAny (model prog w) A (.forLoop (.Name x px) it body [] env) (fun r s' => match r with | .ok f => Q f s' | .error e => cameBackBy (model prog w) A env NoE e s') s₂) NoE s := by
  have key : ∀ (o : Obj) (St : Nat → Heap → Prop), Walks prog w A s.heap.objs.size [s.heap.objs.size] [s.heap.objs.size] xt.cps.size (SignAt xt) St → (∀ i h, St i h → ∃ o, h.get? s.heap.objs.size = some o) → St 0 (s.heap.push o) →
      codeAny (model prog w) A (.forLoop (.Name x px) (.ref s.heap.objs.size) body [] env) (fun r s' => match r with | .ok f => Q f s' | .error e => cameBackBy (model prog w) A env NoE e s') { s with heap := s.heap.push o } := by
    intro o St W hSt hst
    refine sloop (s := { s with heap := s.heap.push o }) Led ps stored P c₀ W hx hp (Nat.ne_of_gt F.ns.lt) (next_is_new F) hSt (fun b hb => .inl (List.mem_singleton.mp hb)) hst (F.push _) (fun p hp => ⟨Heap.get?_push_of_some _ (N p hp).1, (N p hp).2⟩)
      (allNe_iff.mpr fun p hp => Nat.ne_of_lt (Heap.lt_size (N p hp).1)) ht hk h0 ?_ ?_
    · rintro c i v u h tk oI _ ⟨n, t, hn, rfl⟩ hP htk hne F' N'
      exact turn c i n t u h tk _ oI (by rw [← hn]; simp) hP htk hne F' N'
    · intro c u h tk hP htk F' N'
      exact done c u h tk hP htk F' N'
  cases ha : xt.cps.all (· < 128)
  · exact wpAny_pyIter_wide ha (key _ _ (Walks.strWide hh _ xt tx) (fun i h st => let ⟨o, e, _⟩ := st; ⟨o, e⟩) ⟨_, Heap.get?_push_size _ rfl, rfl, rfl⟩)
  · exact wpAny_pyIter_ascii ha (key _ _ (Walks.strAscii hh _ xt tx) (fun i h st => let ⟨o, e, _⟩ := st; ⟨o, e⟩) ⟨_, Heap.get?_push_size _ rfl, rfl, rfl⟩)

/-- over a list that stood before -/
theorem for_list {σ : Type} {l : Addr} {items : Array Value} {m₀ : Str → Option Value} (Led : σ → List (Addr × Obj)) (ps : σ → List (Str × Value)) (stored : List Str) (P : Nat → σ → Prop) (c₀ : σ)
    (hl : (h₀.IsList l items) ∨ ∃ n, ∀ c, (l, (⟨.type "list", none, .seq items n, #[]⟩ : Obj)) ∈ Led c)
    (hh : A.handled = none) (hx : env.kindOf x = some .local) (hp : (env.scope.kind == .class || (env.scope.kind == .module && env.locals != env.globals)) = false)
    (F : Fr h₀ env.locals s.heap m₀) (N : News h₀ env.locals s.heap (Led c₀)) (ht : 0 < s.toks) (hk : ∀ p ∈ ps c₀, m₀ p.1 = some p.2) (h0 : P 0 c₀)
    (turn : ∀ (c : σ) (i : Nat) (v : Value) (u : Str → Option Value) h tk (I : Addr) oI, items.toList[i]? = some v → P i c → 0 < tk → AllNe I (Led c) →
      Fr h₀ env.locals h (fun y => if y = x then some v else locs4 m₀ u stored (ps c) y) → News h₀ env.locals h ((I, oI) :: Led c) →
      wpAny (model prog w) A (execs body env) (SPost h₀ env.locals Led ps (· = x) stored m₀ [(I, oI)] (P (i + 1)) s Q) NoE { s with heap := h, toks := tk })
    (done : ∀ (c : σ) (u : Str → Option Value) h tk, P items.size c → 0 < tk → Fr h₀ env.locals h (fun y => if y = x then u y else locs4 m₀ u stored (ps c) y) → News h₀ env.locals h (Led c) → Q .next { s with heap := h, toks := tk }) :
    wpAny (model prog w) A (pyIter (.ref l)) (fun it s₂ => codeAny (model prog w) A (.forLoop (.Name x px) it body [] env) (fun r s' => match r with | .ok f => Q f s' | .error e => cameBackBy (model prog w) A env NoE e s') s₂) NoE s := by
  have hls : s.heap.IsList l items := hl.elim (fun h => h.at fun o e => F.keep l o e) fun ⟨n, h⟩ => ⟨_, (N _ (h c₀)).1, rfl, n, rfl⟩
  obtain ⟨ol, hol, _⟩ := id hls
  have hne : l ≠ s.heap.objs.size := Nat.ne_of_lt (Heap.lt_size hol)
  refine wpAny_pyIter_list hls ?_
  have W := Walks.list (prog := prog) (w := w) hh s.heap.objs.size l hne items
  refine sloop (s := { s with heap := s.heap.push _ }) Led ps stored P c₀ W hx hp (Nat.ne_of_gt F.ns.lt) (next_is_new F) (fun i h st => let ⟨o, e, _⟩ := st.1; ⟨o, e⟩) (fun b hb => ?_) ?_ (F.push _) (fun p hp => ⟨Heap.get?_push_of_some _ (N p hp).1, (N p hp).2⟩)
      (allNe_iff.mpr fun p hp => Nat.ne_of_lt (Heap.lt_size (N p hp).1)) ht hk h0 ?_ ?_
  · rcases List.mem_cons.mp hb with rfl | hb
    · exact .inl rfl
    · rw [List.mem_singleton.mp hb]
      exact .inr (hl.imp (fun ⟨o, e, _⟩ => ⟨o, e⟩) fun ⟨n, h⟩ => ⟨_, h⟩)
  · exact ⟨⟨_, Heap.get?_push_size _ rfl, rfl, rfl⟩, hls.at fun o e => Heap.get?_push_of_some _ e⟩
  · rintro c i v u h tk oI hi hv hP htk hne F' N'
    refine turn c i v u h tk _ oI ?_ hP htk hne F' N'
    have : items[i]? = some v := hv
    rw [← this]; simp
  · intro c u h tk hP htk F' N'
    exact done c u h tk hP htk F' N'

/-- over a range by ones -/
theorem for_range {σ : Type} {r : Addr} {a₀ b₀ : Int} {t₀ u₀ v₀ : Tok} {n : Nat} {m₀ : Str → Option Value} (Led : σ → List (Addr × Obj)) (ps : σ → List (Str × Value)) (stored : List Str) (P : Nat → σ → Prop) (c₀ : σ)
    (hr : IsRange s.heap r a₀ b₀ 1 t₀ u₀ v₀) (hsmall : Builtin.Range.small a₀ b₀ 1 = true) (hn : Builtin.Range.rangeSize a₀ b₀ 1 = (n : Int))
    (hh : A.handled = none) (hx : env.kindOf x = some .local) (hp : (env.scope.kind == .class || (env.scope.kind == .module && env.locals != env.globals)) = false)
    (F : Fr h₀ env.locals s.heap m₀) (N : News h₀ env.locals s.heap (Led c₀)) (ht : 0 < s.toks) (hk : ∀ p ∈ ps c₀, m₀ p.1 = some p.2) (h0 : P 0 c₀)
    (turn : ∀ (c : σ) (i : Nat) (t : Tok) (u : Str → Option Value) h tk (I : Addr) oI, i < n → P i c → 0 < tk → AllNe I (Led c) →
      Fr h₀ env.locals h (fun y => if y = x then some (.int (a₀ + (i : Int)) t) else locs4 m₀ u stored (ps c) y) → News h₀ env.locals h ((I, oI) :: Led c) →
      wpAny (model prog w) A (execs body env) (SPost h₀ env.locals Led ps (· = x) stored m₀ [(I, oI)] (P (i + 1)) s Q) NoE { s with heap := h, toks := tk })
    (done : ∀ (c : σ) (u : Str → Option Value) h tk, P n c → 0 < tk → Fr h₀ env.locals h (fun y => if y = x then u y else locs4 m₀ u stored (ps c) y) → News h₀ env.locals h (Led c) → Q .next { s with heap := h, toks := tk }) :
    wpAny (model prog w) A (pyIter (.ref r)) (fun it s₂ => codeAny (model prog w) A (.forLoop (.Name x px) it body [] env) (fun r s' => match r with | .ok f => Q f s' | .error e => cameBackBy (model prog w) A env NoE e s') s₂) NoE s := by
  refine wpAny_pyIter_range hr hsmall ?_
  have W : Walks prog w A s.heap.objs.size [s.heap.objs.size] [s.heap.objs.size] n (fun i v => i < n ∧ ∃ t, v = .int (a₀ + i * 1) t)
      (fun i h => IsRangeIter h s.heap.objs.size (a₀ + (i : Nat) * 1) ((n : Int) - (i : Nat)) 1) := (Walks.range hh _ a₀ 1 n).bound
  refine sloop (s := { s with heap := s.heap.push _ }) Led ps stored P c₀ W hx hp (Nat.ne_of_gt F.ns.lt) (next_is_new F) (fun i h st => ⟨_, st⟩) (fun b hb => .inl (List.mem_singleton.mp hb)) (by show IsRangeIter _ _ _ _ _; rw [hn]; simpa using Heap.get?_push_size _ rfl) (F.push _) (fun p hp => ⟨Heap.get?_push_of_some _ (N p hp).1, (N p hp).2⟩)
      (allNe_iff.mpr fun p hp => Nat.ne_of_lt (Heap.lt_size (N p hp).1)) ht hk h0 ?_ ?_
  · rintro c i v u h tk oI hi ⟨_, t, rfl⟩ hP htk hne F' N'
    have e1 : a₀ + (i : Int) * 1 = a₀ + (i : Int) := by omega
    rw [e1] at F'
    exact turn c i t u h tk _ oI hi hP htk hne F' N'
  · intro c u h tk hP htk F' N'
    exact done c u h tk hP htk F' N'

/-- a while by what holds and a measure -/
theorem swhile {σ : Type} {test : Expr} {pos : Pos} {m₀ : Str → Option Value} (Led : σ → List (Addr × Obj)) (ps : σ → List (Str × Value)) (stored : List Str) (P : σ → Prop) (μ : σ → Nat) (c₀ : σ)
    (F : Fr h₀ env.locals s.heap m₀) (N : News h₀ env.locals s.heap (Led c₀)) (ht : 0 < s.toks) (hk : ∀ p ∈ ps c₀, m₀ p.1 = some p.2) (h0 : P c₀)
    (turn : ∀ (c : σ) (u : Str → Option Value) h tk, P c → 0 < tk →
      Fr h₀ env.locals h (locs4 m₀ u stored (ps c)) → News h₀ env.locals h (Led c) →
      wpAny (model prog w) A (isTrue test env (eval test env)) (fun b s₂ => if b then wpAny (model prog w) A (execs body env) (SPost h₀ env.locals Led ps (fun _ => False) stored m₀ [] (fun c' => μ c' < μ c ∧ P c') s Q) NoE s₂ else Q .next s₂) NoE { s with heap := h, toks := tk }) :
    wpAny (model prog w) A (exec (.While test body [] pos) env) Q NoE s := by
  refine wpAny_While (codeAny_whileLoop (fun k s' => ∃ c h' tk m', s' = { s with heap := h', toks := tk } ∧ 0 < tk ∧ Fr h₀ env.locals h' m' ∧ News h₀ env.locals h' (Led c) ∧ (∀ p ∈ ps c, m' p.1 = some p.2) ∧ (∀ z, ¬ False → (∀ p ∈ ps c, z ≠ p.1) → stored.contains z = false → m' z = m₀ z) ∧ P c ∧ k = μ c) ?_ (μ c₀)
    ⟨c₀, s.heap, s.toks, m₀, rfl, ht, F, N, hk, fun _ _ _ _ => rfl, h0, rfl⟩)
  rintro k s' ⟨c, h', tk, m', rfl, htk, F', N', hk', hr', hP, rfl⟩
  have em : locs4 m₀ m' stored (ps c) = m' := funext fun y => locs_eq (nm := fun _ => False) hk' hr' not_false
  refine wpAny_mono (wpAny_pos htk (wpAny_mono (turn c m' h' tk hP htk (by rw [em]; exact F') N') (fun b s₂ h₂ ht₂ => ?_) fun _ _ y _ => y)) (fun _ _ y => y) fun _ _ y => y.elim
  cases b with
  | false => exact wpAny_execs_nil h₂
  | true =>
    simp only [if_true] at h₂ ⊢
    refine wpAny_mono (wpAny_pos ht₂ (wpAny_mono h₂ (fun f s₃ h₃ => ?_) fun _ _ y _ => y)) (fun _ _ y => y) fun _ _ y => y.elim
    intro ht₃
    have fin : SEnd h₀ env.locals Led ps (fun _ => False) stored m₀ [] (fun c' => μ c' < μ c ∧ P c') s s₃ → ∃ m, m < μ c ∧ ∃ c h' tk m', s₃ = { s with heap := h', toks := tk } ∧ 0 < tk ∧ Fr h₀ env.locals h' m' ∧ News h₀ env.locals h' (Led c) ∧ (∀ p ∈ ps c, m' p.1 = some p.2) ∧ (∀ z, ¬ False → (∀ p ∈ ps c, z ≠ p.1) → stored.contains z = false → m' z = m₀ z) ∧ P c ∧ m = μ c := by
      rintro ⟨c', H₃, tk₃, m₃, rfl, F₃, N₃, _, hk₃, hr₃, hlt, hP₃⟩
      exact ⟨_, hlt, c', H₃, tk₃, m₃, rfl, ht₃, F₃, N₃, hk₃, hr₃, hP₃, rfl⟩
    cases f with
    | ret v => exact h₃
    | brk => exact h₃
    | next => exact fin h₃
    | cont => exact fin h₃
end
end Mine
namespace Mine
theorem const_str {M : Model} {A : Around} {env : Env} {x : Str} {kk : Nat} {pos : Pos} {Q : Value → Shared → Prop} {E : Value → Shared → Prop} {h : Heap} {g : Array GenState} {d : Drawn} {o : OsState} {n : Nat}
    (k : ∀ t tk, n ≤ t → t < tk → Q (.str x t) ⟨h, g, d, tk, o⟩) : wpAny M A (eval (.Constant (.str x) kk pos) env) Q E ⟨h, g, d, n, o⟩ := wpAny_Constant_str (k n (n + 1) (Nat.le_refl _) (Nat.lt_succ_self _))
theorem const_int {M : Model} {A : Around} {env : Env} {x : Int} {kk : Nat} {pos : Pos} {Q : Value → Shared → Prop} {E : Value → Shared → Prop} {h : Heap} {g : Array GenState} {d : Drawn} {o : OsState} {n : Nat}
    (k : ∀ t tk, n ≤ t → t < tk → Q (.int x t) ⟨h, g, d, tk, o⟩) : wpAny M A (eval (.Constant (.int x) kk pos) env) Q E ⟨h, g, d, n, o⟩ := wpAny_Constant_int (k n (n + 1) (Nat.le_refl _) (Nat.lt_succ_self _))
end Mine

end
section
open PySem PySem.W PyProof.Rows PySem.Calls
set_option Elab.async false
set_option maxRecDepth 100000
set_option maxHeartbeats 1000000
namespace Mine

def catL (xs : List Str) : List Nat := xs.flatMap (·.cps.toList)
theorem catL_snoc (xs : List Str) (x : Str) : catL (xs ++ [x]) = catL xs ++ x.cps.toList := by simp [catL]
def mkS (l : List Nat) : Str := ⟨l.toArray⟩
theorem mkS_toList (l : List Nat) : (mkS l).cps.toList = l := rfl
theorem mkS_length (l : List Nat) : (mkS l).length = l.length := by simp [mkS, Str.length]
theorem mkS_cps (x : Str) : mkS x.cps.toList = x := rfl
theorem mkS_append (a b : List Nat) : mkS a ++ mkS b = mkS (a ++ b) := by
  refine Str.ext' ?_
  rw [Str.cps_append]; simp [mkS]
theorem mkS_inj {a b : List Nat} : mkS a = mkS b ↔ a = b := by
  constructor
  · intro h
    have := congrArg (fun x : Str => x.cps.toList) h
    simpa [mkS] using this
  · rintro rfl; rfl
theorem str_append (a b : Str) : a ++ b = mkS (a.cps.toList ++ b.cps.toList) := by
  refine Str.ext' ?_
  rw [Str.cps_append]; simp [mkS]

theorem join_empty : ∀ xs : List Str, Str.join (Str.ofString "") xs = mkS (catL xs)
  | [] => rfl
  | [x] => by simp [Str.join, catL, mkS]
  | x :: y :: r => by
    have ih := join_empty (y :: r)
    show x ++ Str.ofString "" ++ Str.join (Str.ofString "") (y :: r) = _
    rw [ih]
    refine Str.ext' ?_
    have e : (Str.ofString "").cps = #[] := by decide
    rw [Str.cps_append, Str.cps_append, e]
    simp [catL, mkS]

theorem beq_one (c d : Nat) : ((⟨#[c]⟩ : Str) == (⟨#[d]⟩ : Str)) = (c == d) := by
  by_cases h : c = d
  · subst h; simp
  · have h1 : (⟨#[c]⟩ : Str) ≠ ⟨#[d]⟩ := by simpa using h
    rw [beq_eq_false_iff_ne.mpr h1, beq_eq_false_iff_ne.mpr h]

def nl (c : Nat) : Nat := if c = 13 then 10 else c
/-- the line ends as one sign -/
def norm (l : List Nat) : List Nat := (crlf l).map nl

theorem crlf_cons (c : Nat) (r : List Nat) (h : ¬ (c = 13 ∧ r.head? = some 10)) : crlf (c :: r) = c :: crlf r := by
  cases r with
  | nil => unfold crlf; split <;> simp_all [crlf]
  | cons b r =>
    apply crlf.eq_3
    intro r' h1 h2
    apply h
    simp at h2
    exact ⟨h1, by simp [h2.1]⟩
theorem crlf_two (r : List Nat) : crlf (13 :: 10 :: r) = 10 :: crlf r := by rw [crlf]

theorem escL_nil : escL [] = [] := rfl
theorem escL_two (r : List Nat) : escL (13 :: 10 :: r) = 10 :: escL r := by unfold escL; rw [crlf_two]; rfl
theorem escL_cons (c : Nat) (r : List Nat) (h : ¬ (c = 13 ∧ r.head? = some 10)) : escL (c :: r) = escC c ++ escL r := by
  unfold escL; rw [crlf_cons c r h]; rfl
theorem norm_two (r : List Nat) : norm (13 :: 10 :: r) = 10 :: norm r := by unfold norm; rw [crlf_two]; rfl
theorem norm_cons (c : Nat) (r : List Nat) (h : ¬ (c = 13 ∧ r.head? = some 10)) : norm (c :: r) = nl c :: norm r := by
  unfold norm; rw [crlf_cons c r h]; rfl

/-- induction along the line ends -/
theorem crlf_ind {motive : List Nat → Prop} (nil : motive []) (two : ∀ r, motive r → motive (13 :: 10 :: r)) (cons : ∀ c r, ¬ (c = 13 ∧ r.head? = some 10) → motive r → motive (c :: r)) : ∀ l, motive l := by
  intro l
  have key : ∀ n (l : List Nat), l.length ≤ n → motive l := by
    intro n
    induction n with
    | zero => intro l h; have : l = [] := List.length_eq_zero_iff.mp (by omega); subst this; exact nil
    | succ n ih =>
      intro l h
      match l, h with
      | [], _ => exact nil
      | c :: r, h =>
        by_cases hc : c = 13 ∧ r.head? = some 10
        · obtain ⟨rfl, h2⟩ := hc
          cases r with
          | nil => simp at h2
          | cons b r => simp at h2; subst h2; exact two r (ih r (by simp at h; omega))
        · exact cons c r hc (ih r (by simp at h; omega))
  exact key l.length l (Nat.le_refl _)

def endsStep (st : List Nat × Option Nat) (c : Nat) : List Nat × Option Nat :=
  (if c = 13 then st.1 ++ [10] else if c ≠ 10 ∨ st.2 ≠ some 13 then st.1 ++ [c] else st.1, some c)
def endsF (l : List Nat) : List Nat × Option Nat := l.foldl endsStep ([], none)
def optS (o : Option Nat) : Str := match o with | none => mkS [] | some c => mkS [c]

theorem endsF_snoc (l : List Nat) (c : Nat) : endsF (l ++ [c]) = endsStep (endsF l) c := by simp [endsF]

theorem endsFold (l : List Nat) : ∀ (acc : List Nat) (b : Option Nat), (l.foldl endsStep (acc, b)).1 = acc ++ (if b = some 13 then (match l with | 10 :: r => norm r | l => norm l) else norm l) := by
  induction l with
  | nil => intro acc b; simp [norm, crlf]
  | cons c r ih =>
    intro acc b
    rw [List.foldl_cons]
    show (r.foldl endsStep (if c = 13 then acc ++ [10] else if c ≠ 10 ∨ b ≠ some 13 then acc ++ [c] else acc, some c)).1 = _
    rw [ih]
    by_cases hc : c = 13
    · subst hc
      have e1 : (if b = some 13 then (match (13 :: r : List Nat) with | 10 :: r => norm r | l => norm l) else norm (13 :: r)) = norm (13 :: r) := by split <;> rfl
      rw [e1]
      simp only [if_true]
      cases r with
      | nil => simp [norm, crlf, nl]
      | cons d r =>
        by_cases hd : d = 10
        · subst hd; rw [norm_two]; simp
        · rw [norm_cons 13 (d :: r) (by simp [hd])]
          have : (match (d :: r : List Nat) with | 10 :: r => norm r | l => norm l) = norm (d :: r) := by
            split
            · rename_i e; simp at e; exact absurd e.1 hd
            · rfl
          rw [this]; simp [nl]
    · simp only [if_neg hc]
      have e2 : ¬ (some c = some 13) := by simpa using hc
      rw [if_neg e2]
      by_cases hb : b = some 13
      · subst hb
        simp only [if_true]
        by_cases h10 : c = 10
        · subst h10; simp
        · have e3 : (match (c :: r : List Nat) with | 10 :: r => norm r | l => norm l) = norm (c :: r) := by
            split
            · rename_i e; simp at e; exact absurd e.1 h10
            · rfl
          rw [e3, norm_cons c r (by simp [hc])]
          simp [h10, nl, hc]
      · rw [if_neg hb, norm_cons c r (by simp [hc])]
        simp [hb, nl, hc]

theorem endsF_eq (l : List Nat) : (endsF l).1 = norm l := by
  unfold endsF; rw [endsFold]; simp
theorem norm_len (l : List Nat) : (norm l).length ≤ l.length := by unfold norm; rw [List.length_map]; exact crlf_len l
end Mine
namespace Mine
theorem sumLen_one : ∀ (xs : List Str), (∀ y ∈ xs, y.length = 1) → (xs.map (·.length)).sum = xs.length
  | [], _ => rfl
  | x :: r, h => by
    have h1 := h x (List.mem_cons_self ..)
    have h2 := sumLen_one r fun y hy => h y (List.mem_cons_of_mem _ hy)
    simp only [List.map_cons, List.sum_cons, List.length_cons, h1, h2]; omega
theorem catL_len (xs : List Str) : (catL xs).length = (xs.map (·.length)).sum := by
  induction xs with
  | nil => rfl
  | cons x r ih =>
    have : catL (x :: r) = x.cps.toList ++ catL r := by simp [catL]
    rw [this, List.length_append, ih, ← str_len]; simp
section
variable {prog : Program} {w : World} {A : Around} {E : Value → Shared → Prop} {s : Shared} {t : Tok} {Q : Value → Shared → Prop}
theorem joinE {D : Addr} {items : Array Value} {ys : List Str} (hl : s.heap.IsList D items) (hi : StrsAre items.toList ys) (hw : (ys.map (·.length)).sum + ys.length ≤ 1048576) (ht : 0 < s.toks)
    (h : ∀ t' k, 0 < k → Q (.str (mkS (catL ys)) t') { s with toks := k }) : wpAny (model prog w) A (call (.builtin "str.join") [.str (Str.ofString "") t, .ref D]) Q E s := by
  refine wpAny_pos ht (join_listW hl hi (by decide) hw fun t' k hk => ?_)
  have e : Txt.join (Str.ofString "") ys = mkS (catL ys) := by
    unfold Txt.join
    first
      | rw [StrLaws.glued_eq_join, join_empty]
      | exact join_empty ys
  rw [e]
  exact h t' k hk
end
end Mine

end
section
open PySem PySem.W PyProof.Rows PySem.Calls
set_option Elab.async false
set_option maxRecDepth 100000
set_option maxHeartbeats 1000000
namespace Mine
open StrLaws

/-- texts: item and slice -/
theorem item_at {x : Str} {i c : Nat} (h : x.cps.toList[i]? = some c) : Txt.item x (i : Int) = ⟨#[c]⟩ := by
  have hl : i < x.length := by rw [str_len]; exact (List.getElem?_eq_some_iff.mp h).1
  have h' : x.cps[i]? = some c := by rw [← h]; simp
  unfold Txt.item Txt.charAt
  rw [seqIndex_nonneg (by omega) (by omega)]
  simp [h']
theorem at_of_lt {x : Str} {i : Nat} (h : (i : Int) < (x.length : Int)) : ∃ c, x.cps.toList[i]? = some c := by
  have : i < x.cps.toList.length := by rw [← str_len]; omega
  exact ⟨_, List.getElem?_eq_getElem this⟩
theorem slice_at {x : Str} {a b : Nat} (hab : a ≤ b) (hb : b ≤ x.length) : Txt.slice x (some (a : Int)) (some (b : Int)) = mkS ((x.cps.toList.drop a).take (b - a)) := sliceText_nat x hab hb

def nameOf (l : List Nat) : Option Nat := if l = [97, 109, 112] then some 38 else if l = [108, 116] then some 60 else if l = [103, 116] then some 62 else none

def readF : Nat → List Nat → Option (List Nat)
  | 0, _ => some []
  | _ + 1, [] => some []
  | n + 1, c :: r =>
    if c = 60 ∨ c = 62 ∨ c = 13 then none
    else if c = 38 then
      (match nameOf (r.takeWhile (· != 59)), r.dropWhile (· != 59) with
       | some k, _ :: r' => (readF n r').map (k :: ·)
       | _, _ => none)
    else (readF n r).map (c :: ·)
def readL (l : List Nat) : Option (List Nat) := readF (l.length + 1) l

theorem dropWhile_len (p : Nat → Bool) (r : List Nat) : (r.dropWhile p).length ≤ r.length := (List.dropWhile_sublist _).length_le

theorem readF_more : ∀ (n m : Nat) (l : List Nat), l.length < n → l.length < m → readF n l = readF m l
  | 0, _, _, h, _ => by omega
  | _ + 1, 0, _, _, h => by omega
  | n + 1, m + 1, [], _, _ => rfl
  | n + 1, m + 1, c :: r, h1, h2 => by
    unfold readF
    have e1 := readF_more n m r (by simp at h1; omega) (by simp at h2; omega)
    rw [e1]
    split
    · rfl
    · split
      · split
        · rename_i k a r' hk hr
          have hlen := dropWhile_len (· != 59) r
          rw [hr] at hlen
          simp at hlen h1 h2
          rw [readF_more n m r' (by omega) (by omega)]
        · rfl
      · rfl

theorem readL_nil : readL [] = some [] := rfl
theorem readL_bad {c : Nat} {r : List Nat} (h : c = 60 ∨ c = 62 ∨ c = 13) : readL (c :: r) = none := by
  unfold readL readF; rw [if_pos h]
theorem readL_cons {c : Nat} {r : List Nat} (h : ¬ (c = 60 ∨ c = 62 ∨ c = 13)) (h2 : c ≠ 38) : readL (c :: r) = (readL r).map (c :: ·) := by
  show readF (r.length + 1 + 1) (c :: r) = _
  rw [readF, if_neg h, if_neg h2]; rfl
theorem readL_amp {name r' : List Nat} (hn : ∀ k ∈ name, k ≠ 59) : readL (38 :: (name ++ 59 :: r')) = (match nameOf name with | some k => (readL r').map (k :: ·) | none => none) := by
  show readF ((name ++ 59 :: r').length + 1 + 1 - 0) (38 :: (name ++ 59 :: r')) = _
  rw [Nat.sub_zero, readF, if_neg (by decide), if_pos rfl]
  have e1 : (name ++ 59 :: r').takeWhile (· != 59) = name := by
    rw [List.takeWhile_append_of_pos (fun a ha => by simpa using hn a ha)]
    simp
  have e2 : (name ++ 59 :: r').dropWhile (· != 59) = 59 :: r' := by
    rw [List.dropWhile_append_of_pos (fun a ha => by simpa using hn a ha)]
    simp
  rw [e1, e2]
  cases nameOf name with
  | none => rfl
  | some k =>
    show (readF ((name ++ 59 :: r').length + 1) r').map _ = _
    rw [readF_more _ (r'.length + 1) r' (by simp; omega) (by omega)]; rfl
theorem readL_noend {r : List Nat} (hn : ∀ k ∈ r, k ≠ 59) : readL (38 :: r) = none := by
  show readF (r.length + 1 + 1) (38 :: r) = _
  rw [readF, if_neg (by decide), if_pos rfl]
  have e2 : ∀ r : List Nat, (∀ k ∈ r, k ≠ 59) → r.dropWhile (· != 59) = [] := by
    intro r
    induction r with
    | nil => intro _; rfl
    | cons a r ih =>
      intro h
      have h1 := h a (List.mem_cons_self ..)
      rw [List.dropWhile_cons]
      simp only [bne_iff_ne, ne_eq, h1, not_false_eq_true, if_true]
      exact ih fun k hk => h k (List.mem_cons_of_mem _ hk)
  rw [e2 r hn]
  cases nameOf (r.takeWhile (· != 59)) <;> rfl

theorem any_three {x : Str} {i c : Nat} (h : x.cps.toList[i]? = some c) : ([Str.ofString "<", Str.ofString ">", Str.ofString "\u000d"].any fun y => y == Txt.item x (i : Int)) = decide (c = 60 ∨ c = 62 ∨ c = 13) := by
  rw [item_at h, lit_l, lit_g, lit_cr]
  simp only [List.any_cons, List.any_nil, beq_one, Bool.or_false]
  rw [Bool.eq_iff_iff]
  simp only [Bool.or_eq_true, beq_iff_eq, decide_eq_true_eq]
  constructor <;> (intro h; omega)

theorem drop_at {l : List Nat} {i c : Nat} (h : l[i]? = some c) : l.drop i = c :: l.drop (i + 1) := by
  obtain ⟨hl, e⟩ := List.getElem?_eq_some_iff.mp h
  rw [List.drop_eq_getElem_cons hl, e]

theorem read_bad {x : Str} {i : Nat} (hi : (i : Int) < (x.length : Int)) (h : ([Str.ofString "<", Str.ofString ">", Str.ofString "\u000d"].any fun y => y == Txt.item x (i : Int)) = true) : readL (x.cps.toList.drop i) = none := by
  obtain ⟨c, hc⟩ := at_of_lt hi
  rw [any_three hc, decide_eq_true_eq] at h
  rw [drop_at hc]; exact readL_bad h
theorem read_plain {x : Str} {i : Nat} (hi : (i : Int) < (x.length : Int)) (h : ([Str.ofString "<", Str.ofString ">", Str.ofString "\u000d"].any fun y => y == Txt.item x (i : Int)) = false) (h2 : (Txt.item x (i : Int) == Str.ofString "&") = false) :
    ∃ c, Txt.item x (i : Int) = mkS [c] ∧ readL (x.cps.toList.drop i) = (readL (x.cps.toList.drop (i + 1))).map (c :: ·) := by
  obtain ⟨c, hc⟩ := at_of_lt hi
  rw [any_three hc, decide_eq_false_iff_not] at h
  rw [item_at hc, lit_am, beq_one, beq_eq_false_iff_ne] at h2
  rw [drop_at hc]; exact ⟨c, item_at hc, readL_cons h h2⟩
theorem seg_free {l : List Nat} {a b : Nat} (h : ∀ j, a ≤ j → j < b → l[j]? ≠ some 59) : ∀ k ∈ (l.drop a).take (b - a), k ≠ 59 := by
  intro k hk e
  subst e
  obtain ⟨j, hj⟩ := List.getElem?_of_mem hk
  have hlt : j < b - a := by
    have h1 : j < ((l.drop a).take (b - a)).length := (List.getElem?_eq_some_iff.mp hj).1
    simp at h1; omega
  rw [List.getElem?_take_of_lt hlt, List.getElem?_drop] at hj
  exact h (a + j) (by omega) (by omega) hj
theorem amp_at {x : Str} {i : Nat} (hi : (i : Int) < (x.length : Int)) (h2 : (Txt.item x (i : Int) == Str.ofString "&") = true) : x.cps.toList[i]? = some 38 := by
  obtain ⟨c, hc⟩ := at_of_lt hi
  rw [item_at hc, lit_am, beq_one, beq_iff_eq] at h2
  rw [hc, h2]
theorem read_noend {x : Str} {i en : Nat} (hi : (i : Int) < (x.length : Int)) (h2 : (Txt.item x (i : Int) == Str.ofString "&") = true) (h3 : ∀ j, i + 1 ≤ j → j < en → x.cps.toList[j]? ≠ some 59) (he : x.length ≤ en) : readL (x.cps.toList.drop i) = none := by
  rw [drop_at (amp_at hi h2)]
  refine readL_noend fun k hk => ?_
  have := seg_free h3 k
  rw [List.take_of_length_le (by rw [List.length_drop, ← str_len]; omega)] at this
  exact this hk
theorem lit_semi : Str.ofString ";" = ⟨#[59]⟩ := by decide
theorem read_named {x : Str} {i en : Nat} (hi : (i : Int) < (x.length : Int)) (h2 : (Txt.item x (i : Int) == Str.ofString "&") = true) (h1 : i + 1 ≤ en) (h3 : ∀ j, i + 1 ≤ j → j < en → x.cps.toList[j]? ≠ some 59) (he : (en : Int) < (x.length : Int)) (h4 : (Txt.item x (en : Int) != Str.ofString ";") = false) :
    readL (x.cps.toList.drop i) = (match nameOf ((x.cps.toList.drop (i + 1)).take (en - (i + 1))) with | some k => (readL (x.cps.toList.drop (en + 1))).map (k :: ·) | none => none) := by
  obtain ⟨c, hc⟩ := at_of_lt he
  rw [item_at hc, lit_semi, bne, beq_one, Bool.not_eq_false', beq_iff_eq] at h4
  subst h4
  rw [drop_at (amp_at hi h2)]
  have e : x.cps.toList.drop (i + 1) = (x.cps.toList.drop (i + 1)).take (en - (i + 1)) ++ 59 :: x.cps.toList.drop (en + 1) := by
    rw [← drop_at hc]
    have := List.take_append_drop (en - (i + 1)) (x.cps.toList.drop (i + 1))
    rw [List.drop_drop] at this
    have e2 : i + 1 + (en - (i + 1)) = en := by omega
    rw [e2] at this
    exact this.symm
  conv => lhs; rw [e]
  exact readL_amp (seg_free h3)
end Mine
namespace Mine
theorem slice_at1 {x : Str} {a b : Nat} (hab : a + 1 ≤ b) (hb : b ≤ x.length) : Txt.slice x (some ((a : Int) + 1)) (some (b : Int)) = mkS ((x.cps.toList.drop (a + 1)).take (b - (a + 1))) := slice_at hab hb
theorem lit_namp : Str.ofString "amp" = mkS [97, 109, 112] := by decide
theorem lit_nlt : Str.ofString "lt" = mkS [108, 116] := by decide
theorem lit_ngt : Str.ofString "gt" = mkS [103, 116] := by decide
theorem same_strs (a b : Str) : Spec.same (.str a) (.str b) = decide (a = b) := by
  have : Spec.same (.str a) (.str b) = (a == b) := by simp [Spec.same]
  rw [this]
  by_cases h : a = b
  · subst h; simp
  · rw [beq_eq_false_iff_ne.mpr h]; simp [h]
theorem look3 (l : List Nat) (t1 t2 t3 : Tok) (v1 v2 v3 : Value) : (Spec.lookup (.str (mkS l)) (strData [(.str (Str.ofString "amp") t1, v1), (.str (Str.ofString "lt") t2, v2), (.str (Str.ofString "gt") t3, v3)])).isSome = (nameOf l).isSome := by
  simp only [strData, Spec.lookup, same_strs, lit_namp, lit_nlt, lit_ngt, mkS_inj, decide_eq_true_eq]
  unfold nameOf
  by_cases h1 : l = [97, 109, 112]
  · subst h1; simp
  by_cases h2 : l = [108, 116]
  · subst h2; simp
  by_cases h3 : l = [103, 116]
  · subst h3; simp
  have h1' : ¬ [97, 109, 112] = l := fun e => h1 e.symm
  have h2' : ¬ [108, 116] = l := fun e => h2 e.symm
  have h3' : ¬ [103, 116] = l := fun e => h3 e.symm
  simp [h1, h2, h3, h1', h2', h3']

/-- what the reader hands back -/
def RRead (l : List Nat) (v : Value) : Prop := (readL l = none ∧ v = .none) ∨ ∃ y t', readL l = some y ∧ v = .str (mkS y) t'
/-- the reader's word between its turns -/
def RdInv (x : Str) (vs : List Value) (xs : List Str) (at' : Nat) : Prop :=
  StrsAre vs xs ∧ vs.length ≤ at' ∧ at' ≤ x.length ∧ readL x.cps.toList = (readL (x.cps.toList.drop at')).map (catL xs ++ ·) ∧ ∀ y ∈ xs, y.length = 1
theorem RdInv.none {x : Str} {vs : List Value} {xs : List Str} {at' : Nat} (h : RdInv x vs xs at') (e : readL (x.cps.toList.drop at') = none) : RRead x.cps.toList .none := .inl ⟨by rw [h.2.2.2.1, e]; rfl, rfl⟩
theorem RdInv.app {x : Str} {vs : List Value} {xs : List Str} {at' en k : Nat} {y : Str} {ty : Tok} (h : RdInv x vs xs at') (e : readL (x.cps.toList.drop at') = (readL (x.cps.toList.drop en)).map (k :: ·)) (hy : y = mkS [k]) (h1 : at' < en) (h2 : en ≤ x.length) :
    RdInv x (vs ++ [.str y ty]) (xs ++ [y]) en := by
  refine ⟨h.1.append' (.cons _ _ .nil), by have := h.2.1; simp; omega, h2, ?_, ?_⟩
  · rw [h.2.2.2.1, e, Option.map_map, catL_snoc, hy]
    congr 1
    funext z
    simp [mkS_toList]
  · intro z hz
    rcases List.mem_append.mp hz with hz | hz
    · exact h.2.2.2.2 z hz
    · rw [List.mem_singleton.mp hz, hy]; rfl
theorem RdInv.start (x : Str) : RdInv x [] [] 0 := ⟨.nil, Nat.le_refl _, Nat.zero_le _, by simp [catL], fun _ h => nomatch h⟩
theorem RdInv.done {x : Str} {vs : List Value} {xs : List Str} {at' : Nat} {t' : Tok} (h : RdInv x vs xs at') (e : ¬ (at' : Int) < (x.length : Int)) : RRead x.cps.toList (.str (mkS (catL xs)) t') := by
  refine .inr ⟨_, t', ?_, rfl⟩
  have h1 := h.2.2.1
  rw [h.2.2.2.1, List.drop_eq_nil_of_le (by rw [← str_len]; omega)]
  simp [readL_nil]
theorem name_amp {l : List Nat} (h : mkS l = Str.ofString "amp") : nameOf l = some 38 := by rw [lit_namp, mkS_inj] at h; subst h; rfl
theorem name_lt {l : List Nat} (h : mkS l = Str.ofString "lt") : nameOf l = some 60 := by rw [lit_nlt, mkS_inj] at h; subst h; rfl
theorem name_gt {l : List Nat} (h : mkS l = Str.ofString "gt") : nameOf l = some 62 := by rw [lit_ngt, mkS_inj] at h; subst h; rfl
theorem name_of {l : List Nat} (h : (nameOf l).isSome = true) : mkS l = Str.ofString "amp" ∨ mkS l = Str.ofString "lt" ∨ mkS l = Str.ofString "gt" := by
  rw [lit_namp, lit_nlt, lit_ngt, mkS_inj, mkS_inj, mkS_inj]
  unfold nameOf at h
  split at h
  · exact .inl ‹_›
  · split at h
    · exact .inr (.inl ‹_›)
    · split at h
      · exact .inr (.inr ‹_›)
      · cases h
end Mine
namespace Mine
section
variable {prog : Program} {w : World} {A : Around} {E : Value → Shared → Prop} {s : Shared} {Q : Value → Shared → Prop}
/-- an item of a tuple at a place that is not written -/
theorem tup_any {value slice : Expr} {a : Addr} {l : List Value} {k : Int} {u : Tok} (hT : IsTup s.heap a l.toArray) (h0 : 0 ≤ k) (h1 : k < l.length) (hsz : l.length < 1000000) (h : ∀ v, l[k.toNat]? = some v → Q v s)
    (hs : subscripted slice false (.ref a) (.int k u) = operate [.ref a, .int k u] (getItem (.ref a) (.int k u)) := by with_unfolding_all rfl) :
    wpAny (model prog w) A (subscriptTail value slice (.ref a) (.int k u)) Q E s := by
  have hj : k.toNat < l.length := by omega
  exact item_tupleT hT (by omega) (by omega) (StrLaws.seqIndex_nonneg h0 h1) (List.getElem?_eq_getElem hj) (h _ (List.getElem?_eq_getElem hj)) hs
end
/-- a piece of a written text: what it is read as, and that this is written so -/
def PieceOk (l : List Nat) : Prop := ∃ y : List Nat, (∀ v, readL (l ++ v) = (readL v).map (y ++ ·)) ∧ (∀ c ∈ y, ctl c = false ∧ c ≠ 13) ∧ y.flatMap escC = l ∧ l.length ≤ 5 ∧ y.length ≤ l.length
def plainC (c : Nat) : Bool := !ctl c && c != 38 && c != 60 && c != 62 && c != 13
theorem readL_plains : ∀ (l v : List Nat), l.all plainC = true → readL (l ++ v) = (readL v).map (l ++ ·)
  | [], v, _ => by simp
  | c :: r, v, h => by
    rw [List.all_cons, Bool.and_eq_true] at h
    have hc := h.1
    simp only [plainC, Bool.and_eq_true, bne_iff_ne, ne_eq] at hc
    rw [List.cons_append, readL_cons (by omega) (by omega), readL_plains r v h.2, Option.map_map]
    congr 1
theorem esc_plains : ∀ (l : List Nat), l.all plainC = true → l.flatMap escC = l
  | [], _ => rfl
  | c :: r, h => by
    rw [List.all_cons, Bool.and_eq_true] at h
    have hc := h.1
    simp only [plainC, Bool.and_eq_true, bne_iff_ne, ne_eq] at hc
    rw [List.flatMap_cons, esc_plains r h.2]
    unfold escC
    rw [if_neg hc.2, if_neg hc.1.1.1.2, if_neg hc.1.1.2, if_neg hc.1.2]; rfl
theorem piece_plain {l : List Nat} (h : l.all plainC = true) (hl : l.length ≤ 5) : PieceOk l :=
  ⟨l, fun v => readL_plains l v h, fun c hc => by
    have := List.all_eq_true.mp h c hc
    simp only [plainC, Bool.and_eq_true, bne_iff_ne, ne_eq, Bool.not_eq_true'] at this
    exact ⟨this.1.1.1.1, this.2⟩, esc_plains l h, hl, Nat.le_refl _⟩
theorem piece_amp : PieceOk [38, 97, 109, 112, 59] := ⟨[38], fun v => (readL_amp (name := [97, 109, 112]) (r' := v) (by decide)), by decide, rfl, by decide, by decide⟩
theorem piece_lt : PieceOk [38, 108, 116, 59] := ⟨[60], fun v => (readL_amp (name := [108, 116]) (r' := v) (by decide)), by decide, rfl, by decide, by decide⟩
theorem piece_gt : PieceOk [38, 103, 116, 59] := ⟨[62], fun v => (readL_amp (name := [103, 116]) (r' := v) (by decide)), by decide, rfl, by decide, by decide⟩
theorem crlf_free : ∀ (l : List Nat), (∀ c ∈ l, c ≠ 13) → crlf l = l
  | [], _ => rfl
  | c :: r, h => by
    have h1 := h c (List.mem_cons_self ..)
    rw [crlf_cons c r (by simp [h1]), crlf_free r fun c hc => h c (List.mem_cons_of_mem _ hc)]
theorem pieces_ok : ∀ (ls : List (List Nat)), (∀ l ∈ ls, PieceOk l) → ∃ y, readL (ls.flatMap id) = some y ∧ (∀ c ∈ y, ctl c = false ∧ c ≠ 13) ∧ y.flatMap escC = ls.flatMap id ∧ (ls.flatMap id).length ≤ 5 * ls.length ∧ y.length ≤ (ls.flatMap id).length
  | [], _ => ⟨[], rfl, by simp, rfl, by simp, by simp⟩
  | l :: ls, h => by
    obtain ⟨y, h1, h2, h3, h4, h5⟩ := pieces_ok ls fun l hl => h l (List.mem_cons_of_mem _ hl)
    obtain ⟨z, k1, k2, k3, k4, k5⟩ := h l (List.mem_cons_self ..)
    refine ⟨z ++ y, ?_, ?_, ?_, ?_, ?_⟩
    · rw [List.flatMap_cons]; show readL (l ++ ls.flatMap id) = _; rw [k1, h1]; rfl
    · intro c hc
      rcases List.mem_append.mp hc with hc | hc
      · exact k2 c hc
      · exact h2 c hc
    · rw [List.flatMap_append, k3, h3, List.flatMap_cons]; rfl
    · rw [List.flatMap_cons, List.length_append, List.length_cons]; show l.length + _ ≤ _; omega
    · rw [List.flatMap_cons, List.length_append, List.length_append]; show _ ≤ l.length + _; omega
end Mine

end
section
open PySem PySem.W PyProof.Rows PySem.Calls
set_option Elab.async false
set_option maxRecDepth 100000
set_option maxHeartbeats 1000000
namespace Mine
section
variable {prog : Program} {w : World} {A : Around} {s : Shared} {env : Env} {elt iter : Expr} {x : Str} {px : Pos} {ifs : List Expr} {scope : Scope} {pos : Pos} {Q : Value → Shared → Prop}

theorem items_of {vs : List Value} {items : Array Value} (h1 : vs.length = items.size) (h2 : ∀ (j : Nat) v, vs[j]? = some v → items[j]? = some v) : vs = items.toList := by
  refine List.ext_getElem? fun j => ?_
  by_cases hj : j < vs.length
  · have e := h2 j vs[j] (List.getElem?_eq_getElem hj)
    rw [List.getElem?_eq_getElem hj]
    rw [← e]; simp
  · rw [List.getElem?_eq_none (by omega), List.getElem?_eq_none (by simp; omega)]

/-- a comprehension over a list: its tests and its element change nothing that stands -/
theorem lc_list {l : Addr} {items : Array Value} {cl : List (Str × Addr)} (p : Value → Bool) (G : Value → Value → Prop) (hh : A.handled = none) (hl : s.heap.IsList l items) (hsz : items.size ≤ sizeLine) (ht : 0 < s.toks)
    (tests : ∀ C v s₃ m₃, v ∈ items.toList → s₃.heap.Ns C m₃ → m₃ x = some v → s.heap.StaysIn s₃.heap → s.heap.objs.size ≤ C → 0 < s₃.toks →
      wpAny (model prog w) A (forIn ifs true fun c r => if r = true then do let ok ← isTrue c (compEnvC scope cl C env) (eval c (compEnvC scope cl C env)); pure (ForInStep.yield ok) else pure (ForInStep.yield r)) (fun ok s₄ => ok = p v ∧ Keeps s₃ s₄) NoE s₃)
    (helt : ∀ C v s₃ m₃, v ∈ items.toList → p v = true → s₃.heap.Ns C m₃ → m₃ x = some v → s.heap.StaysIn s₃.heap → s.heap.objs.size ≤ C → 0 < s₃.toks →
      wpAny (model prog w) A (eval elt (compEnvC scope cl C env)) (fun y s₄ => G v y ∧ Keeps s₃ s₄) NoE s₃)
    (done : ∀ D h' tk ys, s.heap.get? D = none → h'.PlainList D ys → Paired G (items.toList.filter p) ys.toList → s.heap.StaysIn h' → Q (.ref D) { s with heap := h', toks := tk }) :
    wpAny (model prog w) A (pyIter (.ref l)) (fun it s₂ => ∃ I fp wr n P St, it = .ref I ∧ Walks prog w A I fp wr n P St ∧ n ≤ sizeLine ∧ St 0 s₂.heap ∧ (∀ b ∈ fp, b < s₂.heap.objs.size) ∧
      QuietOnC prog w A env scope cl x ifs elt wr P p G s₂ ∧
      (∀ D h' tk ys (vs : List Value), s₂.heap.get? D = none → h'.IsList D ys → h'.PlainList D ys → vs.length = n → (∀ j v, vs[j]? = some v → P j v) → Paired G (vs.filter p) ys.toList →
        (∀ b o, b ∉ wr → s₂.heap.get? b = some o → h'.get? b = some o) → Q (.ref D) { s₂ with heap := h', toks := tk })) NoE s := by
  obtain ⟨ol, hol, hol'⟩ := id hl
  have hlt := Heap.lt_size hol
  have hne : l ≠ s.heap.objs.size := Nat.ne_of_lt hlt
  have up : ∀ (h₂ h₃ : Heap) (o : Obj), h₂ = s.heap.push o → (∀ b o, b ∉ [s.heap.objs.size] → h₂.get? b = some o → h₃.get? b = some o) → s.heap.StaysIn h₃ := by
    rintro h₂ h₃ o rfl hk b ob e
    exact hk b ob (fun q => absurd (Heap.lt_size e) (by rw [List.mem_singleton.mp q]; exact Nat.lt_irrefl _)) (Heap.get?_push_of_some _ e)
  refine wpAny_pyIter_list hl ⟨_, _, _, _, _, _, rfl, Walks.list hh s.heap.objs.size l hne items, hsz, ⟨⟨_, Heap.get?_push_size _ rfl, rfl, rfl⟩, hl.at fun o e => Heap.get?_push_of_some _ e⟩, ?_, ⟨?_, ?_⟩, ?_⟩
  · intro b hb
    rw [Heap.size_push]
    rcases List.mem_cons.mp hb with rfl | hb
    · exact Nat.lt_succ_self _
    · rw [List.mem_singleton.mp hb]; exact Nat.lt_succ_of_lt hlt
  · intro C i v s₃ m₃ E' hC hv hn hm hk htk
    refine wpAny_noRaise (tests C v s₃ m₃ ?_ hn hm (up _ _ _ rfl hk) (by rw [Heap.size_push] at hC; omega) (Nat.lt_of_lt_of_le ht htk))
    exact Array.mem_toList_iff.mpr (Array.mem_of_getElem? hv)
  · intro C i v s₃ m₃ E' hC hv hpv hn hm hk htk
    refine wpAny_noRaise (helt C v s₃ m₃ ?_ hpv hn hm (up _ _ _ rfl hk) (by rw [Heap.size_push] at hC; omega) (Nat.lt_of_lt_of_le ht htk))
    exact Array.mem_toList_iff.mpr (Array.mem_of_getElem? hv)
  · intro D h' tk ys vs hD _ hpl hlen hP hF hk
    rw [items_of hlen hP] at hF
    refine done D h' tk ys ?_ hpl hF (up _ _ _ rfl hk)
    cases e : s.heap.get? D with
    | none => rfl
    | some o => rw [Heap.get?_push_of_some _ e] at hD; cases hD

/-- f(x) within a comprehension -/
theorem comp_call1 {K : Frag} {p : Program} {loose : List Str} {mean : ExcName → Option Value} {mg mb : Str → Option Value} {d u : Nat} {f : Addr} {v : Value} {R : Value → Prop} {fn : Str} {pf pa pc : Pos} {cl : List (Str × Addr)} {C : Addr} {m₃ : Str → Option Value}
    {dp un : Nat} {gd : Option (List Code)} {fr : List Env} {base : Heap}
    (Cf : PF prog w K p loose mean mg mb d u f [v] R) (B : Below (atop dp un gd fr) base fr s.heap) (X : K.In s.heap) (T : Top p loose mean mg mb s.heap) (hd : dp + d < recursionLimit) (hu : un + u < cLine) (ht : 0 < s.toks)
    (hn : s.heap.Ns C m₃) (hm : m₃ x = some v) (hg : env.globals = mainGlobals) (e1 : nsIn K mainGlobals fn = some (some (.ref f))) (e2 : keepIn K (.ref f) = true)
    (hk : (compEnvC scope cl C env).scope.kind = .function) (hf : (compEnvC scope cl C env).kindOf fn = some .globalImplicit) (hx : (compEnvC scope cl C env).kindOf x = some .local)
    (hd1 : (fn == ("__debug__" : Str)) = false) (hd2 : (x == ("__debug__" : Str)) = false)
    (h : ∀ y s', R y → Keeps s s' → Q y s') :
    wpAny (model prog w) (atop dp un gd fr) (eval (.Call (.Name fn pf) [.Name x pa] [] pc) (compEnvC scope cl C env)) Q NoE s := by
  refine Call_ (Name_function_global hk hf (loadGlobal_global (env := compEnvC scope cl C env) (by show s.heap.Ns env.globals _; rw [hg]; exact T.g) (mg_of X T.g e1) ?_) hd1)
  refine callWith_K X e2 (args_cons (wpAny_Name (wpAny_loadName_local hk hx hn hm (args_nil ⟨X, ?_⟩)) hd2))
  exact Cf dp un gd fr base s _ _ B X T hd hu ht fun y h' tk' hR hs _ => h y _ hR ⟨h', tk', rfl, hs⟩
end
end Mine
namespace Mine
section
variable {prog : Program} {w : World} {A : Around} {s : Shared} {env : Env} {elt iter : Expr} {x : Str} {px : Pos} {ifs : List Expr} {scope : Scope} {pos : Pos} {Q : Value → Shared → Prop}
theorem lcomp_list {l : Addr} {items : Array Value} {cl : List (Str × Addr)} (p : Value → Bool) (G : Value → Value → Prop)
    (hiter : ∀ Q' : Value → Shared → Prop, Q' (.ref l) s → wpAny (model prog w) A (eval iter env) Q' NoE s)
    (hh : A.handled = none) (hl : s.heap.IsList l items) (hsz : items.size ≤ sizeLine) (ht : 0 < s.toks)
    (hclos : closureFor scope env = pure cl) (hcell : ∀ y ∈ scope.names, y.2 ≠ .cell) (hkind : scope.kind = .function) (hnames : ∀ y ∈ scope.names, y.2 = .local → scope.names.lookup y.1 = some .local) (hx : scope.names.lookup x = some .local)
    (tests : ∀ C v s₃ m₃, v ∈ items.toList → s₃.heap.Ns C m₃ → m₃ x = some v → s.heap.StaysIn s₃.heap → s.heap.objs.size ≤ C → 0 < s₃.toks →
      wpAny (model prog w) A (forIn ifs true fun c r => if r = true then do let ok ← isTrue c (compEnvC scope cl C env) (eval c (compEnvC scope cl C env)); pure (ForInStep.yield ok) else pure (ForInStep.yield r)) (fun ok s₄ => ok = p v ∧ Keeps s₃ s₄) NoE s₃)
    (helt : ∀ C v s₃ m₃, v ∈ items.toList → p v = true → s₃.heap.Ns C m₃ → m₃ x = some v → s.heap.StaysIn s₃.heap → s.heap.objs.size ≤ C → 0 < s₃.toks →
      wpAny (model prog w) A (eval elt (compEnvC scope cl C env)) (fun y s₄ => G v y ∧ Keeps s₃ s₄) NoE s₃)
    (done : ∀ D h' tk (ys : List Value) n, s.heap.get? D = none → h'.get? D = some (listOf ys.toArray n) → Paired G (items.toList.filter p) ys → s.heap.StaysIn h' → 0 < tk → Q (.ref D) { s with heap := h', toks := tk })
    (hs : ∀ x, foldedSetIterable iter env x = pure x := by intro _; rfl) :
    wpAny (model prog w) A (eval (.ListComp elt [⟨.Name x px, iter, ifs, 0⟩] scope pos) env) Q NoE s := by
  refine wpAny_pos ht (wpAny_noRaise ?_)
  refine wpAny_ListComp_free p G hclos hcell hkind hnames hx (hiter _ ?_) hs
  refine lc_list (Q := fun a s' => 0 < s'.toks → Q a s') p G hh hl hsz ht tests helt ?_
  rintro D h' tk ys hD ⟨n, hpl⟩ hP hst htk
  obtain ⟨ys⟩ := ys
  exact done D h' tk ys n hD hpl hP hst htk
/-- the ledger behind it -/
theorem news_grow {h₀ h h' : Heap} {L D : Addr} {m : Str → Option Value} {news : List (Addr × Obj)} {o : Obj} (F : Fr h₀ L h m) (N : News h₀ L h news) (hk : h.StaysIn h') (hD : h.get? D = none) (ho : h'.get? D = some o) :
    Fr h₀ L h' m ∧ News h₀ L h' ((D, o) :: news) ∧ ∀ q ∈ news, q.1 ≠ D := by
  refine ⟨F.keeps hk, fun q hq => ?_, fun q hq e => ?_⟩
  · rcases List.mem_cons.mp hq with rfl | hq
    · refine ⟨ho, ?_, ?_⟩
      · intro e
        obtain ⟨oL, _, _, hL, _⟩ := F.ns
        have e' : D = L := e
        rw [e', hL] at hD; cases hD
      · cases e : h₀.get? D with
        | none => rfl
        | some o' => rw [F.keep _ _ e] at hD; cases hD
    · exact ⟨hk _ _ (N q hq).1, (N q hq).2⟩
  · have := (N q hq).1
    rw [e, hD] at this; cases this
theorem ints_mem {vs : List Value} {ns : List Int} (h : IntsAre vs ns) {v : Value} (hv : v ∈ vs) : ∃ n t, v = .int n t := by
  obtain ⟨i, hi⟩ := List.getElem?_of_mem hv
  have hlt : i < ns.length := by have := (List.getElem?_eq_some_iff.mp hi).1; have := h.length; omega
  obtain ⟨t, ht⟩ := h.get i ns[i] (by simp [hlt])
  rw [hi] at ht
  exact ⟨_, t, Option.some.inj ht⟩
end
end Mine

end
section
open PySem PySem.W PyProof.Rows PySem.Calls
set_option Elab.async false
set_option maxRecDepth 100000
set_option maxHeartbeats 1000000
namespace Mine
theorem readL_escC {c : Nat} (v : List Nat) : readL (escC c ++ v) = (readL v).map (nl c :: ·) := by
  unfold escC nl
  split
  · rename_i h; subst h; exact readL_cons (by decide) (by decide)
  · split
    · rename_i h; subst h; exact readL_amp (name := [97, 109, 112]) (r' := v) (by decide)
    · split
      · rename_i h; subst h; exact readL_amp (name := [108, 116]) (r' := v) (by decide)
      · split
        · rename_i h; subst h; exact readL_amp (name := [103, 116]) (r' := v) (by decide)
        · exact readL_cons (by omega) (by omega)
theorem readL_flat : ∀ (l : List Nat), readL (l.flatMap escC) = some (l.map nl)
  | [] => rfl
  | c :: r => by rw [List.flatMap_cons, readL_escC, readL_flat r]; rfl
theorem readL_esc (l : List Nat) : readL (escL l) = some (norm l) := readL_flat _
theorem crlf_mem : ∀ (l : List Nat) (c : Nat), c ∈ crlf l → c ∈ l := by
  intro l
  refine crlf_ind (motive := fun l => ∀ c, c ∈ crlf l → c ∈ l) ?_ ?_ ?_ l
  · intro c h; exact h
  · intro r ih c h; rw [crlf_two] at h; rcases List.mem_cons.mp h with e | e
    · rw [e]; simp
    · simp [ih c e]
  · intro k r hk ih c h; rw [crlf_cons _ _ hk] at h; rcases List.mem_cons.mp h with e | e
    · rw [e]; simp
    · simp [ih c e]
def noCtl (l : List Nat) : Prop := ∀ c ∈ l, ctl c = false
theorem escC_ok {k : Nat} (h : ctl k = false) : ∀ c ∈ escC k, ctl c = false ∧ c ≠ 13 := by
  unfold escC
  split
  · decide
  · split
    · decide
    · split
      · decide
      · split
        · decide
        · intro c hc; rw [List.mem_singleton.mp hc]; exact ⟨h, by assumption⟩
theorem escL_ok {l : List Nat} (h : noCtl l) : ∀ c ∈ escL l, ctl c = false ∧ c ≠ 13 := by
  intro c hc
  obtain ⟨k, hk, hc⟩ := List.mem_flatMap.mp hc
  exact escC_ok (h k (crlf_mem l k hk)) c hc
theorem norm_free : ∀ {l : List Nat}, (∀ c ∈ l, c ≠ 13) → norm l = l := by
  intro l h
  unfold norm
  rw [crlf_free l h]
  have : ∀ (l : List Nat), (∀ c ∈ l, c ≠ 13) → l.map nl = l := by
    intro l
    induction l with
    | nil => intro _; rfl
    | cons c r ih => intro h; rw [List.map_cons, ih fun k hk => h k (by simp [hk])]; unfold nl; rw [if_neg (h c (by simp))]
  exact this l h
theorem escL_free {l : List Nat} (h : ∀ c ∈ l, c ≠ 13) : escL l = l.flatMap escC := by unfold escL; rw [crlf_free l h]
end Mine
namespace Mine
theorem signs_are : ∀ {vs ys : List Value}, Paired (fun _ y => ∃ c t', ctl c = false ∧ y = .str ⟨#[c]⟩ t') vs ys → ∃ xs : List Str, StrsAre ys xs ∧ (∀ x ∈ xs, x.length = 1) ∧ noCtl (catL xs) ∧ xs.length = vs.length
  | _, _, .nil => ⟨[], .nil, by simp, by simp [catL, noCtl], rfl⟩
  | _, _, .cons ⟨c, t', hc, e⟩ r => by
    obtain ⟨xs, h1, h2, h3, h4⟩ := signs_are r
    subst e
    refine ⟨⟨#[c]⟩ :: xs, .cons _ _ h1, ?_, ?_, by simp [h4]⟩
    · intro x hx; rcases List.mem_cons.mp hx with e | e
      · rw [e]; rfl
      · exact h2 x e
    · intro k hk
      rw [catL, List.flatMap_cons] at hk
      rcases List.mem_append.mp hk with e | e
      · have : k = c := by simpa using e
        rw [this]; exact hc
      · exact h3 k e
theorem pieces_are : ∀ {vs ys : List Value}, Paired (fun _ y => ∃ l t', PieceOk l ∧ y = .str (mkS l) t') vs ys → ∃ ls : List (List Nat), StrsAre ys (ls.map mkS) ∧ (∀ l ∈ ls, PieceOk l) ∧ ls.length = vs.length
  | _, _, .nil => ⟨[], .nil, by simp, rfl⟩
  | _, _, .cons ⟨l, t', hl, e⟩ r => by
    obtain ⟨ls, h1, h2, h3⟩ := pieces_are r
    subst e
    refine ⟨l :: ls, .cons _ _ h1, ?_, by simp [h3]⟩
    intro x hx; rcases List.mem_cons.mp hx with e | e
    · rw [e]; exact hl
    · exact h2 x e
theorem catL_mk (ls : List (List Nat)) : catL (ls.map mkS) = ls.flatMap id := by
  induction ls with
  | nil => rfl
  | cons l r ih => simp only [catL, List.map_cons, List.flatMap_cons] at ih ⊢; rw [ih]; rfl
theorem sum_pieces : ∀ (ls : List (List Nat)), (∀ l ∈ ls, PieceOk l) → ((ls.map mkS).map (·.length)).sum ≤ 5 * ls.length
  | [], _ => by simp
  | l :: r, h => by
    have := sum_pieces r fun x hx => h x (by simp [hx])
    obtain ⟨_, _, _, _, hl, _⟩ := h l (by simp)
    simp only [List.map_cons, List.sum_cons, List.length_cons, mkS_length]; omega
theorem filter_true (l : List Value) : l.filter (fun _ => true) = l := by simp
theorem hasCtl_of {x : Str} (h : noCtl x.cps.toList) : hasCtl x = false := by
  unfold hasCtl; rw [List.any_eq_false]; intro c hc; rw [h c hc]; simp
end Mine
namespace Mine
theorem addE {prog : Program} {w : World} {A : Around} {E : Value → Shared → Prop} {s : Shared} {x y : Str} {t u : Tok} {Q : Value → Shared → Prop} (hs : x.length + y.length ≤ 16777216) (ht : 0 < s.toks)
   (h : ∀ t' k, 0 < k → Q (.str (mkS (x.cps.toList ++ y.cps.toList)) t') { s with toks := k }) : wpAny (model prog w) A (binaryOp .Add (.str x t) (.str y u)) Q E s := by
  refine wpAny_pos ht (KOpn.add hs fun t' k _ hk => ?_)
  rw [str_append]; exact h t' k hk
theorem below_on {A : Around} {base h h' : Heap} {outer : List Env} (B : Below A base outer h) (hst : h.StaysIn h') : Below A base outer h' := ⟨B.stack, fun b o e => hst b o (B.stays b o e), B.frames.of_keeps fun b o e _ => ⟨o, hst b o e, rfl⟩⟩
end Mine
namespace Mine
theorem lit_pair (c : Nat) : (⟨#[c]⟩ : Str) = mkS [c] := rfl
theorem get3 (c : Nat) (hc : c ≠ 13) (t1 t2 t3 t4 t5 t6 : Tok) : (Spec.lookup (.str ⟨#[c]⟩) (strData [(.str (Str.ofString "&") t1, .str (Str.ofString "&amp;") t2), (.str (Str.ofString "<") t3, .str (Str.ofString "&lt;") t4), (.str (Str.ofString ">") t5, .str (Str.ofString "&gt;") t6)])).getD (.str ⟨#[c]⟩) = .str (mkS (escC c)) := by
  simp only [strData, Spec.lookup, same_strs, lit_am, lit_l, lit_g, lit_amp, lit_lt, lit_gt, decide_eq_true_eq]
  unfold escC
  rw [if_neg hc]
  by_cases h1 : c = 38
  · subst h1; rfl
  by_cases h2 : c = 60
  · subst h2; rfl
  by_cases h3 : c = 62
  · subst h3; rfl
  have e : ∀ d : Nat, c ≠ d → ¬ ((⟨#[d]⟩ : Str) = ⟨#[c]⟩) := fun d hd e => hd (by have := congrArg (fun s : Str => s.cps.toList) e; simpa using this.symm)
  simp [h1, h2, h3, e 38 h1, e 60 h2, e 62 h3]
  rfl
end Mine
namespace Mine
theorem one_cr {c : Nat} (h : ((⟨#[c]⟩ : Str) == Str.ofString "\u000d") = true) : c = 13 := by rw [lit_cr, beq_one] at h; exact of_decide_eq_true h
theorem one_ncr {c : Nat} (h : ((⟨#[c]⟩ : Str) == Str.ofString "\u000d") = false) : c ≠ 13 := by rw [lit_cr, beq_one] at h; exact of_decide_eq_false h
theorem ctl_no {c : Nat} (h : ([(9 : Int), 10, 13].any fun x => x == (c : Int)) = true) : ctl c = false := by
  simp only [List.any_cons, List.any_nil, Bool.or_false, Bool.or_eq_true, beq_iff_eq] at h
  unfold ctl
  rcases h with h | h | h
  · have : c = 9 := by omega
    subst this; rfl
  · have : c = 10 := by omega
    subst this; rfl
  · have : c = 13 := by omega
    subst this; rfl
theorem ctl_yes {c : Nat} (h0 : (c : Int) < 32) (h : ([(9 : Int), 10, 13].any fun x => x == (c : Int)) = false) : ctl c = true := by
  simp only [List.any_cons, List.any_nil, Bool.or_false, Bool.or_eq_false_iff, beq_eq_false_iff_ne, ne_eq] at h
  obtain ⟨h1, h2, h3⟩ := h
  have e1 : c ≠ 9 := fun e => h1 (by rw [e]; rfl)
  have e2 : c ≠ 10 := fun e => h2 (by rw [e]; rfl)
  have e3 : c ≠ 13 := fun e => h3 (by rw [e]; rfl)
  have e0 : c < 32 := by omega
  unfold ctl
  simp [e0, e1, e2, e3]
theorem ctl_big {c : Nat} (h0 : ¬ (c : Int) < 32) : ctl c = false := by unfold ctl; simp; omega
theorem item_any {x : Str} {k : Int} (h0 : 0 ≤ k) (h1 : k < (x.length : Int)) : ∃ c, c ∈ x.cps.toList ∧ Txt.item x k = ⟨#[c]⟩ := by
  obtain ⟨j, rfl⟩ := Int.eq_ofNat_of_zero_le h0
  obtain ⟨c, hc⟩ := at_of_lt h1
  exact ⟨c, List.mem_of_getElem? hc, item_at hc⟩
theorem fmod_item {x : Str} {n : Int} {k : Int} (hx : (x.length : Int) = k) (h0 : 0 < k) : ∃ c, c ∈ x.cps.toList ∧ Txt.item x (n.fmod k) = ⟨#[c]⟩ :=
  item_any (Int.fmod_nonneg_of_pos _ h0) (by rw [hx]; exact Int.fmod_lt_of_pos _ h0)
end Mine
namespace Mine
theorem slice_to {x : Str} {n : Nat} (h : n ≤ x.length) : Txt.slice x none (some (n : Int)) = mkS (x.cps.toList.take n) := by
  have := StrLaws.sliceText_to (x := x) (j := (n : Int)) ⟨by omega, by rw [str_len] at h; omega⟩
  show StrLaws.sliceText x none (some (n : Int)) = _
  rw [this]
  simp [mkS]
theorem slice_fr {x : Str} {n : Nat} (h : n ≤ x.length) : Txt.slice x (some (n : Int)) none = mkS (x.cps.toList.drop n) := by
  have e := StrLaws.sliceText_from (x := x) (i := (n : Int)) ⟨by omega, by rw [str_len] at h; omega⟩
  show StrLaws.sliceText x (some (n : Int)) none = _
  rw [e]
  simp only [mkS, Int.toNat_natCast]
  congr 2
  apply List.take_of_length_le
  rw [List.length_drop]
  omega
theorem esc_cut (l2 : List Nat) : ∀ l1 : List Nat, escL (l1 ++ l2) = if l1.getLast? = some 13 ∧ l2.head? = some 10 then escL l1 ++ (escL l2).drop 1 else escL l1 ++ escL l2 := by
  refine crlf_ind ?_ ?_ ?_
  · simp [escL_nil]
  · intro r ih
    rw [List.cons_append, List.cons_append, escL_two, escL_two, ih]
    cases r with
    | nil => simp
    | cons a r => simp only [List.getLast?_cons_cons, List.cons_append]; split <;> rfl
  · intro c r hc ih
    cases r with
    | cons a r =>
      have hc' : ¬ (c = 13 ∧ (a :: r ++ l2).head? = some 10) := hc
      rw [List.cons_append, escL_cons _ _ hc', escL_cons _ _ hc, ih, List.getLast?_cons_cons]
      split <;> simp
    | nil =>
      have e1 : escL [c] = escC c := by rw [escL_cons c [] (by simp), escL_nil, List.append_nil]
      rw [List.cons_append, List.nil_append, e1]
      by_cases h : c = 13 ∧ l2.head? = some 10
      · obtain ⟨rfl, h2⟩ := h
        cases l2 with
        | nil => simp at h2
        | cons a l =>
          have : a = 10 := by simpa using h2
          subst this
          rw [escL_two, escL_cons 10 l (by simp)]
          simp [escC]
      · rw [escL_cons c l2 h]
        have : ¬ ([c].getLast? = some 13 ∧ l2.head? = some 10) := by simpa using h
        rw [if_neg this]
theorem hasCtl_mk (l : List Nat) : hasCtl (mkS l) = l.any ctl := rfl
theorem hasCtl_cut (x : Str) (n : Nat) : hasCtl x = (hasCtl (mkS (x.cps.toList.take n)) || hasCtl (mkS (x.cps.toList.drop n))) := by
  rw [hasCtl_mk, hasCtl_mk, ← List.any_append, List.take_append_drop]; rfl
end Mine

end
section
open PySem PySem.W PyProof.Rows PySem.Calls
set_option Elab.async false
set_option maxRecDepth 100000
set_option maxHeartbeats 1000000
namespace Mine

/-- a call that raises -/
def PX (prog : Program) (w : World) (K : Frag) (p : Program) (loose : List Str) (mean : ExcName → Option Value) (mg mb : Str → Option Value) (d u : Nat) (f : Addr) (vs : List Value) (cls : String) (A : List Value → Prop) : Prop :=
  ∀ (dp un : Nat) (gd : Option (List Code)) (fr : List Env) (base g : Heap) (news : List (Addr × Obj)) (s : Shared) (Q E : Value → Shared → Prop),
    Below (atop dp un gd fr) base fr g → K.In g → Top p loose mean mg mb g → g.StaysIn s.heap → g.objs.size = s.heap.objs.size → (∀ q ∈ news, s.heap.get? q.1 = some q.2 ∧ g.get? q.1 = none) →
    dp + d < recursionLimit → un + u < cLine → 0 < s.toks →
    (∀ e t ws h' tk', A ws → RaisedS base g fr e (.type cls) t ws news h' → g.UpToSlots h' → 0 < tk' → E (.ref e) { s with heap := h', toks := tk' }) →
    wpAny (model prog w) (atop dp un gd fr) (call (.ref f) vs) Q E s

def PXEnd (g : Heap) (L : Addr) (news : List (Addr × Obj)) (s : Shared) (cls : String) (A : List Value → Prop) (e : Value) (s' : Shared) : Prop :=
  ∃ a m h ws h' tk', e = .ref a ∧ s' = { s with heap := h', toks := tk' } ∧ 0 < tk' ∧ Fr g L h m ∧ News g L h news ∧ Heap.MadeExcOf h h' a (.type cls) ws ∧ A ws

section
variable {prog : Program} {w : World} {K : Frag} {p : Program} {loose : List Str} {mean : ExcName → Option Value} {mg mb : Str → Option Value} {d u : Nat} {f : Addr} {vs : List Value} {R : Value → Prop} {cls : String} {AX : List Value → Prop}

theorem PX.enter {name qual : Str} {params : Arguments} {body : List Stmt} {scope : Scope} {dV kV doc pm cdv ct oc : Value} {an od : Option Addr} {osl : Array (Option Value)} {binds : List (Str × Value)}
    (ho : K.lookup f = some ⟨oc, od, .func (fnOf name qual params body scope dV kV doc pm an cdv ct), osl⟩) (hcd : codeIn K cdv qual = true)
    (hbind : bindArgs (fnOf name qual params body scope dV kV doc pm an cdv ct) ⟨vs, []⟩ = pure binds) (hloc : (binds.all fun x => decide (scope.names.lookup x.1 = some .local)) = true)
    (hcell : ∀ x ∈ scope.names, x.2 ≠ .cell) (hco : scope.isCoroutine = false) (hgen : scope.isGenerator = false) (hk : scope.kind = .function)
    (h : ∀ (dp un : Nat) (gd : Option (List Code)) (fr : List Env) (base g : Heap) (L : Addr) (h₁ : Heap) (s : Shared) (news : List (Addr × Obj)),
      Below (atop dp un gd fr) base fr g → K.In g → Top p loose mean mg mb g → Fr g L h₁ (fun y => binds.reverse.lookup y) → News g L h₁ news → dp + d < recursionLimit → un + u < cLine → ∀ tk, 0 < tk →
      wpAny (model prog w) ((atop dp un gd fr).deeper (envOf qual scope L f cdv)) (execs body (envOf qual scope L f cdv))
        (fun _ _ => False) (PXEnd g L news s cls AX) { s with heap := h₁, toks := tk })
    (hd : 0 < d) : PX prog w K p loose mean mg mb d u f vs cls AX := by
  intro dp un gd fr base g news s Q E B X T hst hsz hnews h1 h2 h3 hE
  refine wpAny_call (codeAny_call_def (fd := fnOf name qual params body scope dV kV doc pm an cdv ct) (body := body) (binds := binds) (by show dp < _; omega) ((X.keeps hst) _ _ ho) rfl ((T.keeps hst).nolimit) (codeRec_of (X.keeps hst) hcd) rfl (BindsTo.of_eq hbind) hcell (locs hloc) (fun h₁ hns hk₁ => ?_) hco hgen hk)
  refine wpAny_mono (h dp un gd fr base g s.heap.objs.size h₁ s news B X T ⟨hns, fun b o e => hk₁ b o (hst b o e), Nat.le_of_eq hsz⟩ (fun q hq => ⟨hk₁ _ _ (hnews q hq).1, Nat.ne_of_lt (Heap.lt_size (hnews q hq).1), (hnews q hq).2⟩) h1 h2 _ (Nat.lt_of_lt_of_le h3 (Nat.le_add_right _ _))) (fun fl s' hp => hp.elim) fun e s' hp => ?_
  obtain ⟨a, m, h, ws, h', tk', rfl, rfl, ht, F, N, hx, hA⟩ := hp
  exact leave_raiseS B hx F N (fun h'' t RS _ hup => hE a t ws h'' tk' hA RS hup ht) hk

/-- a raising call out of a def's frame -/
theorem PX.call {dp un : Nat} {gd : Option (List Code)} {fr : List Env} {base g : Heap} {L a : Addr} {m : Str → Option Value} {news : List (Addr × Obj)} {name : Str} {scope : Scope} {cd : Value} {s : Shared} {Q E : Value → Shared → Prop}
    (C : PX prog w K p loose mean mg mb d u f vs cls AX) (B : Below (atop dp un gd fr) base fr g) (X : K.In g) (T : Top p loose mean mg mb g) (F : Fr g L s.heap m) (N : News g L s.heap news)
    (hd : dp + 1 + d < recursionLimit) (hu : un + 3 + u < cLine) (ht : 0 < s.toks)
    (h : ∀ e t ws G h' tk', AX ws → Fr g L G m → RaisedS base G (envOf name scope L a cd :: fr) e (.type cls) t ws news h' → G.UpToSlots h' → 0 < tk' → E (.ref e) { s with heap := h', toks := tk' }) (hk : scope.kind = .function := by rfl) :
    wpAny (model prog w) ((atop dp un gd fr).deeper (envOf name scope L a cd)) (call (.ref f) vs) Q E s := by
  obtain ⟨oL, es, ep, hLg, hLd, hN, hNs, st, B₂⟩ := kts_enter (A := atop (dp + 1) (un + 3) gd (envOf name scope L a cd :: fr)) (cn := name) (cs := scope) (a := a) (ccd := cd) B F N rfl hk
  exact C (dp + 1) (un + 3) gd (envOf name scope L a cd :: fr) base _ news s Q E B₂ (X.keeps st) (T.keeps st) (fun b o e => of_hideAll _ e) (hideAll_size _ _) (fun q hq => ⟨(N q hq).1, hideAll_none _ (List.mem_map_of_mem hq)⟩) hd hu ht
    fun e t ws h' tk' hA R U ht' => h e t ws _ h' tk' hA ⟨hN _ hLg, st, F.above⟩ R U ht'

/-- a call that changes nothing that stands but the slots of the frames below -/
def PT (prog : Program) (w : World) (K : Frag) (p : Program) (loose : List Str) (mean : ExcName → Option Value) (mg mb : Str → Option Value) (d u : Nat) (f : Addr) (vs : List Value) (R : Value → Prop) : Prop :=
  ∀ (dp un : Nat) (gd : Option (List Code)) (fr : List Env) (base : Heap) (s : Shared) (Q E : Value → Shared → Prop),
    Below (atop dp un gd fr) base fr s.heap → K.In base → Top p loose mean mg mb base → KtsDicts (fr.filterMap (·.frame)) s.heap → dp + d < recursionLimit → un + u < cLine → 0 < s.toks →
    (∀ v g' h' tk', R v → KtsTurn (fr.filterMap (·.frame)) s.heap g' → g'.StaysIn h' → 0 < tk' → Q v { s with heap := h', toks := tk' }) →
    wpAny (model prog w) (atop dp un gd fr) (call (.ref f) vs) Q E s

def PTEnd (fs : List Addr) (g : Heap) (s : Shared) (R : Value → Prop) (v : Value) (s' : Shared) : Prop := ∃ g' h' tk', s' = { s with heap := h', toks := tk' } ∧ KtsTurn fs g g' ∧ g'.StaysIn h' ∧ 0 < tk' ∧ R v

theorem PTEnd.mk {fs : List Addr} {g g' : Heap} {s : Shared} {R : Value → Prop} {v : Value} {h' : Heap} {tk' : Nat} {L : Addr} {m : Str → Option Value} (T : KtsTurn fs g g') (F : Fr g' L h' m) (ht : 0 < tk') (hR : R v) : PTEnd fs g s R v { s with heap := h', toks := tk' } :=
  ⟨g', h', tk', rfl, T, F.keep, ht, hR⟩

theorem PF.toPT (C : PF prog w K p loose mean mg mb d u f vs R) : PT prog w K p loose mean mg mb d u f vs R :=
  fun dp un gd fr base s Q E B X T _ h1 h2 h3 hq => C dp un gd fr base s Q E B (X.keeps B.stays) (T.keeps B.stays) h1 h2 h3 fun v h' tk' r k ht => hq v s.heap h' tk' r KtsTurn.refl k ht

theorem PT.mono {R' : Value → Prop} {d' u' : Nat} (C : PT prog w K p loose mean mg mb d u f vs R) (hR : ∀ v, R v → R' v) (hd : d ≤ d') (hu : u ≤ u') : PT prog w K p loose mean mg mb d' u' f vs R' :=
  fun dp un gd fr base s Q E B X T D h1 h2 h3 hq => C dp un gd fr base s Q E B X T D (by omega) (by omega) h3 fun v g' h' tk' r k => hq v g' h' tk' (hR v r) k

theorem PT.enter {name qual : Str} {params : Arguments} {body : List Stmt} {scope : Scope} {dV kV doc pm cdv ct oc : Value} {an od : Option Addr} {osl : Array (Option Value)} {binds : List (Str × Value)}
    (ho : K.lookup f = some ⟨oc, od, .func (fnOf name qual params body scope dV kV doc pm an cdv ct), osl⟩) (hcd : codeIn K cdv qual = true)
    (hbind : bindArgs (fnOf name qual params body scope dV kV doc pm an cdv ct) ⟨vs, []⟩ = pure binds) (hloc : (binds.all fun x => decide (scope.names.lookup x.1 = some .local)) = true)
    (hcell : ∀ x ∈ scope.names, x.2 ≠ .cell) (hco : scope.isCoroutine = false) (hgen : scope.isGenerator = false) (hk : scope.kind = .function)
    (h : ∀ (dp un : Nat) (gd : Option (List Code)) (fr : List Env) (base g : Heap) (L : Addr) (h₁ : Heap) (s : Shared),
      Below (atop dp un gd fr) base fr g → K.In base → Top p loose mean mg mb base → K.In g → Top p loose mean mg mb g → KtsDicts (fr.filterMap (·.frame)) g → KtsTurn (fr.filterMap (·.frame)) g g → Fr g L h₁ (fun y => binds.reverse.lookup y) → News g L h₁ [] → dp + d < recursionLimit → un + u < cLine → ∀ tk, 0 < tk →
      wpAny (model prog w) ((atop dp un gd fr).deeper (envOf qual scope L f cdv)) (execs body (envOf qual scope L f cdv))
        (fun fl s' => PTEnd (fr.filterMap (·.frame)) g s R (match fl with | .ret v => v | _ => .none) s') (fun _ _ => False) { s with heap := h₁, toks := tk })
    (hd : 0 < d) : PT prog w K p loose mean mg mb d u f vs R := by
  intro dp un gd fr base s Q E B XB TB D h1 h2 h3 hq
  have X := XB.keeps B.stays
  have T := TB.keeps B.stays
  refine wpAny_call (codeAny_call_def (fd := fnOf name qual params body scope dV kV doc pm an cdv ct) (body := body) (binds := binds) (by show dp < _; omega) (X _ _ ho) rfl T.nolimit (codeRec_of X hcd) rfl (BindsTo.of_eq hbind) hcell (locs hloc) (fun h₁ hns hk₁ => ?_) hco hgen hk)
  refine wpAny_mono (h dp un gd fr base s.heap s.heap.objs.size h₁ s B XB TB X T D KtsTurn.refl ⟨hns, hk₁, Nat.le_refl _⟩ News.nil h1 h2 _ (Nat.lt_of_lt_of_le h3 (Nat.le_add_right _ _))) (fun fl s' hp => ?_) fun _ _ y => y.elim
  obtain ⟨g', h', tk', e, hT, hst, ht, hR⟩ := hp
  subst e
  exact hq _ g' h' tk' hR hT hst ht

theorem PT.call {dp un : Nat} {gd : Option (List Code)} {fr : List Env} {base g₀ g : Heap} {L a : Addr} {m : Str → Option Value} {news : List (Addr × Obj)} {name : Str} {scope : Scope} {cd : Value} {s : Shared} {Q E : Value → Shared → Prop}
    (C : PT prog w K p loose mean mg mb d u f vs R) (B : Below (atop dp un gd fr) base fr g) (XB : K.In base) (TB : Top p loose mean mg mb base) (D : KtsDicts (fr.filterMap (·.frame)) g) (T0 : KtsTurn (fr.filterMap (·.frame)) g₀ g) (F : Fr g L s.heap m) (N : News g L s.heap news)
    (hd : dp + 1 + d < recursionLimit) (hu : un + 3 + u < cLine) (ht : 0 < s.toks)
    (h : ∀ v g' h' tk', R v → Below (atop dp un gd fr) base fr g' → K.In g' → Top p loose mean mg mb g' → KtsDicts (fr.filterMap (·.frame)) g' → KtsTurn (fr.filterMap (·.frame)) g₀ g' → Fr g' L h' m → News g' L h' news → 0 < tk' → Q v { s with heap := h', toks := tk' }) (hk : scope.kind = .function := by rfl) :
    wpAny (model prog w) ((atop dp un gd fr).deeper (envOf name scope L a cd)) (call (.ref f) vs) Q E s := by
  obtain ⟨oL, es, ep, hL, hLd, hLk, hLf⟩ := F.ns
  refine C (dp + 1) (un + 3) gd (envOf name scope L a cd :: fr) base s Q E (B.push F hk) XB TB (fun b hb => ?_) hd hu ht fun v g'' h' tk' r T' hst ht' => ?_
  · rcases kts_mem hb with rfl | hb
    · exact ⟨oL, es, ep, hL, hLd⟩
    · obtain ⟨o, es', n', ho', hd'⟩ := D b hb
      exact ⟨o, es', n', F.keep b o ho', hd'⟩
  have nL₀ : g.get? L = none := kts_self F
  obtain ⟨sl, hs⟩ := T'.up hL
  obtain ⟨T₁, S₁⟩ := kts_turn_at (h := h') (fs := fr.filterMap (·.frame)) (g := g)
    (fun b hb => by
      obtain ⟨_, o, ho', _⟩ := B.frames.mem hb
      exact ⟨o, ho'⟩)
    (fun b o e nmem => hst b o (T'.other b o (F.keep b o e) (fun q => by
      rcases kts_mem q with z | z
      · rw [z, nL₀] at e
        cases e
      · exact nmem z)))
    (fun b o e hm => by
      obtain ⟨sl', hs'⟩ := T'.up (F.keep b o e)
      exact ⟨sl', hst _ _ hs'⟩)
  have B₃ : Below (atop dp un gd fr) base fr (ktsHeap h' (fr.filterMap (·.frame)) g) := ⟨B.stack, fun b o e => T₁.other b o (B.stays b o e) (fun hm => by
    rw [(B.frames.mem hm).1] at e
    cases e), B.frames.of_keeps fun b o e _ => by
    obtain ⟨sl', hs'⟩ := T₁.up e
    exact ⟨_, hs', rfl⟩⟩
  refine h v _ h' tk' r B₃ (XB.keeps B₃.stays) (TB.keeps B₃.stays) (D.turn T₁) (T0.trans T₁) ⟨⟨_, es, ep, hst _ _ hs, hLd, hLk, hLf⟩, S₁, by rw [T₁.size]; exact F.above⟩ (fun q hq => ⟨hst _ _ (T'.other _ _ (N q hq).1 fun z => ?_), (N q hq).2.1, T₁.none_ _ (N q hq).2.2⟩) ht'
  rcases kts_mem z with z | z
  · exact (N q hq).2.1 z
  · obtain ⟨_, o, ho', _⟩ := B.frames.mem z
    rw [(N q hq).2.2] at ho'; cases ho'
end
end Mine

end
section
open PySem PySem.W PyProof.Rows PySem.Calls
set_option Elab.async false
set_option maxRecDepth 100000
set_option maxHeartbeats 1000000
namespace Mine
section
variable {prog : Program} {w : World} {A : Around} {s : Shared} {env : Env} {elt iter : Expr} {x : Str} {px : Pos} {ifs : List Expr} {scope : Scope} {pos : Pos} {Q : Value → Shared → Prop}
/-- a comprehension over a text's signs -/
theorem lcomp_str {xt : Str} {tx : Tok} {cl : List (Str × Addr)} (p : Value → Bool) (G : Value → Value → Prop)
    (hiter : ∀ Q' : Value → Shared → Prop, Q' (.str xt tx) s → wpAny (model prog w) A (eval iter env) Q' NoE s)
    (hh : A.handled = none) (hsz : xt.length ≤ sizeLine) (ht : 0 < s.toks)
    (hclos : closureFor scope env = pure cl) (hcell : ∀ y ∈ scope.names, y.2 ≠ .cell) (hkind : scope.kind = .function) (hnames : ∀ y ∈ scope.names, y.2 = .local → scope.names.lookup y.1 = some .local) (hx : scope.names.lookup x = some .local)
    (tests : ∀ C c t s₃ m₃, c ∈ xt.cps.toList → s₃.heap.Ns C m₃ → m₃ x = some (.str ⟨#[c]⟩ t) → s.heap.StaysIn s₃.heap → s.heap.objs.size ≤ C → 0 < s₃.toks →
      wpAny (model prog w) A (forIn ifs true fun c r => if r = true then do let ok ← isTrue c (compEnvC scope cl C env) (eval c (compEnvC scope cl C env)); pure (ForInStep.yield ok) else pure (ForInStep.yield r)) (fun ok s₄ => ok = p (.str ⟨#[c]⟩ t) ∧ Keeps s₃ s₄) NoE s₃)
    (helt : ∀ C c t s₃ m₃, c ∈ xt.cps.toList → p (.str ⟨#[c]⟩ t) = true → s₃.heap.Ns C m₃ → m₃ x = some (.str ⟨#[c]⟩ t) → s.heap.StaysIn s₃.heap → s.heap.objs.size ≤ C → 0 < s₃.toks →
      wpAny (model prog w) A (eval elt (compEnvC scope cl C env)) (fun y s₄ => G (.str ⟨#[c]⟩ t) y ∧ Keeps s₃ s₄) NoE s₃)
    (done : ∀ D h' tk (vs ys : List Value) n, s.heap.get? D = none → h'.get? D = some (listOf ys.toArray n) → vs.length = xt.length → (∀ (j : Nat) v, vs[j]? = some v → SignAt xt j v) → Paired G (vs.filter p) ys → s.heap.StaysIn h' → 0 < tk → Q (.ref D) { s with heap := h', toks := tk })
    (hs : ∀ x, foldedSetIterable iter env x = pure x := by intro _; rfl) :
    wpAny (model prog w) A (eval (.ListComp elt [⟨.Name x px, iter, ifs, 0⟩] scope pos) env) Q NoE s := by
  refine wpAny_pos ht (wpAny_noRaise ?_)
  refine wpAny_ListComp_free p G hclos hcell hkind hnames hx (hiter _ ?_) hs
  refine wpAny_pyIter_str fun o St W hst => ?_
  have up : ∀ (h₂ h₃ : Heap), h₂ = s.heap.push o → (∀ b o, b ∉ [s.heap.objs.size] → h₂.get? b = some o → h₃.get? b = some o) → s.heap.StaysIn h₃ := by
    rintro h₂ h₃ rfl hk b ob e
    exact hk b ob (fun q => absurd (Heap.lt_size e) (by rw [List.mem_singleton.mp q]; exact Nat.lt_irrefl _)) (Heap.get?_push_of_some _ e)
  refine ⟨_, _, _, _, _, _, rfl, W A hh, hsz, hst, ?_, ⟨?_, ?_⟩, ?_⟩
  · intro b hb
    rw [List.mem_singleton.mp hb]
    show _ < (s.heap.push o).objs.size
    rw [Heap.size_push]; exact Nat.lt_succ_self _
  · rintro C i v s₃ m₃ E' hC ⟨c, t, hc, rfl⟩ hn hm hk htk
    refine wpAny_noRaise (tests C c t s₃ m₃ ?_ hn hm (up _ _ rfl hk) (by have : (s.heap.push o).objs.size ≤ C := hC; rw [Heap.size_push] at this; omega) (Nat.lt_of_lt_of_le ht htk))
    exact Array.mem_toList_iff.mpr (Array.mem_of_getElem? hc)
  · rintro C i v s₃ m₃ E' hC ⟨c, t, hc, rfl⟩ hpv hn hm hk htk
    refine wpAny_noRaise (helt C c t s₃ m₃ ?_ hpv hn hm (up _ _ rfl hk) (by have : (s.heap.push o).objs.size ≤ C := hC; rw [Heap.size_push] at this; omega) (Nat.lt_of_lt_of_le ht htk))
    exact Array.mem_toList_iff.mpr (Array.mem_of_getElem? hc)
  · rintro D h' tk ys vs hD _ ⟨n, hpl⟩ hlen hP hF hk htk
    obtain ⟨ys⟩ := ys
    refine done D h' tk vs ys n ?_ hpl hlen hP hF (up _ _ rfl hk) htk
    cases e : s.heap.get? D with
    | none => rfl
    | some o' => rw [Heap.get?_push_of_some _ e] at hD; cases hD
/-- the sign itself as the element -/
theorem comp_name {cl : List (Str × Addr)} {C : Addr} {m₃ : Str → Option Value} {v : Value} {pa : Pos} (hn : s.heap.Ns C m₃) (hm : m₃ x = some v) (hk : (compEnvC scope cl C env).scope.kind = .function) (hx : (compEnvC scope cl C env).kindOf x = some .local)
    (hd2 : (x == ("__debug__" : Str)) = false) (h : Q v s) : wpAny (model prog w) A (eval (.Name x pa) (compEnvC scope cl C env)) Q NoE s :=
  wpAny_Name (wpAny_loadName_local hk hx hn hm h) hd2
end
theorem signs_at {xt : Str} {vs : List Value} (h : ∀ (j : Nat) v, vs[j]? = some v → SignAt xt j v) : ∀ v ∈ vs, ∃ c t, c ∈ xt.cps.toList ∧ v = .str ⟨#[c]⟩ t := by
  intro v hv
  obtain ⟨j, hj⟩ := List.getElem?_of_mem hv
  obtain ⟨c, t, hc, e⟩ := h j v hj
  exact ⟨c, t, Array.mem_toList_iff.mpr (Array.mem_of_getElem? hc), e⟩
end Mine

end
section
open PySem PySem.W PyProof.Rows PySem.Calls
set_option Elab.async false
set_option maxRecDepth 100000
set_option maxHeartbeats 1000000
namespace Mine
section
variable {prog : Program} {w : World} {A : Around} {s : Shared} {env : Env} {elt iter : Expr} {x : Str} {px : Pos} {ifs : List Expr} {scope : Scope} {pos : Pos} {Q : Value → Shared → Prop}
/-- what is to be shown behind a comprehension's source -/
def LC (prog : Program) (w : World) (A : Around) (env : Env) (elt : Expr) (x : Str) (ifs : List Expr) (scope : Scope) (cl : List (Str × Addr)) (p : Value → Bool) (G : Value → Value → Prop) (Q : Value → Shared → Prop) (xv : Value) (s : Shared) : Prop :=
  ∃ l items, xv = .ref l ∧ s.heap.IsList l items ∧ items.size ≤ sizeLine ∧ 0 < s.toks ∧
    (∀ C v s₃ m₃, v ∈ items.toList → s₃.heap.Ns C m₃ → m₃ x = some v → s.heap.StaysIn s₃.heap → s.heap.objs.size ≤ C → 0 < s₃.toks →
      wpAny (model prog w) A (forIn ifs true fun c r => if r = true then do let ok ← isTrue c (compEnvC scope cl C env) (eval c (compEnvC scope cl C env)); pure (ForInStep.yield ok) else pure (ForInStep.yield r)) (fun ok s₄ => ok = p v ∧ Keeps s₃ s₄) NoE s₃) ∧
    (∀ C v s₃ m₃, v ∈ items.toList → p v = true → s₃.heap.Ns C m₃ → m₃ x = some v → s.heap.StaysIn s₃.heap → s.heap.objs.size ≤ C → 0 < s₃.toks →
      wpAny (model prog w) A (eval elt (compEnvC scope cl C env)) (fun y s₄ => G v y ∧ Keeps s₃ s₄) NoE s₃) ∧
    (∀ D h' tk (ys : List Value) n, s.heap.get? D = none → h'.get? D = some (listOf ys.toArray n) → Paired G (items.toList.filter p) ys → s.heap.StaysIn h' → 0 < tk → Q (.ref D) { s with heap := h', toks := tk })
theorem lcomp_any {cl : List (Str × Addr)} (p : Value → Bool) (G : Value → Value → Prop)
    (hclos : closureFor scope env = pure cl) (hh : A.handled = none) (hcell : ∀ y ∈ scope.names, y.2 ≠ .cell) (hkind : scope.kind = .function) (hnames : ∀ y ∈ scope.names, y.2 = .local → scope.names.lookup y.1 = some .local) (hx : scope.names.lookup x = some .local)
    (ht : 0 < s.toks) (h : wpAny (model prog w) A (eval iter env) (LC prog w A env elt x ifs scope cl p G Q) NoE s)
    (hs : ∀ x, foldedSetIterable iter env x = pure x := by intro _; rfl) :
    wpAny (model prog w) A (eval (.ListComp elt [⟨.Name x px, iter, ifs, 0⟩] scope pos) env) Q NoE s := by
  refine wpAny_pos ht (wpAny_noRaise ?_)
  refine wpAny_ListComp_free p G hclos hcell hkind hnames hx (wpAny_mono h (fun xv s₁ h₁ => ?_) fun _ _ y => y) hs
  obtain ⟨l, items, rfl, hl, hsz, ht, tests, helt, done⟩ := h₁
  refine lc_list (Q := fun a s' => 0 < s'.toks → Q a s') p G hh hl hsz ht tests helt ?_
  rintro D h' tk ys hD ⟨n, hpl⟩ hP hst htk
  obtain ⟨ys⟩ := ys
  exact done D h' tk ys n hD hpl hP hst htk
end
end Mine

end
section
open PySem PySem.W PyProof.Rows PySem.Calls
set_option Elab.async false
set_option maxRecDepth 100000
set_option maxHeartbeats 1000000
namespace Mine
section
variable {prog : Program} {w : World} {A : Around} {s : Shared} {env : Env} {h₀ : Heap} {x : Str} {px : Pos} {body : List Stmt} {Q : Flow → Shared → Prop}
/-- behind a while's test that fails -/
def SDone (h₀ : Heap) (L : Addr) (m : Str → Option Value) (news : List (Addr × Obj)) (X : Prop) (s s₂ : Shared) : Prop :=
  ∃ h' tk', s₂ = { s with heap := h', toks := tk' } ∧ 0 < tk' ∧ Fr h₀ L h' m ∧ News h₀ L h' news ∧ X
theorem SDone.mk {L : Addr} {m : Str → Option Value} {news : List (Addr × Obj)} {X : Prop} {s : Shared} {h' : Heap} {tk' : Nat} (F : Fr h₀ L h' m) (N : News h₀ L h' news) (ht : 0 < tk') (hX : X) : SDone h₀ L m news X s { s with heap := h', toks := tk' } := ⟨h', tk', rfl, ht, F, N, hX⟩
/-- a while whose end is said once -/
theorem swhileD {σ : Type} {test : Expr} {pos : Pos} {m₀ : Str → Option Value} (Led : σ → List (Addr × Obj)) (ps : σ → List (Str × Value)) (stored : List Str) (P : σ → Prop) (X : σ → Prop) (μ : σ → Nat) (c₀ : σ)
    (F : Fr h₀ env.locals s.heap m₀) (N : News h₀ env.locals s.heap (Led c₀)) (ht : 0 < s.toks) (hk : ∀ p ∈ ps c₀, m₀ p.1 = some p.2) (h0 : P c₀)
    (turn : ∀ (c : σ) (u : Str → Option Value) h tk, P c → 0 < tk →
      Fr h₀ env.locals h (locs4 m₀ u stored (ps c)) → News h₀ env.locals h (Led c) →
      wpAny (model prog w) A (isTrue test env (eval test env)) (fun b s₂ => if b then wpAny (model prog w) A (execs body env) (SPost h₀ env.locals Led ps (fun _ => False) stored m₀ [] (fun c' => μ c' < μ c ∧ P c') s Q) NoE s₂
        else SDone h₀ env.locals (locs4 m₀ u stored (ps c)) (Led c) (X c) s s₂) NoE { s with heap := h, toks := tk })
    (done : ∀ (c : σ) (u : Str → Option Value) h tk, P c → X c → 0 < tk → Fr h₀ env.locals h (locs4 m₀ u stored (ps c)) → News h₀ env.locals h (Led c) → Q .next { s with heap := h, toks := tk }) :
    wpAny (model prog w) A (exec (.While test body [] pos) env) Q NoE s := by
  refine swhile Led ps stored P μ c₀ F N ht hk h0 fun c u h tk hP htk F' N' => ?_
  refine wpAny_mono (turn c u h tk hP htk F' N') (fun b s₂ h₂ => ?_) fun _ _ y => y
  cases b with
  | true => exact h₂
  | false =>
    obtain ⟨h', tk', rfl, ht', F'', N'', hX⟩ := h₂
    exact done c u h' tk' hP hX ht' F'' N''
/-- a for loop over a range by any step -/
theorem for_step {σ : Type} {r : Addr} {a₀ b₀ st₀ : Int} {t₀ u₀ v₀ : Tok} {n : Nat} {m₀ : Str → Option Value} (Led : σ → List (Addr × Obj)) (ps : σ → List (Str × Value)) (stored : List Str) (P : Nat → σ → Prop) (c₀ : σ)
    (hr : IsRange s.heap r a₀ b₀ st₀ t₀ u₀ v₀) (hsmall : Builtin.Range.small a₀ b₀ st₀ = true) (hn : Builtin.Range.rangeSize a₀ b₀ st₀ = (n : Int))
    (hh : A.handled = none) (hx : env.kindOf x = some .local) (hp : (env.scope.kind == .class || (env.scope.kind == .module && env.locals != env.globals)) = false)
    (F : Fr h₀ env.locals s.heap m₀) (N : News h₀ env.locals s.heap (Led c₀)) (ht : 0 < s.toks) (hk : ∀ p ∈ ps c₀, m₀ p.1 = some p.2) (h0 : P 0 c₀)
    (turn : ∀ (c : σ) (i : Nat) (t : Tok) (u : Str → Option Value) h tk (I : Addr) oI, i < n → P i c → 0 < tk → AllNe I (Led c) →
      Fr h₀ env.locals h (fun y => if y = x then some (.int (a₀ + (i : Int) * st₀) t) else locs4 m₀ u stored (ps c) y) → News h₀ env.locals h ((I, oI) :: Led c) →
      wpAny (model prog w) A (execs body env) (SPost h₀ env.locals Led ps (· = x) stored m₀ [(I, oI)] (P (i + 1)) s Q) NoE { s with heap := h, toks := tk })
    (done : ∀ (c : σ) (u : Str → Option Value) h tk, P n c → 0 < tk → Fr h₀ env.locals h (fun y => if y = x then u y else locs4 m₀ u stored (ps c) y) → News h₀ env.locals h (Led c) → Q .next { s with heap := h, toks := tk }) :
    wpAny (model prog w) A (pyIter (.ref r)) (fun it s₂ => codeAny (model prog w) A (.forLoop (.Name x px) it body [] env) (fun r s' => match r with | .ok f => Q f s' | .error e => cameBackBy (model prog w) A env NoE e s') s₂) NoE s := by
  refine wpAny_pyIter_range hr hsmall ?_
  have W : Walks prog w A s.heap.objs.size [s.heap.objs.size] [s.heap.objs.size] n (fun i v => i < n ∧ ∃ t, v = .int (a₀ + i * st₀) t)
      (fun i h => IsRangeIter h s.heap.objs.size (a₀ + (i : Nat) * st₀) ((n : Int) - (i : Nat)) st₀) := (Walks.range hh _ a₀ st₀ n).bound
  refine sloop (s := { s with heap := s.heap.push _ }) Led ps stored P c₀ W hx hp (Nat.ne_of_gt F.ns.lt) (next_is_new F) (fun i h st => ⟨_, st⟩) (fun b hb => .inl (List.mem_singleton.mp hb)) (by show IsRangeIter _ _ _ _ _; rw [hn]; simpa using Heap.get?_push_size _ rfl) (F.push _) (fun p hp => ⟨Heap.get?_push_of_some _ (N p hp).1, (N p hp).2⟩)
      (allNe_iff.mpr fun p hp => Nat.ne_of_lt (Heap.lt_size (N p hp).1)) ht hk h0 ?_ ?_
  · rintro c i v u h tk oI hi ⟨_, t, rfl⟩ hP htk hne F' N'
    exact turn c i t u h tk _ oI hi hP htk hne F' N'
  · intro c u h tk hP htk F' N'
    exact done c u h tk hP htk F' N'
/-- a loop's end, weakened: what follows is then walked once -/
theorem for_weak {v : Value} {Q' : Flow → Shared → Prop}
    (h : wpAny (model prog w) A (pyIter v) (fun it s₂ => codeAny (model prog w) A (.forLoop (.Name x px) it body [] env) (fun r s' => match r with | .ok f => Q' f s' | .error e => cameBackBy (model prog w) A env NoE e s') s₂) NoE s)
    (imp : ∀ f s', Q' f s' → Q f s') :
    wpAny (model prog w) A (pyIter v) (fun it s₂ => codeAny (model prog w) A (.forLoop (.Name x px) it body [] env) (fun r s' => match r with | .ok f => Q f s' | .error e => cameBackBy (model prog w) A env NoE e s') s₂) NoE s :=
  wpAny_mono h (fun it s₂ h₂ => codeAny_mono h₂ fun r s' h' => by
    cases r with
    | ok f => exact imp f s' h'
    | error e => exact h') fun _ _ y => y
end
end Mine

end
section
open PySem PySem.W PyProof.Rows PySem.Calls
set_option Elab.async false
set_option maxRecDepth 100000
set_option maxHeartbeats 1000000
namespace Mine
section
variable {prog : Program} {w : World} {A : Around} {s : Shared} {env : Env} {h₀ : Heap} {x : Str} {px : Pos} {body : List Stmt} {Q : Flow → Shared → Prop}
/-- the common end of a loop that may break -/
def BEnd {σ : Type} (h₀ : Heap) (L : Addr) (Led : σ → List (Addr × Obj)) (ps : σ → List (Str × Value)) (x : Str) (stored : List Str) (m₀ : Str → Option Value) (X : σ → Prop) (s s₂ : Shared) : Prop :=
  ∃ c' h' tk' m', s₂ = { s with heap := h', toks := tk' } ∧ 0 < tk' ∧ Fr h₀ L h' m' ∧ News h₀ L h' (Led c') ∧ (∀ p ∈ ps c', m' p.1 = some p.2) ∧ (∀ z, ¬ z = x → (∀ p ∈ ps c', z ≠ p.1) → stored.contains z = false → m' z = m₀ z) ∧ X c'
theorem BEnd.mk {σ : Type} {L : Addr} {Led : σ → List (Addr × Obj)} {ps : σ → List (Str × Value)} {stored : List Str} {m₀ : Str → Option Value} {X : σ → Prop} {s : Shared} (c' : σ) {h' : Heap} {tk' : Nat} {m' : Str → Option Value} {news : List (Addr × Obj)}
    (F : Fr h₀ L h' m') (N : News h₀ L h' news) (ht : 0 < tk') (hs : ∀ p ∈ Led c', p ∈ news) (hk : ∀ p ∈ ps c', m' p.1 = some p.2) (hr : ∀ z, ¬ z = x → (∀ p ∈ ps c', z ≠ p.1) → stored.contains z = false → m' z = m₀ z) (hX : X c') :
    BEnd h₀ L Led ps x stored m₀ X s { s with heap := h', toks := tk' } := ⟨c', h', tk', m', rfl, ht, F, kst_newsOf N hs, hk, hr, hX⟩
def NEnd {σ : Type} (h₀ : Heap) (L : Addr) (Led : σ → List (Addr × Obj)) (ps : σ → List (Str × Value)) (x : Str) (stored : List Str) (m₀ : Str → Option Value) (X : σ → Prop) (s : Shared) (f : Flow) (s₂ : Shared) : Prop :=
  match f with
  | .next => BEnd h₀ L Led ps x stored m₀ X s s₂
  | _ => False
theorem NEnd.out {σ : Type} {L : Addr} {Led : σ → List (Addr × Obj)} {ps : σ → List (Str × Value)} {stored : List Str} {m₀ : Str → Option Value} {X : σ → Prop} {f : Flow} {s₂ : Shared} (h : NEnd h₀ L Led ps x stored m₀ X s f s₂)
    (done : ∀ (c : σ) (u : Str → Option Value) h tk, X c → 0 < tk → Fr h₀ L h (fun y => if y = x then u y else locs4 m₀ u stored (ps c) y) → News h₀ L h (Led c) → Q .next { s with heap := h, toks := tk }) : Q f s₂ := by
  cases f with
  | next =>
    obtain ⟨c', h', tk', m', rfl, ht, F, N, hk, hr, hX⟩ := h
    refine done c' m' h' tk' hX ht ?_ N
    have em : (fun y => if y = x then m' y else locs4 m₀ m' stored (ps c') y) = m' := by
      funext y
      by_cases hy : y = x
      · rw [if_pos hy]
      · rw [if_neg hy]; exact locs_eq (nm := (· = x)) hk hr hy
    rw [em]; exact F
  | ret v => exact h.elim
  | brk => exact h.elim
  | cont => exact h.elim
theorem NEnd.of {σ : Type} {L : Addr} {Led : σ → List (Addr × Obj)} {ps : σ → List (Str × Value)} {stored : List Str} {m₀ : Str → Option Value} {X : σ → Prop} {c : σ} {u : Str → Option Value} {h : Heap} {tk : Nat} (hX : X c) (ht : 0 < tk)
    (F : Fr h₀ L h (fun y => if y = x then u y else locs4 m₀ u stored (ps c) y)) (N : News h₀ L h (Led c)) (hn : ∀ p ∈ ps c, p.1 ≠ x) (hk : ∀ p ∈ ps c, kstB (fun z => if stored.contains z then u z else m₀ z) (ps c) p.1 = some p.2) : NEnd h₀ L Led ps x stored m₀ X s .next { s with heap := h, toks := tk } := by
  refine ⟨c, h, tk, _, rfl, ht, F, N, fun p hp => ?_, fun z hz hn hs => ?_, hX⟩
  · rw [if_neg (hn p hp)]; exact hk p hp
  · rw [if_neg hz]
    have : ∀ (l : List (Str × Value)), (∀ p ∈ l, z ≠ p.1) → kstB (fun z => if stored.contains z then u z else m₀ z) l z = m₀ z := by
      intro l hl
      induction l with
      | nil => show (if stored.contains z = true then u z else m₀ z) = m₀ z; rw [hs]; simp
      | cons p r ih => show (if z = p.1 then some p.2 else kstB _ r z) = m₀ z; rw [if_neg (hl p (.head _))]; exact ih fun q hq => hl q (.tail _ hq)
    exact this _ hn
/-- over a range by ones, with one end for both its breaks and its last turn -/
theorem for_rangeE {σ : Type} {r : Addr} {a₀ b₀ : Int} {t₀ u₀ v₀ : Tok} {n : Nat} {m₀ : Str → Option Value} (Led : σ → List (Addr × Obj)) (ps : σ → List (Str × Value)) (stored : List Str) (P : Nat → σ → Prop) (X : σ → Prop) (c₀ : σ)
    (hr : IsRange s.heap r a₀ b₀ 1 t₀ u₀ v₀) (hsmall : Builtin.Range.small a₀ b₀ 1 = true) (hn : Builtin.Range.rangeSize a₀ b₀ 1 = (n : Int))
    (hh : A.handled = none) (hx : env.kindOf x = some .local) (hp : (env.scope.kind == .class || (env.scope.kind == .module && env.locals != env.globals)) = false)
    (F : Fr h₀ env.locals s.heap m₀) (N : News h₀ env.locals s.heap (Led c₀)) (ht : 0 < s.toks) (hk : ∀ p ∈ ps c₀, m₀ p.1 = some p.2) (h0 : P 0 c₀) (hX : ∀ c, P n c → X c)
    (hne : ∀ c, ∀ p ∈ ps c, p.1 ≠ x) (hall : ∀ c u, ∀ p ∈ ps c, locs4 m₀ u stored (ps c) p.1 = some p.2)
    (turn : ∀ (c : σ) (i : Nat) (t : Tok) (u : Str → Option Value) h tk (I : Addr) oI, i < n → P i c → 0 < tk → AllNe I (Led c) →
      Fr h₀ env.locals h (fun y => if y = x then some (.int (a₀ + (i : Int)) t) else locs4 m₀ u stored (ps c) y) → News h₀ env.locals h ((I, oI) :: Led c) →
      wpAny (model prog w) A (execs body env) (SPost h₀ env.locals Led ps (· = x) stored m₀ [(I, oI)] (P (i + 1)) s (NEnd h₀ env.locals Led ps x stored m₀ X s)) NoE { s with heap := h, toks := tk })
    (done : ∀ (c : σ) (u : Str → Option Value) h tk, X c → 0 < tk → Fr h₀ env.locals h (fun y => if y = x then u y else locs4 m₀ u stored (ps c) y) → News h₀ env.locals h (Led c) → Q .next { s with heap := h, toks := tk }) :
    wpAny (model prog w) A (pyIter (.ref r)) (fun it s₂ => codeAny (model prog w) A (.forLoop (.Name x px) it body [] env) (fun r s' => match r with | .ok f => Q f s' | .error e => cameBackBy (model prog w) A env NoE e s') s₂) NoE s :=
  for_weak (for_range Led ps stored P c₀ hr hsmall hn hh hx hp F N ht hk h0 turn fun c u h tk hP ht' F' N' => NEnd.of (hX c hP) ht' F' N' (hne c) (hall c u)) fun _ _ h => h.out done
end
end Mine

end
section
open PySem PySem.W PyProof.Rows PySem.Calls
set_option Elab.async false
set_option maxRecDepth 100000
set_option maxHeartbeats 1000000
namespace Mine
theorem escC_pos (k : Nat) : 1 ≤ (escC k).length := by unfold escC; (repeat' split) <;> simp
theorem escL_one (c : Nat) : escL [c] = escC c := by rw [escL_cons c [] (by simp), escL_nil, List.append_nil]
def wr (l : List Nat) (k : Nat) : List Nat := match l[k]? with | none => [] | some c => if c = 10 ∧ 1 ≤ k ∧ l[k - 1]? = some 13 then [] else escC c
theorem last_take {l : List Nat} {n : Nat} (hn : n ≤ l.length) : (l.take n).getLast? = if 1 ≤ n then l[n - 1]? else none := by
  cases n with
  | zero => simp
  | succ n => simp only [Nat.le_add_left, if_true, Nat.add_sub_cancel]; rw [List.getLast?_eq_getElem?, List.length_take, Nat.min_eq_left hn, List.getElem?_take]; simp
theorem esc_step {l : List Nat} {n : Nat} (hn : n < l.length) : escL (l.take (n + 1)) = escL (l.take n) ++ wr l n := by
  have e : l.take (n + 1) = l.take n ++ [l[n]] := by rw [List.take_add_one, List.getElem?_eq_getElem hn]; rfl
  have e2 : l[n]? = some l[n] := List.getElem?_eq_getElem hn
  rw [e, esc_cut, last_take (Nat.le_of_lt hn)]
  unfold wr
  rw [e2]
  simp only [List.head?_cons, Option.some.injEq]
  by_cases h : 1 ≤ n
  · rw [if_pos h]
    by_cases h1 : l[n - 1]? = some 13 ∧ l[n] = 10
    · rw [if_pos h1, if_pos ⟨h1.2, h, h1.1⟩, h1.2]; rfl
    · rw [if_neg h1, if_neg fun q => h1 ⟨q.2.2, q.1⟩, escL_one]
  · rw [if_neg h, if_neg (by simp), if_neg fun q => h q.2.1, escL_one]
theorem wr_drop (l : List Nat) (b n : Nat) (hn : 1 ≤ n) : wr (l.drop b) n = wr l (b + n) := by
  unfold wr
  rw [List.getElem?_drop, List.getElem?_drop]
  have : b + (n - 1) = b + n - 1 := by omega
  rw [this]
  cases l[b + n]? with
  | none => rfl
  | some c =>
    dsimp only
    by_cases h : c = 10 ∧ 1 ≤ n ∧ l[b + n - 1]? = some 13
    · rw [if_pos h, if_pos ⟨h.1, by omega, h.2.2⟩]
    · rw [if_neg h, if_neg fun q => h ⟨q.1, hn, q.2.2⟩]
theorem wr_head {l : List Nat} {b : Nat} (hb : b < l.length) : (wr (l.drop b) 0).length = max (wr l b).length 1 := by
  unfold wr
  rw [List.getElem?_drop, Nat.add_zero, List.getElem?_eq_getElem hb]
  have hp := escC_pos l[b]
  dsimp only
  rw [if_neg (by omega)]
  by_cases h : l[b] = 10 ∧ 1 ≤ b ∧ l[b - 1]? = some 13
  · rw [if_pos h, h.1]; rfl
  · rw [if_neg h]; omega
theorem wr_len (l : List Nat) (k : Nat) : (wr l k).length ≤ 5 := by
  unfold wr
  cases l[k]? with
  | none => simp
  | some c => dsimp only; split; simp; exact escC_len c

def sz (r : List Nat) (n : Nat) : Nat := (escL (r.take n)).length
theorem sz_zero (r : List Nat) : sz r 0 = 0 := rfl
theorem sz_step {r : List Nat} {n : Nat} (hn : n < r.length) : sz r (n + 1) = sz r n + (wr r n).length := by unfold sz; rw [esc_step hn, List.length_append]
theorem sz_big {r : List Nat} {n : Nat} (hn : r.length ≤ n) : sz r n = sz r r.length := by unfold sz; rw [List.take_of_length_le hn, List.take_length]
theorem sz_mono {r : List Nat} {n : Nat} : ∀ k, sz r n ≤ sz r (n + k)
  | 0 => Nat.le_refl _
  | k + 1 => by
    refine Nat.le_trans (sz_mono k) ?_
    by_cases h : n + k < r.length
    · rw [← Nat.add_assoc, sz_step h]; exact Nat.le_add_right _ _
    · rw [sz_big (by omega : r.length ≤ n + k), sz_big (by omega : r.length ≤ n + (k + 1))]; exact Nat.le_refl _
theorem sz_le {r : List Nat} {n m : Nat} (h : n ≤ m) : sz r n ≤ sz r m := by
  have := sz_mono (r := r) (n := n) (m - n)
  rwa [Nat.add_sub_cancel' h] at this
theorem escL_grow (c : Nat) (t : List Nat) : (escL t).length ≤ (escL (c :: t)).length := by
  by_cases h : c = 13 ∧ t.head? = some 10
  · obtain ⟨rfl, h2⟩ := h
    cases t with
    | nil => simp at h2
    | cons a t =>
      have : a = 10 := by simpa using h2
      subst this
      rw [escL_two, escL_cons 10 t (by simp)]
      simp [escC]
  · rw [escL_cons c t h, List.length_append]; exact Nat.le_add_left _ _
theorem sz_cons (c : Nat) (r : List Nat) (n : Nat) : sz r n ≤ sz (c :: r) (n + 1) := by unfold sz; rw [List.take_succ_cons]; exact escL_grow c _
theorem sz_one {r : List Nat} : sz r 1 ≤ 5 := by
  unfold sz
  have := escL_len (r.take 1)
  rw [List.length_take] at this
  have h : min 1 r.length ≤ 1 := Nat.min_le_left _ _
  omega

def gmax (w : Nat) (r : List Nat) : Nat → Nat
  | 0 => 0
  | k + 1 => if sz r (k + 1) ≤ w then k + 1 else gmax w r k
theorem gmax_le (w : Nat) (r : List Nat) : ∀ k, gmax w r k ≤ k
  | 0 => Nat.le_refl _
  | k + 1 => by unfold gmax; split; exact Nat.le_refl _; exact Nat.le_trans (gmax_le w r k) (Nat.le_succ _)
theorem gmax_ok (w : Nat) (r : List Nat) : ∀ k, sz r (gmax w r k) ≤ w
  | 0 => Nat.zero_le _
  | k + 1 => by unfold gmax; split; assumption; exact gmax_ok w r k
theorem gmax_max (w : Nat) (r : List Nat) : ∀ k n, n ≤ k → sz r n ≤ w → n ≤ gmax w r k
  | 0, n, h, _ => h
  | k + 1, n, h, h2 => by
    unfold gmax
    split
    · exact h
    · rename_i h3
      refine gmax_max w r k n ?_ h2
      by_cases e : n = k + 1
      · subst e; exact absurd h2 h3
      · omega
def gr (w : Nat) (r : List Nat) : Nat := max 1 (gmax w r r.length)
def Gn (w : Nat) (r : List Nat) : Nat := if h : r = [] then 0 else 1 + Gn w (r.drop (gr w r))
termination_by r.length
decreasing_by
  have : 0 < r.length := List.length_pos_iff.mpr h
  rw [List.length_drop]
  have : 1 ≤ gr w r := Nat.le_max_left _ _
  omega
theorem Gn_nil (w : Nat) : Gn w [] = 0 := by rw [Gn]; simp
theorem Gn_cons {w : Nat} {r : List Nat} (h : r ≠ []) : Gn w r = 1 + Gn w (r.drop (gr w r)) := by rw [Gn]; simp [h]
/-- the greedy cut -/
structure IsG (w : Nat) (r : List Nat) (n : Nat) : Prop where
  lo : 1 ≤ n
  hi : n ≤ r.length
  ok : sz r n ≤ w
  mx : n < r.length → w < sz r (n + 1)
theorem IsG.eq {w : Nat} {r : List Nat} {n : Nat} (h : IsG w r n) : gr w r = n := by
  unfold gr
  have h1 := gmax_max w r r.length n h.hi h.ok
  have h2 := gmax_ok w r r.length
  have h3 := gmax_le w r r.length
  have h4 := h.lo
  by_cases e : gmax w r r.length = n
  · omega
  · have h5 := h.mx (by omega)
    have h6 := sz_le (r := r) (n := n + 1) (m := gmax w r r.length) (by omega)
    omega
theorem isG_gr {w : Nat} {r : List Nat} (hw : 5 ≤ w) (hr : r ≠ []) : IsG w r (gr w r) := by
  have hp : 1 ≤ r.length := List.length_pos_iff.mpr hr
  have h1 : 1 ≤ gmax w r r.length := gmax_max w r r.length 1 hp (Nat.le_trans sz_one hw)
  have e : gr w r = gmax w r r.length := by unfold gr; omega
  rw [e]
  refine ⟨h1, gmax_le _ _ _, gmax_ok _ _ _, fun h => Nat.lt_of_not_le fun q => ?_⟩
  have := gmax_max w r r.length _ h q
  omega
theorem Gn_step {w : Nat} {r : List Nat} {n : Nat} (h : IsG w r n) : Gn w r = 1 + Gn w (r.drop n) := by
  have hr : r ≠ [] := by rintro rfl; have := h.lo; have := h.hi; simp at *; omega
  rw [Gn_cons hr, h.eq]
theorem Gn_anti {w : Nat} (hw : 5 ≤ w) : ∀ (k : Nat) (r : List Nat) (c : Nat), r.length ≤ k → Gn w r ≤ Gn w (c :: r) := by
  intro k
  induction k with
  | zero =>
    intro r c h
    have : r = [] := List.length_eq_zero_iff.mp (by omega)
    subst this
    rw [Gn_nil]; exact Nat.zero_le _
  | succ k ih =>
    intro r c h
    by_cases hr : r = []
    · subst hr; rw [Gn_nil]; exact Nat.zero_le _
    have hd : ∀ (j : Nat) (i : Nat), 1 ≤ i → Gn w (r.drop (i + j)) ≤ Gn w (r.drop i) := by
      intro j
      induction j with
      | zero => intro i _; exact Nat.le_refl _
      | succ j ihj =>
        intro i hi
        refine Nat.le_trans ?_ (ihj i hi)
        by_cases hl : i + j < r.length
        · rw [List.drop_eq_getElem_cons hl]
          exact ih _ _ (by rw [List.length_drop]; omega)
        · rw [List.drop_of_length_le (by omega : r.length ≤ i + (j + 1)), Gn_nil]; exact Nat.zero_le _
    have g1 := isG_gr hw hr
    have g2 := isG_gr hw (List.cons_ne_nil c r)
    rw [Gn_step g1, Gn_step g2]
    have h1 := g1.lo
    have h2 := g2.lo
    obtain ⟨m, hm⟩ : ∃ m, gr w (c :: r) = m + 1 := ⟨gr w (c :: r) - 1, by omega⟩
    rw [hm, List.drop_succ_cons]
    have hle : m ≤ gr w r := by
      have h3 := g2.hi
      rw [hm, List.length_cons] at h3
      have h4 := Nat.le_trans (sz_cons c r m) (hm ▸ g2.ok)
      have h5 := gmax_max w r r.length m (by omega) h4
      exact Nat.le_trans h5 (Nat.le_max_right _ _)
    by_cases hm0 : m = 0
    · subst hm0
      rw [List.drop_zero, Gn_step g1]; omega
    · have := hd (gr w r - m) m (by omega)
      rw [Nat.add_sub_cancel' hle] at this
      omega
theorem Gn_drop {w : Nat} (hw : 5 ≤ w) (l : List Nat) (i : Nat) : ∀ j, Gn w (l.drop (i + j)) ≤ Gn w (l.drop i)
  | 0 => Nat.le_refl _
  | j + 1 => by
    refine Nat.le_trans ?_ (Gn_drop hw l i j)
    by_cases hl : i + j < l.length
    · rw [List.drop_eq_getElem_cons hl]
      exact Gn_anti hw _ _ _ (Nat.le_refl _)
    · rw [List.drop_of_length_le (by omega : l.length ≤ i + (j + 1)), Gn_nil]; exact Nat.zero_le _
/-- a cut by the greedy way parts no line end -/
theorem IsG.cut {w : Nat} {r : List Nat} {n : Nat} (h : IsG w r n) : escL r = escL (r.take n) ++ escL (r.drop n) := by
  have e := esc_cut (r.drop n) (r.take n)
  rw [List.take_append_drop] at e
  rw [e, if_neg]
  rintro ⟨h1, h2⟩
  have hlt : n < r.length := by
    apply Nat.lt_of_not_le; intro q
    rw [List.drop_of_length_le q] at h2; simp at h2
  have h3 := h.mx hlt
  rw [sz_step hlt] at h3
  rw [last_take h.hi, if_pos h.lo] at h1
  rw [List.head?_drop] at h2
  have : wr r n = [] := by unfold wr; rw [h2]; simp [h.lo, h1]
  rw [this] at h3
  have := h.ok
  simp at h3; omega
end Mine

end
section
open PySem PySem.W PyProof.Rows PySem.Calls
set_option Elab.async false
set_option maxRecDepth 100000
set_option maxHeartbeats 1000000
namespace Mine
theorem slice_neg {l : List Nat} {k : Nat} (hk : 1 ≤ k) : Txt.slice (mkS l) (some (-(k : Int))) none = mkS (l.drop (l.length - k)) := by
  rw [slice_from_neg (by omega)]
  have e : max (0 : Int) (((mkS l).length : Int) + -(k : Int)) = ((l.length - k : Nat) : Int) := by rw [mkS_length]; omega
  rw [e]
  exact slice_fr (x := mkS l) (by rw [mkS_length]; omega)
theorem slice_to0 {l : List Nat} {i : Nat} (h : i + 1 ≤ l.length) : Txt.slice (mkS l) none (some (0 + (i : Int) + 1)) = mkS (l.take (i + 1)) := by
  have e : (0 : Int) + (i : Int) + 1 = ((i + 1 : Nat) : Int) := by omega
  rw [e]
  exact slice_to (x := mkS l) (by rw [mkS_length]; exact h)
theorem last_two {l : List Nat} {i : Nat} (h : i + 1 ≤ l.length) : (Txt.slice (Txt.slice (mkS l) none (some (0 + (i : Int) + 1))) (some (-2)) none == Str.ofString "\u000d\n") = decide (1 ≤ i ∧ l[i - 1]? = some 13 ∧ l[i]? = some 10) := by
  rw [slice_to0 h]
  have e := slice_neg (l := l.take (i + 1)) (k := 2) (by decide)
  have e' : Txt.slice (mkS (l.take (i + 1))) (some (-2)) none = mkS ((l.take (i + 1)).drop ((l.take (i + 1)).length - 2)) := e
  rw [e', List.length_take, Nat.min_eq_left h, lit_crlf]
  have hl : ((⟨#[13, 10]⟩ : Str)) = mkS [13, 10] := rfl
  rw [hl]
  have hb : ∀ (a b : List Nat), (mkS a == mkS b) = decide (a = b) := by
    intro a b
    by_cases q : a = b
    · subst q; simp
    · rw [decide_eq_false q]; rw [beq_eq_false_iff_ne]; intro q'; exact q (mkS_inj.mp q')
  rw [hb]
  have hlt : i < l.length := h
  cases i with
  | zero =>
    simp only [Nat.zero_add, Nat.reduceSubDiff, List.drop_zero]
    refine decide_eq_decide.mpr ⟨fun q => ?_, fun q => absurd q.1 (by decide)⟩
    have := congrArg List.length q
    rw [List.length_take] at this
    simp at this; omega
  | succ i =>
    have e1 : i + 1 + 1 - 2 = i := by omega
    have e2 : (l.take (i + 1 + 1)).drop i = [l[i]'(by omega), l[i + 1]'hlt] := by
      rw [List.drop_take]
      have : i + 1 + 1 - i = 2 := by omega
      rw [this, List.drop_eq_getElem_cons (by omega : i < l.length), List.drop_eq_getElem_cons hlt]
      rfl
    rw [e1, e2]
    refine decide_eq_decide.mpr ?_
    rw [Nat.add_sub_cancel, List.getElem?_eq_getElem (by omega : i < l.length), List.getElem?_eq_getElem hlt]
    simp
theorem wr_yes {l : List Nat} {i : Nat} (h : i + 1 ≤ l.length) (e : (Txt.slice (Txt.slice (mkS l) none (some (0 + (i : Int) + 1))) (some (-2)) none == Str.ofString "\u000d\n") = true) : mkS (wr l i) = Str.ofString "" := by
  rw [last_two h] at e
  have q := of_decide_eq_true e
  have : wr l i = [] := by unfold wr; rw [q.2.2]; simp [q.1, q.2.1]
  rw [this]; decide
theorem wr_no {l : List Nat} {i : Nat} (h : i < l.length) (e : (Txt.slice (Txt.slice (mkS l) none (some (0 + (i : Int) + 1))) (some (-2)) none == Str.ofString "\u000d\n") = false) : wr l i = escC l[i] := by
  rw [last_two h] at e
  have q := of_decide_eq_false e
  unfold wr; rw [List.getElem?_eq_getElem h] at q ⊢
  dsimp only
  rw [if_neg]
  rintro ⟨h1, h2, h3⟩
  exact q ⟨h2, h3, by rw [h1]⟩
theorem item0 {l : List Nat} {i : Nat} (h : i < l.length) : Txt.item (mkS l) (0 + (i : Int)) = ⟨#[l[i]]⟩ := by
  have e : (0 : Int) + (i : Int) = (i : Int) := by omega
  rw [e]
  exact item_at (x := mkS l) (by show l[i]? = _; rw [List.getElem?_eq_getElem h])
theorem get4 (c : Nat) (t1 t2 t3 t4 t5 t6 t7 t8 : Tok) : (Spec.lookup (.str ⟨#[c]⟩) (strData [(.str (Str.ofString "\u000d") t7, .str (Str.ofString "\n") t8), (.str (Str.ofString "&") t1, .str (Str.ofString "&amp;") t2), (.str (Str.ofString "<") t3, .str (Str.ofString "&lt;") t4), (.str (Str.ofString ">") t5, .str (Str.ofString "&gt;") t6)])).getD (.str ⟨#[c]⟩) = .str (mkS (escC c)) := by
  simp only [strData, Spec.lookup, same_strs, lit_cr, lit_lf, lit_am, lit_l, lit_g, lit_amp, lit_lt, lit_gt, decide_eq_true_eq]
  unfold escC
  by_cases h0 : c = 13
  · subst h0; rfl
  by_cases h1 : c = 38
  · subst h1; rfl
  by_cases h2 : c = 60
  · subst h2; rfl
  by_cases h3 : c = 62
  · subst h3; rfl
  have e : ∀ d : Nat, c ≠ d → ¬ ((⟨#[d]⟩ : Str) = ⟨#[c]⟩) := fun d hd e => hd (by have := congrArg (fun s : Str => s.cps.toList) e; simpa using this.symm)
  simp [h0, h1, h2, h3, e 13 h0, e 38 h1, e 60 h2, e 62 h3]
  rfl
def WrInv (l0 : List Nat) (i : Nat) (vs : List Value) : Prop := StrsAre vs ((List.range i).map fun k => mkS (wr l0 k))
theorem WrInv.start (l0 : List Nat) : WrInv l0 0 [] := .nil
theorem WrInv.step {l0 : List Nat} {i : Nat} {vs : List Value} {t : Tok} {y : Str} (h : WrInv l0 i vs) (e : y = mkS (wr l0 i)) : WrInv l0 (i + 1) (vs ++ [.str y t]) := by
  unfold WrInv at *
  rw [List.range_succ, List.map_append]
  subst e
  exact h.append' (.cons _ _ .nil)
end Mine

end
section
open PySem PySem.W PyProof.Rows PySem.Calls
set_option Elab.async false
set_option maxRecDepth 100000
set_option maxHeartbeats 1000000
namespace Mine
/-- the table of the fewest, filled from its end on -/
def FwInv (wd : Nat) (l0 : List Nat) (i : Nat) (vs : List Value) (ns : List Int) : Prop :=
  IntsAre vs ns ∧ ns.length = l0.length + 1 ∧ ∀ j, l0.length - i ≤ j → j ≤ l0.length → ns[j]? = some (Gn wd (l0.drop j) : Int)
theorem rep_flat (n : Nat) (a : Int) : (List.replicate n [a]).flatten = List.replicate n a := by
  induction n with
  | zero => rfl
  | succ n ih => rw [List.replicate_succ, List.flatten_cons, ih]; rfl
theorem FwInv.start {wd : Nat} {l0 : List Nat} {vs : List Value} {k : Int} (hk : k = (l0.length : Int) + 1) (h : IntsAre vs (List.replicate k.toNat [(0 : Int)]).flatten) : FwInv wd l0 0 vs (List.replicate (l0.length + 1) 0) := by
  have e : k.toNat = l0.length + 1 := by omega
  rw [rep_flat, e] at h
  refine ⟨h, List.length_replicate, fun j h1 h2 => ?_⟩
  have : j = l0.length := by omega
  subst this
  rw [List.drop_length, Gn_nil]
  simp
theorem FwInv.step {wd : Nat} {l0 : List Nat} {i : Nat} {vs : List Value} {ns : List Int} {t : Tok} (h : FwInv wd l0 i vs ns) (hi : i < l0.length) (v : Int) (hv : v = (Gn wd (l0.drop (l0.length - 1 - i)) : Int)) :
    FwInv wd l0 (i + 1) (vs.set (l0.length - 1 - i) (.int v t)) (ns.set (l0.length - 1 - i) v) ∧ True := by
  obtain ⟨h1, h2, h3⟩ := h
  refine ⟨⟨?_, by rw [List.length_set]; exact h2, fun j a b => ?_⟩, trivial⟩
  · have : ∀ (k : Nat) (vs : List Value) (ns : List Int), IntsAre vs ns → IntsAre (vs.set k (.int v t)) (ns.set k v) := by
      intro k vs ns hI
      induction hI generalizing k with
      | nil => exact .nil
      | cons n t' r ih =>
        cases k with
        | zero => exact .cons _ _ r
        | succ k => exact .cons _ _ (ih k)
    exact this _ _ _ h1
  · rw [List.getElem?_set]
    split
    · rename_i e; subst e; rw [if_pos (by omega), hv]
    · exact h3 j (by omega) b
/-- the ways from one begin on -/
def ways (wd : Nat) (l0 : List Nat) (b n : Nat) : List Int := (List.range n).map fun k => 1 + (Gn wd (l0.drop (b + k + 1)) : Int)
theorem ways_succ (wd : Nat) (l0 : List Nat) (b n : Nat) : ways wd l0 b (n + 1) = ways wd l0 b n ++ [1 + (Gn wd (l0.drop (b + n + 1)) : Int)] := by unfold ways; rw [List.range_succ, List.map_append]; rfl
theorem ways_ge {wd : Nat} (hw : 5 ≤ wd) {l0 : List Nat} {b n : Nat} {v : Int} (hv : v ∈ ways wd l0 b n) : 1 + (Gn wd (l0.drop (b + n)) : Int) ≤ v := by
  obtain ⟨k, hk, rfl⟩ := List.mem_map.mp hv
  rw [List.mem_range] at hk
  have := Gn_drop hw l0 (b + k + 1) (n - (k + 1))
  have e : b + k + 1 + (n - (k + 1)) = b + n := by omega
  rw [e] at this
  omega
theorem ways_mem {wd : Nat} {l0 : List Nat} {b n : Nat} (hn : 1 ≤ n) : 1 + (Gn wd (l0.drop (b + n)) : Int) ∈ ways wd l0 b n := by
  refine List.mem_map.mpr ⟨n - 1, List.mem_range.mpr (by omega), ?_⟩
  have e : b + (n - 1) + 1 = b + n := by omega
  rw [e]
theorem ways_best {wd : Nat} {l0 : List Nat} {b n : Nat} (h : IsG wd (l0.drop b) n) : (Gn wd (l0.drop b) : Int) = 1 + (Gn wd (l0.drop (b + n)) : Int) := by
  have := Gn_step h
  rw [List.drop_drop] at this
  rw [this]; omega
end Mine

end
section
open PySem PySem.W PyProof.Rows PySem.Calls
set_option Elab.async false
set_option maxRecDepth 100000
set_option maxHeartbeats 1000000
namespace Mine
def amps (d : Nat) : List Nat := (List.replicate d [97, 109, 112, 59]).flatten
def deepC (d c : Nat) : List Nat := if c = 38 then 38 :: amps d else if c = 60 then 38 :: (amps (d - 1) ++ [108, 116, 59]) else if c = 62 then 38 :: (amps (d - 1) ++ [103, 116, 59]) else if c = 13 then [10] else [c]
def deepL (d : Nat) (l : List Nat) : List Nat := l.flatMap (deepC d)
theorem amps_succ (d : Nat) : amps (d + 1) = [97, 109, 112, 59] ++ amps d := by unfold amps; rw [List.replicate_succ, List.flatten_cons]
theorem amps_mem (d : Nat) : ∀ c ∈ amps d, c = 97 ∨ c = 109 ∨ c = 112 ∨ c = 59 := by
  induction d with
  | zero => intro c hc; cases hc
  | succ d ih =>
    intro c hc
    rw [amps_succ, List.mem_append] at hc
    rcases hc with hc | hc
    · simpa using hc
    · exact ih c hc
theorem amps_len (d : Nat) : (amps d).length = 4 * d := by
  induction d with
  | zero => rfl
  | succ d ih => rw [amps_succ, List.length_append, ih]; simp; omega
theorem flat_amps (d : Nat) : (amps d).flatMap escC = amps d := by
  have h : ∀ l : List Nat, (∀ c ∈ l, c = 97 ∨ c = 109 ∨ c = 112 ∨ c = 59) → l.flatMap escC = l := by
    intro l
    induction l with
    | nil => intro _; rfl
    | cons a l ih =>
      intro hl
      rw [List.flatMap_cons, ih fun c hc => hl c (.tail _ hc)]
      rcases hl a (.head _) with e | e | e | e <;> subst e <;> rfl
  exact h _ (amps_mem d)
theorem deepC_one (c : Nat) : deepC 1 c = escC c := by
  unfold deepC escC
  by_cases h0 : c = 13
  · subst h0; rfl
  by_cases h1 : c = 38
  · subst h1; rfl
  by_cases h2 : c = 60
  · subst h2; rfl
  by_cases h3 : c = 62
  · subst h3; rfl
  simp [h0, h1, h2, h3]
theorem deepC_succ (d c : Nat) : (deepC (d + 1) c).flatMap escC = deepC (d + 1 + 1) c := by
  unfold deepC
  by_cases h1 : c = 38
  · subst h1
    rw [if_pos rfl, if_pos rfl, List.flatMap_cons, flat_amps, amps_succ (d + 1)]; rfl
  by_cases h2 : c = 60
  · subst h2
    rw [if_neg (by decide), if_pos rfl, if_neg (by decide), if_pos rfl, List.flatMap_cons, List.flatMap_append, Nat.add_sub_cancel, Nat.add_sub_cancel, flat_amps, amps_succ d]; rfl
  by_cases h3 : c = 62
  · subst h3
    rw [if_neg (by decide), if_neg (by decide), if_pos rfl, if_neg (by decide), if_neg (by decide), if_pos rfl, List.flatMap_cons, List.flatMap_append, Nat.add_sub_cancel, Nat.add_sub_cancel, flat_amps, amps_succ d]; rfl
  by_cases h0 : c = 13
  · subst h0; rfl
  simp [h0, h1, h2, h3, escC]
theorem deepL_succ (d : Nat) (l : List Nat) : (deepL (d + 1) l).flatMap escC = deepL (d + 1 + 1) l := by
  unfold deepL
  rw [List.flatMap_assoc]
  congr 1; funext c; exact deepC_succ d c
theorem deepL_one (l : List Nat) : deepL 1 l = l.flatMap escC := by unfold deepL; congr 1; funext c; exact deepC_one c
def up : Nat → List Nat → List Nat
  | 0, y => y
  | k + 1, y => (up k y).flatMap escC
theorem up_deep (l : List Nat) : ∀ k, up k (deepL 1 l) = deepL (k + 1) l
  | 0 => rfl
  | k + 1 => by unfold up; rw [up_deep l k, deepL_succ]
theorem up_nil : ∀ k, up k [] = []
  | 0 => rfl
  | k + 1 => by unfold up; rw [up_nil k]; rfl
theorem escC_n13 (k : Nat) : ∀ c ∈ escC k, c ≠ 13 := by unfold escC; (repeat' split) <;> simp <;> omega
theorem flat_n13 (l : List Nat) : ∀ c ∈ l.flatMap escC, c ≠ 13 := by
  intro c hc
  obtain ⟨k, _, hk⟩ := List.mem_flatMap.mp hc
  exact escC_n13 k c hk
theorem escL_n13 (l : List Nat) : ∀ c ∈ escL l, c ≠ 13 := flat_n13 _
theorem up_n13 {y : List Nat} (h : ∀ c ∈ y, c ≠ 13) : ∀ k, ∀ c ∈ up k y, c ≠ 13
  | 0 => h
  | k + 1 => flat_n13 _
def tagB : List Nat := [60, 98, 62]
def tagE : List Nat := [60, 47, 98, 62]
def PR : List (List Nat) → List Nat
  | [] => []
  | [r] => escL r
  | r :: q :: rest => escL (r ++ tagB ++ PR (q :: rest))
theorem PR_cons (r : List Nat) {l : List (List Nat)} (h : l ≠ []) : PR (r :: l) = escL (r ++ tagB ++ PR l) := by
  cases l with
  | nil => exact absurd rfl h
  | cons q rest => rfl
theorem PR_n13 : ∀ l : List (List Nat), ∀ c ∈ PR l, c ≠ 13
  | [] => by intro c hc; cases hc
  | [r] => escL_n13 r
  | r :: q :: rest => escL_n13 _
theorem last_n13 {a b : List Nat} (h : ∀ c ∈ b, c ≠ 13) (ha : a.getLast? ≠ some 13) : (a ++ b).getLast? ≠ some 13 := by
  cases b with
  | nil => rw [List.append_nil]; exact ha
  | cons x b =>
    intro e
    rw [List.getLast?_append] at e
    cases hl : (x :: b).getLast? with
    | none => simp at hl
    | some z =>
      rw [hl, Option.some_or] at e
      have : z = 13 := Option.some.inj e
      subst this
      exact h 13 (List.mem_of_getLast? hl) rfl
theorem esc_join {a b : List Nat} (h : a.getLast? ≠ some 13) : escL (a ++ b) = escL a ++ escL b := by
  rw [esc_cut, if_neg fun q => h q.1]
theorem esc_join2 {a b : List Nat} (h : b.head? ≠ some 10) : escL (a ++ b) = escL a ++ escL b := by
  rw [esc_cut, if_neg fun q => h q.2]
theorem tag_last (r : List Nat) : (r ++ tagB).getLast? ≠ some 13 := by
  rw [List.getLast?_append]
  have : tagB.getLast? = some 62 := rfl
  rw [this, Option.some_or]; decide
theorem PR_ctx {A B : List (List Nat)} {y : List Nat} (hA : A ≠ []) (hB : B ≠ []) (h : PR A = PR B ++ y) (hy : ∀ c ∈ y, c ≠ 13) : ∀ pre : List (List Nat), PR (pre ++ A) = PR (pre ++ B) ++ up pre.length y
  | [] => h
  | r :: pre => by
    rw [List.cons_append, List.cons_append, PR_cons r (by simp [hA]), PR_cons r (by simp [hB]), PR_ctx hA hB h hy pre, ← List.append_assoc, esc_join (a := r ++ tagB ++ PR (pre ++ B)) (last_n13 (PR_n13 _) (tag_last r)), escL_free (up_n13 hy _)]
    rfl
theorem PR_sign {pre : List (List Nat)} {r : List Nat} {c : Nat} : PR (pre ++ [r ++ [c]]) = PR (pre ++ [r]) ++ (if r.getLast? = some 13 ∧ c = 10 then [] else deepL (pre.length + 1) [c]) := by
  by_cases h : r.getLast? = some 13 ∧ c = 10
  · rw [if_pos h]
    have e : PR [r ++ [c]] = PR [r] ++ [] := by
      show escL (r ++ [c]) = escL r ++ []
      rw [esc_cut, if_pos ⟨h.1, by rw [h.2]; rfl⟩, h.2]; rfl
    rw [PR_ctx (by simp) (by simp) e (by simp) pre, up_nil]
  · rw [if_neg h]
    have e : PR [r ++ [c]] = PR [r] ++ deepL 1 [c] := by
      show escL (r ++ [c]) = escL r ++ deepL 1 [c]
      rw [esc_cut, if_neg (by simpa using h), escL_one, deepL_one]; simp
    rw [PR_ctx (by simp) (by simp) e (by rw [deepL_one]; exact flat_n13 _) pre, up_deep]
theorem PR_open {pre : List (List Nat)} {r : List Nat} : PR (pre ++ [r] ++ [[]]) = PR (pre ++ [r]) ++ deepL (pre.length + 1) tagB := by
  have e : PR [r, []] = PR [r] ++ deepL 1 tagB := by
    show escL (r ++ tagB ++ escL []) = escL r ++ deepL 1 tagB
    rw [escL_nil, List.append_nil, esc_join2 (by decide)]; rfl
  have := PR_ctx (by simp) (by simp) e (by rw [deepL_one]; exact flat_n13 _) pre
  rw [up_deep] at this
  rw [← this, List.append_assoc]; rfl
theorem PR_close {pre : List (List Nat)} {q r : List Nat} : PR (pre ++ [q ++ (tagB ++ escL r ++ tagE)]) = PR (pre ++ [q] ++ [r]) ++ deepL (pre.length + 1) tagE := by
  have e : PR [q ++ (tagB ++ escL r ++ tagE)] = PR [q, r] ++ deepL 1 tagE := by
    show escL (q ++ (tagB ++ escL r ++ tagE)) = escL (q ++ tagB ++ escL r) ++ deepL 1 tagE
    have : q ++ (tagB ++ escL r ++ tagE) = (q ++ tagB ++ escL r) ++ tagE := by simp only [List.append_assoc]
    rw [this, esc_join2 (by decide)]; rfl
  have h := PR_ctx (by simp) (by simp) e (by rw [deepL_one]; exact flat_n13 _) pre
  rw [up_deep] at h
  rw [h, List.append_assoc]; rfl
def pw : List (List Nat) → Nat
  | [] => 0
  | r :: rest => 5 * (r.length + 3 + pw rest)
theorem PR_len : ∀ l : List (List Nat), (PR l).length ≤ pw l
  | [] => Nat.le_refl _
  | [r] => by have := escL_len r; show (escL r).length ≤ 5 * (r.length + 3 + 0); omega
  | r :: q :: rest => by
    have h1 := escL_len (r ++ tagB ++ PR (q :: rest))
    have h2 := PR_len (q :: rest)
    rw [List.length_append, List.length_append] at h1
    have h3 : tagB.length = 3 := rfl
    show (escL (r ++ tagB ++ PR (q :: rest))).length ≤ 5 * (r.length + 3 + pw (q :: rest))
    omega
theorem pw_mem : ∀ {l : List (List Nat)} {r : List Nat}, r ∈ l → 5 * r.length ≤ pw l
  | a :: l, r, h => by
    show _ ≤ 5 * (a.length + 3 + pw l)
    rcases List.mem_cons.mp h with e | e
    · subst e; omega
    · have := pw_mem e; omega
theorem pw_ctx {A B : List (List Nat)} {δ : Nat} (h : pw A ≤ pw B + δ) : ∀ pre : List (List Nat), pw (pre ++ A) ≤ pw (pre ++ B) + 5 ^ pre.length * δ
  | [] => by simpa using h
  | r :: pre => by
    have := pw_ctx h pre
    show 5 * (r.length + 3 + pw (pre ++ A)) ≤ 5 * (r.length + 3 + pw (pre ++ B)) + 5 ^ (pre.length + 1) * δ
    rw [Nat.pow_succ, Nat.mul_comm (5 ^ pre.length) 5, Nat.mul_assoc]
    omega
theorem pow5 {n : Nat} (h : n ≤ 4) : 5 ^ n ≤ 625 := Nat.pow_le_pow_right (by decide) h
theorem pw_sign {pre : List (List Nat)} {r : List Nat} {c : Nat} (h : pre.length ≤ 4) : pw (pre ++ [r ++ [c]]) ≤ pw (pre ++ [r]) + 9375 := by
  have h1 : pw [r ++ [c]] ≤ pw [r] + 5 := by show 5 * ((r ++ [c]).length + 3 + 0) ≤ 5 * (r.length + 3 + 0) + 5; rw [List.length_append]; simp; omega
  have h2 := pw_ctx h1 pre
  have h3 := Nat.mul_le_mul_right 5 (pow5 h)
  omega
theorem pw_open {pre : List (List Nat)} {r : List Nat} (h : pre.length ≤ 3) : pw (pre ++ [r] ++ [[]]) ≤ pw (pre ++ [r]) + 9375 := by
  have h1 : pw [r, []] ≤ pw [r] + 75 := by show 5 * (r.length + 3 + 5 * (0 + 3 + 0)) ≤ 5 * (r.length + 3 + 0) + 75; omega
  have h2 := pw_ctx h1 pre
  have h3 : 5 ^ pre.length ≤ 125 := Nat.pow_le_pow_right (by decide) h
  have h4 := Nat.mul_le_mul_right 75 h3
  have e : pre ++ [r] ++ [[]] = pre ++ [r, []] := by simp
  rw [e]; omega
theorem pw_close {pre : List (List Nat)} {q r : List Nat} : pw (pre ++ [q ++ (tagB ++ escL r ++ tagE)]) ≤ pw (pre ++ [q] ++ [r]) := by
  have h1 : pw [q ++ (tagB ++ escL r ++ tagE)] ≤ pw [q, r] + 0 := by
    show 5 * ((q ++ (tagB ++ escL r ++ tagE)).length + 3 + 0) ≤ 5 * (q.length + 3 + 5 * (r.length + 3 + 0)) + 0
    have := escL_len r
    have e1 : tagB.length = 3 := rfl
    have e2 : tagE.length = 4 := rfl
    simp only [List.length_append]
    omega
  have h2 := pw_ctx h1 pre
  rw [Nat.mul_zero] at h2
  have e : pre ++ [q] ++ [r] = pre ++ [q, r] := by simp
  rw [e]; exact h2
end Mine

end
section
open PySem PySem.W PyProof.Rows PySem.Calls
set_option Elab.async false
set_option maxRecDepth 100000
set_option maxHeartbeats 1000000
namespace Mine
section
variable {prog : Program} {w : World} {A : Around} {E : Value → Shared → Prop} {s : Shared} {Q : Value → Shared → Prop}
theorem in1E {x : Str} {c : Nat} {t u : Tok} (h : Q (.bool (decide (c ∈ x.cps.toList))) s) : wpAny (model prog w) A (compareOp .In (.str ⟨#[c]⟩ u) (.str x t)) Q E s := in_str (by rw [StrLaws.found_one]; exact h)
theorem notIn1E {x : Str} {c : Nat} {t u : Tok} (h : Q (.bool (!decide (c ∈ x.cps.toList))) s) : wpAny (model prog w) A (compareOp .NotIn (.str ⟨#[c]⟩ u) (.str x t)) Q E s := notIn_str (by rw [StrLaws.found_one]; exact h)
theorem foldl_app (l : List (Array Nat)) : ∀ a : Array Nat, (l.foldl (· ++ ·) a).toList = a.toList ++ (l.map (·.toList)).flatten := by
  induction l with
  | nil => intro a; simp
  | cons b l ih => intro a; rw [List.foldl_cons, ih, Array.toList_append]; simp
theorem mul_eq (x : Str) (n : Int) : Txt.mul x n = mkS (List.replicate n.toNat x.cps.toList).flatten := by
  unfold Txt.mul
  by_cases h : n < 1
  · rw [if_pos h]
    have : n.toNat = 0 := by omega
    rw [this]; rfl
  rw [if_neg h]
  by_cases h2 : n = 1
  · subst h2; simp [mkS]
  by_cases h3 : x.length = 0
  · have e : x = mkS [] := by
      have : x.cps.toList = [] := by apply List.length_eq_zero_iff.mp; rw [← str_len]; exact h3
      rw [← mkS_cps x, this]
    rw [if_pos (by simp [h3]), e]
    have : ∀ k : Nat, (List.replicate k ([] : List Nat)).flatten = [] := by intro k; induction k with | zero => rfl | succ k ih => rw [List.replicate_succ, List.flatten_cons, ih]; rfl
    show mkS [] = mkS (List.replicate n.toNat (mkS []).cps.toList).flatten
    rw [mkS_toList, this]
  · rw [if_neg (by simp [h2, h3])]
    have := foldl_app (List.replicate n.toNat x.cps) #[]
    rw [List.map_replicate] at this
    unfold mkS
    congr 1
    rw [← Array.toList_inj]
    rw [this]; simp
theorem mulE {x : Str} {n : Int} {t u : Tok} (hx : x.length ≤ 16) (hn : n ≤ 1000) (hlo : -(1000 : Int) ≤ n) (ht : 0 < s.toks) (h : ∀ t' k, 0 < k → Q (.str (mkS (List.replicate n.toNat x.cps.toList).flatten) t') { s with toks := k }) :
    wpAny (model prog w) A (binaryOp .Mult (.str x t) (.int n u)) Q E s := by
  refine wpAny_pos ht (SB.mul (mulOk_of 16 1048576 hx (by omega) (by omega) (by decide) (by decide)) fun t' k hk => ?_)
  rw [mul_eq]; exact h t' k hk
theorem iaddE {x y : Str} {t u : Tok} (hs : x.length + y.length ≤ 16777216) (ht : 0 < s.toks) (h : ∀ t' k, 0 < k → Q (.str (mkS (x.cps.toList ++ y.cps.toList)) t') { s with toks := k }) : wpAny (model prog w) A (inplaceOp .Add (.str x t) (.str y u)) Q E s := by
  refine wpAny_pos ht (iadd_str (fun t' k hk => ?_) (by rw [sizeLine_eq]; exact hs))
  rw [str_append]; exact h t' k hk
end
theorem one_length (c : Nat) : (⟨#[c]⟩ : Str).length = 1 := rfl
end Mine

end
section
open PySem PySem.W PyProof.Rows PySem.Calls
set_option Elab.async false
set_option maxRecDepth 100000
set_option maxHeartbeats 1000000
namespace Mine
section
variable {prog : Program} {w : World} {A : Around} {s : Shared} {env : Env} {elt iter : Expr} {x : Str} {px : Pos} {ifs : List Expr} {scope : Scope} {pos : Pos} {Q : Value → Shared → Prop}
/-- what is to be shown behind a comprehension's source, a range -/
def LCR (prog : Program) (w : World) (A : Around) (env : Env) (elt : Expr) (x : Str) (scope : Scope) (cl : List (Str × Addr)) (G : Value → Value → Prop) (Q : Value → Shared → Prop) (xv : Value) (s : Shared) : Prop :=
  ∃ r a₀ b₀ t₀ u₀ v₀, ∃ n : Nat, xv = .ref r ∧ IsRange s.heap r a₀ b₀ 1 t₀ u₀ v₀ ∧ Builtin.Range.small a₀ b₀ 1 = true ∧ Builtin.Range.rangeSize a₀ b₀ 1 = (n : Int) ∧ n ≤ sizeLine ∧ 0 < s.toks ∧
    (∀ C (i : Nat) t s₃ m₃, i < n → s₃.heap.Ns C m₃ → m₃ x = some (.int (a₀ + (i : Int) * 1) t) → s.heap.StaysIn s₃.heap → s.heap.objs.size ≤ C → 0 < s₃.toks →
      wpAny (model prog w) A (eval elt (compEnvC scope cl C env)) (fun y s₄ => G (.int (a₀ + (i : Int) * 1) t) y ∧ Keeps s₃ s₄) NoE s₃) ∧
    (∀ D h' tk (vs ys : List Value) k, s.heap.get? D = none → h'.get? D = some (listOf ys.toArray k) → vs.length = n → (∀ (j : Nat) v, vs[j]? = some v → ∃ t, v = .int (a₀ + (j : Int) * 1) t) → Paired G vs ys → s.heap.StaysIn h' → 0 < tk → Q (.ref D) { s with heap := h', toks := tk })
theorem lcomp_range {cl : List (Str × Addr)} (G : Value → Value → Prop)
    (hclos : closureFor scope env = pure cl) (hh : A.handled = none) (hcell : ∀ y ∈ scope.names, y.2 ≠ .cell) (hkind : scope.kind = .function) (hnames : ∀ y ∈ scope.names, y.2 = .local → scope.names.lookup y.1 = some .local) (hx : scope.names.lookup x = some .local)
    (ht : 0 < s.toks) (h : wpAny (model prog w) A (eval iter env) (LCR prog w A env elt x scope cl G Q) NoE s)
    (hs : ∀ x, foldedSetIterable iter env x = pure x := by intro _; rfl) :
    wpAny (model prog w) A (eval (.ListComp elt [⟨.Name x px, iter, [], 0⟩] scope pos) env) Q NoE s := by
  refine wpAny_pos ht (wpAny_noRaise ?_)
  refine wpAny_ListComp_free (fun _ => true) G hclos hcell hkind hnames hx (wpAny_mono h (fun xv s₁ h₁ => ?_) fun _ _ y => y) hs
  obtain ⟨r, a₀, b₀, t₀, u₀, v₀, n, rfl, hr, hsmall, hn, hsz, ht, helt, done⟩ := h₁
  refine wpAny_pyIter_range hr hsmall ?_
  have W : Walks prog w A s₁.heap.objs.size [s₁.heap.objs.size] [s₁.heap.objs.size] n (fun i v => i < n ∧ ∃ t, v = .int (a₀ + i * 1) t)
      (fun i h => IsRangeIter h s₁.heap.objs.size (a₀ + (i : Nat) * 1) ((n : Int) - (i : Nat)) 1) := (Walks.range hh _ a₀ 1 n).bound
  have up : ∀ (h₂ h₃ : Heap) (o : Obj), h₂ = s₁.heap.push o → (∀ b o, b ∉ [s₁.heap.objs.size] → h₂.get? b = some o → h₃.get? b = some o) → s₁.heap.StaysIn h₃ := by
    rintro h₂ h₃ o rfl hk b ob e
    exact hk b ob (fun q => absurd (Heap.lt_size e) (by rw [List.mem_singleton.mp q]; exact Nat.lt_irrefl _)) (Heap.get?_push_of_some _ e)
  refine ⟨_, _, _, _, _, _, rfl, W, hsz, (by show IsRangeIter _ _ _ _ _; rw [hn]; simpa using Heap.get?_push_size _ rfl), ?_, ⟨?_, ?_⟩, ?_⟩
  · intro b hb
    rw [List.mem_singleton.mp hb, Heap.size_push]; exact Nat.lt_succ_self _
  · rintro C i v s₃ m₃ E' hC _ hn' hm hk htk
    exact wpAny_tests_nil ⟨rfl, ⟨_, _, rfl, fun _ _ e => e⟩⟩
  · rintro C i v s₃ m₃ E' hC ⟨hi, t, rfl⟩ _ hn' hm hk htk
    exact wpAny_noRaise (helt C i t s₃ m₃ hi hn' hm (up _ _ _ rfl hk) (by rw [Heap.size_push] at hC; omega) (Nat.lt_of_lt_of_le ht htk))
  · rintro D h' tk ys vs hD _ ⟨k, hpl⟩ hlen hP hF hk htk
    obtain ⟨ys⟩ := ys
    rw [filter_true] at hF
    refine done D h' tk vs ys k ?_ hpl hlen (fun j v e => (hP j v e).2) hF (up _ _ _ rfl hk) htk
    cases e : s₁.heap.get? D with
    | none => rfl
    | some o => rw [Heap.get?_push_of_some _ e] at hD; cases hD
/-- out of a frame with cells -/
theorem callX_PF {K : Frag} {p : Program} {loose : List Str} {mean : ExcName → Option Value} {mg mb : Str → Option Value} {d u : Nat} {f : Addr} {vs : List Value} {R : Value → Prop} {dp un : Nat} {gd : Option (List Code)} {fr : List Env} {base g : Heap} {L : Addr} {m : Str → Option Value} {news : List (Addr × Obj)} {E : Value → Shared → Prop}
    (C : PF prog w K p loose mean mg mb d u f vs R) (B : Below (atop dp un gd fr) base fr g) (X : K.In g) (T : Top p loose mean mg mb g) (F : Fr g L s.heap m) (N : News g L s.heap news)
    (hd : dp + 1 + d < recursionLimit) (hu : un + 3 + u < cLine) (ht : 0 < s.toks)
    (h : ∀ v h' tk', R v → Fr g L h' m → News g L h' news → 0 < tk' → Q v { s with heap := h', toks := tk' }) (hf : env.frame = some L) (hk : env.scope.kind = .function) :
    wpAny (model prog w) ((atop dp un gd fr).deeper env) (call (.ref f) vs) Q E s :=
  C (dp + 1) (un + 3) gd (env :: fr) base s Q E (pushX B F hf hk) (X.keeps F.keep) (T.keeps F.keep) hd hu ht fun v h' tk' r k =>
    h v h' tk' r (F.keeps k) fun q hq => ⟨k _ _ (N q hq).1, (N q hq).2⟩
end
end Mine

end
section
open PySem PySem.W PyProof.Rows PySem.Calls
set_option Elab.async false
set_option maxRecDepth 100000
set_option maxHeartbeats 1000000
namespace Mine
section
variable {prog : Program} {w : World} {A : Around} {s : Shared} {env : Env} {scope : Scope} {E : Value → Shared → Prop}
/-- sum of a list of ints, what stands stays -/
theorem sumH {l : Addr} {vs : List Value} {ns : List Int} {Q : Value → Shared → Prop} (hh : A.handled = none) (hl : s.heap.IsList l vs.toArray) (hi : IntsAre vs ns)
    (h : ∀ h' tk n t', s.heap.StaysIn h' → Q (.int n t') { s with heap := h', toks := tk }) : wpAny (model prog w) A (call (.builtin "sum") [.ref l]) Q E s := by
  obtain ⟨xs, hx⟩ := hi.allInts.items
  have hl' : s.heap.IsList l (intItems xs) := hx ▸ hl
  exact sum_intListG hh hl' fun h' tk t' hk => h h' tk _ t' hk
theorem sliceH {value slice : Expr} {l : Addr} {items : Array Value} {vl vu vk : Value} {lo hi st : Option Int} {ops : List Value} {Q : Value → Shared → Prop}
    (hl : s.heap.IsList l items) (pl : IsPart vl lo) (pu : IsPart vu hi) (pk : IsPart vk st) (h0 : st ≠ some 0)
    (h : ∀ h' D, s.heap.StaysIn h' → h'.IsList D (slicePick items lo hi st) → Q (.ref D) { s with heap := h' })
    (hs : subscripted slice false (.ref l) (.ref s.heap.objs.size) = operate ops (getItem (.ref l) (.ref s.heap.objs.size)))
    (ht : ∀ r, letTemporaryGo value (.ref l) r = pure ())
    (hsz : items.size ≤ sizeLine) :
    wpAny (model prog w) A (subscriptTail value slice (.ref l) (.ref s.heap.objs.size)) Q E { s with heap := s.heap.push { cls := .type "slice", data := .fields #[vl, vu, vk] } } := by
  refine subscriptTail_ops (Heap.IsList.typeIs (s := { s with heap := s.heap.push { cls := .type "slice", data := .fields #[vl, vu, vk] } }) (hl.push _)) list_getitem_lookup
    (wpAny_getItem_list_slice (hl.push _) (Heap.IsSliceOf.new ..) pl pu pk h0 ?_ hsz) hs ht
  exact h _ _ (fun b o e => Heap.get?_push_of_some _ (Heap.get?_push_of_some _ e)) ⟨_, Heap.get?_push_size _ rfl, rfl, _, rfl⟩
/-- sum(script[k::m]) within a comprehension -/
theorem elt_sum {K : Frag} {p : Program} {loose : List Str} {mean : ExcName → Option Value} {mg mb : Str → Option Value} {cl : List (Str × Addr)} {C c l : Addr} {m₃ : Str → Option Value} {vs : List Value} {ns : List Int} {xs xk : Str} {i m : Int} {tk : Tok} {kk : Nat} {p1 p2 p3 p4 p5 p6 p7 : Pos}
    (X : K.In s.heap) (T : Top p loose mean mg mb s.heap) (hh : A.handled = none) (hn : s.heap.Ns C m₃) (hm : m₃ xk = some (.int i tk)) (hc : s.heap.IsCell c (some (.ref l))) (hl : s.heap.IsList l vs.toArray) (hi : IntsAre vs ns) (hsz : vs.length ≤ 63) (hm0 : m ≠ 0)
    (hg : env.globals = mainGlobals) (hb : env.builtins = builtinsNs) (e1 : nsIn K mainGlobals (Str.ofString "sum") = some none)
    (hk : (compEnvC scope cl C env).scope.kind = .function) (h1 : (compEnvC scope cl C env).kindOf (Str.ofString "sum") = some .globalImplicit) (h2 : (compEnvC scope cl C env).kindOf xk = some .local) (h3 : (compEnvC scope cl C env).kindOf xs = some .cell) (h4 : cl.lookup xs = some c)
    (d2 : (xk == ("__debug__" : Str)) = false) (d3 : (xs == ("__debug__" : Str)) = false) :
    wpAny (model prog w) A (eval (.Call (.Name (Str.ofString "sum") p1) [.Subscript (.Name xs p2) (.Slice (some (.Name xk p3)) none (some (.Constant (.int m) kk p4)) p5) p6] [] p7) (compEnvC scope cl C env)) (fun y s₄ => (∃ n t', y = .int n t') ∧ Keeps s s₄) NoE s := by
  refine Call_ (Name_function_global hk h1 (loadGlobal_builtin (env := compEnvC scope cl C env) (by show s.heap.Ns env.globals _; rw [hg]; exact T.g) (mg_none_of X T.g e1) (by show s.heap.Ns env.builtins _; rw [hb]; exact T.b) ((T.builtins _ (by decide)).trans rfl) ?_) (by decide))
  refine callWith_builtin rfl ?_
  refine evalArgs_plain ?_
  refine spliced_cons ?_
  show wpAny _ _ (eval (.Subscript (.Name xs p2) (.Slice (some (.Name xk p3)) none (some (.Constant (.int m) kk p4)) p5) p6) _) _ _ _
  refine Subscript_ (wpAny_Name (wpAny_loadName_cell hk h3 h4 hc ?_) d3)
  refine wpAny_Slice ?_
  show wpAny _ _ (eval (.Name xk p3) _) _ _ _
  refine wpAny_Name (wpAny_loadName_local hk h2 hn hm ?_) d2
  show wpAny _ _ (pure Value.none) _ _ _
  refine wpAny_pure ?_
  show wpAny _ _ (eval (.Constant (.int m) kk p4) _) _ _ _
  refine const_int ?_
  intro tt tkk _ _
  refine sliceH (s := { s with toks := tkk }) (ops := _) hl (.int i tk) .none (.int m tt) (by intro e; exact hm0 (Option.some.inj e)) (fun h' D hst hD => ?_) (by with_unfolding_all rfl) (by intro _; with_unfolding_all rfl) (by rw [List.size_toArray, sizeLine_eq]; omega)
  refine spliced_nil ?_
  refine sumH hh (vs := (slicePick vs.toArray (some i) none (some m)).toList) hD (hi.pick _ _ _) fun h'' tk'' n t' hst' => ?_
  exact ⟨⟨n, t', rfl⟩, ⟨h'', tk'', rfl, fun b o e => hst' b o (hst b o e)⟩⟩
end
end Mine

end
section
open PySem PySem.W PyProof.Rows PySem.Calls
set_option Elab.async false
set_option maxRecDepth 100000
set_option maxHeartbeats 1000000
namespace Mine
section
variable {prog : Program} {w : World} {A : Around} {E : Value → Shared → Prop} {s : Shared} {h₀ : Heap} {L D : Addr} {m : Str → Option Value} {news news' : List (Addr × Obj)} {p : List Value} {y v : Value} {n : Nat} {t u : Tok}
theorem lastGet {Q : Value → Shared → Prop} (N : News h₀ L s.heap news) (hm : (D, listOf (p ++ [y]).toArray n) ∈ news) (h : Q y s) : wpAny (model prog w) A (getItem (.ref D) (.int (-1) u)) Q E s :=
  wpAny_getItem_list_neg (PySem.IsL.isList (n := n) (N _ hm).1) (by decide) (by rw [List.size_toArray, List.length_append]; simp; omega) (by decide) (x := y) (by
    have : ((-1 : Int) + ((p ++ [y]).toArray.size : Int)).toNat = p.length := by rw [List.size_toArray, List.length_append]; simp; omega
    rw [this]; simp) h
theorem lastSub {value slice : PySem.Expr} {Q : Value → Shared → Prop} (N : News h₀ L s.heap news) (hm : (D, listOf (p ++ [y]).toArray n) ∈ news) (h : Q y s)
    (hs : subscripted slice false (.ref D) (.int (-1) u) = operate [.ref D, .int (-1) u] (getItem (.ref D) (.int (-1) u)) := by with_unfolding_all rfl) :
    wpAny (model prog w) A (subscriptTail value slice (.ref D) (.int (-1) u)) Q E s := by
  refine subscriptTail_builtinR (Heap.IsList.typeIs (PySem.IsL.isList (n := n) (N _ hm).1)) list_getitem_lookup (x := y) (lastGet N hm ⟨rfl, h⟩) hs
theorem setL_last (p : List Value) (y v : Value) : ki_setL (p ++ [y]) p.length v = some (p ++ [v]) := by
  induction p with
  | nil => rfl
  | cons a p ih => rw [List.cons_append, List.length_cons, ki_setL, ih]; rfl
theorem lastSet {Q : Unit → Shared → Prop} (F : Fr h₀ L s.heap m) (N : News h₀ L s.heap news) (U : Upd D (listOf (p ++ [y]).toArray n) (listOf (p ++ [v]).toArray n) news news')
    (h : ∀ h', Fr h₀ L h' m → News h₀ L h' news' → Q () { s with heap := h' }) : wpAny (model prog w) A (setItem (.ref D) (.int (-1) u) v) Q E s :=
  ki_setNeg F N (by decide) (by decide) (j := p.length) (by rw [seqIndex_neg (by decide) (by rw [List.size_toArray, List.length_append]; simp; omega)]; rw [List.size_toArray, List.length_append]; simp; omega) (setL_last p y v) U h
theorem lastPop {Q : Value → Shared → Prop} (F : Fr h₀ L s.heap m) (N : News h₀ L s.heap news) (U : Upd D (listOf (p ++ [y]).toArray n) (listOf p.toArray (n + 1)) news news') (hz : p.length ≤ 1000)
    (h : ∀ h', Fr h₀ L h' m → News h₀ L h' news' → Q y { s with heap := h' }) : wpAny (model prog w) A (call (.builtin "list.pop") [.ref D]) Q E s :=
  kl_pop F N (by simpa using kpa_last y p) U (by simp [sizeLine_eq]; omega) h
theorem lenL {vs : List Value} {Q : Value → Shared → Prop} (N : News h₀ L s.heap news) (hm : (D, listOf vs.toArray n) ∈ news) (hz : vs.length ≤ 100000) (ht : 0 < s.toks) (h : ∀ t tk, 0 < tk → Q (.int (vs.length : Int) t) { s with toks := tk }) : wpAny (model prog w) A (call (.builtin "len") [.ref D]) Q E s := by
  have e : vs.toArray.size = vs.length := List.size_toArray
  refine len_list (PySem.IsL.isList (n := n) (N _ hm).1) (by rw [e]; omega) ?_
  rw [e]
  exact h _ _ (by omega)
theorem strs_snoc {vs : List Value} {ys : List Str} {y : Str} (h : StrsAre vs (ys ++ [y])) : ∃ p t, vs = p ++ [.str y t] ∧ StrsAre p ys := by
  induction ys generalizing vs with
  | nil =>
    cases h with
    | cons _ t r => cases r; exact ⟨[], t, rfl, .nil⟩
  | cons a ys ih =>
    cases h with
    | cons _ t r =>
      obtain ⟨p, t', rfl, hp⟩ := ih r
      exact ⟨_ :: p, t', rfl, .cons _ _ hp⟩
end
end Mine

end
section
open PySem PySem.W PyProof.Rows PySem.Calls PyProof.V PySem.Spec
set_option Elab.async false
set_option maxRecDepth 100000
set_option maxHeartbeats 1000000
namespace Mine
theorem layS : ∀ ns : List Str, (∀ x ∈ ns, PyData.strOk x = true) → PyData.canLayAll0 (ns.map PyData.str) = true
  | [], _ => rfl
  | x :: r, h => by simp [PyData.canLayAll0, PyData.canLay0, layS r (fun y hy => h y (.tail _ hy)), h x (.head _)]
theorem depthS : ∀ ns : List Str, PyData.depthAll (ns.map PyData.str) = 0
  | [] => rfl
  | _ :: r => by simp [PyData.depthAll, PyData.depth, depthS r]
theorem shapedS {ns : List Str} (h : ∀ x ∈ ns, PyData.strOk x = true) : SeqAt.shaped (.list (ns.map PyData.str)) = true := by
  simp [SeqAt.shaped, PyData.canLay0, PyData.depth, layS ns h, depthS]
theorem sameAllS : ∀ ns ms : List Str, PySem.Spec.sameAll (ns.map PyData.str) (ms.map PyData.str) = decide (ns = ms)
  | [], [] => by simp [PySem.Spec.sameAll]
  | [], _ :: _ => by simp [PySem.Spec.sameAll]
  | _ :: _, [] => by simp [PySem.Spec.sameAll]
  | a :: r, b :: t => by
    simp only [List.map_cons, PySem.Spec.sameAll, same_strs, sameAllS r t]
    by_cases h : a = b <;> by_cases h' : r = t <;> simp [h, h']
theorem sameS (ns ms : List Str) : PySem.Spec.same (.list (ns.map PyData.str)) (.list (ms.map PyData.str)) = decide (ns = ms) := by
  simp only [PySem.Spec.same]; exact sameAllS ns ms
theorem carriedS : ∀ {vs : List Value} {ns : List Str}, StrsAre vs ns → CarriedAll vs (ns.map PyData.str)
  | _, _, .nil => .nil
  | _, _, .cons _ t r => .cons (.str _ t) (carriedS r)
section
variable {prog : Program} {w : World} {A : Around} {E : Value → Shared → Prop} {s : Shared} {a b : Addr} {xs ys : List Value} {ns ms : List Str} {Q : Value → Shared → Prop}
theorem eq_strs (ha : s.heap.IsList a xs.toArray) (hb : s.heap.IsList b ys.toArray) (hi : StrsAre xs ns) (hj : StrsAre ys ms) (hok : ∀ x ∈ ns, PyData.strOk x = true) (hok2 : ∀ x ∈ ms, PyData.strOk x = true) (hu : A.units + 64 < cLine) (h : Q (.bool (decide (ns = ms))) s) :
    wpAny (model prog w) A (compareOp .Eq (.ref a) (.ref b)) Q E s :=
  eq_dataH_same (reads_newData ha (carriedS hi)) (reads_newData hb (carriedS hj)) (shapedS hok) (shapedS hok2) hu (SeqAt.noMix_of_shape (.list .str) rfl _ _ (list_map_has fun _ => rfl) (list_map_has fun _ => rfl)) (by rw [sameS]; exact h)
theorem ne_strs (ha : s.heap.IsList a xs.toArray) (hb : s.heap.IsList b ys.toArray) (hi : StrsAre xs ns) (hj : StrsAre ys ms) (hok : ∀ x ∈ ns, PyData.strOk x = true) (hok2 : ∀ x ∈ ms, PyData.strOk x = true) (hu : A.units + 64 < cLine) (h : Q (.bool (!decide (ns = ms))) s) :
    wpAny (model prog w) A (compareOp .NotEq (.ref a) (.ref b)) Q E s :=
  ne_dataH_same (reads_newData ha (carriedS hi)) (reads_newData hb (carriedS hj)) (shapedS hok) (shapedS hok2) hu (SeqAt.noMix_of_shape (.list .str) rfl _ _ (list_map_has fun _ => rfl) (list_map_has fun _ => rfl)) (by rw [sameS]; exact h)
end
end Mine

end
section
open PySem PySem.W PyProof.Rows PySem.Calls
set_option Elab.async false
set_option maxRecDepth 100000
set_option maxHeartbeats 1000000
namespace Mine
/-- the writer's state -/
structure Inv1 (i : Nat) (came kept written single parted : List Nat) : Prop where
  hk : ∃ base, came = base ++ kept ∧ written = escL base ∧ (kept = [13] ∨ (kept = [] ∧ base.getLast? ≠ some 13))
  hs : single = escL parted
  hl : parted.getLast? = came.getLast?
  hn : noCtl came
  hc : came.length ≤ 67 * i
  hp : parted.length ≤ 68 * i
theorem Inv1.start : Inv1 0 [] [] [] [] [] := ⟨⟨[], rfl, rfl, .inr ⟨rfl, by simp⟩⟩, rfl, rfl, by simp [noCtl], Nat.le_refl _, Nat.le_refl _⟩
theorem Inv1.mono {i : Nat} {came kept written single parted : List Nat} (h : Inv1 i came kept written single parted) : Inv1 (i + 1) came kept written single parted :=
  ⟨h.hk, h.hs, h.hl, h.hn, by have := h.hc; omega, by have := h.hp; omega⟩
theorem Inv1.kept {i : Nat} {came kept written single parted : List Nat} (h : Inv1 i came kept written single parted) : kept = [] ∨ kept = [13] := by
  obtain ⟨_, _, _, h | h⟩ := h.hk
  · exact .inr h
  · exact .inl h.1
theorem last_app {a b : List Nat} (h : b ≠ []) : (a ++ b).getLast? = b.getLast? := by
  rw [List.getLast?_append]
  cases e : b.getLast? with
  | none => simp at e; exact absurd e h
  | some z => rfl
theorem Inv1.step {i : Nat} {came kept written single parted p x late : List Nat} (h : Inv1 i came kept written single parted) (hp : noCtl p) (hl : p.length ≤ 67) (e : kept ++ p = x ++ late) (hx : late = [13] ∨ (late = [] ∧ x.getLast? ≠ some 13)) :
    Inv1 (i + 1) (came ++ p) late (written ++ escL x) (single ++ escL p) (parted ++ ((if came.getLast? = some 13 ∧ p.head? = some 10 then [10] else []) ++ p)) := by
  obtain ⟨base, h1, h2, h3⟩ := h.hk
  have hcut : ¬ (base.getLast? = some 13 ∧ x.head? = some 10) := by
    rintro ⟨q1, q2⟩
    rcases h3 with rfl | ⟨_, h3⟩
    · cases x with
      | nil => simp at q2
      | cons c x => simp at e q2; omega
    · exact h3 q1
  refine ⟨⟨base ++ x, ?_, ?_, ?_⟩, ?_, ?_, ?_, ?_, ?_⟩
  · rw [h1, List.append_assoc, e, List.append_assoc]
  · rw [esc_cut, if_neg hcut, h2]
  · rcases hx with rfl | ⟨rfl, hx⟩
    · exact .inl rfl
    · refine .inr ⟨rfl, ?_⟩
      by_cases q : x = []
      · subst q
        rw [List.append_nil]
        rcases h3 with rfl | ⟨rfl, h3⟩
        · simp at e
        · exact h3
      · rw [last_app q]; exact hx
  · rw [h.hs]
    by_cases q : came.getLast? = some 13 ∧ p.head? = some 10
    · rw [if_pos q, ← List.append_assoc, esc_join (a := parted ++ [10]) (by simp)]
      congr 1
      rw [esc_cut, if_pos ⟨by rw [h.hl]; exact q.1, rfl⟩]
      simp [escL, crlf, escC]
    · rw [if_neg q, List.nil_append, esc_cut, if_neg]
      rw [h.hl]; exact q
  · by_cases q : p = []
    · subst q
      simp [h.hl]
    · rw [← List.append_assoc, last_app q, last_app q]
  · intro c hc
    rcases List.mem_append.mp hc with q | q
    · exact h.hn c q
    · exact hp c q
  · rw [List.length_append]; have := h.hc; omega
  · rw [List.length_append, List.length_append]
    have := h.hp
    have : (if came.getLast? = some 13 ∧ p.head? = some 10 then [10] else [] : List Nat).length ≤ 1 := by split <;> simp
    omega
theorem Inv1.fin {i : Nat} {came kept written single parted : List Nat} (h : Inv1 i came kept written single parted) : written ++ escL kept = escL came := by
  obtain ⟨base, h1, h2, h3⟩ := h.hk
  rw [h1, h2]
  rcases h3 with rfl | ⟨rfl, _⟩
  · rw [esc_join2 (by simp)]
  · rw [escL_nil, List.append_nil, List.append_nil]
theorem beq_mk (a b : List Nat) : (mkS a == mkS b) = decide (a = b) := by
  by_cases q : a = b
  · subst q; simp
  · rw [decide_eq_false q]; rw [beq_eq_false_iff_ne]; intro q'; exact q (mkS_inj.mp q')
theorem slice_l1 (l : List Nat) (c : Nat) : (Txt.slice (mkS l) (some (-1)) none == (⟨#[c]⟩ : Str)) = decide (l.getLast? = some c) := by
  have e := slice_neg (l := l) (k := 1) (by decide)
  have e' : Txt.slice (mkS l) (some (-1)) none = mkS (l.drop (l.length - 1)) := e
  have : (⟨#[c]⟩ : Str) = mkS [c] := rfl
  rw [e', this, beq_mk]
  refine decide_eq_decide.mpr ?_
  rcases List.eq_nil_or_concat l with rfl | ⟨p, z, rfl⟩ <;> simp
theorem slice_f1 (l : List Nat) (c : Nat) : (Txt.slice (mkS l) none (some 1) == (⟨#[c]⟩ : Str)) = decide (l.head? = some c) := by
  have e : Txt.slice (mkS l) none (some 1) = mkS (l.take 1) := by
    by_cases h : 1 ≤ l.length
    · exact slice_to (x := mkS l) (n := 1) (by rw [mkS_length]; exact h)
    · have : l = [] := List.length_eq_zero_iff.mp (by omega)
      subst this
      decide
  have : (⟨#[c]⟩ : Str) = mkS [c] := rfl
  rw [e, this, beq_mk]
  refine decide_eq_decide.mpr ?_
  cases l <;> simp
theorem ctl_kept {kept p x late : List Nat} (hk : kept = [] ∨ kept = [13]) (e : kept ++ p = x ++ late) (hx : late = [13] ∨ late = []) : x.any ctl = p.any ctl := by
  have h1 : (kept ++ p).any ctl = p.any ctl := by rw [List.any_append]; rcases hk with rfl | rfl <;> simp [ctl]
  have h2 : (x ++ late).any ctl = x.any ctl := by rw [List.any_append]; rcases hx with rfl | rfl <;> simp [ctl]
  rw [← h2, ← e, h1]
end Mine

end
section
open PySem PySem.W PyProof.Rows
set_option Elab.async false
set_option maxRecDepth 100000
set_option maxHeartbeats 8000000
namespace Mine
open_top hd01 for PySem.Challenge.rw_dm0240_01
end Mine

end
section
open PySem PySem.W PyProof.Rows PySem.Calls
set_option Elab.async false
set_option maxRecDepth 100000
set_option maxHeartbeats 1000000

namespace Mine

local macro_rules | `(tactic| walk_at "go") => `(tactic| repeat' (first | (k_unfold; (try dsimp only)) | walk1 | (dsimp only; first | walk1 | (k_unfold; (try dsimp only)))))
local macro_rules | `(tactic| walk_at "exec For Name Name cons nil") => `(tactic| (refine wpAny_For ?_))
local macro_rules | `(tactic| walk_at "exec For Name Call cons nil") => `(tactic| (refine wpAny_For ?_))
local macro_rules | `(tactic| walk_at "exec For Name Subscript cons nil") => `(tactic| (refine wpAny_For ?_))
local macro_rules | `(tactic| walk_at "exec For Name BinOp cons nil") => `(tactic| (refine wpAny_For ?_))
local macro_rules | `(tactic| walk_at "exec For Name Attribute cons nil") => `(tactic| (refine wpAny_For ?_))
local macro_rules | `(tactic| walk_at "exec While Compare cons nil") => `(tactic| (refine halt ?_))
local macro_rules | `(tactic| walk_at "exec While BoolOp cons nil") => `(tactic| (refine halt ?_))
local macro_rules | `(tactic| walk_at "exec While Name cons nil") => `(tactic| (refine halt ?_))
local macro_rules | `(tactic| walk_at "execs cons Assign cons") => `(tactic| ((with_reducible show wpAny _ _ (execs (Stmt.Assign _ (Expr.List [] _) _ :: Stmt.For _ _ _ _ _ :: _) _) _ _ _); (refine wpAny_execs_cons ?_)))
local macro_rules | `(tactic| walk_at "room") => `(tactic| first | ((simp only [List.size_toArray, Array.size_push, List.length_append, List.length_cons, List.length_nil, sizeLine_eq]); omega) | (rw [sizeLine_eq]; omega))
local macro_rules | `(tactic| walk_at "call builtin:list.append") => `(tactic| (k_here; k_dflt (refine' append_K ?k1 ?k2 ?k3 ?_ ?z; (case k1 => k_asm); (case k2 => k_asm); (case k3 => k_upd); (case z => walk_at "room"); k_whole); intro h' F' N'; (try k_sweep)))
local macro_rules | `(tactic| walk_at "se_in") => `(tactic| first | (with_unfolding_all kst_in) | kst_inAny | (intro p hp; (try simp only [List.push_toArray, List.cons_append, List.nil_append, List.mem_cons, List.not_mem_nil, or_false] at hp ⊢); first | assumption | (rcases hp with hp | hp <;> simp_all; done) | (simp_all; done)))
local macro_rules | `(tactic| walk_at "se_ne") => `(tactic| (intro q hq; first | (cases hq; done) | (rw [List.mem_singleton.mp hq]; dsimp only [AllNe]; omega)))
local macro_rules | `(tactic| walk_at "se_all") => `(tactic| kst_all)
local macro_rules | `(tactic| walk_at "se_same") => `(tactic| (intro z h1 h2 h3; (simp only [List.forall_mem_cons, List.not_mem_nil, false_implies, implies_true, and_true, ne_eq] at h2); (try simp only [List.contains_cons, List.contains_nil, Bool.or_false, Bool.or_eq_false_iff, beq_eq_false_iff_ne, ne_eq] at h3); first | rfl | (simp [locs4, kstB, h1, h2, h3]; done) | (simp_all [locs4, kstB]; done)))
local macro_rules | `(tactic| walk_at "eval Constant str") => `(tactic| (with_reducible refine const_str ?_; intro tt tk hTt hTk; try dsimp only))
local macro_rules | `(tactic| walk_at "eval Constant int") => `(tactic| (with_reducible refine const_int ?_; intro tt tk hTt hTk; try dsimp only))
local macro_rules | `(tactic| walk_at "subscriptTail Name Slice str ref") => `(tactic| ((with_reducible rename Fr _ _ _ _ => F'); (with_reducible rename News _ _ _ _ => N'); refine wpAny_pos (by walk_at "toks") ?_; (first | refine slice_strN_ns (hsz := ?hsz) (s := ⟨_, _, _, _, _⟩) F' N' ?_ | refine slice_strN_sn (hsz := ?hsz) (s := ⟨_, _, _, _, _⟩) F' N' ?_ | refine slice_strN_ss (hsz := ?hsz) (s := ⟨_, _, _, _, _⟩) F' N' ?_); (case hsz => (rw [sizeLine_eq]; first | omega | (simp only [mkS_length]; omega) | (refine Nat.le_trans (Txt.length_slice_le _ _ _) ?_; omega))); clear F' N'; intro h' t' k' F' N' hk'; dsimp only at hk' ⊢))
local macro_rules | `(tactic| walk_at "subscriptTail Subscript Slice str ref") => `(tactic| (refine halt ?_))
local macro_rules | `(tactic| walk_at "slice now") => `(tactic| ((with_reducible rename Fr _ _ _ _ => F'); (with_reducible rename News _ _ _ _ => N'); refine wpAny_pos (by walk_at "toks") ?_; (first | refine slice_strN_ns (hsz := ?hsz) (s := ⟨_, _, _, _, _⟩) F' N' ?_ | refine slice_strN_sn (hsz := ?hsz) (s := ⟨_, _, _, _, _⟩) F' N' ?_ | refine slice_strN_ss (hsz := ?hsz) (s := ⟨_, _, _, _, _⟩) F' N' ?_); (case hsz => (rw [sizeLine_eq]; first | omega | (simp only [mkS_length]; omega) | (refine Nat.le_trans (Txt.length_slice_le _ _ _) ?_; omega))); clear F' N'; intro h' t' k' F' N' hk'; dsimp only at hk' ⊢))
local macro_rules | `(tactic| walk_at "SPost") => `(tactic| (dsimp only [SPost]))
local macro_rules | `(tactic| walk_at "toks") => `(tactic| first | omega | (dsimp only; omega) | ((show @Ne Nat _ _); omega) | ((show @LT.lt Nat _ _ _); omega) | ((show @Ne Nat _ _); dsimp only; omega) | ((show @LT.lt Nat _ _ _); dsimp only; omega) | (simp only [List.length_cons, List.length_nil]; omega))
local macro_rules | `(tactic| walk_at "execs cons") => `(tactic| ((with_reducible first | show wpAny _ _ _ _ _ (Shared.mk _ _ _ (_ + _) _) | show wpAny _ _ _ _ _ (Shared.mk _ _ _ (Shared.toks _) _)); refine gen_toks (by walk_at "toks") ?_; intro tk htk))
local macro_rules | `(tactic| walk_at "execs nil") => `(tactic| ((with_reducible first | show wpAny _ _ _ _ _ (Shared.mk _ _ _ (_ + _) _) | show wpAny _ _ _ _ _ (Shared.mk _ _ _ (Shared.toks _) _)); refine gen_toks (by walk_at "toks") ?_; intro tk htk))

theorem patIn01 (w : World) {h : Heap} (X : (Mine.hd01.heap_39 w.params).In h) : IsPat h 36 35 :=
  ⟨⟨_, _, X _ _ rfl⟩, ⟨_, X _ _ rfl⟩⟩
local macro_rules | `(tactic| walk_at "getMethod ref") => `(tactic| (with_reducible refine getMethod_search (IsPat.keeps (patIn01 _ (by assumption)) (Fr.keep (by assumption))) ?_))
local macro_rules | `(tactic| walk_at "call builtin:re.Pattern.search") => `(tactic| (refine halt ?_))
local macro_rules | `(tactic| walk_at "call builtin:str.replace") => `(tactic| ((first | refine replaceE 1 _ (by walk_at "toks") (by walk_at "toks") (by walk_at "toks") (by walk_at "toks") (by with_reducible assumption) (by decide) (by decide) (by decide) (by decide) (by decide) ?_ | refine replaceE 4 _ (by walk_at "toks") (by walk_at "toks") (by walk_at "toks") (by walk_at "toks") (by with_reducible assumption) (by decide) (by decide) (by decide) (by decide) (by decide) ?_ | refine replaceE 5 _ (by walk_at "toks") (by walk_at "toks") (by walk_at "toks") (by walk_at "toks") (by with_reducible assumption) (by decide) (by decide) (by decide) (by decide) (by decide) ?_); intro r' t' k' er' hl' hk'; dsimp only))
theorem esc01 (w : World) (mean : ExcName → Option Value) (mg mb : Str → Option Value) (x : Str) (t : Tok) (hx : x.length ≤ 160000) (hc : hasCtl x = false) : PF PySem.Challenge.rw_dm0240_01.row.prog w (Mine.hd01.heap_39 w.params) Mine.hd01.view_39 (looseW Mine.hd01.view_39 [Str.ofString "_controlCharPat"]) mean mg mb 1 8 43 [.str x t] (fun v => ∃ t', v = .str (escS x) t') := by
  w_on
  k_fill
  refine PF.enter (by k_is) (by k_is) rfl rfl (by decide) rfl rfl rfl ?_ (by decide)
  intro dp un gd fr base g L h₁ s B X T F N hd hu tk htk
  (try k_fold)
  walk_at "go"
  refine go_on (reSearch (IsPat.keeps (patIn01 _ (by assumption)) (Fr.keep (by assumption))) (by rw [sizeLine_eq]; omega) ?kno ?kyes)
  case kyes => intro hYes; rw [hc] at hYes; cases hYes
  intro hNo
  walk_at "go"
  have fin : ∀ (r : Str) (tr : Tok), r = es5 x → ∃ t', Value.str r tr = .str (escS x) t' := fun r tr e => ⟨tr, by rw [e, es5_eq]⟩
  refine PEnd.mk (by assumption) (by walk_at "toks") ?_
  refine fin _ _ ?_
  subst_vars
  rfl

end Mine

end
section
open PySem PySem.W PyProof.Rows PySem.Calls
set_option Elab.async false
set_option maxRecDepth 100000
set_option maxHeartbeats 1000000

namespace Mine

local macro_rules | `(tactic| walk_at "go") => `(tactic| repeat' (first | (k_unfold; (try dsimp only)) | walk1 | (dsimp only; first | walk1 | (k_unfold; (try dsimp only)))))
local macro_rules | `(tactic| walk_at "exec For Name Name cons nil") => `(tactic| (refine wpAny_For ?_))
local macro_rules | `(tactic| walk_at "exec For Name Call cons nil") => `(tactic| (refine wpAny_For ?_))
local macro_rules | `(tactic| walk_at "exec For Name Subscript cons nil") => `(tactic| (refine wpAny_For ?_))
local macro_rules | `(tactic| walk_at "exec For Name BinOp cons nil") => `(tactic| (refine wpAny_For ?_))
local macro_rules | `(tactic| walk_at "exec For Name Attribute cons nil") => `(tactic| (refine wpAny_For ?_))
local macro_rules | `(tactic| walk_at "exec While Compare cons nil") => `(tactic| (refine halt ?_))
local macro_rules | `(tactic| walk_at "exec While BoolOp cons nil") => `(tactic| (refine halt ?_))
local macro_rules | `(tactic| walk_at "exec While Name cons nil") => `(tactic| (refine halt ?_))
local macro_rules | `(tactic| walk_at "execs cons Assign cons") => `(tactic| ((with_reducible show wpAny _ _ (execs (Stmt.Assign _ (Expr.List [] _) _ :: Stmt.For _ _ _ _ _ :: _) _) _ _ _); (refine wpAny_execs_cons ?_)))
local macro_rules | `(tactic| walk_at "room") => `(tactic| first | ((simp only [List.size_toArray, Array.size_push, List.length_append, List.length_cons, List.length_nil, sizeLine_eq]); omega) | (rw [sizeLine_eq]; omega))
local macro_rules | `(tactic| walk_at "call builtin:list.append") => `(tactic| (k_here; k_dflt (refine' append_K ?k1 ?k2 ?k3 ?_ ?z; (case k1 => k_asm); (case k2 => k_asm); (case k3 => k_upd); (case z => walk_at "room"); k_whole); intro h' F' N'; (try k_sweep)))
local macro_rules | `(tactic| walk_at "se_in") => `(tactic| first | (with_unfolding_all kst_in) | kst_inAny | (intro p hp; (try simp only [List.push_toArray, List.cons_append, List.nil_append, List.mem_cons, List.not_mem_nil, or_false] at hp ⊢); first | assumption | (rcases hp with hp | hp <;> simp_all; done) | (simp_all; done)))
local macro_rules | `(tactic| walk_at "se_ne") => `(tactic| (intro q hq; first | (cases hq; done) | (rw [List.mem_singleton.mp hq]; dsimp only [AllNe]; omega)))
local macro_rules | `(tactic| walk_at "se_all") => `(tactic| kst_all)
local macro_rules | `(tactic| walk_at "se_same") => `(tactic| (intro z h1 h2 h3; (simp only [List.forall_mem_cons, List.not_mem_nil, false_implies, implies_true, and_true, ne_eq] at h2); (try simp only [List.contains_cons, List.contains_nil, Bool.or_false, Bool.or_eq_false_iff, beq_eq_false_iff_ne, ne_eq] at h3); first | rfl | (simp [locs4, kstB, h1, h2, h3]; done) | (simp_all [locs4, kstB]; done)))
local macro_rules | `(tactic| walk_at "eval Constant str") => `(tactic| (with_reducible refine const_str ?_; intro tt tk hTt hTk; try dsimp only))
local macro_rules | `(tactic| walk_at "eval Constant int") => `(tactic| (with_reducible refine const_int ?_; intro tt tk hTt hTk; try dsimp only))
local macro_rules | `(tactic| walk_at "subscriptTail Name Slice str ref") => `(tactic| ((with_reducible rename Fr _ _ _ _ => F'); (with_reducible rename News _ _ _ _ => N'); refine wpAny_pos (by walk_at "toks") ?_; (first | refine slice_strN_ns (hsz := ?hsz) (s := ⟨_, _, _, _, _⟩) F' N' ?_ | refine slice_strN_sn (hsz := ?hsz) (s := ⟨_, _, _, _, _⟩) F' N' ?_ | refine slice_strN_ss (hsz := ?hsz) (s := ⟨_, _, _, _, _⟩) F' N' ?_); (case hsz => (rw [sizeLine_eq]; first | omega | (simp only [mkS_length]; omega) | (refine Nat.le_trans (Txt.length_slice_le _ _ _) ?_; omega))); clear F' N'; intro h' t' k' F' N' hk'; dsimp only at hk' ⊢))
local macro_rules | `(tactic| walk_at "subscriptTail Subscript Slice str ref") => `(tactic| (refine halt ?_))
local macro_rules | `(tactic| walk_at "slice now") => `(tactic| ((with_reducible rename Fr _ _ _ _ => F'); (with_reducible rename News _ _ _ _ => N'); refine wpAny_pos (by walk_at "toks") ?_; (first | refine slice_strN_ns (hsz := ?hsz) (s := ⟨_, _, _, _, _⟩) F' N' ?_ | refine slice_strN_sn (hsz := ?hsz) (s := ⟨_, _, _, _, _⟩) F' N' ?_ | refine slice_strN_ss (hsz := ?hsz) (s := ⟨_, _, _, _, _⟩) F' N' ?_); (case hsz => (rw [sizeLine_eq]; first | omega | (simp only [mkS_length]; omega) | (refine Nat.le_trans (Txt.length_slice_le _ _ _) ?_; omega))); clear F' N'; intro h' t' k' F' N' hk'; dsimp only at hk' ⊢))
local macro_rules | `(tactic| walk_at "SPost") => `(tactic| (dsimp only [SPost]))
local macro_rules | `(tactic| walk_at "toks") => `(tactic| first | omega | (dsimp only; omega) | ((show @Ne Nat _ _); omega) | ((show @LT.lt Nat _ _ _); omega) | ((show @Ne Nat _ _); dsimp only; omega) | ((show @LT.lt Nat _ _ _); dsimp only; omega) | (simp only [List.length_cons, List.length_nil]; omega))
local macro_rules | `(tactic| walk_at "execs cons") => `(tactic| ((with_reducible first | show wpAny _ _ _ _ _ (Shared.mk _ _ _ (_ + _) _) | show wpAny _ _ _ _ _ (Shared.mk _ _ _ (Shared.toks _) _)); refine gen_toks (by walk_at "toks") ?_; intro tk htk))
local macro_rules | `(tactic| walk_at "execs nil") => `(tactic| ((with_reducible first | show wpAny _ _ _ _ _ (Shared.mk _ _ _ (_ + _) _) | show wpAny _ _ _ _ _ (Shared.mk _ _ _ (Shared.toks _) _)); refine gen_toks (by walk_at "toks") ?_; intro tk htk))

local macro_rules | `(tactic| walk_at "getMethod ref") => `(tactic| (with_reducible refine getMethod_search (IsPat.keeps (patIn01 _ (by assumption)) (Fr.keep (by assumption))) ?_))
local macro_rules | `(tactic| walk_at "call builtin:re.Pattern.search") => `(tactic| (refine halt ?_))
local macro_rules | `(tactic| walk_at "exec Raise some none") => `(tactic| (refine halt ?_))
theorem escR01 (w : World) (mean : ExcName → Option Value) (mg mb : Str → Option Value) (x : Str) (t : Tok) (hx : x.length ≤ 160000) (hc : hasCtl x = true) : PX PySem.Challenge.rw_dm0240_01.row.prog w (Mine.hd01.heap_39 w.params) Mine.hd01.view_39 (looseW Mine.hd01.view_39 [Str.ofString "_controlCharPat"]) mean mg mb 1 8 43 [.str x t] "ValueError" (fun ws => ∃ t', ws = [.str (Str.ofString "strings can't contain control characters; use bytes instead") t']) := by
  w_on
  k_fill
  refine PX.enter (by k_is) (by k_is) rfl rfl (by decide) rfl rfl rfl ?_ (by decide)
  intro dp un gd fr base g L h₁ s news B X T F N hd hu tk htk
  (try k_fold)
  walk_at "go"
  refine go_on (reSearch (IsPat.keeps (patIn01 _ (by assumption)) (Fr.keep (by assumption))) (by rw [sizeLine_eq]; omega) ?kno ?kyes)
  case kno => intro hNo; rw [hc] at hNo; cases hNo
  intro _ a o1 o2
  have F2 := (F.push o1).push o2
  have N2 : News g L ((h₁.push o1).push o2) news := fun p hp => ⟨Heap.get?_push_of_some _ (Heap.get?_push_of_some _ (N p hp).1), (N p hp).2⟩
  clear F N
  dsimp only
  walk_at "go"
  refine go_on ?_
  refine Raise_madeB PySem.F.excCall_ValueError PySem.F.excRaise_ValueError rfl ?_
  walk_at "go"
  refine ⟨_, _, _, _, _, _, rfl, rfl, ?_, (by assumption), (by assumption), Heap.MadeExc.of (by assumption), ⟨_, rfl⟩⟩
  walk_at "toks"
end Mine

end
section
open PySem PySem.W PyProof.Rows PySem.Calls
set_option Elab.async false
set_option maxRecDepth 100000
set_option maxHeartbeats 1000000

namespace Mine

local macro_rules | `(tactic| walk_at "go") => `(tactic| repeat' (first | (k_unfold; (try dsimp only)) | walk1 | (dsimp only; first | walk1 | (k_unfold; (try dsimp only)))))
local macro_rules | `(tactic| walk_at "exec For Name Name cons nil") => `(tactic| (refine wpAny_For ?_))
local macro_rules | `(tactic| walk_at "exec For Name Call cons nil") => `(tactic| (refine wpAny_For ?_))
local macro_rules | `(tactic| walk_at "exec For Name Subscript cons nil") => `(tactic| (refine wpAny_For ?_))
local macro_rules | `(tactic| walk_at "exec For Name BinOp cons nil") => `(tactic| (refine wpAny_For ?_))
local macro_rules | `(tactic| walk_at "exec For Name Attribute cons nil") => `(tactic| (refine wpAny_For ?_))
local macro_rules | `(tactic| walk_at "exec While Compare cons nil") => `(tactic| (refine halt ?_))
local macro_rules | `(tactic| walk_at "exec While BoolOp cons nil") => `(tactic| (refine halt ?_))
local macro_rules | `(tactic| walk_at "exec While Name cons nil") => `(tactic| (refine halt ?_))
local macro_rules | `(tactic| walk_at "execs cons Assign cons") => `(tactic| ((with_reducible show wpAny _ _ (execs (Stmt.Assign _ (Expr.List [] _) _ :: Stmt.For _ _ _ _ _ :: _) _) _ _ _); (refine wpAny_execs_cons ?_)))
local macro_rules | `(tactic| walk_at "room") => `(tactic| first | ((simp only [List.size_toArray, Array.size_push, List.length_append, List.length_cons, List.length_nil, sizeLine_eq]); omega) | (rw [sizeLine_eq]; omega))
local macro_rules | `(tactic| walk_at "call builtin:list.append") => `(tactic| (k_here; k_dflt (refine' append_K ?k1 ?k2 ?k3 ?_ ?z; (case k1 => k_asm); (case k2 => k_asm); (case k3 => k_upd); (case z => walk_at "room"); k_whole); intro h' F' N'; (try k_sweep)))
local macro_rules | `(tactic| walk_at "se_in") => `(tactic| first | (with_unfolding_all kst_in) | kst_inAny | (intro p hp; (try simp only [List.push_toArray, List.cons_append, List.nil_append, List.mem_cons, List.not_mem_nil, or_false] at hp ⊢); first | assumption | (rcases hp with hp | hp <;> simp_all; done) | (simp_all; done)))
local macro_rules | `(tactic| walk_at "se_ne") => `(tactic| (intro q hq; first | (cases hq; done) | (rw [List.mem_singleton.mp hq]; dsimp only [AllNe]; omega)))
local macro_rules | `(tactic| walk_at "se_all") => `(tactic| kst_all)
local macro_rules | `(tactic| walk_at "se_same") => `(tactic| (intro z h1 h2 h3; (simp only [List.forall_mem_cons, List.not_mem_nil, false_implies, implies_true, and_true, ne_eq] at h2); (try simp only [List.contains_cons, List.contains_nil, Bool.or_false, Bool.or_eq_false_iff, beq_eq_false_iff_ne, ne_eq] at h3); first | rfl | (simp [locs4, kstB, h1, h2, h3]; done) | (simp_all [locs4, kstB]; done)))
local macro_rules | `(tactic| walk_at "eval Constant str") => `(tactic| (with_reducible refine const_str ?_; intro tt tk hTt hTk; try dsimp only))
local macro_rules | `(tactic| walk_at "eval Constant int") => `(tactic| (with_reducible refine const_int ?_; intro tt tk hTt hTk; try dsimp only))
local macro_rules | `(tactic| walk_at "subscriptTail Name Slice str ref") => `(tactic| ((with_reducible rename Fr _ _ _ _ => F'); (with_reducible rename News _ _ _ _ => N'); refine wpAny_pos (by walk_at "toks") ?_; (first | refine slice_strN_ns (hsz := ?hsz) (s := ⟨_, _, _, _, _⟩) F' N' ?_ | refine slice_strN_sn (hsz := ?hsz) (s := ⟨_, _, _, _, _⟩) F' N' ?_ | refine slice_strN_ss (hsz := ?hsz) (s := ⟨_, _, _, _, _⟩) F' N' ?_); (case hsz => (rw [sizeLine_eq]; first | omega | (simp only [mkS_length]; omega) | (refine Nat.le_trans (Txt.length_slice_le _ _ _) ?_; omega))); clear F' N'; intro h' t' k' F' N' hk'; dsimp only at hk' ⊢))
local macro_rules | `(tactic| walk_at "subscriptTail Subscript Slice str ref") => `(tactic| (refine halt ?_))
local macro_rules | `(tactic| walk_at "slice now") => `(tactic| ((with_reducible rename Fr _ _ _ _ => F'); (with_reducible rename News _ _ _ _ => N'); refine wpAny_pos (by walk_at "toks") ?_; (first | refine slice_strN_ns (hsz := ?hsz) (s := ⟨_, _, _, _, _⟩) F' N' ?_ | refine slice_strN_sn (hsz := ?hsz) (s := ⟨_, _, _, _, _⟩) F' N' ?_ | refine slice_strN_ss (hsz := ?hsz) (s := ⟨_, _, _, _, _⟩) F' N' ?_); (case hsz => (rw [sizeLine_eq]; first | omega | (simp only [mkS_length]; omega) | (refine Nat.le_trans (Txt.length_slice_le _ _ _) ?_; omega))); clear F' N'; intro h' t' k' F' N' hk'; dsimp only at hk' ⊢))
local macro_rules | `(tactic| walk_at "SPost") => `(tactic| (dsimp only [SPost]))
local macro_rules | `(tactic| walk_at "toks") => `(tactic| first | omega | (dsimp only; omega) | ((show @Ne Nat _ _); omega) | ((show @LT.lt Nat _ _ _); omega) | ((show @Ne Nat _ _); dsimp only; omega) | ((show @LT.lt Nat _ _ _); dsimp only; omega) | (simp only [List.length_cons, List.length_nil]; omega))
local macro_rules | `(tactic| walk_at "execs cons") => `(tactic| ((with_reducible first | show wpAny _ _ _ _ _ (Shared.mk _ _ _ (_ + _) _) | show wpAny _ _ _ _ _ (Shared.mk _ _ _ (Shared.toks _) _)); refine gen_toks (by walk_at "toks") ?_; intro tk htk))
local macro_rules | `(tactic| walk_at "execs nil") => `(tactic| ((with_reducible first | show wpAny _ _ _ _ _ (Shared.mk _ _ _ (_ + _) _) | show wpAny _ _ _ _ _ (Shared.mk _ _ _ (Shared.toks _) _)); refine gen_toks (by walk_at "toks") ?_; intro tk htk))


local macro_rules | `(tactic| walk_at "binaryOp Add str str") => `(tactic| (refine addE (by walk_at "addroom") (by walk_at "toks") ?_; intro t' k' hk'; dsimp only))
local macro_rules | `(tactic| walk_at "inplaceOp Add str str") => `(tactic| (refine iaddE (by walk_at "addroom") (by walk_at "toks") ?_; intro t' k' hk'; dsimp only))
local macro_rules | `(tactic| walk_at "binaryOp Mult str int") => `(tactic| (refine mulE (by decide) (by omega) (by omega) (by walk_at "toks") ?_; intro t' k' hk'; dsimp only))
local macro_rules | `(tactic| walk_at "compareOp In str str") => `(tactic| (refine in1E ?_; dsimp only))
local macro_rules | `(tactic| walk_at "compareOp NotIn str str") => `(tactic| (refine notIn1E ?_; dsimp only))

theorem sign01 (w : World) (mean : ExcName → Option Value) (mg mb : Str → Option Value) (n : Int) (t : Tok) : PF PySem.Challenge.rw_dm0240_01.row.prog w (Mine.hd01.heap_39 w.params) Mine.hd01.view_39 (looseW Mine.hd01.view_39 [Str.ofString "_controlCharPat"]) mean mg mb 1 8 50 [.int n t] (fun v => ∃ c t', v = .str ⟨#[c]⟩ t') := by
  w_on
  k_fill
  refine PF.enter (by k_is) (by k_is) rfl rfl (by decide) rfl rfl rfl ?_ (by decide)
  intro dp un gd fr base g L h₁ s B X T F N hd hu tk htk
  (try k_fold)
  have hf := Int.fmod_nonneg_of_pos (n.fdiv 8) (b := 1112064) (by decide)
  have hf2 := Int.fmod_nonneg_of_pos (n.fdiv 8) (b := 32) (by decide)
  have hf3 := Int.fmod_lt_of_pos (n.fdiv 8) (b := 1112064) (by decide)
  have hf4 := Int.fmod_lt_of_pos (n.fdiv 8) (b := 32) (by decide)
  walk_at "go"
  all_goals refine PEnd.mk (by with_reducible assumption) (by walk_at "toks") ?_
  all_goals first
    | exact ⟨13, _, rfl⟩
    | exact ⟨10, _, rfl⟩
    | exact ⟨38, _, rfl⟩
    | exact ⟨60, _, rfl⟩
    | exact ⟨62, _, rfl⟩
    | exact ⟨_, _, rfl⟩
    | trace_state
theorem len_cps1 (x : Str) : x.cps.toList.length = x.length := (str_len x).symm
theorem slice_k {l : List Nat} {i : Nat} (h : i ≤ l.length) : Txt.slice (mkS l) none (some (0 + (i : Int))) = mkS (l.take i) := by
  have e : (0 : Int) + (i : Int) = ((i : Nat) : Int) := by omega
  rw [e]
  exact slice_to (x := mkS l) (by rw [mkS_length]; exact h)
local macro_rules | `(tactic| walk_at "exec For Name Call cons nil") => `(tactic| (refine halt ?_))
local macro_rules | `(tactic| walk_at "call type:range") => `(tactic| (refine halt ?_))
local macro_rules | `(tactic| walk_at "pyIter ref") => `(tactic| (refine halt ?_))
theorem slice_lst {l : List Nat} {i : Nat} (h : i ≤ l.length) (c : Nat) : (Txt.slice (Txt.slice (mkS l) none (some (0 + (i : Int)))) (some (-1)) none != (⟨#[c]⟩ : Str)) = !decide ((l.take i).getLast? = some c) := by
  rw [slice_k h]
  have e := slice_neg (l := l.take i) (k := 1) (by decide)
  have e' : Txt.slice (mkS (l.take i)) (some (-1)) none = mkS ((l.take i).drop ((l.take i).length - 1)) := e
  rw [e', bne]
  congr 1
  have hb : ∀ (a b : List Nat), (mkS a == mkS b) = decide (a = b) := by
    intro a b
    by_cases q : a = b
    · subst q; simp
    · rw [decide_eq_false q]; rw [beq_eq_false_iff_ne]; intro q'; exact q (mkS_inj.mp q')
  have : (⟨#[c]⟩ : Str) = mkS [c] := rfl
  rw [this, hb]
  refine decide_eq_decide.mpr ?_
  generalize l.take i = r
  rcases List.eq_nil_or_concat r with rfl | ⟨p, z, rfl⟩
  · simp
  · simp
local macro_rules | `(tactic| walk_at "addroom") => `(tactic| (simp only [mkS_length, List.length_append, mkS_toList, len_cps1, one_length]; omega))
theorem wr1_no {l : List Nat} {i : Nat} (hi : i < l.length) (h0 : (Txt.item (mkS l) (0 + (i : Int)) != Str.ofString "\n") = true ∨ (Txt.slice (Txt.slice (mkS l) none (some (0 + (i : Int)))) (some (-1)) none != Str.ofString "\u000d") = true) : wr l i = escC l[i] := by
  rw [item0 hi, lit_lf, lit_cr, slice_lst (Nat.le_of_lt hi), last_take (Nat.le_of_lt hi), bne, beq_one] at h0
  unfold wr
  rw [List.getElem?_eq_getElem hi]
  dsimp only
  rw [if_neg]
  rintro ⟨h1, h2, h3⟩
  rw [h1, if_pos h2, h3] at h0
  simp at h0
theorem wr1_yes {l : List Nat} {i : Nat} (hi : i < l.length) (h0 : (Txt.item (mkS l) (0 + (i : Int)) != Str.ofString "\n") = false) (h1 : (Txt.slice (Txt.slice (mkS l) none (some (0 + (i : Int)))) (some (-1)) none != Str.ofString "\u000d") = false) : wr l i = [] := by
  rw [item0 hi, lit_lf, bne, beq_one] at h0
  rw [lit_cr, slice_lst (Nat.le_of_lt hi), last_take (Nat.le_of_lt hi)] at h1
  have a0 : l[i] = 10 := by simpa using h0
  have a1 : 1 ≤ i ∧ l[i - 1]? = some 13 := by
    by_cases h : 1 ≤ i
    · rw [if_pos h] at h1; exact ⟨h, by simpa using h1⟩
    · rw [if_neg h] at h1; simp at h1
  unfold wr
  rw [List.getElem?_eq_getElem hi]
  dsimp only
  rw [if_pos ⟨a0, a1.1, a1.2⟩]
set_option maxHeartbeats 4000000 in
theorem writing01 (w : World) (mean : ExcName → Option Value) (mg mb : Str → Option Value) (x : Str) (t : Tok) (hx : x.length ≤ 5000) : PF PySem.Challenge.rw_dm0240_01.row.prog w (Mine.hd01.heap_39 w.params) Mine.hd01.view_39 (looseW Mine.hd01.view_39 [Str.ofString "_controlCharPat"]) mean mg mb 1 8 57 [.str x t] (fun v => ∃ t', v = .str (escS x) t') := by
  w_on
  k_fill
  refine PF.enter (by k_is) (by k_is) rfl rfl (by decide) rfl rfl rfl ?_ (by decide)
  intro dp un gd fr base g L h₁ s B X T F N hd hu tk htk
  (try k_fold)
  obtain ⟨l, rfl⟩ : ∃ l, x = mkS l := ⟨x.cps.toList, rfl⟩
  have hml : (mkS l).length = l.length := mkS_length l
  walk_at "go"
  rename Fr _ _ _ _ => F1
  rename News _ _ _ _ => N1
  rename Obj.IsDictOf _ _ _ => hdict
  rename Obj => oD
  refine go_on (wpAny_For ?_)
  walk_at "go"
  refine go_on (wpAny_pos (by walk_at "toks") (range1_rows F1 N1 ?_))
  intro h12 tk12 t12 u12 v12 R12 F12 N12 _ htk12
  dsimp only at htk12 ⊢
  refine for_range (n := l.length) (σ := List Nat × Tok) (fun c => [(h₁.objs.size, oD)]) (fun c => [(Str.ofString "written", .str (mkS c.1) c.2)]) [] (fun i c => c.1 = escL (l.take i)) ([], ?tk0) R12 (small_one (by decide) (by decide) (by omega) (by omega)) (by rw [rangeSize_nat, hml]; omega) rfl rfl rfl F12 N12 htk12 ?d1 ?d2 ?turn ?done
  case d1 => kst_all
  case d2 => rfl
  case done =>
    rintro ⟨ws, tw⟩ u h tk hs htk F' N'
    dsimp only at hs F' N'
    (try k_fold)
    walk_at "go"
    refine PEnd.mk F' htk ⟨tw, ?_⟩
    rw [hs, List.take_length]; rfl
  case turn =>
    clear F1 N1 F12 N12
    rintro ⟨ws, tw⟩ i ti u h tk I oI hi hs htk hne F' N'
    dsimp only at hs F' N'
    dsimp only [AllNe] at hne
    change Fr g L _ _ at F'
    change News g L _ _ at N'
    have hwl : ws.length ≤ 25000 := by have := escL_len (l.take i); rw [← hs, List.length_take] at this; omega
    have hstep := esc_step hi
    have fin : ∀ y : List Nat, wr l i = y → (mkS ws).cps.toList ++ y = escL (l.take (i + 1)) := by
      intro y hy
      rw [hstep, hy, ← hs]; rfl
    have hel := escC_len l[i]
    (try k_fold)
    walk_at "go"
    · rename PyProof.V.Flat _ _ => hv
      rw [item0 hi, get4] at hv
      obtain ⟨tv, rfl⟩ := PyProof.V.Flat.str_inv hv
      clear hv
      walk_at "go"
      rename News _ _ _ _ => N9
      rename Fr _ _ _ _ => F9
      refine SEnd.mk (_, _) F9 N9 (by walk_at "se_in") (by walk_at "se_ne") (by walk_at "se_all") (by walk_at "se_same") (fin _ (wr1_no hi (.inl (by with_reducible assumption))))
    · rename PyProof.V.Flat _ _ => hv
      rw [item0 hi, get4] at hv
      obtain ⟨tv, rfl⟩ := PyProof.V.Flat.str_inv hv
      clear hv
      walk_at "go"
      rename News _ _ _ _ => N9
      rename Fr _ _ _ _ => F9
      refine SEnd.mk (_, _) F9 N9 (by walk_at "se_in") (by walk_at "se_ne") (by walk_at "se_all") (by walk_at "se_same") (fin _ (wr1_no hi (.inr (by with_reducible assumption))))
    · rename News _ _ _ _ => N9
      rename Fr _ _ _ _ => F9
      refine SEnd.mk (ws, tw) F9 N9 (by walk_at "se_in") (by walk_at "se_ne") (by walk_at "se_all") (by walk_at "se_same") (by have := fin [] (wr1_yes hi (by with_reducible assumption) (by with_reducible assumption)); rw [List.append_nil] at this; exact this)
end Mine

end
section
open PySem PySem.W PyProof.Rows PySem.Calls
set_option Elab.async false
set_option maxRecDepth 100000
set_option maxHeartbeats 1000000

namespace Mine

local macro_rules | `(tactic| walk_at "go") => `(tactic| repeat' (first | (k_unfold; (try dsimp only)) | walk1 | (dsimp only; first | walk1 | (k_unfold; (try dsimp only)))))
local macro_rules | `(tactic| walk_at "exec For Name Name cons nil") => `(tactic| (refine wpAny_For ?_))
local macro_rules | `(tactic| walk_at "exec For Name Call cons nil") => `(tactic| (refine wpAny_For ?_))
local macro_rules | `(tactic| walk_at "exec For Name Subscript cons nil") => `(tactic| (refine wpAny_For ?_))
local macro_rules | `(tactic| walk_at "exec For Name BinOp cons nil") => `(tactic| (refine wpAny_For ?_))
local macro_rules | `(tactic| walk_at "exec For Name Attribute cons nil") => `(tactic| (refine wpAny_For ?_))
local macro_rules | `(tactic| walk_at "exec While Compare cons nil") => `(tactic| (refine halt ?_))
local macro_rules | `(tactic| walk_at "exec While BoolOp cons nil") => `(tactic| (refine halt ?_))
local macro_rules | `(tactic| walk_at "exec While Name cons nil") => `(tactic| (refine halt ?_))
local macro_rules | `(tactic| walk_at "execs cons Assign cons") => `(tactic| ((with_reducible show wpAny _ _ (execs (Stmt.Assign _ (Expr.List [] _) _ :: Stmt.For _ _ _ _ _ :: _) _) _ _ _); (refine wpAny_execs_cons ?_)))
local macro_rules | `(tactic| walk_at "room") => `(tactic| first | ((simp only [List.size_toArray, Array.size_push, List.length_append, List.length_cons, List.length_nil, sizeLine_eq]); omega) | (rw [sizeLine_eq]; omega))
local macro_rules | `(tactic| walk_at "call builtin:list.append") => `(tactic| (k_here; k_dflt (refine' append_K ?k1 ?k2 ?k3 ?_ ?z; (case k1 => k_asm); (case k2 => k_asm); (case k3 => k_upd); (case z => walk_at "room"); k_whole); intro h' F' N'; (try k_sweep)))
local macro_rules | `(tactic| walk_at "se_in") => `(tactic| first | (with_unfolding_all kst_in) | kst_inAny | (intro p hp; (try simp only [List.push_toArray, List.cons_append, List.nil_append, List.mem_cons, List.not_mem_nil, or_false] at hp ⊢); first | assumption | (rcases hp with hp | hp <;> simp_all; done) | (simp_all; done)))
local macro_rules | `(tactic| walk_at "se_ne") => `(tactic| (intro q hq; first | (cases hq; done) | (rw [List.mem_singleton.mp hq]; dsimp only [AllNe]; omega)))
local macro_rules | `(tactic| walk_at "se_all") => `(tactic| kst_all)
local macro_rules | `(tactic| walk_at "se_same") => `(tactic| (intro z h1 h2 h3; (simp only [List.forall_mem_cons, List.not_mem_nil, false_implies, implies_true, and_true, ne_eq] at h2); (try simp only [List.contains_cons, List.contains_nil, Bool.or_false, Bool.or_eq_false_iff, beq_eq_false_iff_ne, ne_eq] at h3); first | rfl | (simp [locs4, kstB, h1, h2, h3]; done) | (simp_all [locs4, kstB]; done)))
local macro_rules | `(tactic| walk_at "eval Constant str") => `(tactic| (with_reducible refine const_str ?_; intro tt tk hTt hTk; try dsimp only))
local macro_rules | `(tactic| walk_at "eval Constant int") => `(tactic| (with_reducible refine const_int ?_; intro tt tk hTt hTk; try dsimp only))
local macro_rules | `(tactic| walk_at "subscriptTail Name Slice str ref") => `(tactic| ((with_reducible rename Fr _ _ _ _ => F'); (with_reducible rename News _ _ _ _ => N'); refine wpAny_pos (by walk_at "toks") ?_; (first | refine slice_strN_ns (hsz := ?hsz) (s := ⟨_, _, _, _, _⟩) F' N' ?_ | refine slice_strN_sn (hsz := ?hsz) (s := ⟨_, _, _, _, _⟩) F' N' ?_ | refine slice_strN_ss (hsz := ?hsz) (s := ⟨_, _, _, _, _⟩) F' N' ?_); (case hsz => (rw [sizeLine_eq]; first | omega | (simp only [mkS_length]; omega) | (refine Nat.le_trans (Txt.length_slice_le _ _ _) ?_; omega))); clear F' N'; intro h' t' k' F' N' hk'; dsimp only at hk' ⊢))
local macro_rules | `(tactic| walk_at "subscriptTail Subscript Slice str ref") => `(tactic| (refine halt ?_))
local macro_rules | `(tactic| walk_at "slice now") => `(tactic| ((with_reducible rename Fr _ _ _ _ => F'); (with_reducible rename News _ _ _ _ => N'); refine wpAny_pos (by walk_at "toks") ?_; (first | refine slice_strN_ns (hsz := ?hsz) (s := ⟨_, _, _, _, _⟩) F' N' ?_ | refine slice_strN_sn (hsz := ?hsz) (s := ⟨_, _, _, _, _⟩) F' N' ?_ | refine slice_strN_ss (hsz := ?hsz) (s := ⟨_, _, _, _, _⟩) F' N' ?_); (case hsz => (rw [sizeLine_eq]; first | omega | (simp only [mkS_length]; omega) | (refine Nat.le_trans (Txt.length_slice_le _ _ _) ?_; omega))); clear F' N'; intro h' t' k' F' N' hk'; dsimp only at hk' ⊢))
local macro_rules | `(tactic| walk_at "SPost") => `(tactic| (dsimp only [SPost]))
local macro_rules | `(tactic| walk_at "toks") => `(tactic| first | omega | (dsimp only; omega) | ((show @Ne Nat _ _); omega) | ((show @LT.lt Nat _ _ _); omega) | ((show @Ne Nat _ _); dsimp only; omega) | ((show @LT.lt Nat _ _ _); dsimp only; omega) | (simp only [List.length_cons, List.length_nil]; omega))
local macro_rules | `(tactic| walk_at "execs cons") => `(tactic| ((with_reducible first | show wpAny _ _ _ _ _ (Shared.mk _ _ _ (_ + _) _) | show wpAny _ _ _ _ _ (Shared.mk _ _ _ (Shared.toks _) _)); refine gen_toks (by walk_at "toks") ?_; intro tk htk))
local macro_rules | `(tactic| walk_at "execs nil") => `(tactic| ((with_reducible first | show wpAny _ _ _ _ _ (Shared.mk _ _ _ (_ + _) _) | show wpAny _ _ _ _ _ (Shared.mk _ _ _ (Shared.toks _) _)); refine gen_toks (by walk_at "toks") ?_; intro tk htk))


local macro_rules | `(tactic| walk_at "binaryOp Add str str") => `(tactic| (refine addE (by walk_at "addroom") (by walk_at "toks") ?_; intro t' k' hk'; dsimp only))
local macro_rules | `(tactic| walk_at "inplaceOp Add str str") => `(tactic| (refine iaddE (by walk_at "addroom") (by walk_at "toks") ?_; intro t' k' hk'; dsimp only))
local macro_rules | `(tactic| walk_at "binaryOp Mult str int") => `(tactic| (refine mulE (by decide) (by omega) (by omega) (by walk_at "toks") ?_; intro t' k' hk'; dsimp only))
local macro_rules | `(tactic| walk_at "compareOp In str str") => `(tactic| (refine in1E ?_; dsimp only))
local macro_rules | `(tactic| walk_at "compareOp NotIn str str") => `(tactic| (refine notIn1E ?_; dsimp only))

local macro_rules | `(tactic| walk_at "getItem ref int") => `(tactic| (k_here; (with_reducible show wpAny _ _ (getItem (Value.ref _) (Value.int (-1) _)) _ _ _); k_dflt (refine' lastGet ?k1 ?k2 ?_; (case k1 => k_asm); (case k2 => k_mem))))
local macro_rules | `(tactic| walk_at "subscriptTail") => `(tactic| (k_here; (with_reducible show wpAny _ _ (subscriptTail _ _ (Value.ref _) (Value.int (-1) _)) _ _ _); k_dflt (refine' lastSub ?k1 ?k2 ?_ ?k3; (case k1 => k_asm); (case k2 => k_mem); (case k3 => with_unfolding_all rfl))))
local macro_rules | `(tactic| walk_at "setItem ref int") => `(tactic| (k_here; (with_reducible show wpAny _ _ (setItem (Value.ref _) (Value.int (-1) _) _) _ _ _); k_dflt (refine' lastSet ?k1 ?k2 ?k3 ?_; (case k1 => k_asm); (case k2 => k_asm); (case k3 => k_upd)); intro h' F' N'; (try dsimp only [List.nil_append, List.cons_append] at N')))
local macro_rules | `(tactic| walk_at "eval ListComp") => `(tactic| (refine halt ?_))
local macro_rules | `(tactic| walk_at "call ref") => `(tactic| (refine halt ?_))
local macro_rules | `(tactic| walk_at "exec For Name Name cons nil") => `(tactic| (refine halt ?_))
local macro_rules | `(tactic| walk_at "compareOp NotEq ref ref") => `(tactic| (refine halt ?_))
local macro_rules | `(tactic| walk_at "pyIter ref") => `(tactic| (refine halt ?_))
theorem llen_0 : (Str.ofString "").length = 0 := by decide
theorem llen_lf : (Str.ofString "\n").length = 1 := by decide
theorem llen_cr : (Str.ofString "\u000d").length = 1 := by decide
local macro_rules | `(tactic| walk_at "addroom") => `(tactic| (simp only [mkS_length, List.length_append, mkS_toList, len_cps1, one_length, llen_0, llen_lf, llen_cr]; omega))
local macro_rules | `(tactic| walk_at "binaryOp Add str str") => `(tactic| (refine addE (by walk_at "addroom") (by walk_at "toks") ?_; intro t' k' hk'; dsimp only [mkS_toList]))
local macro_rules | `(tactic| walk_at "inplaceOp Add str str") => `(tactic| (refine iaddE (by walk_at "addroom") (by walk_at "toks") ?_; intro t' k' hk'; dsimp only [mkS_toList]))
structure PInv (i : Nat) (c : List Value × List (List Nat) × List Nat × Nat) : Prop where
  hstrs : StrsAre c.1 ((c.2.1 ++ [c.2.2.1]).map mkS)
  hcnt : c.2.1.length ≤ 1 + i
  hlen : ((c.2.1 ++ [c.2.2.1]).map (·.length)).sum ≤ 4 + i
theorem lit_p1 : Str.ofString "<\u000d" = mkS [60, 13] := by decide
theorem lit_p2 : Str.ofString "\n&" = mkS [10, 38] := by decide
theorem PInv.start {n : Nat} {t u : Tok} : PInv 0 ([.str (Str.ofString "<\u000d") t, .str (Str.ofString "\n&") u], [[60, 13]], [10, 38], n) :=
  ⟨by rw [lit_p1, lit_p2]; exact .cons _ _ (.cons _ _ .nil), Nat.le_refl _, Nat.le_refl _⟩
theorem PInv.sign {i : Nat} {pvs : List Value} {pre : List (List Nat)} {r : List Nat} {nr nr' c : Nat} {tr t : Tok} (h : PInv i (pvs ++ [.str (mkS r) tr], pre, r, nr)) (hpv : StrsAre pvs (pre.map mkS)) : PInv (i + 1) (pvs ++ [.str (mkS (r ++ [c])) t], pre, r ++ [c], nr') := by
  refine ⟨?_, by have := h.hcnt; dsimp only at *; omega, ?_⟩
  · show StrsAre _ ((pre ++ [r ++ [c]]).map mkS)
    rw [List.map_append]
    exact hpv.append' (.cons _ _ .nil)
  · have := h.hlen
    dsimp only at *
    rw [List.map_append, List.sum_append] at *
    simp at *; omega
theorem PInv.more {i : Nat} {pvs : List Value} {pre : List (List Nat)} {r : List Nat} {nr nr' : Nat} {t : Tok} (h : PInv i (pvs, pre, r, nr)) (hi : pre.length ≤ i) : PInv i (pvs ++ [.str (Str.ofString "") t], pre ++ [r], [], nr') := by
  have e : Str.ofString "" = mkS [] := by decide
  refine ⟨?_, ?_, ?_⟩
  · show StrsAre _ ((pre ++ [r] ++ [[]]).map mkS)
    rw [List.map_append, e]
    exact StrsAre.append' h.hstrs (.cons _ _ .nil)
  · dsimp only; rw [List.length_append]; show pre.length + 1 ≤ _; omega
  · have := h.hlen
    dsimp only at *
    rw [List.map_append, List.sum_append]
    simp at *; omega
structure St1 where
  came : List Nat
  kept : List Nat
  written : List Nat
  single : List Nat
  parted : List Nat
  t1 : Tok
  t2 : Tok
  t3 : Tok
  t4 : Tok
  t5 : Tok
theorem turn0F {g g' h : Heap} {L : Addr} {m : Str → Option Value} (T : KtsTurn [] g g') (F : Fr g' L h m) : Fr g L h m := ⟨F.ns, fun b o e => F.keep b o (T.other b o e (by simp)), by rw [← T.size]; exact F.above⟩
theorem turn0N {g g' h : Heap} {L : Addr} {news : List (Addr × Obj)} (T : KtsTurn [] g g') (N : News g' L h news) : News g L h news := fun q hq => ⟨(N q hq).1, (N q hq).2.1, by
  cases e : g.get? q.1 with
  | none => rfl
  | some o => have := (N q hq).2.2; rw [T.other _ _ e (by simp)] at this; cases this⟩
theorem got_kit {h₀ h : Heap} {L : Addr} {news : List (Addr × Obj)} {e t : Addr} {X : String} {vs : List Value} (N : News h₀ L h news) (G : Got news e t (.type X) vs) : KitAt e X h := by
  obtain ⟨oe, ot, ws, nt, h1, h2, hc, hd, h0, htc, htd⟩ := G
  exact ⟨oe, N.get h1, hc⟩
def ctlV (v : Value) : Bool := match v with | .str x _ => hasCtl x | _ => false
theorem ctlV_one (c : Nat) (t : Tok) : ctlV (.str ⟨#[c]⟩ t) = ctl c := by show [c].any ctl = _; simp
theorem bad_list : ∀ {p : List Nat} {vs ys : List Value}, vs.length = p.length → (∀ (j : Nat) v, vs[j]? = some v → ∃ c t, p[j]? = some c ∧ v = .str ⟨#[c]⟩ t) → Paired (fun v y => y = v) (vs.filter ctlV) ys → ∃ zs : List Str, StrsAre ys zs ∧ zs.length ≤ p.length ∧ (zs = [] ↔ p.any ctl = false) ∧ ∀ z ∈ zs, PyData.strOk z = true
  | [], [], _, _, _, h => by cases h; exact ⟨[], .nil, Nat.le_refl _, by simp, by simp⟩
  | c :: p, v :: vs, ys, hl, hj, h => by
    obtain ⟨c', t, e1, rfl⟩ := hj 0 v rfl
    have e1 : c = c' := by simpa using e1
    subst e1
    have ih := fun ys h => bad_list (p := p) (vs := vs) (ys := ys) (by simpa using hl) (fun j v e => hj (j + 1) v (by simpa using e)) h
    rw [List.filter_cons, ctlV_one] at h
    cases hc : ctl c with
    | false =>
      rw [hc] at h
      simp only [Bool.false_eq_true, if_false] at h
      obtain ⟨zs, h1, h2, h3, h4⟩ := ih ys h
      exact ⟨zs, h1, by simp; omega, by rw [List.any_cons, hc, Bool.false_or]; exact h3, h4⟩
    | true =>
      rw [hc] at h
      simp only [if_true] at h
      cases h with
      | cons h1 h2 =>
        subst h1
        obtain ⟨zs, a1, a2, a3, a4⟩ := ih _ h2
        refine ⟨_ :: zs, .cons _ _ a1, by simp; omega, by simp [hc], fun z hz => ?_⟩
        rcases List.mem_cons.mp hz with rfl | hz
        · have h32 : c < 32 := by unfold ctl at hc; simp at hc; omega
          show (#[c] : Array Nat).all (· < 0x110000) = true
          simp; omega
        · exact a4 z hz
theorem lt_sp (c : Nat) : decide (([c] : List Nat) < (Str.ofString " ").cps.toList) = decide (c < 32) := by
  have : (Str.ofString " ").cps.toList = [32] := by decide
  rw [this]
  refine decide_eq_decide.mpr ⟨fun h => ?_, fun h => List.Lex.rel h⟩
  cases h with
  | rel h => exact h
  | cons h => cases h
theorem in_ws (c : Nat) : decide (c ∈ (Str.ofString "\u0009\n\u000d").cps.toList) = (c == 9 || c == 10 || c == 13) := by
  have : (Str.ofString "\u0009\n\u000d").cps.toList = [9, 10, 13] := by decide
  rw [this, Bool.eq_iff_iff]
  simp [or_assoc]
theorem sign_at {p : List Nat} {j : Nat} {v : Value} (h : SignAt (mkS p) j v) : ∃ c t, p[j]? = some c ∧ v = .str ⟨#[c]⟩ t := by
  obtain ⟨c, t, e1, e2⟩ := h
  refine ⟨c, t, ?_, e2⟩
  rw [← e1]; simp [mkS]
theorem Inv1.stepI {i : Nat} {came kept written single parted p x late ins : List Nat} (h : Inv1 i came kept written single parted) (hp : noCtl p) (hl : p.length ≤ 67) (e : kept ++ p = x ++ late) (hx : late = [13] ∨ (late = [] ∧ x.getLast? ≠ some 13))
    (hi : ins = if came.getLast? = some 13 ∧ p.head? = some 10 then [10] else []) : Inv1 (i + 1) (came ++ p) late (written ++ escL x) (single ++ escL p) (parted ++ (ins ++ p)) := by
  rw [hi]; exact h.step hp hl e hx
theorem ins1 {came p : List Nat} (h1 : (Txt.slice (mkS came) (some (-1)) none == Str.ofString "\u000d") = true) (h2 : (Txt.slice (mkS p) none (some 1) == Str.ofString "\n") = true) : (Str.ofString "\n").cps.toList = if came.getLast? = some 13 ∧ p.head? = some 10 then [10] else [] := by
  rw [lit_cr, slice_l1] at h1
  rw [lit_lf, slice_f1] at h2
  rw [if_pos ⟨of_decide_eq_true h1, of_decide_eq_true h2⟩]; decide
theorem ins2 {came p : List Nat} (h2 : (Txt.slice (mkS p) none (some 1) == Str.ofString "\n") = false) : (Str.ofString "").cps.toList = if came.getLast? = some 13 ∧ p.head? = some 10 then [10] else [] := by
  rw [lit_lf, slice_f1] at h2
  rw [if_neg fun q => of_decide_eq_false h2 q.2]; decide
theorem ins3 {came p : List Nat} (h1 : (Txt.slice (mkS came) (some (-1)) none == Str.ofString "\u000d") = false) : (Str.ofString "").cps.toList = if came.getLast? = some 13 ∧ p.head? = some 10 then [10] else [] := by
  rw [lit_cr, slice_l1] at h1
  rw [if_neg fun q => of_decide_eq_false h1 q.1]; decide
theorem cut_cr {l : List Nat} (h : (Txt.slice (mkS l) (some (-1)) none == Str.ofString "\u000d") = true) : ∃ x, l = x ++ [13] ∧ (([13] : List Nat) = [13] ∨ (([13] : List Nat) = [] ∧ x.getLast? ≠ some 13)) := by
  rw [lit_cr, slice_l1] at h
  have h := of_decide_eq_true h
  rcases List.eq_nil_or_concat l with rfl | ⟨p, z, rfl⟩
  · simp at h
  · simp at h; subst h; exact ⟨p, by simp, .inl rfl⟩
theorem cut_no {l : List Nat} (h : (Txt.slice (mkS l) (some (-1)) none == Str.ofString "\u000d") = false) : ∃ x, l = x ++ [] ∧ (([] : List Nat) = [13] ∨ (([] : List Nat) = [] ∧ x.getLast? ≠ some 13)) := by
  rw [lit_cr, slice_l1] at h
  have h := of_decide_eq_false h
  exact ⟨l, by simp, .inr ⟨rfl, h⟩⟩
theorem slice_cut {l x late : List Nat} {n : Int} (h : l = x ++ late) (hn : n = (l.length : Int) - (late.length : Int)) : Txt.slice (mkS l) none (some n) = mkS x := by
  have e : n = (x.length : Int) := by rw [hn, h, List.length_append]; omega
  rw [e, slice_to (x := mkS l) (by rw [mkS_length, h, List.length_append]; omega)]
  congr 1
  show l.take x.length = x
  rw [h]; simp
theorem mem_sum {p : List Nat} : ∀ {ls : List (List Nat)}, p ∈ ls → p.length ≤ (ls.map (·.length)).sum
  | a :: ls, h => by
    rw [List.map_cons, List.sum_cons]
    rcases List.mem_cons.mp h with e | e
    · subst e; omega
    · have := mem_sum e; omega
theorem strs_at {vs : List Value} {ys : List Str} (h : StrsAre vs ys) : ∀ {i : Nat} {v : Value}, vs[i]? = some v → ∃ y t, ys[i]? = some y ∧ v = .str y t := by
  induction h with
  | nil => intro i v e; simp at e
  | cons y t r ih =>
    intro i v e
    cases i with
    | zero => simp at e; exact ⟨y, t, rfl, e.symm⟩
    | succ i => exact ih (by simpa using e)
set_option maxHeartbeats 8000000 in
theorem law01 : PySem.Challenge.rw_dm0240_01.Holds := hd01 (by
  w_on
  k_go0
  refine wpAny_noRaise ?_
  rename Top _ _ _ _ _ _ => T
  rename Frag.In _ _ => KX
  rename Heap.IsList _ _ _ => hL
  rename IntsAre _ _ => hI
  rename Below _ _ _ _ => B0
  rename Fr _ _ _ _ => F0
  rename News _ _ _ _ => N0
  have hlen := hI.length
  (try k_fold)
  walk_at "go"
  rename_i lp _ _ _ _ _ _ tkz _ hTkz Dn ws h3 F3 N3 hI3 hC3 hL3 hlt3
  have hw3 := hI3.length
  have hw63 : ws.length ≤ 63 := by omega
  have N4 : News _ _ _ [(lp, W.listOf #[Value.str (Str.ofString "<\u000d") _, Value.str (Str.ofString "\n&") _] 0), (Dn, W.listOf ws.toArray 0)] := kst_newsOf N3 (by
    intro p hp
    rcases List.mem_cons.mp hp with rfl | hp
    · exact .tail _ (.head _)
    · rw [List.mem_singleton.mp hp]; exact .head _)
  clear N3
  refine go_on ?_
  refine for_list (σ := List Value × List (List Nat) × List Nat × Nat) (fun c => [(lp, W.listOf c.1.toArray c.2.2.2), (Dn, W.listOf ws.toArray 0)]) (fun c => []) []
    PInv ([.str (Str.ofString "<\u000d") _, .str (Str.ofString "\n&") _], [[60, 13]], [10, 38], 0) (.inr ⟨0, fun c => .tail _ (.head _)⟩) rfl rfl rfl F3 N4 (by walk_at "toks") ?k1 ?k2 ?turn ?done
  case k1 => intro p hp; cases hp
  case k2 => exact PInv.start
  case turn =>
    --BEGIN A
    clear F3 N4
    rintro ⟨vs, pre, r, nr⟩ i v u h4 tk4 I oI hi hV htk4 hne4 F4 N4
    obtain ⟨num, tnum, rfl⟩ := ints_mem hI3 (List.mem_of_getElem? hi)
    dsimp only at F4 N4
    dsimp only [AllNe] at hne4
    have hi63 : i < 63 := by have := (List.getElem?_eq_some_iff.mp hi).1; simp at this; omega
    obtain ⟨pvs, tr, rfl, hpv⟩ := strs_snoc (y := mkS r) (ys := pre.map mkS) (by have := hV.hstrs; rwa [List.map_append] at this)
    have hpvl : pvs.length = pre.length := by rw [hpv.length, List.length_map]
    have hcnt : pre.length ≤ 1 + i := hV.hcnt
    have hrl : r.length ≤ 67 := by have := hV.hlen; dsimp only at this; rw [List.map_append, List.sum_append] at this; simp at this; omega
    (try k_fold)
    walk_at "go"
    rename Fr _ _ _ _ => F5
    rename News _ _ _ _ => N5
    refine go_on (PF.call (sign01 _ _ _ _ _ _) B0 KX T F5 N5 (by decide) (by decide) (by walk_at "toks") ?_)
    clear F5 N5
    rintro v h5 tk5 ⟨c, t5, rfl⟩ F5 N5 htk5
    dsimp only
    walk_at "go"
    all_goals (rename News _ _ _ _ => N6; rename Fr _ _ _ _ => F6; try simp only [List.push_toArray] at N6)
    · exact SEnd.mk (pvs ++ [.str (mkS (r ++ [c])) _] ++ [.str (Str.ofString "") _], pre ++ [r ++ [c]], [], nr + 1) F6 N6 (by walk_at "se_in") (by walk_at "se_ne") (by walk_at "se_all") (by walk_at "se_same") ((hV.sign (nr' := nr) hpv).more (by omega))
    · exact SEnd.mk (pvs ++ [.str (mkS (r ++ [c])) _], pre, r ++ [c], nr) F6 N6 (by walk_at "se_in") (by walk_at "se_ne") (by walk_at "se_all") (by walk_at "se_same") (hV.sign hpv)
    --END A
  case done =>
    clear F3 N4
    rintro ⟨vs, pre, r, nr⟩ u h4 tk4 hV htk4 F4 N4
    dsimp only at F4 N4
    obtain ⟨ls, hls⟩ : ∃ ls, ls = pre ++ [r] := ⟨_, rfl⟩
    have hS : StrsAre vs (ls.map mkS) := by rw [hls]; exact hV.hstrs
    have hsz : vs.toArray.size ≤ 65 := by
      have h1 := hV.hcnt
      have h2 := hS.length
      rw [hls, List.length_map, List.length_append] at h2
      simp at h1 h2 ⊢; omega
    have hpl : ∀ p ∈ ls, p.length ≤ 67 := by
      intro p hp
      have h1 := hV.hlen
      have h2 := mem_sum hp
      rw [hls] at h2
      simp at h1 h2; omega
    have N5 : News _ _ _ [(lp, W.listOf vs.toArray nr)] := kst_newsOf N4 (fun p hp => by rw [List.mem_singleton.mp hp]; exact .head _)
    clear N4 hV
    (try k_fold)
    walk_at "go"
    rename Fr _ _ _ _ => F5
    rename News _ _ _ _ => N6
    refine go_on (wpAny_For ?_)
    walk_at "go"
    have N7 : News _ _ _ [(lp, W.listOf vs.toArray nr)] := kst_newsOf N6 (fun p hp => by rw [List.mem_singleton.mp hp]; exact .tail _ (.head _))
    clear N6
    refine go_on ?_
    refine for_list (σ := St1) (fun c => [(lp, W.listOf vs.toArray nr)]) (fun c => [(Str.ofString "came", .str (mkS c.came) c.t1), (Str.ofString "kept", .str (mkS c.kept) c.t2), (Str.ofString "written", .str (mkS c.written) c.t3), (Str.ofString "single", .str (mkS c.single) c.t4), (Str.ofString "parted", .str (mkS c.parted) c.t5)])
      [Str.ofString "ready", Str.ofString "late", Str.ofString "words", Str.ofString "piece", Str.ofString "alone", Str.ofString "error", Str.ofString "bad"]
      (fun i c => Inv1 i c.came c.kept c.written c.single c.parted) ⟨[], [], [], [], [], ?q1, ?q2, ?q3, ?q4, ?q5⟩ (.inr ⟨nr, fun c => .head _⟩) rfl rfl rfl F5 N7 (by walk_at "toks") ?l1 ?l2 ?turn2 ?done2
    case l1 => kst_all
    case l2 => exact Inv1.start
    case turn2 =>
      clear F5 N7
      rintro ⟨came, kept, written, single, parted, t1, t2, t3, t4, t5⟩ i v u5 h5 tk5 I oI hi hV htk5 hne5 F5 N5
      dsimp only at F5 N5 hV
      dsimp only [AllNe] at hne5
      obtain ⟨y, ty, hy, rfl⟩ := strs_at hS hi
      obtain ⟨p, hp, rfl⟩ : ∃ p ∈ ls, mkS p = y := by
        rw [List.getElem?_map] at hy
        cases e : ls[i]? with
        | none => rw [e] at hy; cases hy
        | some p => rw [e] at hy; exact ⟨p, List.mem_of_getElem? e, Option.some.inj hy⟩
      have hp67 := hpl p hp
      have hi65 : i < 65 := by have := (List.getElem?_eq_some_iff.mp hi).1; simp at this hsz; omega
      have hkl : kept.length ≤ 1 := by rcases hV.kept with rfl | rfl <;> simp
      have hcl : came.length ≤ 4400 := by have := hV.hc; omega
      have hpal : parted.length ≤ 4500 := by have := hV.hp; omega
      have hwl : written.length ≤ 22000 := by
        obtain ⟨base, e1, e2, _⟩ := hV.hk
        have := escL_len base
        have e3 : base.length ≤ came.length := by rw [e1, List.length_append]; omega
        rw [e2]; omega
      have hsl : single.length ≤ 22500 := by rw [hV.hs]; have := escL_len parted; omega
      clear hi hy
      have hrd : (mkS (kept ++ p)).length = kept.length + p.length := by rw [mkS_length, List.length_append]
      (try k_fold)
      walk_at "go"
      --BEGIN B
      · rename Fr _ _ _ _ => F6
        rename News _ _ _ _ => N6
        have hlst : (Txt.slice (mkS (kept ++ p)) (some (-1)) none == Str.ofString "\u000d") = true := by with_reducible assumption
        obtain ⟨x, hx, hxl⟩ := cut_cr hlst
        rw [slice_cut hx (by rw [mkS_length]; rfl)]
        have hxc := ctl_kept hV.kept hx (by simp)
        have hxn : x.length ≤ 68 := by have := congrArg List.length hx; rw [List.length_append, List.length_append] at this; omega
        cases hb : p.any ctl with
        | true =>
          rw [hb] at hxc
          refine go_on (PX.call (escR01 _ _ _ _ (mkS x) _ (by rw [mkS_length]; omega) hxc) B0 KX T F6 N6 (by decide) (by decide) (by walk_at "toks") ?_)
          clear F6 N6
          rintro e te ws6 G h6 tk6 ⟨t6, rfl⟩ FG RS U htk6
          dsimp only
          refine caught_SB RS FG B0 U KX T ktsDicts_nil KtsTurn.refl (by k_is) PyProof.Rows.Boot.«ValueError» (by decide) PySem.F.isExc_ValueError PySem.F.notTuple_ValueError (by rw [isSubtype_type]; kernel_rfl) ?_
          intro h7 g7 news7 tk7 T7 F7 N7 got7 N7' B7 X7 TT7 D7
          have F8 := turn0F T7 F7
          have N8 := turn0N T7 N7
          have N8' := turn0N T7 N7'
          clear RS FG U F7 N7 N7' B7 X7 TT7 D7
          dsimp only
          walk_at "go"
          refine kto_cont (got_kit N8 got7) (by decide) ?_
          walk_at "go"
          rename Fr _ _ _ _ => F9
          rename News _ _ _ _ => N9
          refine go_on ?_
          refine lcomp_str (xt := mkS p) ctlV (fun v y => y = v) (fun Q' hq => ld F9 rfl hq) rfl (by rw [sizeLine_eq, mkS_length]; omega) (by walk_at "toks") (closureFor_none (by decide)) (by decide) rfl (by decide) rfl ?c2 ?c3 ?c4
          case c2 =>
            intro C c t s₃ m₃ hc hn hm hst2 hC htk2
            refine wpAny_tests_one (isTrue_and (wpAny_isTrue_Compare1 ?_))
            refine comp_name hn hm rfl rfl (by decide) ?_
            refine const_str ?_
            intro tt8 tk8 _ _
            refine lt_str (wpAny_truthy_bool ?_)
            have e8 : (⟨#[c]⟩ : Str).cps.toList = [c] := rfl
            rw [e8, lt_sp]
            by_cases h32 : c < 32
            · rw [decide_eq_true h32, if_pos rfl]
              refine isTrue_and (wpAny_isTrue_Compare1 ?_)
              refine comp_name hn hm rfl rfl (by decide) ?_
              refine const_str ?_
              intro tt9 tk9 _ _
              refine notIn1E (wpAny_truthy_bool ?_)
              rw [in_ws]
              cases h9 : (c == 9 || c == 10 || c == 13) with
              | true =>
                refine ⟨?_, ⟨_, _, rfl, fun _ _ e => e⟩⟩
                rw [ctlV_one]; unfold ctl; simp at h9; rcases h9 with (rfl | rfl) | rfl <;> rfl
              | false =>
                refine isTrue_and_nil ⟨?_, ⟨_, _, rfl, fun _ _ e => e⟩⟩
                rw [ctlV_one]; unfold ctl; simp at h9; simp [h32, h9]
            · rw [decide_eq_false h32, if_neg (by decide)]
              refine ⟨?_, ⟨_, _, rfl, fun _ _ e => e⟩⟩
              rw [ctlV_one]; unfold ctl; simp [h32]
          case c3 =>
            intro C c t s₃ m₃ hc _ hn hm _ _ _
            exact comp_name hn hm rfl rfl (by decide) ⟨rfl, ⟨_, _, rfl, fun _ _ e => e⟩⟩
          case c4 =>
            intro D5 h8 tk8 vs8 ys8 n8 hD8 ho8 hl8 hs8 hP8 hst8 htk8
            obtain ⟨F10, N10, hne8⟩ := news_grow F9 N9 hst8 hD8 ho8
            obtain ⟨zs, hz1, hz2, hz3, hz4⟩ := bad_list (p := p) (by rw [hl8, mkS_length]) (fun j v e => sign_at (hs8 j v e)) hP8
            rw [hb] at hz3
            walk_at "go"
            rename Fr _ _ _ _ => F11
            rename News _ _ _ _ => N11
            refine go_on (ne_strs (ys := []) (News.isList N11 (.tail _ (.head _))) (News.isList N11 (.head _)) hz1 .nil hz4 (by simp) (by units_room) ?_)
            have hbd : (!decide (zs = [])) = true := by rw [decide_eq_false (fun h => by have := hz3.mp h; cases this)]; rfl
            rw [hbd]
            walk_at "go"
            rename Fr _ _ _ _ => F12
            rename News _ _ _ _ => N12
            exact SEnd.mk (⟨came, kept, written, single, parted, t1, t2, t3, t4, t5⟩ : St1) F12 N12 (by walk_at "se_in") (by walk_at "se_ne") (by walk_at "se_all") (by walk_at "se_same") hV.mono
        | false =>
          rw [hb] at hxc
          refine go_on (PF.call (esc01 _ _ _ _ (mkS x) _ (by rw [mkS_length]; omega) hxc) B0 KX T F6 N6 (by decide) (by decide) (by walk_at "toks") ?_)
          clear F6 N6
          rintro v h6 tk6 ⟨t6, rfl⟩ F6 N6 htk6
          dsimp only
          walk_at "go"
          rename Fr _ _ _ _ => F7
          rename News _ _ _ _ => N7
          refine go_on (PF.call (esc01 _ _ _ _ (mkS p) _ (by rw [mkS_length]; omega) hb) B0 KX T F7 N7 (by decide) (by decide) (by walk_at "toks") ?_)
          clear F7 N7
          rintro v h7 tk7 ⟨t7, rfl⟩ F7 N7 htk7
          dsimp only
          walk_at "go"
          rename Fr _ _ _ _ => F9
          rename News _ _ _ _ => N9
          refine go_on ?_
          refine lcomp_str (xt := mkS p) ctlV (fun v y => y = v) (fun Q' hq => ld F9 rfl hq) rfl (by rw [sizeLine_eq, mkS_length]; omega) (by walk_at "toks") (closureFor_none (by decide)) (by decide) rfl (by decide) rfl ?c2 ?c3 ?c4
          case c2 =>
            intro C c t s₃ m₃ hc hn hm hst2 hC htk2
            refine wpAny_tests_one (isTrue_and (wpAny_isTrue_Compare1 ?_))
            refine comp_name hn hm rfl rfl (by decide) ?_
            refine const_str ?_
            intro tt8 tk8 _ _
            refine lt_str (wpAny_truthy_bool ?_)
            have e8 : (⟨#[c]⟩ : Str).cps.toList = [c] := rfl
            rw [e8, lt_sp]
            by_cases h32 : c < 32
            · rw [decide_eq_true h32, if_pos rfl]
              refine isTrue_and (wpAny_isTrue_Compare1 ?_)
              refine comp_name hn hm rfl rfl (by decide) ?_
              refine const_str ?_
              intro tt9 tk9 _ _
              refine notIn1E (wpAny_truthy_bool ?_)
              rw [in_ws]
              cases h9 : (c == 9 || c == 10 || c == 13) with
              | true =>
                refine ⟨?_, ⟨_, _, rfl, fun _ _ e => e⟩⟩
                rw [ctlV_one]; unfold ctl; simp at h9; rcases h9 with (rfl | rfl) | rfl <;> rfl
              | false =>
                refine isTrue_and_nil ⟨?_, ⟨_, _, rfl, fun _ _ e => e⟩⟩
                rw [ctlV_one]; unfold ctl; simp at h9; simp [h32, h9]
            · rw [decide_eq_false h32, if_neg (by decide)]
              refine ⟨?_, ⟨_, _, rfl, fun _ _ e => e⟩⟩
              rw [ctlV_one]; unfold ctl; simp [h32]
          case c3 =>
            intro C c t s₃ m₃ hc _ hn hm _ _ _
            exact comp_name hn hm rfl rfl (by decide) ⟨rfl, ⟨_, _, rfl, fun _ _ e => e⟩⟩
          case c4 =>
            intro D5 h8 tk8 vs8 ys8 n8 hD8 ho8 hl8 hs8 hP8 hst8 htk8
            obtain ⟨F10, N10, hne8⟩ := news_grow F9 N9 hst8 hD8 ho8
            obtain ⟨zs, hz1, hz2, hz3, hz4⟩ := bad_list (p := p) (by rw [hl8, mkS_length]) (fun j v e => sign_at (hs8 j v e)) hP8
            rw [hb] at hz3
            have hpc : noCtl p := by intro c hc; have := List.any_eq_false.mp hb c hc; simpa using this
            have hmc : (mkS came).length = came.length := mkS_length came
            have hmp : (mkS p).length = p.length := mkS_length p
            have hex : (escS (mkS x)).length ≤ 340 := by have := escS_len (mkS x); rw [mkS_length] at this; omega
            have hep : (escS (mkS p)).length ≤ 340 := by have := escS_len (mkS p); rw [mkS_length] at this; omega
            walk_at "go"
            rename Fr _ _ _ _ => F11
            rename News _ _ _ _ => N11
            refine go_on (ne_strs (ys := []) (News.isList N11 (.tail _ (.head _))) (News.isList N11 (.head _)) hz1 .nil hz4 (by simp) (by units_room) ?_)
            have hbd : (!decide (zs = [])) = false := by rw [decide_eq_true (hz3.mpr rfl)]; rfl
            rw [hbd]
            walk_at "go"
            all_goals (rename Fr _ _ _ _ => F12; rename News _ _ _ _ => N12)
            · exact SEnd.mk (⟨came ++ p, [13], written ++ escL x, single ++ escL p, parted ++ ((Str.ofString "\n").cps.toList ++ p), _, _, _, _, _⟩ : St1) F12 N12 (by walk_at "se_in") (by walk_at "se_ne") (by walk_at "se_all") (by walk_at "se_same") (hV.stepI hpc hp67 hx hxl (ins1 (by with_reducible assumption) (by with_reducible assumption)))
            · exact SEnd.mk (⟨came ++ p, [13], written ++ escL x, single ++ escL p, parted ++ ((Str.ofString "").cps.toList ++ p), _, _, _, _, _⟩ : St1) F12 N12 (by walk_at "se_in") (by walk_at "se_ne") (by walk_at "se_all") (by walk_at "se_same") (hV.stepI hpc hp67 hx hxl (ins2 (by with_reducible assumption)))
            · exact SEnd.mk (⟨came ++ p, [13], written ++ escL x, single ++ escL p, parted ++ ((Str.ofString "").cps.toList ++ p), _, _, _, _, _⟩ : St1) F12 N12 (by walk_at "se_in") (by walk_at "se_ne") (by walk_at "se_all") (by walk_at "se_same") (hV.stepI hpc hp67 hx hxl (ins3 (by with_reducible assumption)))
      · rename Fr _ _ _ _ => F6
        rename News _ _ _ _ => N6
        have hlst : (Txt.slice (mkS (kept ++ p)) (some (-1)) none == Str.ofString "\u000d") = false := by with_reducible assumption
        obtain ⟨x, hx, hxl⟩ := cut_no hlst
        rw [slice_cut hx (by rw [mkS_length]; rfl)]
        have hxc := ctl_kept hV.kept hx (by simp)
        have hxn : x.length ≤ 68 := by have := congrArg List.length hx; rw [List.length_append, List.length_append] at this; omega
        cases hb : p.any ctl with
        | true =>
          rw [hb] at hxc
          refine go_on (PX.call (escR01 _ _ _ _ (mkS x) _ (by rw [mkS_length]; omega) hxc) B0 KX T F6 N6 (by decide) (by decide) (by walk_at "toks") ?_)
          clear F6 N6
          rintro e te ws6 G h6 tk6 ⟨t6, rfl⟩ FG RS U htk6
          dsimp only
          refine caught_SB RS FG B0 U KX T ktsDicts_nil KtsTurn.refl (by k_is) PyProof.Rows.Boot.«ValueError» (by decide) PySem.F.isExc_ValueError PySem.F.notTuple_ValueError (by rw [isSubtype_type]; kernel_rfl) ?_
          intro h7 g7 news7 tk7 T7 F7 N7 got7 N7' B7 X7 TT7 D7
          have F8 := turn0F T7 F7
          have N8 := turn0N T7 N7
          have N8' := turn0N T7 N7'
          clear RS FG U F7 N7 N7' B7 X7 TT7 D7
          dsimp only
          walk_at "go"
          refine kto_cont (got_kit N8 got7) (by decide) ?_
          walk_at "go"
          rename Fr _ _ _ _ => F9
          rename News _ _ _ _ => N9
          refine go_on ?_
          refine lcomp_str (xt := mkS p) ctlV (fun v y => y = v) (fun Q' hq => ld F9 rfl hq) rfl (by rw [sizeLine_eq, mkS_length]; omega) (by walk_at "toks") (closureFor_none (by decide)) (by decide) rfl (by decide) rfl ?c2 ?c3 ?c4
          case c2 =>
            intro C c t s₃ m₃ hc hn hm hst2 hC htk2
            refine wpAny_tests_one (isTrue_and (wpAny_isTrue_Compare1 ?_))
            refine comp_name hn hm rfl rfl (by decide) ?_
            refine const_str ?_
            intro tt8 tk8 _ _
            refine lt_str (wpAny_truthy_bool ?_)
            have e8 : (⟨#[c]⟩ : Str).cps.toList = [c] := rfl
            rw [e8, lt_sp]
            by_cases h32 : c < 32
            · rw [decide_eq_true h32, if_pos rfl]
              refine isTrue_and (wpAny_isTrue_Compare1 ?_)
              refine comp_name hn hm rfl rfl (by decide) ?_
              refine const_str ?_
              intro tt9 tk9 _ _
              refine notIn1E (wpAny_truthy_bool ?_)
              rw [in_ws]
              cases h9 : (c == 9 || c == 10 || c == 13) with
              | true =>
                refine ⟨?_, ⟨_, _, rfl, fun _ _ e => e⟩⟩
                rw [ctlV_one]; unfold ctl; simp at h9; rcases h9 with (rfl | rfl) | rfl <;> rfl
              | false =>
                refine isTrue_and_nil ⟨?_, ⟨_, _, rfl, fun _ _ e => e⟩⟩
                rw [ctlV_one]; unfold ctl; simp at h9; simp [h32, h9]
            · rw [decide_eq_false h32, if_neg (by decide)]
              refine ⟨?_, ⟨_, _, rfl, fun _ _ e => e⟩⟩
              rw [ctlV_one]; unfold ctl; simp [h32]
          case c3 =>
            intro C c t s₃ m₃ hc _ hn hm _ _ _
            exact comp_name hn hm rfl rfl (by decide) ⟨rfl, ⟨_, _, rfl, fun _ _ e => e⟩⟩
          case c4 =>
            intro D5 h8 tk8 vs8 ys8 n8 hD8 ho8 hl8 hs8 hP8 hst8 htk8
            obtain ⟨F10, N10, hne8⟩ := news_grow F9 N9 hst8 hD8 ho8
            obtain ⟨zs, hz1, hz2, hz3, hz4⟩ := bad_list (p := p) (by rw [hl8, mkS_length]) (fun j v e => sign_at (hs8 j v e)) hP8
            rw [hb] at hz3
            walk_at "go"
            rename Fr _ _ _ _ => F11
            rename News _ _ _ _ => N11
            refine go_on (ne_strs (ys := []) (News.isList N11 (.tail _ (.head _))) (News.isList N11 (.head _)) hz1 .nil hz4 (by simp) (by units_room) ?_)
            have hbd : (!decide (zs = [])) = true := by rw [decide_eq_false (fun h => by have := hz3.mp h; cases this)]; rfl
            rw [hbd]
            walk_at "go"
            rename Fr _ _ _ _ => F12
            rename News _ _ _ _ => N12
            exact SEnd.mk (⟨came, kept, written, single, parted, t1, t2, t3, t4, t5⟩ : St1) F12 N12 (by walk_at "se_in") (by walk_at "se_ne") (by walk_at "se_all") (by walk_at "se_same") hV.mono
        | false =>
          rw [hb] at hxc
          refine go_on (PF.call (esc01 _ _ _ _ (mkS x) _ (by rw [mkS_length]; omega) hxc) B0 KX T F6 N6 (by decide) (by decide) (by walk_at "toks") ?_)
          clear F6 N6
          rintro v h6 tk6 ⟨t6, rfl⟩ F6 N6 htk6
          dsimp only
          walk_at "go"
          rename Fr _ _ _ _ => F7
          rename News _ _ _ _ => N7
          refine go_on (PF.call (esc01 _ _ _ _ (mkS p) _ (by rw [mkS_length]; omega) hb) B0 KX T F7 N7 (by decide) (by decide) (by walk_at "toks") ?_)
          clear F7 N7
          rintro v h7 tk7 ⟨t7, rfl⟩ F7 N7 htk7
          dsimp only
          walk_at "go"
          rename Fr _ _ _ _ => F9
          rename News _ _ _ _ => N9
          refine go_on ?_
          refine lcomp_str (xt := mkS p) ctlV (fun v y => y = v) (fun Q' hq => ld F9 rfl hq) rfl (by rw [sizeLine_eq, mkS_length]; omega) (by walk_at "toks") (closureFor_none (by decide)) (by decide) rfl (by decide) rfl ?c2 ?c3 ?c4
          case c2 =>
            intro C c t s₃ m₃ hc hn hm hst2 hC htk2
            refine wpAny_tests_one (isTrue_and (wpAny_isTrue_Compare1 ?_))
            refine comp_name hn hm rfl rfl (by decide) ?_
            refine const_str ?_
            intro tt8 tk8 _ _
            refine lt_str (wpAny_truthy_bool ?_)
            have e8 : (⟨#[c]⟩ : Str).cps.toList = [c] := rfl
            rw [e8, lt_sp]
            by_cases h32 : c < 32
            · rw [decide_eq_true h32, if_pos rfl]
              refine isTrue_and (wpAny_isTrue_Compare1 ?_)
              refine comp_name hn hm rfl rfl (by decide) ?_
              refine const_str ?_
              intro tt9 tk9 _ _
              refine notIn1E (wpAny_truthy_bool ?_)
              rw [in_ws]
              cases h9 : (c == 9 || c == 10 || c == 13) with
              | true =>
                refine ⟨?_, ⟨_, _, rfl, fun _ _ e => e⟩⟩
                rw [ctlV_one]; unfold ctl; simp at h9; rcases h9 with (rfl | rfl) | rfl <;> rfl
              | false =>
                refine isTrue_and_nil ⟨?_, ⟨_, _, rfl, fun _ _ e => e⟩⟩
                rw [ctlV_one]; unfold ctl; simp at h9; simp [h32, h9]
            · rw [decide_eq_false h32, if_neg (by decide)]
              refine ⟨?_, ⟨_, _, rfl, fun _ _ e => e⟩⟩
              rw [ctlV_one]; unfold ctl; simp [h32]
          case c3 =>
            intro C c t s₃ m₃ hc _ hn hm _ _ _
            exact comp_name hn hm rfl rfl (by decide) ⟨rfl, ⟨_, _, rfl, fun _ _ e => e⟩⟩
          case c4 =>
            intro D5 h8 tk8 vs8 ys8 n8 hD8 ho8 hl8 hs8 hP8 hst8 htk8
            obtain ⟨F10, N10, hne8⟩ := news_grow F9 N9 hst8 hD8 ho8
            obtain ⟨zs, hz1, hz2, hz3, hz4⟩ := bad_list (p := p) (by rw [hl8, mkS_length]) (fun j v e => sign_at (hs8 j v e)) hP8
            rw [hb] at hz3
            have hpc : noCtl p := by intro c hc; have := List.any_eq_false.mp hb c hc; simpa using this
            have hmc : (mkS came).length = came.length := mkS_length came
            have hmp : (mkS p).length = p.length := mkS_length p
            have hex : (escS (mkS x)).length ≤ 340 := by have := escS_len (mkS x); rw [mkS_length] at this; omega
            have hep : (escS (mkS p)).length ≤ 340 := by have := escS_len (mkS p); rw [mkS_length] at this; omega
            walk_at "go"
            rename Fr _ _ _ _ => F11
            rename News _ _ _ _ => N11
            refine go_on (ne_strs (ys := []) (News.isList N11 (.tail _ (.head _))) (News.isList N11 (.head _)) hz1 .nil hz4 (by simp) (by units_room) ?_)
            have hbd : (!decide (zs = [])) = false := by rw [decide_eq_true (hz3.mpr rfl)]; rfl
            rw [hbd]
            walk_at "go"
            all_goals (rename Fr _ _ _ _ => F12; rename News _ _ _ _ => N12)
            · exact SEnd.mk (⟨came ++ p, [], written ++ escL x, single ++ escL p, parted ++ ((Str.ofString "\n").cps.toList ++ p), _, _, _, _, _⟩ : St1) F12 N12 (by walk_at "se_in") (by walk_at "se_ne") (by walk_at "se_all") (by walk_at "se_same") (hV.stepI hpc hp67 hx hxl (ins1 (by with_reducible assumption) (by with_reducible assumption)))
            · exact SEnd.mk (⟨came ++ p, [], written ++ escL x, single ++ escL p, parted ++ ((Str.ofString "").cps.toList ++ p), _, _, _, _, _⟩ : St1) F12 N12 (by walk_at "se_in") (by walk_at "se_ne") (by walk_at "se_all") (by walk_at "se_same") (hV.stepI hpc hp67 hx hxl (ins2 (by with_reducible assumption)))
            · exact SEnd.mk (⟨came ++ p, [], written ++ escL x, single ++ escL p, parted ++ ((Str.ofString "").cps.toList ++ p), _, _, _, _, _⟩ : St1) F12 N12 (by walk_at "se_in") (by walk_at "se_ne") (by walk_at "se_all") (by walk_at "se_same") (hV.stepI hpc hp67 hx hxl (ins3 (by with_reducible assumption)))
      --END B
    case done2 =>
      clear F5 N7
      rintro ⟨came, kept, written, single, parted, t1, t2, t3, t4, t5⟩ u5 h5 tk5 hV htk5 F5 N5
      dsimp only at F5 N5 hV
      have hkl : kept.length ≤ 1 := by rcases hV.kept with rfl | rfl <;> simp
      have hcl : came.length ≤ 4400 := by have := hV.hc; omega
      have hpal : parted.length ≤ 4500 := by have := hV.hp; omega
      have hwl : written.length ≤ 22000 := by
        obtain ⟨base, e1, e2, _⟩ := hV.hk
        have := escL_len base
        have e3 : base.length ≤ came.length := by rw [e1, List.length_append]; omega
        rw [e2]; omega
      have hkn : noCtl kept := by rcases hV.kept with rfl | rfl <;> simp [noCtl, ctl]
      (try k_fold)
      walk_at "go"
      refine go_on (PF.call (esc01 _ _ _ _ (mkS kept) _ (by rw [mkS_length]; omega) (hasCtl_of hkn)) B0 KX T F5 N5 (by decide) (by decide) (by walk_at "toks") ?_)
      clear F5 N5
      rintro v h6 tk6 ⟨t6, rfl⟩ F6 N6 htk6
      dsimp only
      have hek : (escS (mkS kept)).length ≤ 5 := by have := escS_len (mkS kept); rw [mkS_length] at this; omega
      walk_at "go"
      refine go_on (PF.call (esc01 _ _ _ _ (mkS came) _ (by rw [mkS_length]; omega) (hasCtl_of hV.hn)) B0 KX T F6 N6 (by decide) (by decide) (by walk_at "toks") ?_)
      clear F6 N6
      rintro v h7 tk7 ⟨t7, rfl⟩ F7 N7 htk7
      dsimp only
      have hq1 : (mkS (written ++ (escS (mkS kept)).cps.toList) == escS (mkS came)) = true := by
        show (mkS (written ++ escL kept) == mkS (escL came)) = true
        rw [hV.fin]; simp
      walk_at "go"
      refine go_on (PF.call (writing01 _ _ _ _ (mkS came) _ (by rw [mkS_length]; omega)) B0 KX T F7 N7 (by decide) (by decide) (by walk_at "toks") ?_)
      clear F7 N7
      rintro v h8 tk8 ⟨t8, rfl⟩ F8 N8 htk8
      dsimp only
      have hq2 : (escS (mkS came) == escS (mkS came)) = true := by simp
      walk_at "go"
      refine go_on (PF.call (writing01 _ _ _ _ (mkS parted) _ (by rw [mkS_length]; omega)) B0 KX T F8 N8 (by decide) (by decide) (by walk_at "toks") ?_)
      clear F8 N8
      rintro v h9 tk9 ⟨t9, rfl⟩ F9 N9 htk9
      dsimp only
      have hq3 : (mkS single == escS (mkS parted)) = true := by rw [hV.hs]; show (mkS (escL parted) == mkS (escL parted)) = true; simp
      walk_at "go"
      rw [hq3]
      wrow_close)
end Mine

end

theorem PySem.Challenge.cw_dm0240_01_holds : PySem.Challenge.rw_dm0240_01.Holds :=
  Mine.law01
