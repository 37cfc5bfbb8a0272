import PyProof.Rows.All
import Wide.All
import OpenK.AllK
import Wide.FinOn
import PySem.Challenge.RW_dr0124_01
set_option Elab.async false
set_option maxRecDepth 100000
set_option maxHeartbeats 8000000
namespace Mine
open PySem PySem.W PyProof.Rows
open_top hd for PySem.Challenge.rw_dr0124_01
theorem offhd : True := by (w_top off; exact trivial)
end Mine
section
open PySem PySem.W PyProof.Rows
namespace Mine
open PySem.Sre

def codeN : Array Nat := #[14, 10, 4, 1, 1, 22, 0, 31, 16, 127, 0, 13, 7, 22, 0, 31, 16, 127, 0, 1]
def codeV : Array Nat := #[14, 14, 4, 1, 1, 9, 4294966783, 0, 0, 2147483648, 0, 0, 0, 0, 0, 13, 11, 9, 4294966783, 0, 0, 2147483648, 0, 0, 0, 0, 0, 1]
/-- the signs that a name must not have -/
def hitN (c : Nat) : Bool := c ≤ 31 || c == 127
def hitV (c : Nat) : Bool := (c ≤ 31 && c != 9) || c == 127
def codeOf (b : Bool) : Array Nat := if b then codeN else codeV
def hitOf (b : Bool) (c : Nat) : Bool := if b then hitN c else hitV c

theorem setN (c : Nat) (seen : Sre.Seen) (i : Nat) (hi : i = 5 ∨ i = 13) : ∃ seen', inSet codeN c 20 i true seen = .ok (hitN c, seen') := by
  rcases hi with rfl | rfl
  · by_cases h1 : c ≤ 31
    · exact ⟨_, by simp [inSet, codeN, ops, hitN, h1]; rfl⟩
    · by_cases h2 : c = 127
      · subst h2; exact ⟨_, by simp [inSet, codeN, ops, hitN]; rfl⟩
      · exact ⟨_, by simp [inSet, codeN, ops, hitN, h1, h2]; rfl⟩
  · by_cases h1 : c ≤ 31
    · exact ⟨_, by simp [inSet, codeN, ops, hitN, h1]; rfl⟩
    · by_cases h2 : c = 127
      · subst h2; exact ⟨_, by simp [inSet, codeN, ops, hitN]; rfl⟩
      · exact ⟨_, by simp [inSet, codeN, ops, hitN, h1, h2]; rfl⟩

theorem bitsV : ∀ i, i = 5 ∨ i = 17 → ∀ c, c < 256 → (codeV.getD (i + (1 + c / 32)) 0).testBit (c % 32) = hitV c := by
  intro i hi
  rcases hi with rfl | rfl <;> decide +kernel
theorem stepV5 (c : Nat) (seen : Sre.Seen) : inSet codeV c 28 5 true seen = (if (decide (c < 256) && (codeV.getD (5 + (1 + c / 32)) 0).testBit (c % 32)) = true then .ok (true, seen.add 9) else .ok (false, (seen.add 9).add 0)) := rfl
theorem stepV17 (c : Nat) (seen : Sre.Seen) : inSet codeV c 28 17 true seen = (if (decide (c < 256) && (codeV.getD (17 + (1 + c / 32)) 0).testBit (c % 32)) = true then .ok (true, seen.add 9) else .ok (false, (seen.add 9).add 0)) := rfl
theorem bigV {c : Nat} (h : ¬ c < 256) : hitV c = false := by
  simp only [hitV, Bool.or_eq_false_iff, Bool.and_eq_false_iff]; refine ⟨.inl ?_, ?_⟩ <;> simp <;> omega
theorem setV (c : Nat) (seen : Sre.Seen) (i : Nat) (hi : i = 5 ∨ i = 17) : ∃ seen', inSet codeV c 28 i true seen = .ok (hitV c, seen') := by
  have hb : (decide (c < 256) && (codeV.getD (i + (1 + c / 32)) 0).testBit (c % 32)) = hitV c := by
    by_cases h1 : c < 256
    · rw [bitsV i hi c h1, decide_eq_true h1, Bool.true_and]
    · rw [decide_eq_false h1, Bool.false_and, bigV h1]
  rcases hi with rfl | rfl
  · rw [stepV5, hb]; cases hitV c
    · exact ⟨_, rfl⟩
    · exact ⟨_, rfl⟩
  · rw [stepV17, hb]; cases hitV c
    · exact ⟨_, rfl⟩
    · exact ⟨_, rfl⟩

theorem setB (b : Bool) (c : Nat) (seen : Sre.Seen) : ∃ seen', inSet (codeOf b) c (codeOf b).size 5 true seen = .ok (hitOf b c, seen') := by
  cases b
  · exact setV c seen 5 (.inl rfl)
  · exact setN c seen 5 (.inl rfl)

theorem admit (b : Bool) (m : M) (hm : m.code = codeOf b) : ∀ (fuel s : Nat) (seen : Sre.Seen), m.lim < fuel + s →
    (∃ s' seen', M.admitted m fuel s seen = .ok (some s', seen') ∧ s ≤ s' ∧ s' < m.lim ∧ hitOf b (m.text.getD s' 0) = true) ∨
    (∃ seen', M.admitted m fuel s seen = .ok (none, seen') ∧ ∀ i, s ≤ i → i < m.lim → hitOf b (m.text.getD i 0) = false)
  | 0, s, seen, h => .inr ⟨seen, rfl, fun i h1 h2 => by omega⟩
  | fuel + 1, s, seen, h => by
    unfold M.admitted
    by_cases hs : s ≥ m.lim
    · rw [if_pos hs]; exact .inr ⟨seen, rfl, fun i h1 h2 => by omega⟩
    · rw [if_neg hs]
      obtain ⟨seen1, e⟩ := setB b (m.text.getD s 0) seen
      rw [hm, e]
      cases hh : hitOf b (m.text.getD s 0) with
      | true => exact .inl ⟨s, seen1, rfl, Nat.le_refl _, by omega, hh⟩
      | false =>
        rcases admit b m hm fuel (s + 1) seen1 (by omega) with ⟨s', seen', e1, e2, e3, e4⟩ | ⟨seen', e1, e2⟩
        · exact .inl ⟨s', seen', e1, by omega, e3, e4⟩
        · refine .inr ⟨seen', e1, fun i h1 h2 => ?_⟩
          by_cases hi : i = s
          · rw [hi]; exact hh
          · exact e2 i (by omega) h2

theorem acceptB (b : Bool) (c : Nat) (seen : Sre.Seen) : ∃ seen', accepts (codeOf b) (header (codeOf b)).2 c seen = .ok (hitOf b c, seen') := by
  cases b
  · exact setV c seen 17 (.inr rfl)
  · exact setN c seen 13 (.inr rfl)

/-- the end of the machine's run: what it says, and what is kept of it -/
def Ended (b : Bool) (text : Array Nat) (m : M) : Prop :=
  ((∃ i, i < text.size ∧ hitOf b (text.getD i 0) = true) ∧ (∃ o, m.outcome = some o ∧ o = .matched)) ∨
  ((∀ i, i < text.size → hitOf b (text.getD i 0) = false) ∧ (∃ o, m.outcome = some o ∧ o = .failed))

theorem runs (b : Bool) (text : Array Nat) : Ended b text (M.runFor 4 (forSearch (codeOf b) text 0 0 text.size false)) := by
  by_cases h0 : text.size < 1
  · have e : forSearch (codeOf b) text 0 0 text.size false = (forSearch (codeOf b) #[] 0 0 0 false) := by
      have : text = #[] := Array.eq_empty_of_size_eq_zero (by omega)
      subst this; rfl
    rw [e]
    refine .inr ⟨fun i hi => by omega, ?_⟩
    cases b <;> exact ⟨_, rfl, rfl⟩
  · let m0 : M := { code := codeOf b, text, lim := text.size, start := 0, lastStart := text.size, pc := (header (codeOf b)).2, pos := 0, handed := 0, marks := #[], mustAdvance := false, seen := ({} : Sre.Seen).add 14 }
    have e : forSearch (codeOf b) text 0 0 text.size false = m0.attemptFrom 0 true := by
      have h1 : (decide (0 > text.size) || decide (text.size - 0 < 1)) = false := by rw [decide_eq_false (by omega), decide_eq_false (by omega)]; rfl
      cases b
      · show (if (decide (0 > text.size) || decide (text.size - 0 < 1)) = true then _ else _) = _
        rw [h1]; rfl
      · show (if (decide (0 > text.size) || decide (text.size - 0 < 1)) = true then _ else _) = _
        rw [h1]; rfl
    have e2 : m0.attemptFrom 0 true = (match M.admitted m0 (text.size + 1 - 0) 0 m0.seen with
      | .ok (some s, seen) => { m0 with mustAdvance := false, seen }.attemptAt s true
      | .ok (none, seen) => { m0 with seen }.say false
      | .error why => m0.stick why) := by cases b <;> rfl
    rw [e, e2]
    rcases admit b m0 rfl (text.size + 1 - 0) 0 m0.seen (by show text.size < text.size + 1 - 0 + 0; omega) with ⟨s', seen', e1, _, e3, e4⟩ | ⟨seen', e1, e3⟩
    · rw [e1]
      have e3' : s' < text.size := e3
      have e4' : hitOf b (text.getD s' 0) = true := e4
      refine .inl ⟨⟨s', e3', e4'⟩, ?_⟩
      have hge : ¬ (s' ≥ text.size) := by omega
      let m1 : M := { code := codeOf b, text, lim := text.size, start := s', lastStart := text.size, pc := (header (codeOf b)).2, pos := s', handed := s', marks := #[], mustAdvance := false, seen := seen', outermost := true, weight := 1,
                      frames := [{ wait := .nextStart, pc := (header (codeOf b)).2, pos := s', outermost := true }] }
      show ∃ o, (M.runFor 4 m1).outcome = some o ∧ o = .matched
      obtain ⟨seen2, e5⟩ := acceptB b (text.getD s' 0) (seen'.add 13)
      rw [e4'] at e5
      have s1 : M.step m1 = { m1 with seen := seen2, pc := (header (codeOf b)).2 + itemWidth (codeOf b) (header (codeOf b)).2, pos := s' + 1 } := by
        cases b
        · show (if s' ≥ text.size then _ else match accepts (codeOf false) (header (codeOf false)).2 (text.getD s' 0) (seen'.add 13) with | .error why => _ | .ok (false, seen) => _ | .ok (true, seen) => _) = _
          rw [if_neg hge, e5]
        · show (if s' ≥ text.size then _ else match accepts (codeOf true) (header (codeOf true)).2 (text.getD s' 0) (seen'.add 13) with | .error why => _ | .ok (false, seen) => _ | .ok (true, seen) => _) = _
          rw [if_neg hge, e5]
      have s2 : M.runFor 4 m1 = M.runFor 3 (M.step m1) := rfl
      rw [s2, s1]
      cases b <;> exact ⟨_, rfl, rfl⟩
    · rw [e1]
      refine .inr ⟨fun i hi => e3 i (Nat.zero_le _) hi, ?_⟩
      exact ⟨_, rfl, rfl⟩
end Mine
end
section
open PySem PySem.W PyProof.Rows
namespace Mine
open PySem.Builtin PySem.Builtin.Re

theorem re_attrs : PlainAttrs "re.Pattern" :=
  ⟨⟨"object.__getattribute__", by rw [typeLookup_type, builtinLookup_eq_fast]; kernel_rfl, by decide +kernel⟩, by rw [typeLookup_type, builtinLookup_eq_fast]; kernel_rfl⟩
theorem slot_search : Slot "re.Pattern" "search" "re.Pattern.search" :=
  .of (owner := "re.Pattern") (n := "search") (by rw [typeLookup_type, builtinLookup_eq_fast]; kernel_rfl) (by decide +kernel) (by decide +kernel) (by decide +kernel)
    (by first | exact .inl (by decide +kernel) | exact .inr (by decide +kernel)) (by rw [isSubtype_type]; kernel_rfl)
theorem type_search : typeOf (.builtin "re.Pattern.search") = pure (.type "method_descriptor") := by show builtinType _ = _; rw [builtinType_eq_fast]; kernel_rfl
theorem entry_search : entryFor table "re.Pattern.search" = some Builtin.«re.Pattern.search» := entryFor_of_tree (by kernel_rfl)
theorem args_search (a b : Value) : argsOk "re.Pattern.search" ⟨[a, b], []⟩ := by unfold argsOk; kernel_rfl
theorem match_bool : typeLookup (.type "re.Match") "__bool__" = pure none := by rw [typeLookup_type, builtinLookup_eq_fast]; kernel_rfl
theorem match_len : typeLookup (.type "re.Match") "__len__" = pure none := by rw [typeLookup_type, builtinLookup_eq_fast]; kernel_rfl

section
variable {prog : Program} {w : World} {A : Around} {E : Value → Shared → Prop} {s : Shared}

theorem drive_end {m : Sre.M} {Q : Sre.M → Shared → Prop} (n : Nat) (h : (m.runFor 4).outcome.isSome = true) (hq : Q (m.runFor 4) s) : wpAny (model prog w) A (reDrive (n + 1) m) Q E s := by
  unfold reDrive
  show wpAny _ _ (if (m.runFor 4).outcome.isSome = true then _ else _) _ _ _
  rw [if_pos h]; exact wpAny_pure hq

theorem rules_off {f : Nat → Sem (ForInStep PUnit)} (hf : ∀ i (A : Around) (Q : ForInStep PUnit → Shared → Prop) (s : Shared), Q (.yield .unit) s → wpAny (model prog w) A (f i) Q E s) :
    ∀ (l : List Nat) {Q : PUnit → Shared → Prop}, Q .unit s → wpAny (model prog w) A (forIn l PUnit.unit fun i _ => f i) Q E s
  | [], Q, h => by rw [List.forIn_nil]; exact wpAny_pure h
  | i :: l, Q, h => by
    rw [List.forIn_cons]
    exact wpAny_bind (hf i _ _ _ (rules_off hf l h))

theorem search_end {t : ReTarget} {b : Bool} {m : Sre.M} {Q : Fin → Shared → Prop} (hg : t.groups = 0) (he : Ended b t.text (m.runFor 4))
    (hno : (∀ i, i < t.text.size → hitOf b (t.text.getD i 0) = false) → Q (.done (.ret .none)) s)
    (hyes : (∃ i, i < t.text.size ∧ hitOf b (t.text.getD i 0) = true) → ∀ o vs, Q (.done (.ret (.ref (s.heap.objs.size + 1)))) { s with heap := (s.heap.push o).push { cls := .type "re.Match", data := .fields vs } }) :
    wpAny (model prog w) A (reAnswer t m) Q E s := by
  unfold reAnswer reRunToEnd
  have ho : (m.runFor 4).outcome.isSome = true := by
    rcases he with ⟨_, o, e, _⟩ | ⟨_, o, e, _⟩ <;> rw [e] <;> rfl
  refine wpAny_bind (wpAny_bind ?_)
  rw [show (2 ^ 64 : Nat) = 18446744073709551615 + 1 from rfl]
  refine drive_end _ ho (wpAny_bind (rules_off (fun i A Q s h => ?_) _ ?_))
  · split
    · exact wpAny_bind (wpAny_rule (wpAny_pure h))
    · exact wpAny_pure h
  · rcases he with ⟨hy, o, e, rfl⟩ | ⟨hn, o, e, rfl⟩
    · rw [e]
      refine wpAny_pure ?_
      show wpAny _ _ (do ret (← reNewMatch t.pattern t.string t.groups t.pos t.lim (m.runFor 4))) _ _ _
      unfold reNewMatch
      rw [hg]
      refine wpAny_bind ?_
      show wpAny _ _ (do
        let v ← newTuple _
        newFields "re.Match" [_, _, _, _, _, v]) _ _ _
      unfold newTuple newFields
      refine wpAny_bind (wpAny_newObj_type (wpAny_newObj_type ?_ ?_) ?_)
      · rw [Heap.size_push]; exact wpAny_pure (hyes hy _ _)
      · show 6 ≤ sizeLine + 2; decide
      · show 2 ≤ sizeLine; decide
    · rw [e]; exact wpAny_pure (wpAny_pure (hno hn))

theorem search_run {p c : Addr} {op oc : Obj} {n : Nat} {v0 v1 : Value} {x : Str} {tk : Tok} {b : Bool} {Q : Fin → Shared → Prop} (hp : s.heap.get? p = some op) (hd : op.data = .fields #[v0, v1, .int 0 0, .none, .none, .ref c, .int 0 0])
    (hc : s.heap.get? c = some oc) (hcd : oc.data = .seq ((codeOf b).map fun (n : Nat) => Value.int (n : Int) 0) n) (hx : x.cps.size < 2 ^ 63)
    (hno : (∀ i, i < x.cps.size → hitOf b (x.cps.getD i 0) = false) → Q (.done (.ret .none)) s)
    (hyes : (∃ i, i < x.cps.size ∧ hitOf b (x.cps.getD i 0) = true) → ∀ o vs, Q (.done (.ret (.ref (s.heap.objs.size + 1)))) { s with heap := (s.heap.push o).push { cls := .type "re.Match", data := .fields vs } }) :
    wpAny (model prog w) A (Builtin.«re.Pattern.search» ⟨[.ref p, .str x tk], []⟩) Q E s := by
  unfold Builtin.«re.Pattern.search» reTarget
  refine wpAny_bind ?_
  show wpAny _ _ (do
    let fs ← fieldsOf (.ref p)
    _) _ _ _
  unfold fieldsOf
  refine wpAny_bind (wpAny_bind (wpAny_load hp ?_))
  rw [hd]
  refine wpAny_pure ?_
  show wpAny _ _ (do
    let c ← reRawItems (.ref c)
    pure ({ pattern := Value.ref p, string := Value.str x tk, code := c.map (·.toNat), text := x.cps, kind := 0, groups := 0, pos := 0, lim := min ((2 ^ 63 - 1 : Int)).toNat x.cps.size } : ReTarget)) _ _ _
  unfold reRawItems seqItems?
  refine wpAny_bind (wpAny_bind (wpAny_bind (wpAny_load hc ?_)))
  rw [hcd]
  refine wpAny_pure (wpAny_pure (wpAny_pure ?_))
  have hl : min ((2 ^ 63 - 1 : Int)).toNat x.cps.size = x.cps.size := by
    have : ((2 ^ 63 - 1 : Int)).toNat = 9223372036854775807 := rfl
    rw [this]; omega
  rw [hl]
  have hco : (((some ((codeOf b).map fun (n : Nat) => Value.int (n : Int) 0)).getD #[]).map reRawOf).map (·.toNat) = codeOf b := by simp [Array.map_map, Function.comp_def, reRawOf]
  rw [hco]
  exact search_end (b := b) rfl (runs b x.cps) hno hyes

theorem search_call {p c : Addr} {op oc : Obj} {n : Nat} {v0 v1 : Value} {x : Str} {tk : Tok} {b : Bool} {Q : Value → Shared → Prop} (hp : s.heap.get? p = some op) (hpc : op.cls = .type "re.Pattern")
    (hd : op.data = .fields #[v0, v1, .int 0 0, .none, .none, .ref c, .int 0 0])
    (hc : s.heap.get? c = some oc) (hcd : oc.data = .seq ((codeOf b).map fun (n : Nat) => Value.int (n : Int) 0) n) (hx : x.cps.size < 2 ^ 63)
    (hno : (∀ i, i < x.cps.size → hitOf b (x.cps.getD i 0) = false) → Q .none s)
    (hyes : (∃ i, i < x.cps.size ∧ hitOf b (x.cps.getD i 0) = true) → ∀ o vs, Q (.ref (s.heap.objs.size + 1)) { s with heap := (s.heap.push o).push { cls := .type "re.Match", data := .fields vs } }) :
    wpAny (model prog w) A (call (.builtin "re.Pattern.search") [.ref p, .str x tk]) Q E s :=
  wpAny_call_entry slot_search ⟨op, hp, hpc⟩ entry_search (search_run hp hd hc hcd hx (fun h => ⟨_, rfl, hno h⟩) fun h o vs => ⟨_, rfl, hyes h o vs⟩) (args_search _ _)

theorem search_method {p : Addr} {op : Obj} {pl : Sem Bool} {Q : Value × List Value → Shared → Prop} (hp : s.heap.get? p = some op) (hpc : op.cls = .type "re.Pattern") (hpd : op.dict = none)
    (h : Q (.builtin "re.Pattern.search", [.ref p]) s) : wpAny (model prog w) A (getMethod (.ref p) "search" pl) Q E s :=
  getMethod_builtin ⟨op, hp, hpc⟩ re_attrs slot_search type_search (fun a e => by cases e; exact ⟨op, hp, hpd⟩) h

theorem match_truthy {a : Addr} {o : Obj} {Q : Bool → Shared → Prop} (ho : s.heap.get? a = some o) (hc : o.cls = .type "re.Match") (h : Q true s) : wpAny (model prog w) A (truthy (.ref a)) Q E s := by
  have hT : s.TypeIs (.ref a) "re.Match" := ⟨o, ho, hc⟩
  unfold truthy
  show wpAny _ _ (do
    match ← callSpecial? (.ref a) "__bool__" with
    | some (.bool b) => return b
    | some r => rule "truth.bool-not-bool"; raiseError "TypeError" s!"__bool__ should return bool, returned {← typeNameOf r}"
    | none => pure ()
    if (← specialOf (.ref a) "__len__").isNone then return true
    match ← runValue (.builtin "len" ⟨[.ref a], []⟩) with
    | .int n _ => return n != 0
    | _ => unsupported "internal:truth.len") _ _ _
  refine wpAny_bind (wpAny_callSpecial?_none (name := Str.ofString "__bool__") hT match_bool ?_)
  refine wpAny_bind (wpAny_specialOf (name := Str.ofString "__len__") hT match_len ?_)
  exact wpAny_pure h
end
end Mine
end
section
open PySem PySem.W PyProof.Rows
namespace Mine
noncomputable abbrev LS : List Str := looseW hd.view_39
    [Str.ofString "tspecials", Str.ofString "_name_disallowed_re", Str.ofString "_value_disallowed_re",
      Str.ofString "_formatparam"]
noncomputable abbrev PG : Program := PySem.Challenge.rw_dr0124_01.row.prog
/-- a text has a sign that is refused: of a name (true), of a value (false) -/
def bad (b : Bool) (x : Str) : Bool := x.cps.toList.any (hitOf b)
theorem bad_yes {b : Bool} {x : Str} (h : ∃ i, i < x.cps.size ∧ hitOf b (x.cps.getD i 0) = true) : bad b x = true := by
  obtain ⟨i, h1, h2⟩ := h
  refine List.any_eq_true.mpr ⟨x.cps.getD i 0, ?_, h2⟩
  rw [Array.getD_eq_getD_getElem?, Array.getElem?_eq_getElem h1]; simp
theorem bad_no {b : Bool} {x : Str} (h : ∀ i, i < x.cps.size → hitOf b (x.cps.getD i 0) = false) : bad b x = false := by
  refine List.any_eq_false.mpr fun c hc => ?_
  obtain ⟨i, h1, rfl⟩ := List.mem_iff_getElem.mp hc
  have h1' : i < x.cps.size := by simpa using h1
  have := h i h1'
  rw [Array.getD_eq_getD_getElem?, Array.getElem?_eq_getElem h1'] at this
  simpa using this
def patAt (b : Bool) : Addr := if b then 48 else 53
def wordsAt (b : Bool) : Addr := if b then 47 else 52
theorem pat_in (b : Bool) {w : World} {h : Heap} (X : (hd.heap_39 w.params).In h) : ∃ op v0 v1, h.get? (patAt b) = some op ∧ op.cls = .type "re.Pattern" ∧ op.dict = none ∧ op.data = .fields #[v0, v1, .int 0 0, .none, .none, .ref (wordsAt b), .int 0 0] := by
  cases b
  · exact ⟨_, _, _, X 53 _ rfl, rfl, rfl, rfl⟩
  · exact ⟨_, _, _, X 48 _ rfl, rfl, rfl, rfl⟩
theorem words_in (b : Bool) {w : World} {h : Heap} (X : (hd.heap_39 w.params).In h) : ∃ oc n, h.get? (wordsAt b) = some oc ∧ oc.data = .seq ((codeOf b).map fun (n : Nat) => Value.int (n : Int) 0) n := by
  cases b
  · exact ⟨_, _, X 52 _ rfl, by simp [codeOf, codeV]; rfl⟩
  · exact ⟨_, _, X 47 _ rfl, by simp [codeOf, codeN]; rfl⟩
theorem search_K {w : World} {A : Around} {E : Value → Shared → Prop} {s : Shared} {h₀ : Heap} {L : Addr} {m : Str → Option Value} {news : List (Addr × Obj)} {x : Str} {tk : Tok} (b : Bool) {Q : Value → Shared → Prop}
    (F : Fr h₀ L s.heap m) (N : News h₀ L s.heap news) (X : (hd.heap_39 w.params).In h₀) (hx : x.cps.size < 2 ^ 63)
    (hno : bad b x = false → Q .none s)
    (hyes : bad b x = true → ∀ a vs h', Fr h₀ L h' m → News h₀ L h' ((a, { cls := .type "re.Match", data := .fields vs }) :: news) → Q (.ref a) { s with heap := h' }) :
    wpAny (model PG w) A (call (.builtin "re.Pattern.search") [.ref (patAt b), .str x tk]) Q E s := by
  have X' := X.keeps F.keep
  obtain ⟨op, v0, v1, h1, h2, h3, h4⟩ := pat_in b X'
  obtain ⟨oc, n, h5, h6⟩ := words_in b X'
  refine search_call h1 h2 h4 h5 h6 hx (fun h => hno (bad_no h)) fun h o vs => ?_
  refine hyes (bad_yes h) _ vs _ ((F.push o).push _) ?_
  have up : ∀ b o', s.heap.get? b = some o' → (s.heap.push o).get? b = some o' := fun b o' e => Heap.get?_push_of_some _ e
  have := News.push (F.push o) (N.grown up) { cls := .type "re.Match", data := .fields vs }
  rwa [Heap.size_push] at this
theorem method_K {w : World} {A : Around} {E : Value → Shared → Prop} {s : Shared} {h₀ : Heap} {L : Addr} {m : Str → Option Value} {pl : Sem Bool} (b : Bool) {Q : Value × List Value → Shared → Prop}
    (F : Fr h₀ L s.heap m) (X : (hd.heap_39 w.params).In h₀) (h : Q (.builtin "re.Pattern.search", [.ref (patAt b)]) s) : wpAny (model PG w) A (getMethod (.ref (patAt b)) "search" pl) Q E s := by
  obtain ⟨op, v0, v1, h1, h2, h3, h4⟩ := pat_in b (X.keeps F.keep)
  exact search_method h1 h2 h3 h
end Mine
end
section
open PySem PySem.W PyProof.Rows
namespace Mine
theorem raised_sub {base : Heap} {l : List Env} {e t : Addr} {cls : Value} {vs : List Value} {news news' : List (Addr × Obj)} {h : Heap} (R : RaisedK base l e cls t vs news' h) (hs : ∀ p ∈ news, p ∈ news') : RaisedK base l e cls t vs news h := by
  obtain ⟨⟨B, a, b, c⟩, d⟩ := R
  exact ⟨⟨B, a, fun q hq => b q (hs q hq), c⟩, d⟩
theorem raised_tail {base : Heap} {l : List Env} {e t : Addr} {cls : Value} {vs : List Value} {p : Addr × Obj} {news : List (Addr × Obj)} {h : Heap} (R : RaisedK base l e cls t vs (p :: news) h) : RaisedK base l e cls t vs news h :=
  raised_sub R fun _ hp => .tail _ hp
theorem conv : ∀ (w : World) (mean : ExcName → Option Value) (mg mb : Str → Option Value) (dp un : Nat) (gd : Option (List Code)) (A₀ : Around) (base h₀ : Heap) (outer : List Env) (env : Env) (L : Addr) (m : Str → Option Value) (news : List (Addr × Obj)) (s : Shared)
    (self : Value) (x : Str) (t : Tok) (b : Bool) (R : Result → Shared → Prop),
    Below A₀ base outer h₀ → Fr h₀ L s.heap m → (hd.heap_39 w.params).In h₀ → News h₀ L s.heap news → Top hd.view_39 LS mean mg mb h₀ →
    env.frame = some L → env.scope.kind = .function → dp + 4 < recursionLimit → un + 100 < cLine → x.length ≤ 1000000 →
    (bad b x = false → ∀ h' tk', Fr h₀ L h' m → News h₀ L h' news → R (.ok (.ret (.str x t))) { s with heap := h', toks := tk' }) →
    (bad b x = true → ∀ h' tk' g e t vs, RaisedK base (env :: outer) e (.type "ValueError") t vs news h' → Fr h₀ L g m → g.UpToSlots h' → R (.error (.ref e)) { s with heap := h', toks := tk' }) →
    codeAny (model PySem.Challenge.rw_dr0124_01.row.prog w) { handled := none, depth := dp, frames := some (env :: outer), guards := gd, units := un } (.call (.ref 83) ⟨[self, .str x t], [(Str.ofString "name", .bool b)]⟩) R s := by
  k_fill
  intro w mean mg mb dp un gd A₀ base h₀ outer env L m news s self x t b R B F X N T hf hke hdep hun hx₀ ret err
  have hx : x.cps.size < 2 ^ 63 := Nat.lt_of_le_of_lt hx₀ (by decide)
  refine' code_def B F X N T rfl hf hke ?k6 ?k7 ?k8 ?k9 ?kB ?_ ?c2 ?c3 ?c4 ?c5
  case k6 => k_is
  case k7 => k_is
  case k8 => (show dp < recursionLimit); omega
  case k9 => exact BindsTo.of_eq rfl
  case c5 => decide
  case kB => exact locs rfl
  case c2 => exact rfl
  case c3 => exact rfl
  case c4 => exact rfl
  intro g' L' h' FG' F' N' B' X' T'
  (try dsimp only); (try k_lift B'); (try k_fold)
  w_strict k_steps
  · rename b = true => hb
    subst hb
    (rename Fr _ _ _ _ => F1)
    refine method_K true F1 X' ?_
    w_strict k_steps
    (rename News _ _ _ _ => N1)
    refine search_K true F1 N1 X' hx (fun hb => ?_) (fun hb a vs h1 F2 N2 => ?_)
    · w_strict k_steps
      exact ret hb _ _ (by assumption) (by assumption)
    · clear F1 N1
      refine match_truthy (News.get N2 (.head _)) rfl ?_
      w_strict k_steps
      exact err hb _ _ _ _ _ _ (raised_tail (by assumption)) FG' (by assumption)
  · rename b = false => hb
    subst hb
    (rename Fr _ _ _ _ => F1)
    refine method_K false F1 X' ?_
    w_strict k_steps
    (rename News _ _ _ _ => N1)
    refine search_K false F1 N1 X' hx (fun hb => ?_) (fun hb a vs h1 F2 N2 => ?_)
    · w_strict k_steps
      exact ret hb _ _ (by assumption) (by assumption)
    · clear F1 N1
      refine match_truthy (News.get N2 (.head _)) rfl ?_
      w_strict k_steps
      exact err hb _ _ _ _ _ _ (raised_tail (by assumption)) FG' (by assumption)
theorem conv_wp {w : World} {mean : ExcName → Option Value} {mg mb : Str → Option Value} {dp un : Nat} {gd : Option (List Code)} {A₀ : Around} {base h₀ : Heap} {outer : List Env} {env : Env} {L : Addr} {m : Str → Option Value} {news : List (Addr × Obj)} {s : Shared}
    {self : Value} {x : Str} {t : Tok} {b : Bool} {Q : Value → Shared → Prop} {E : Value → Shared → Prop}
    (B : Below A₀ base outer h₀) (F : Fr h₀ L s.heap m) (X : (hd.heap_39 w.params).In h₀) (N : News h₀ L s.heap news) (T : Top hd.view_39 LS mean mg mb h₀)
    (hf : env.frame = some L) (hke : env.scope.kind = .function) (hdep : dp + 4 < recursionLimit) (hun : un + 100 < cLine) (hx : x.length ≤ 1000000)
    (ret : bad b x = false → ∀ h' tk', Fr h₀ L h' m → News h₀ L h' news → Q (.str x t) { s with heap := h', toks := tk' })
    (err : bad b x = true → ∀ h' tk' g e t vs, RaisedK base (env :: outer) e (.type "ValueError") t vs news h' → Fr h₀ L g m → g.UpToSlots h' → E (.ref e) { s with heap := h', toks := tk' }) :
    wpAny (model PySem.Challenge.rw_dr0124_01.row.prog w) { handled := none, depth := dp, frames := some (env :: outer), guards := gd, units := un } (call (.ref 83) [self, .str x t] [(Str.ofString "name", .bool b)]) Q E s :=
  wpAny_call (conv w mean mg mb dp un gd A₀ base h₀ outer env L m news s self x t b _ B F X N T hf hke hdep hun hx ret err)
end Mine
end
section
open PySem PySem.W PyProof.Rows
namespace Mine
theorem offLt : True := by (w_top off; exact trivial)
/-- a fence: the walk has no rule for it -/
def Hold (P : Prop) : Prop := P
theorem Hold.back {P : Prop} (h : Hold P) : P := h
theorem Hold.intro {P : Prop} (h : P) : Hold P := h
theorem fr_know {h₀ h : Heap} {L : Addr} {m : Str → Option Value} {x : Str} {v : Value} (F : Fr h₀ L h m) (e : m x = some v) : Fr h₀ L h (fun y => if y = x then some v else m y) := by
  have : m = (fun y => if y = x then some v else m y) := by
    funext y; by_cases hy : y = x
    · rw [if_pos hy, hy, e]
    · rw [if_neg hy]
  rw [← this]; exact F

def signs : List Nat := [97, 66, 45, 98, 32, 57, 58, 120, 13, 10, 9, 127, 0, 1, 31, 128]
noncomputable def digs (n : Nat) : List Nat := if h : n = 0 then [] else signs.getD (n % 16) 0 :: digs (n / 16)
termination_by n
decreasing_by omega
theorem digs_zero : digs 0 = [] := by rw [digs]; simp
theorem digs_pos {n : Nat} (h : 0 < n) : digs n = signs.getD (n % 16) 0 :: digs (n / 16) := by rw [digs, dif_neg (by omega)]
noncomputable def textOf (n : Int) : Str := ⟨(digs (n.fmod 65536).toNat).toArray⟩

theorem digs_len : ∀ (f n : Nat), n < 16 ^ f → (digs n).length ≤ f
  | 0, n, h => by rw [show n = 0 by simpa using h, digs_zero]; exact Nat.le_refl _
  | f + 1, n, h => by
    by_cases hn : n = 0
    · rw [hn, digs_zero]; exact Nat.zero_le _
    · rw [digs_pos (by omega), List.length_cons]
      have := digs_len f (n / 16) (by rw [Nat.pow_succ] at h; omega)
      omega
theorem sign_all : ∀ i : Nat, i < 16 → Txt.item (Str.ofString "aB-b 9:x\x0d\n\t\x7f\x00\x01\x1f\u0080") (i : Int) = ⟨#[signs.getD i 0]⟩ := by decide +kernel
theorem sign_item {z : Int} (k : Nat) (hz : z = (k : Int)) : Txt.item (Str.ofString "aB-b 9:x\x0d\n\t\x7f\x00\x01\x1f\u0080") (z.fmod 16) = ⟨#[signs.getD (k % 16) 0]⟩ := by
  have : z.fmod 16 = ((k % 16 : Nat) : Int) := by rw [hz, Int.fmod_eq_emod_of_nonneg _ (by decide)]; omega
  rw [this]; exact sign_all _ (Nat.mod_lt _ (by omega))
section
local macro_rules | `(tactic| walk_at "exec While Compare cons nil") => `(tactic| (refine Hold.back ?_))
theorem lawText : ∀ (w : World) (mean : ExcName → Option Value) (mg mb : Str → Option Value) (dp un : Nat) (gd : Option (List Code)) (A₀ : Around) (base h₀ : Heap) (outer : List Env) (env : Env) (L : Addr) (m : Str → Option Value) (news : List (Addr × Obj)) (s : Shared)
    (n : Int) (t : Tok) (R : Result → Shared → Prop),
    Below A₀ base outer h₀ → Fr h₀ L s.heap m → (hd.heap_39 w.params).In h₀ → News h₀ L s.heap news → Top hd.view_39 LS mean mg mb h₀ →
    env.frame = some L → env.scope.kind = .function → dp + 4 < recursionLimit → un + 100 < cLine →
    (∀ h' tk' t, Fr h₀ L h' m → News h₀ L h' news → R (.ok (.ret (.str (textOf n) t))) { s with heap := h', toks := tk' }) →
    codeAny (model PySem.Challenge.rw_dr0124_01.row.prog w) { handled := none, depth := dp, frames := some (env :: outer), guards := gd, units := un } (.call (.ref 195) ⟨[.int n t], []⟩) R s := by
  k_fill
  intro w mean mg mb dp un gd A₀ base h₀ outer env L m news s n t R B F X N T hf hke hdep hun ret
  refine' code_def B F X N T rfl hf hke ?k6 ?k7 ?k8 ?k9 ?kB ?_ ?c2 ?c3 ?c4 ?c5
  case k6 => k_is
  case k7 => k_is
  case k8 => (show dp < recursionLimit); omega
  case k9 => exact BindsTo.of_eq rfl
  case c5 => decide
  case kB => exact locs rfl
  case c2 => exact rfl
  case c3 => exact rfl
  case c4 => exact rfl
  intro g' L' h' FG' F' N' B' X' T'
  (try dsimp only); (try k_lift B'); (try k_fold)
  w_strict k_steps
  refine Hold.intro ?_
  (rename Fr _ _ _ _ => F1)
  (rename News _ _ _ _ => N1)
  have hn0 : 0 ≤ n.fmod 65536 := Int.fmod_nonneg_of_pos _ (by decide)
  have hn1 : n.fmod 65536 < 65536 := Int.fmod_lt_of_pos _ (by decide)
  refine While_inv (fun k m₁ news₁ => news₁ = news ∧ ∃ (z : Int) (t1 t2 : Tok) (out : Str), z = (k : Int) ∧ m₁ "n" = some (.int z t1) ∧ m₁ "out" = some (.str out t2) ∧ k < 65536 ∧ out.cps.toList ++ digs k = digs (n.fmod 65536).toNat) (n₀ := (n.fmod 65536).toNat) F1 N1 ?_ ?_
  · exact ⟨rfl, _, _, _, _, (Int.toNat_of_nonneg hn0).symm, rfl, rfl, by omega, rfl⟩
  · clear F1 N1
    rintro k m₁ news₁ h₁ tk₁ F1 N1 ⟨rfl, z, t1, t2, out, hz, e1, e2, hk, eq⟩
    replace F1 := fr_know (x := Str.ofString "out") (fr_know F1 e1) ((if_neg (by decide)).trans e2)
    have hl : out.length ≤ 4 := by
      have h1 := congrArg List.length eq
      rw [List.length_append] at h1
      have h2 := digs_len 4 (n.fmod 65536).toNat (by omega)
      have h3 : out.length = out.cps.toList.length := rfl
      omega
    w_strict k_steps
    · rename (0 : Int) < z => hz0
      have hkk : 0 < k := by omega
      refine WhileStep.intro (n' := k / 16) (by assumption) (by assumption) (by omega) ⟨rfl, _, _, _, _, ?_, rfl, rfl, by omega, ?_⟩
      · rw [hz, Int.fdiv_eq_ediv_of_nonneg _ (by decide)]; omega
      · rw [digs_pos hkk] at eq
        rw [sign_item k hz]
        rw [← eq]
        show (out.cps ++ #[signs.getD (k % 16) 0]).toList ++ _ = _
        simp
    · have hk0 : k = 0 := by omega
      subst hk0
      rw [digs_zero, List.append_nil] at eq
      have he : out = textOf n := by
        obtain ⟨⟨l⟩⟩ := out
        show (⟨⟨l⟩⟩ : Str) = ⟨(digs (n.fmod 65536).toNat).toArray⟩
        rw [← eq]
      rw [he]
      exact ret _ _ _ (by assumption) (by assumption)
end
end Mine
end
section
open PySem PySem.W PyProof.Rows PySem.Calls PySem.Spec
namespace Mine
open PyProof.Rows.LCg PyProof.Rows.LCt
section
variable {prog : Program} {w : World} {A : Around} {E : Value → Shared → Prop} {s : Shared} {h₀ : Heap} {L : Addr} {m : Str → Option Value} {env : Env}

/-- the source of a comprehension is a text -/
def SrcS (prog : Program) (w : World) (A : Around) (h₀ : Heap) (L : Addr) (m : Str → Option Value) (env : Env) (ct elt : Expr) (x : Str) (scope : Scope) (cl : List (Str × Addr)) (Q : Value → Shared → Prop) (xv : Value) (s₁ : Shared) : Prop :=
  ∃ y t news, xv = .str y t ∧ Fr h₀ L s₁.heap m ∧ News h₀ L s₁.heap news ∧ y.cps.size ≤ sizeLine ∧
      ∀ g, CompRestT prog w A h₀ L m env ct elt x scope cl { s₁ with heap := g } (fun _ => True) (SignAt y) (FinE h₀ L m { s₁ with heap := g } Q) y.cps.size 0 [] news
/-- a comprehension with one test over the signs of a text -/
theorem ListComp_S {ct elt iter : Expr} {x : Str} {px : Pos} {scope : Scope} {cl : List (Str × Addr)} {pos : Pos} {Q : Value → Shared → Prop} (_F₀ : Fr h₀ L s.heap m) (hh : A.handled = none)
    (hclos : closureFor scope env = pure cl) (hcell : ∀ y ∈ scope.names, y.2 ≠ .cell) (hkind : scope.kind = .function)
    (hnames : ∀ y ∈ scope.names, y.2 = .local → scope.names.lookup y.1 = some .local) (hx : scope.names.lookup x = some .local)
    (h : wpAny (model prog w) A (eval iter env) (SrcS prog w A h₀ L m env ct elt x scope cl Q) E s)
    (hs : ∀ x, foldedSetIterable iter env x = pure x := by intro _; rfl) :
    wpAny (model prog w) A (eval (.ListComp elt [⟨.Name x px, iter, [ct], 0⟩] scope pos) env) Q E s := by
  rw [eval_ListComp]
  refine wpAny_comprehension_free (use := none) rfl hs hclos hkind hnames (wpAny_mono h (fun xv s₁ h₁ => ?_) fun _ _ e => e)
  obtain ⟨y, t, news, rfl, F, N, hsz, R⟩ := h₁
  have up : ∀ (o : Obj) b o', s₁.heap.get? b = some o' → (s₁.heap.push o).get? b = some o' := fun o b o' e => Heap.get?_push_of_some _ e
  have stay : ∀ (T : String) i (h h' : Heap) (o : Obj) (nw : List (Addr × Obj)), h.IsStrIter s₁.heap.objs.size T y t i → h.get? s₁.heap.objs.size = some o → h'.get? s₁.heap.objs.size = some o → (∀ b o, h₀.get? b = some o → h'.get? b = some o) → News h₀ L h' nw → True → h'.IsStrIter s₁.heap.objs.size T y t i :=
    fun T i h h' o nw st e e' _ _ _ => by obtain ⟨o', q, r⟩ := st; rw [e] at q; cases q; exact ⟨o, e', r⟩
  cases ha : y.cps.all (· < 128)
  · refine wpAny_pyIter_wide ha ?_
    refine block_T (Walks.strWide hh s₁.heap.objs.size y t) hsz (fun i h st => by obtain ⟨o, e, _⟩ := st; exact ⟨o, e⟩) (stay "str_iterator") hcell hkind hx ⟨_, Heap.get?_push_size _ rfl, rfl, rfl⟩ (fun b hb => ?_)
      (F.keeps (up _)) (N.grown (up _)) (Nat.ne_of_lt F.ns.lt) (next_is_new F) (fun p hp => Nat.ne_of_lt (Heap.lt_size (N p hp).1)) trivial (R _) ?_
    · rw [List.mem_singleton.mp hb]
      show s₁.heap.objs.size < (s₁.heap.push _).objs.size
      rw [Heap.size_push]; exact Nat.lt_succ_self _
    · intro D C h tk m' ys news' F' N' o1 hn hC₀ hD₀ hCL hDL hCD offC fin
      refine ⟨m', hn, fun h'' hs'' => fin D h'' tk (F'.change hs'' hCL hC₀) (fun p hp => ?_) o1⟩
      refine ⟨hs''.extBut _ _ ?_ (N' p hp).1, (N' p hp).2⟩
      rcases List.mem_cons.mp hp with rfl | hp
      · exact Ne.symm hCD
      · exact offC p hp
  · refine wpAny_pyIter_ascii ha ?_
    refine block_T (Walks.strAscii hh s₁.heap.objs.size y t) hsz (fun i h st => by obtain ⟨o, e, _⟩ := st; exact ⟨o, e⟩) (stay "str_ascii_iterator") hcell hkind hx ⟨_, Heap.get?_push_size _ rfl, rfl, rfl⟩ (fun b hb => ?_)
      (F.keeps (up _)) (N.grown (up _)) (Nat.ne_of_lt F.ns.lt) (next_is_new F) (fun p hp => Nat.ne_of_lt (Heap.lt_size (N p hp).1)) trivial (R _) ?_
    · rw [List.mem_singleton.mp hb]
      show s₁.heap.objs.size < (s₁.heap.push _).objs.size
      rw [Heap.size_push]; exact Nat.lt_succ_self _
    · intro D C h tk m' ys news' F' N' o1 hn hC₀ hD₀ hCL hDL hCD offC fin
      refine ⟨m', hn, fun h'' hs'' => fin D h'' tk (F'.change hs'' hCL hC₀) (fun p hp => ?_) o1⟩
      refine ⟨hs''.extBut _ _ ?_ (N' p hp).1, (N' p hp).2⟩
      rcases List.mem_cons.mp hp with rfl | hp
      · exact Ne.symm hCD
      · exact offC p hp

/-- the source of a comprehension is a list of the ledger -/
def SrcTL (prog : Program) (w : World) (A : Around) (h₀ : Heap) (L : Addr) (m : Str → Option Value) (env : Env) (ct elt : Expr) (x : Str) (scope : Scope) (cl : List (Str × Addr)) (Q : Value → Shared → Prop) (xv : Value) (s₁ : Shared) : Prop :=
  ∃ (l : Addr) (vs : List Value) (n : Nat) (news : List (Addr × Obj)), xv = .ref l ∧ A.handled = none ∧ Fr h₀ L s₁.heap m ∧ News h₀ L s₁.heap news ∧ (l, W.listOf vs.toArray n) ∈ news ∧ vs.length ≤ sizeLine ∧
      ∀ g, CompRestT prog w A h₀ L m env ct elt x scope cl { s₁ with heap := g } (SrcAt h₀ l vs.toArray) (fun i v => vs[i]? = some v) (FinE h₀ L m { s₁ with heap := g } Q) vs.length 0 [] news
theorem ListComp_TL {ct elt iter : Expr} {x : Str} {px : Pos} {scope : Scope} {cl : List (Str × Addr)} {pos : Pos} {Q : Value → Shared → Prop} (F₀ : Fr h₀ L s.heap m)
    (hclos : closureFor scope env = pure cl) (hcell : ∀ y ∈ scope.names, y.2 ≠ .cell) (hkind : scope.kind = .function)
    (hnames : ∀ y ∈ scope.names, y.2 = .local → scope.names.lookup y.1 = some .local) (hx : scope.names.lookup x = some .local)
    (h : wpAny (model prog w) A (eval iter env) (SrcTL prog w A h₀ L m env ct elt x scope cl Q) E s)
    (hs : ∀ x, foldedSetIterable iter env x = pure x := by intro _; rfl) :
    wpAny (model prog w) A (eval (.ListComp elt [⟨.Name x px, iter, [ct], 0⟩] scope pos) env) Q E s := by
  refine ListComp_T F₀ hclos hcell hkind hnames hx (wpAny_mono h (fun xv s₁ h₁ => ?_) fun _ _ e => e) hs
  obtain ⟨l, vs, n, news, rfl, hh, F, N, hm, hsz, R⟩ := h₁
  refine CompSrcT.ledger hh F N hm (by simpa using hsz) fun g => ?_
  have := R g
  simpa using this
def SrcUL (prog : Program) (w : World) (A : Around) (h₀ : Heap) (L : Addr) (m : Str → Option Value) (env : Env) (elt : Expr) (x : Str) (scope : Scope) (cl : List (Str × Addr)) (Q : Value → Shared → Prop) (xv : Value) (s₁ : Shared) : Prop :=
  ∃ (l : Addr) (vs : List Value) (n : Nat) (news : List (Addr × Obj)), xv = .ref l ∧ A.handled = none ∧ Fr h₀ L s₁.heap m ∧ News h₀ L s₁.heap news ∧ (l, W.listOf vs.toArray n) ∈ news ∧ vs.length ≤ sizeLine ∧
      ∀ g, CompRest prog w A h₀ L m env elt x scope cl { s₁ with heap := g } (SrcAt h₀ l vs.toArray) (fun i v => vs[i]? = some v) (FinE h₀ L m { s₁ with heap := g } Q) vs.length 0 [] news
theorem ListComp_UL {elt iter : Expr} {x : Str} {px : Pos} {scope : Scope} {cl : List (Str × Addr)} {pos : Pos} {Q : Value → Shared → Prop} (F₀ : Fr h₀ L s.heap m)
    (hclos : closureFor scope env = pure cl) (hcell : ∀ y ∈ scope.names, y.2 ≠ .cell) (hkind : scope.kind = .function)
    (hnames : ∀ y ∈ scope.names, y.2 = .local → scope.names.lookup y.1 = some .local) (hx : scope.names.lookup x = some .local)
    (h : wpAny (model prog w) A (eval iter env) (SrcUL prog w A h₀ L m env elt x scope cl Q) E s)
    (hs : ∀ x, foldedSetIterable iter env x = pure x := by intro _; rfl) :
    wpAny (model prog w) A (eval (.ListComp elt [⟨.Name x px, iter, [], 0⟩] scope pos) env) Q E s := by
  refine ListComp_U F₀ hclos hcell hkind hnames hx (wpAny_mono h (fun xv s₁ h₁ => ?_) fun _ _ e => e) hs
  obtain ⟨l, vs, n, news, rfl, hh, F, N, hm, hsz, R⟩ := h₁
  refine CompSrc.ledger hh F N hm (by simpa using hsz) fun g => ?_
  have := R g
  simpa using this
/-- where a comprehension's turn stands when nothing of the ledger has changed -/
def TurnAt (h₀ : Heap) (L : Addr) (m : Str → Option Value) (s : Shared) (led : List (Addr × Obj)) (P : Prop) (s' : Shared) : Prop :=
  (∃ h' tk', s' = { s with heap := h', toks := tk' } ∧ Fr h₀ L h' m ∧ News h₀ L h' led) ∧ P
theorem TurnAt.mk {h₀ : Heap} {L : Addr} {m : Str → Option Value} {s : Shared} {led : List (Addr × Obj)} {P : Prop} {h' : Heap} {tk' : Nat} (F : Fr h₀ L h' m) (N : News h₀ L h' led) (p : P) : TurnAt h₀ L m s led P { s with heap := h', toks := tk' } := ⟨⟨h', tk', rfl, F, N⟩, p⟩

theorem restT_inv {ct elt : Expr} {x : Str} {scope : Scope} {cl : List (Str × Addr)} {S : List (Addr × Obj) → Prop} {P : Nat → Value → Prop} {Fin : List Value → List (Addr × Obj) → Prop} {news : List (Addr × Obj)} {n : Nat}
    (Inv : Nat → List Value → Prop) (hS : S news) (hfin : ∀ ys, Inv n ys → Fin ys news)
    (step : ∀ i ys v I oI C oC D m₂ h tk (E' : Value → Shared → Prop), i < n → Inv i ys → P i v → NsObj oC m₂ → m₂ x = some v → Fr h₀ L h m → News h₀ L h ((I, oI) :: (C, oC) :: (D, lst ys) :: news) →
      wpAny (model prog w) A (isTrue ct (compEnvC scope cl C env) (eval ct (compEnvC scope cl C env))) (fun ok s' => if ok = true then
        wpAny (model prog w) A (eval elt (compEnvC scope cl C env)) (fun y s'' => TurnAt h₀ L m s ((I, oI) :: (C, oC) :: (D, lst ys) :: news) (Inv (i + 1) (ys ++ [y])) s'') E' s'
        else TurnAt h₀ L m s ((I, oI) :: (C, oC) :: (D, lst ys) :: news) (Inv (i + 1) ys) s') E' { s with heap := h, toks := tk }) :
    ∀ k i ys, i + k = n → Inv i ys → CompRestT prog w A h₀ L m env ct elt x scope cl s S P Fin k i ys news
  | 0, i, ys, e, hi => CompRestT.zero (hfin ys (by rw [← (show i = n by omega)]; exact hi))
  | k + 1, i, ys, e, hi => by
    refine CompRestT.succ fun v I oI C oC D m₂ h tk E' hP hN hx F N off _ => ?_
    refine wpAny_mono (step i ys v I oI C oC D m₂ h tk E' (by omega) hi hP hN hx F N) (fun ok s' h' => ?_) fun _ _ e => e
    cases ok with
    | false =>
      simp only [Bool.false_eq_true, if_false] at h' ⊢
      obtain ⟨⟨h1, tk1, rfl, F1, N1⟩, hi'⟩ := h'
      exact ⟨h1, tk1, news, rfl, F1, N1, off, hS, restT_inv Inv hS hfin step k (i + 1) ys (by omega) hi'⟩
    | true =>
      simp only [if_true] at h' ⊢
      refine wpAny_mono h' (fun y s'' h'' => ?_) fun _ _ e => e
      obtain ⟨⟨h1, tk1, rfl, F1, N1⟩, hi'⟩ := h''
      exact ⟨h1, tk1, news, rfl, F1, N1, off, hS, restT_inv Inv hS hfin step k (i + 1) (ys ++ [y]) (by omega) hi'⟩

theorem restU_inv {elt : Expr} {x : Str} {scope : Scope} {cl : List (Str × Addr)} {S : List (Addr × Obj) → Prop} {P : Nat → Value → Prop} {Fin : List Value → List (Addr × Obj) → Prop} {news : List (Addr × Obj)} {n : Nat}
    (Inv : Nat → List Value → Prop) (hS : S news) (hfin : ∀ ys, Inv n ys → Fin ys news)
    (step : ∀ i ys v I oI C oC D m₂ h tk (E' : Value → Shared → Prop), i < n → Inv i ys → P i v → NsObj oC m₂ → m₂ x = some v → Fr h₀ L h m → News h₀ L h ((I, oI) :: (C, oC) :: (D, lst ys) :: news) →
        wpAny (model prog w) A (eval elt (compEnvC scope cl C env)) (fun y s'' => TurnAt h₀ L m s ((I, oI) :: (C, oC) :: (D, lst ys) :: news) (Inv (i + 1) (ys ++ [y])) s'') E' { s with heap := h, toks := tk }) :
    ∀ k i ys, i + k = n → Inv i ys → CompRest prog w A h₀ L m env elt x scope cl s S P Fin k i ys news
  | 0, i, ys, e, hi => CompRest.zero (hfin ys (by rw [← (show i = n by omega)]; exact hi))
  | k + 1, i, ys, e, hi => by
    refine CompRest.succ fun v I oI C oC D m₂ h tk E' hP hN hx F N off _ => ?_
    refine wpAny_mono (step i ys v I oI C oC D m₂ h tk E' (by omega) hi hP hN hx F N) (fun y s'' h'' => ?_) fun _ _ e => e
    obtain ⟨⟨h1, tk1, rfl, F1, N1⟩, hi'⟩ := h''
    exact ⟨h1, tk1, news, rfl, F1, N1, off, hS, restU_inv Inv hS hfin step k (i + 1) (ys ++ [y]) (by omega) hi'⟩
end
end Mine
end
section
open PySem PySem.W PyProof.Rows PySem.Calls PySem.Spec
namespace Mine
theorem offLb : True := by (w_top off; exact trivial)
section
local macro_rules | `(tactic| walk_at "idle") => `(tactic| fail)
local macro_rules | `(tactic| walk_at "eval ListComp") => `(tactic| (refine Hold.back ?_))
/-- what the law itself calls bad -/
def lhit (b : Bool) (c : Nat) : Bool := [13, 10, 127, 0, 1, 31].contains c || (b && c == 9)
theorem occ_lit (c : Nat) : (Builtin.Str.occurrences (Str.ofString "\r\n\x7f\x00\x01\x1f") ⟨#[c]⟩ 0 (Str.ofString "\r\n\x7f\x00\x01\x1f").length 1).isEmpty = !([13, 10, 127, 0, 1, 31].contains c) := by
  rw [empty_one, show (Str.ofString "\r\n\x7f\x00\x01\x1f").cps.toList = [13, 10, 127, 0, 1, 31] from by decide +kernel, List.contains_eq_mem]
theorem tab_eq (c : Nat) : ((⟨#[c]⟩ : Str) == Str.ofString "\t") = (c == 9) := by
  rw [show Str.ofString "\t" = ⟨#[9]⟩ from by decide +kernel]
  by_cases h : c = 9
  · rw [h]; rfl
  · have h1 : ((⟨#[c]⟩ : Str) == ⟨#[9]⟩) = false := by
      rw [beq_eq_false_iff_ne]; intro e; injection e with e; injection e with e; injection e with e; exact h e
    rw [h1, beq_eq_false_iff_ne.mpr h]
theorem lawBad : ∀ (w : World) (mean : ExcName → Option Value) (mg mb : Str → Option Value) (dp un : Nat) (gd : Option (List Code)) (A₀ : Around) (base h₀ : Heap) (outer : List Env) (env : Env) (L : Addr) (m : Str → Option Value) (news : List (Addr × Obj)) (s : Shared)
    (x : Str) (t : Tok) (b : Bool) (R : Result → Shared → Prop),
    Below A₀ base outer h₀ → Fr h₀ L s.heap m → (hd.heap_39 w.params).In h₀ → News h₀ L s.heap news → Top hd.view_39 LS mean mg mb h₀ →
    env.frame = some L → env.scope.kind = .function → dp + 4 < recursionLimit → un + 100 < cLine →
    x.cps.size ≤ 100 → (∀ c ∈ x.cps.toList, c < 1114112) →
    (∀ h' tk', Fr h₀ L h' m → News h₀ L h' news → R (.ok (.ret (.bool (x.cps.toList.any (lhit b))))) { s with heap := h', toks := tk' }) →
    codeAny (model PySem.Challenge.rw_dr0124_01.row.prog w) { handled := none, depth := dp, frames := some (env :: outer), guards := gd, units := un } (.call (.ref 200) ⟨[.str x t, .bool b], []⟩) R s := by
  k_fill
  intro w mean mg mb dp un gd A₀ base h₀ outer env L m news s x t b R B F X N T hf hke hdep hun hx hok ret
  refine' code_defC B F X N T rfl hf hke ?k6 ?k7 ?k8 ?k9 ?kB ?kD ?_ ?c2 ?c3 ?c4
  case k6 => k_is
  case k7 => k_is
  case k8 => (show dp < recursionLimit); omega
  case k9 => exact BindsTo.of_eq rfl
  case kB => exact rfl
  case kD => decide +kernel
  case c2 => exact rfl
  case c3 => exact rfl
  case c4 => exact rfl
  intro g' L' h' tk' cells' FG' F' N' Y' B' X' T' l1
  (try k_lt l1); k_cells Y'; (try simp only [List.cons_append, List.nil_append] at N'); (try dsimp only); (try k_lift B'); (try k_fold)

  w_strict k_steps
  refine Hold.intro ?_
  (rename News _ _ _ _ => N1)
  refine' ListComp_S F' rfl ?q1 ?q2 ?q3 ?q4 ?q5 ?_ ?q6
  case q1 => exact rfl
  case q2 => decide
  case q3 => exact rfl
  case q4 => decide
  case q5 => exact rfl
  case q6 => exact fun _ => rfl
  w_strict k_steps
  refine ⟨_, _, _, rfl, F', N1, ?_, fun g => ?_⟩
  · exact Nat.le_trans hx (by decide)
  · refine restT_inv (n := x.cps.size) (fun i ys => DatAll [] ys (((x.cps.toList.take i).filter (lhit b)).map fun c => Dat.str ⟨#[c]⟩)) trivial (fun ys hys => ?_) (fun i ys v I oI C oC D m₂ h tk E' hi hInv hP hNs hmx F2 N2 => ?_) _ 0 [] (by omega) .nil
    · intro D h tk F2 N2 o1
      clear N1 F'
      w_strict k_steps
      (rename News _ _ _ _ => N3)
      refine kqd_ne N3 (.tail _ (.head _)) rfl rfl hys (fun _ h => nomatch h) (.head _) rfl rfl (DatAll.nil (news := [])) (fun _ h => nomatch h) ?_ (fun _ h => nomatch h) ?_ ?_
      · intro d hd
        obtain ⟨c, hc, rfl⟩ := List.mem_map.mp hd
        have := hok c (List.mem_of_mem_take (List.mem_filter.mp hc).1)
        simpa [kqdOk, PyData.strOk] using this
      · show un + 3 + 64 < cLine; omega
      · w_strict k_steps
        have e : (!decide ((((x.cps.toList.take x.cps.size).filter (lhit b)).map fun c => Dat.str ⟨#[c]⟩) = [])) = x.cps.toList.any (lhit b) := by
          rw [List.take_of_length_le (by simp)]
          cases h : x.cps.toList.any (lhit b) with
          | true =>
            obtain ⟨c, h1, h2⟩ := List.any_eq_true.mp h
            have : c ∈ x.cps.toList.filter (lhit b) := List.mem_filter.mpr ⟨h1, h2⟩
            rw [decide_eq_false]; rfl
            intro q
            rw [List.map_eq_nil_iff] at q
            rw [q] at this; cases this
          | false =>
            rw [decide_eq_true]; rfl
            rw [List.map_eq_nil_iff, List.filter_eq_nil_iff]
            intro c hc
            exact List.any_eq_false.mp h c hc
        rw [e]
        (rename News _ _ _ _ => kN)
        exact ret _ _ (by assumption) (fun p hp => kN p (.tail _ (.tail _ (.tail _ hp))))
    · clear N1 F'
      obtain ⟨c, u, hc, rfl⟩ := hP
      have htake : x.cps.toList.take (i + 1) = x.cps.toList.take i ++ [c] := by
        rw [← Array.getElem?_toList] at hc
        rw [List.take_add_one, hc]; rfl
      have yes : lhit b c = true → DatAll [] (ys ++ [Value.str ⟨#[c]⟩ u]) (((x.cps.toList.take (i + 1)).filter (lhit b)).map fun c => Dat.str ⟨#[c]⟩) := fun h => by
        rw [htake, List.filter_append, List.map_append, List.filter_cons_of_pos h]
        exact hInv.append (.one (.str _ _))
      have no : lhit b c = false → DatAll [] ys (((x.cps.toList.take (i + 1)).filter (lhit b)).map fun c => Dat.str ⟨#[c]⟩) := fun h => by
        rw [htake, List.filter_append, List.map_append, List.filter_cons_of_neg (by rw [h]; exact Bool.false_ne_true)]
        simpa using hInv
      w_strict k_steps
      · rename_i h1 h2 h3
        rw [occ_lit] at h1
        rw [tab_eq] at h3
        exact TurnAt.mk F2 N2 (yes (by rw [lhit, h2, h3]; exact Bool.or_true _))
      · rename_i h1 h2 h3
        rw [occ_lit, Bool.not_eq_true'] at h1
        rw [tab_eq] at h3
        exact TurnAt.mk F2 N2 (no (by rw [lhit, h1, h3, Bool.and_false]; rfl))
      · rename_i h1 h2
        rw [occ_lit, Bool.not_eq_true'] at h1
        exact TurnAt.mk F2 N2 (no (by rw [lhit, h1, h2]; rfl))
      · rename_i h1
        rw [occ_lit, Bool.not_eq_false'] at h1
        exact TurnAt.mk F2 N2 (yes (by rw [lhit, h1]; rfl))
end
end Mine
end
section
open PySem PySem.W PyProof.Rows PySem.Calls PySem.Spec
namespace Mine
open Builtin Builtin.Str
section
variable {prog : Program} {w : World} {A : Around} {E : Value → Shared → Prop} {s : Shared}
theorem occ_none {x : Str} {c lim : Nat} (hc : c ∉ x.cps.toList) : occurrences x ⟨#[c]⟩ 0 x.length lim = [] := by
  refine PySem.W.occ_nil_of_no _ _ lim fun i hi => ?_
  cases h : subAt x ⟨#[c]⟩ i with
  | false => rfl
  | true =>
    have h1 := StrLaws.found_one x c
    have h2 := (StrLaws.found_iff x ⟨#[c]⟩).mpr ⟨i, hi, h⟩
    rw [h1] at h2
    exact absurd (of_decide_eq_true h2) hc
theorem replace_none {x z : Str} {c : Nat} {t u v : Tok} {Q : Value → Shared → Prop} (hc : c ∉ x.cps.toList) (h : Q (.str x t) s) :
    wpAny (model prog w) A (call (.builtin "str.replace") [.str x t, .str ⟨#[c]⟩ u, .str z v]) Q E s := by
  have g : Gives («str.replace» ⟨[.str x t, .str ⟨#[c]⟩ u, .str z v], []⟩) (.val (.str x t)) := by
    show Gives (if ((occurrences x ⟨#[c]⟩ 0 x.length (x.length + 1)).isEmpty || ((⟨#[c]⟩ : Str).length == 0 && z.length == 0)) = true then (do rule "str.replace.nothing"; ret (.str x t)) else _) _
    rw [occ_none hc]
    exact .rule (.of_eq rfl)
  exact call_gives F.slot_str_replace (typeIs_str _ _ _) F.entry_str_replace (F.args_str_replace_3 _ _ _) g h
end
end Mine
end
section
open PySem PySem.W PyProof.Rows PySem.Calls PySem.Spec

namespace Mine
theorem offFp : True := by (w_top off; exact trivial)
/-- name="text", or the name alone -/
def fmtOf (p v : Str) : Str := if 0 < v.length then Str.empty ++ p ++ Str.ofString "=\"" ++ v ++ Str.ofString "\"" else p
section
local macro_rules | `(tactic| walk_at "call builtin:str.replace") => `(tactic| (with_unfolding_all first | refine replace_none (c := 92) (by assumption) ?_ | refine replace_none (c := 34) (by assumption) ?_))
theorem fmtP : ∀ (w : World) (mean : ExcName → Option Value) (mg mb : Str → Option Value) (dp un : Nat) (gd : Option (List Code)) (A₀ : Around) (base h₀ : Heap) (outer : List Env) (env : Env) (L : Addr) (m : Str → Option Value) (news : List (Addr × Obj)) (s : Shared)
    (p v : Str) (t1 t2 : Tok) (R : Result → Shared → Prop),
    Below A₀ base outer h₀ → Fr h₀ L s.heap m → (hd.heap_39 w.params).In h₀ → News h₀ L s.heap news → Top hd.view_39 LS mean mg mb h₀ →
    env.frame = some L → env.scope.kind = .function → dp + 4 < recursionLimit → un + 100 < cLine →
    p.length ≤ 100 → v.length ≤ 100 → 92 ∉ v.cps.toList → 34 ∉ v.cps.toList →
    (∀ h' tk' t', Fr h₀ L h' m → News h₀ L h' news → R (.ok (.ret (.str (fmtOf p v) t'))) { s with heap := h', toks := tk' }) →
    codeAny (model PySem.Challenge.rw_dr0124_01.row.prog w) { handled := none, depth := dp, frames := some (env :: outer), guards := gd, units := un } (.call (.ref 61) ⟨[.str p t1, .str v t2], []⟩) R s := by
  k_fill
  intro w mean mg mb dp un gd A₀ base h₀ outer env L m news s p v t1 t2 R B F X N T hf hke hdep hun hp hv h92 h34 ret
  refine' code_def B F X N T rfl hf hke ?k6 ?k7 ?k8 ?k9 ?kB ?_ ?c2 ?c3 ?c4 ?c5
  case k6 => k_is
  case k7 => k_is
  case k8 => (show dp < recursionLimit); omega
  case k9 => first | exact BindsTo.of_eq rfl | exact binds_K (by k_in) rfl (by k_is) rfl rfl rfl
  case c5 => decide
  case kB => exact locs rfl
  case c2 => exact rfl
  case c3 => exact rfl
  case c4 => exact rfl
  intro g' L' h' FG' F' N' B' X' T'
  (try dsimp only); (try k_lift B'); (try k_fold)

  w_strict k_steps
  · have e : fmtOf p v = Str.empty ++ p ++ Str.ofString "=\"" ++ v ++ Str.ofString "\"" := if_pos (by omega)
    rw [← e]
    exact ret _ _ _ (by assumption) (by assumption)
  · have e : fmtOf p v = p := if_neg (by omega)
    have ret' := ret
    rw [e] at ret'
    exact ret' _ _ _ (by assumption) (by assumption)
end
end Mine
end
section
open PySem PySem.W PyProof.Rows PySem.Calls PySem.Spec

namespace Mine
abbrev hdDict (w : World) (tk : Tok) (l : Addr) : Obj := dictOf [{ hash := PyData.keyHash w.params (Str.ofString "_headers"), key := .str (Str.ofString "_headers") tk, val := .ref l }] 1
theorem pick_all (vs : List Value) : slicePick vs.toArray none none none = vs.toArray := by
  rw [kmk_pick_nat (a := 0) (b := vs.length) vs.toArray (by simp [sliceBounds])]
  simp
section
theorem itemsC : ∀ (w : World) (mean : ExcName → Option Value) (mg mb : Str → Option Value) (dp un : Nat) (gd : Option (List Code)) (A₀ : Around) (base h₀ : Heap) (outer : List Env) (env : Env) (L : Addr) (m : Str → Option Value) (news : List (Addr × Obj)) (s : Shared)
    (x d l : Addr) (tk : Tok) (vs : List Value) (n : Nat) (R : Result → Shared → Prop),
    Below A₀ base outer h₀ → Fr h₀ L s.heap m → (hd.heap_39 w.params).In h₀ → News h₀ L s.heap news → Top hd.view_39 LS mean mg mb h₀ →
    env.frame = some L → env.scope.kind = .function → dp + 4 < recursionLimit → un + 100 < cLine →
    (x, instObj 184 d) ∈ news → (d, hdDict w tk l) ∈ news → (l, W.listOf vs.toArray n) ∈ news → vs.length ≤ 100 →
    (∀ h' tk' D c, Fr h₀ L h' m → News h₀ L h' ((D, W.listOf vs.toArray c) :: news) → (∀ p ∈ news, p.1 < D) → R (.ok (.ret (.ref D))) { s with heap := h', toks := tk' }) →
    codeAny (model PySem.Challenge.rw_dr0124_01.row.prog w) { handled := none, depth := dp, frames := some (env :: outer), guards := gd, units := un } (.call (.ref 148) ⟨[.ref x], []⟩) R s := by
  k_fill
  intro w mean mg mb dp un gd A₀ base h₀ outer env L m news s x d l tk vs n R B F X N₀ T hf hke hdep hun m1 m2 m3 hvs ret
  have N : News h₀ L s.heap ((x, instObj 184 d) :: (d, hdDict w tk l) :: (l, W.listOf vs.toArray n) :: news) :=
    List.forall_mem_cons.mpr ⟨N₀ _ m1, List.forall_mem_cons.mpr ⟨N₀ _ m2, List.forall_mem_cons.mpr ⟨N₀ _ m3, N₀⟩⟩⟩
  refine' code_def B F X N T rfl hf hke ?k6 ?k7 ?k8 ?k9 ?kB ?_ ?c2 ?c3 ?c4 ?c5
  case k6 => k_is
  case k7 => k_is
  case k8 => (show dp < recursionLimit); omega
  case k9 => exact BindsTo.of_eq rfl
  case c5 => decide
  case kB => exact locs rfl
  case c2 => exact rfl
  case c3 => exact rfl
  case c4 => exact rfl
  intro g' L' h' FG' F' N' B' X' T'
  (try dsimp only); (try k_lift B'); (try k_fold)

  have low : ∀ p ∈ news, p.1 < h'.objs.size := fun p hp => Heap.lt_size (N' p (.tail _ (.tail _ (.tail _ hp)))).1
  w_strict k_steps
  (rename News _ _ _ _ => kN)
  refine ret _ _ _ 0 (by assumption) (List.forall_mem_cons.mpr ⟨?_, fun p hp => kN p (.tail _ (.tail _ (.tail _ (.tail _ hp))))⟩) (fun p hp => Nat.lt_succ_of_lt (low p hp))
  have := kN _ (.head _)
  rw [pick_all] at this
  exact this
end
end Mine
end
section
open PySem PySem.W PyProof.Rows PySem.Calls PySem.Spec
namespace Mine
section
variable {prog : Program} {w : World} {A : Around} {E : Value → Shared → Prop} {s : Shared} {h₀ : Heap} {m : Str → Option Value} {env : Env}

/-- how a turn of a loop ends that changes the frame's names alone -/
def TurnEnd (h₀ : Heap) (L : Addr) (J : (Str → Option Value) → Prop) (led : List (Addr × Obj)) (s₁ : Shared) (Q : Flow → Shared → Prop) (f : Flow) (s₂ : Shared) : Prop :=
  match f with
  | .ret v => Q (.ret v) s₂
  | .brk => Q .next s₂
  | _ => ∃ h' tk' m', s₂ = { s₁ with heap := h', toks := tk' } ∧ Fr h₀ L h' m' ∧ News h₀ L h' led ∧ J m'
theorem TurnEnd.mk {L : Addr} {J : (Str → Option Value) → Prop} {led : List (Addr × Obj)} {s₁ : Shared} {Q : Flow → Shared → Prop} {h' : Heap} {tk' : Nat} {m' : Str → Option Value} (F : Fr h₀ L h' m') (N : News h₀ L h' led) (j : J m') :
    TurnEnd h₀ L J led s₁ Q .next { s₁ with heap := h', toks := tk' } := ⟨h', tk', m', rfl, F, N, j⟩
theorem TurnEnd.ret {L : Addr} {J : (Str → Option Value) → Prop} {led : List (Addr × Obj)} {s₁ s₂ : Shared} {Q : Flow → Shared → Prop} {v : Value} (h : Q (.ret v) s₂) : TurnEnd h₀ L J led s₁ Q (.ret v) s₂ := h

/-- what a loop over a list of the ledger asks of its source -/
def LoopL (prog : Program) (w : World) (A : Around) (h₀ : Heap) (env : Env) (target : Expr) (body : List Stmt) (Q : Flow → Shared → Prop) (E : Value → Shared → Prop) (xv : Value) (s₁ : Shared) : Prop :=
  ∃ (l : Addr) (vs : List Value) (n : Nat) (m : Str → Option Value) (news : List (Addr × Obj)) (J : Nat → (Str → Option Value) → Prop),
    xv = .ref l ∧ A.handled = none ∧ Fr h₀ env.locals s₁.heap m ∧ News h₀ env.locals s₁.heap news ∧ (l, W.listOf vs.toArray n) ∈ news ∧ J 0 m ∧
    (∀ i v m₁ I oI h tk, vs[i]? = some v → J i m₁ → Fr h₀ env.locals h m₁ → News h₀ env.locals h ((I, oI) :: news) → (∀ p ∈ news, p.1 ≠ I) →
      wpAny (model prog w) A (assign target env v) (fun _ s₃ => wpAny (model prog w) A (execs body env) (TurnEnd h₀ env.locals (J (i + 1)) ((I, oI) :: news) { s₁ with heap := h, toks := tk } Q) E s₃) E { s₁ with heap := h, toks := tk }) ∧
    ∀ h tk m₁, J vs.length m₁ → Fr h₀ env.locals h m₁ → News h₀ env.locals h news → Q .next { s₁ with heap := h, toks := tk }

theorem For_list {target iter : Expr} {body : List Stmt} {pos : Pos} {Q : Flow → Shared → Prop} (_F : Fr h₀ env.locals s.heap m)
    (h : wpAny (model prog w) A (eval iter env) (LoopL prog w A h₀ env target body Q E) E s)
    (hs : ∀ x, foldedSetIterable iter env x = pure x)
    (hE : PassesOwn (model prog w) A env E := by passes_own) :
    wpAny (model prog w) A (exec (.For target iter body [] pos) env) Q E s := by
  refine wpAny_For (wpAny_mono h (fun xv s₁ h₁ => ?_) fun _ _ e => e) hs
  obtain ⟨l, vs, n, m, news, J, rfl, hh, F, N, hm, h0, step, done⟩ := h₁
  have hls : s₁.heap.IsList l vs.toArray := ⟨_, (N _ hm).1, rfl, n, rfl⟩
  have hlt : l < s₁.heap.objs.size := Heap.lt_size (N _ hm).1
  have hne : l ≠ s₁.heap.objs.size := Nat.ne_of_lt hlt
  have hLI : env.locals ≠ s₁.heap.objs.size := Nat.ne_of_lt F.ns.lt
  have hI0 : h₀.get? s₁.heap.objs.size = none := next_is_new F
  have off : ∀ p ∈ news, p.1 ≠ s₁.heap.objs.size := fun p hp => Nat.ne_of_lt (Heap.lt_size (N p hp).1)
  refine wpAny_pyIter_list hls ?_
  have W := Walks.list (prog := prog) (w := w) hh s₁.heap.objs.size l hne vs.toArray
  have up : ∀ b o, s₁.heap.get? b = some o → (s₁.heap.push { cls := .type "list_iterator", data := .fields #[.ref l, .int 0 0] }).get? b = some o := fun b o e => Heap.get?_push_of_some _ e
  refine codeAny_forLoop_any
    (fun k s' => ∃ h' tk' m' i, s' = { s₁ with heap := h', toks := tk' } ∧ (h'.IsListIter s₁.heap.objs.size l i ∧ h'.IsList l vs.toArray) ∧ Fr h₀ env.locals h' m' ∧ News h₀ env.locals h' news ∧ J i m' ∧ i ≤ vs.length ∧ k = vs.length + 1 - i) ?_ (vs.length + 1)
    ⟨_, s₁.toks, m, 0, rfl, ⟨⟨_, Heap.get?_push_size _ rfl, rfl, rfl⟩, hls.at fun o e => Heap.get?_push_of_some _ e⟩, F.keeps up, N.grown up, h0, Nat.zero_le _, rfl⟩
  rintro k s' ⟨h', tk, m', i, rfl, hst', F', N', hJ, hi, rfl⟩
  have next : ∀ h₂ : Heap, (∀ b o, b ∉ [s₁.heap.objs.size] → h'.get? b = some o → h₂.get? b = some o) → Fr h₀ env.locals h₂ m' ∧ News h₀ env.locals h₂ news := fun h₂ hk => ⟨LCg.fr_but F' hk hLI hI0, LCg.news_but N' hk off⟩
  by_cases hlt' : i < vs.length
  · refine W.item i _ _ _ (by simpa using hlt') hst' fun v h₁ tk₁ hP hst₁ hk₁ => ?_
    obtain ⟨F₁, N₁⟩ := next h₁ hk₁
    obtain ⟨⟨oI, hoI, hcI, hdI⟩, hl₁⟩ := hst₁
    have N₂ : News h₀ env.locals h₁ ((s₁.heap.objs.size, oI) :: news) := List.forall_mem_cons.mpr ⟨⟨hoI, hLI.symm, hI0⟩, N₁⟩
    refine wpAny_passesOwn hE (letGo_listiter (i := i + 1) (t := l) ⟨oI, hoI, hcI, hdI⟩ ?_)
    refine wpAny_mono (step i v m' _ oI h₁ tk₁ (by simpa using hP) hJ F₁ N₂ off) (fun _ s₃ h₃ => wpAny_mono h₃ (fun f s₄ h₄ => ?_) hE) hE
    have fin : (∃ h' tk' m', s₄ = { ({ s₁ with heap := h₁, toks := tk₁ } : Shared) with heap := h', toks := tk' } ∧ Fr h₀ env.locals h' m' ∧ News h₀ env.locals h' ((s₁.heap.objs.size, oI) :: news) ∧ J (i + 1) m') →
        ∃ k', k' < vs.length + 1 - i ∧ ∃ h' tk' m' i, s₄ = { s₁ with heap := h', toks := tk' } ∧ (h'.IsListIter s₁.heap.objs.size l i ∧ h'.IsList l vs.toArray) ∧ Fr h₀ env.locals h' m' ∧ News h₀ env.locals h' news ∧ J i m' ∧ i ≤ vs.length ∧ k' = vs.length + 1 - i := by
      rintro ⟨h₅, tk₅, m₅, rfl, F₅, N₅, j₅⟩
      exact ⟨vs.length + 1 - (i + 1), by omega, h₅, tk₅, m₅, i + 1, rfl, ⟨⟨oI, (N₅ _ (.head _)).1, hcI, hdI⟩, ⟨_, (N₅ _ (.tail _ hm)).1, rfl, n, rfl⟩⟩, F₅, fun p hp => N₅ p (.tail _ hp), j₅, hlt', rfl⟩
    cases f with
    | ret v => exact h₄
    | brk => exact h₄
    | cont => exact fin h₄
    | next => exact fin h₄
  · have hin : i = vs.length := by omega
    subst hin
    refine W.done _ _ _ (by simpa using hst') fun h₁ tk₁ hk₁ => wpAny_execs_nil ?_
    obtain ⟨F₁, N₁⟩ := next h₁ hk₁
    exact done h₁ tk₁ m' hJ F₁ N₁
end
end Mine
end
section
open PySem PySem.W PyProof.Rows PySem.Calls PySem.Spec

namespace Mine
theorem offGe : True := by (w_top off; exact trivial)
section
local macro_rules | `(tactic| walk_at "call ref") => `(tactic| (k_here; (with_reducible show wpAny _ _ (call (Value.ref 83) [_, Value.str _ _] _) _ _ _); (with_unfolding_all refine' conv_wp ?k1 ?k2 ?k3 ?k4 ?k5 ?k6 ?k7 ?k8 ?k9 ?k10 ?k11 ?k12); (case k1 => assumption); (case k2 => k_asm); (case k3 => k_asm); (case k4 => k_asm); (case k5 => k_asm); (case k6 => exact rfl); (case k7 => exact rfl); (case k8 => first | omega | (dsimp only [Around.deeper]; omega)); (case k9 => first | omega | (dsimp only [Around.deeper]; omega)); (case k10 => first | omega | assumption); (case' k11 => intro cvOk h' tk' F' N'); (case' k12 => intro cvBad h' tk' g'' e' t' vs' R' FG'' U')))

local macro_rules | `(tactic| walk_at "exec For Tuple Attribute cons nil") => `(tactic| (refine Hold.back ?_))
/-- a pair of texts as a datum -/
def d2 (p : Str × Str) : Dat := .tuple [.str p.1, .str p.2]
theorem d2_open {news : List (Addr × Obj)} {v : Value} {p : Str × Str} (h : DatIn news v (d2 p)) : ∃ a n t u, v = .ref a ∧ (a, ({ cls := .type "tuple", data := .seq #[.str p.1 t, .str p.2 u] n } : Obj)) ∈ news := by
  cases h with
  | tuple hm hr =>
    cases hr with
    | cons h1 hr =>
      cases hr with
      | cons h2 hr =>
        cases hr
        cases h1; cases h2
        exact ⟨_, _, _, _, rfl, hm⟩
theorem d2_at {news : List (Addr × Obj)} {vs : List Value} {ps : List (Str × Str)} (h : DatAll news vs (ps.map d2)) {i : Nat} {v : Value} (hv : vs[i]? = some v) :
    ∃ p a n t u, ps[i]? = some p ∧ v = .ref a ∧ (a, ({ cls := .type "tuple", data := .seq #[.str p.1 t, .str p.2 u] n } : Obj)) ∈ news := by
  have hi : i < vs.length := (List.getElem?_eq_some_iff.mp hv).1
  have hl := h.length
  rw [List.length_map] at hl
  obtain ⟨v', e, hd⟩ := h.get (k := i) (by rw [List.length_map]; omega)
  rw [hv] at e; cases e
  rw [List.getElem_map] at hd
  obtain ⟨a, n, t, u, e1, e2⟩ := d2_open hd
  exact ⟨ps[i]'(by omega), a, n, t, u, List.getElem?_eq_getElem _, e1, e2⟩
theorem getC : ∀ (w : World) (mean : ExcName → Option Value) (mg mb : Str → Option Value) (dp un : Nat) (gd : Option (List Code)) (A₀ : Around) (base h₀ : Heap) (outer : List Env) (env : Env) (L : Addr) (m : Str → Option Value) (news : List (Addr × Obj)) (s : Shared)
    (x d l : Addr) (tk : Tok) (vs : List Value) (n : Nat) (ps : List (Str × Str)) (y : Str) (t : Tok) (R : Result → Shared → Prop),
    Below A₀ base outer h₀ → Fr h₀ L s.heap m → (hd.heap_39 w.params).In h₀ → News h₀ L s.heap news → Top hd.view_39 LS mean mg mb h₀ →
    env.frame = some L → env.scope.kind = .function → dp + 8 < recursionLimit → un + 150 < cLine →
    (x, instObj 184 d) ∈ news → (d, hdDict w tk l) ∈ news → (l, W.listOf vs.toArray n) ∈ news → y.length ≤ 100 →
    DatAll news vs (ps.map d2) → (∀ p ∈ ps, p.1.length ≤ 1000) →
    (bad true (Txt.lower y) = false → (ps.any fun p => Txt.lower p.1 == Txt.lower y) = true → ∀ h' tk' z t', Fr h₀ L h' m → News h₀ L h' news → R (.ok (.ret (.str z t'))) { s with heap := h', toks := tk' }) →
    (bad true (Txt.lower y) = false → (ps.any fun p => Txt.lower p.1 == Txt.lower y) = false → ∀ h' tk', Fr h₀ L h' m → News h₀ L h' news → R (.ok (.ret .none)) { s with heap := h', toks := tk' }) →
    (bad true (Txt.lower y) = true → ∀ h' tk' g e t vs, RaisedK base (env :: outer) e (.type "ValueError") t vs news h' → Fr h₀ L g m → g.UpToSlots h' → R (.error (.ref e)) { s with heap := h', toks := tk' }) →
    codeAny (model PySem.Challenge.rw_dr0124_01.row.prog w) { handled := none, depth := dp, frames := some (env :: outer), guards := gd, units := un } (.call (.ref 131) ⟨[.ref x, .str y t], []⟩) R s := by
  k_fill
  intro w mean mg mb dp un gd A₀ base h₀ outer env L m news s x d l tk vs n ps y t R B F X N₀ T hf hke hdep hun m1 m2 m3 hy hD hps ret1 ret2 err
  have N : News h₀ L s.heap ((x, instObj 184 d) :: (d, hdDict w tk l) :: (l, W.listOf vs.toArray n) :: news) :=
    List.forall_mem_cons.mpr ⟨N₀ _ m1, List.forall_mem_cons.mpr ⟨N₀ _ m2, List.forall_mem_cons.mpr ⟨N₀ _ m3, N₀⟩⟩⟩
  refine' code_def B F X N T rfl hf hke ?k6 ?k7 ?k8 ?k9 ?kB ?_ ?c2 ?c3 ?c4 ?c5
  case k6 => k_is
  case k7 => k_is
  case k8 => (show dp < recursionLimit); omega
  case k9 => first | exact BindsTo.of_eq rfl | exact binds_K (by k_in) rfl (by k_is) rfl rfl rfl
  case c5 => decide
  case kB => exact locs rfl
  case c2 => exact rfl
  case c3 => exact rfl
  case c4 => exact rfl
  intro g' L' h' FG' F' N' B' X' T'
  (try dsimp only); (try k_lift B'); (try k_fold)

  w_strict k_steps
  · exact err (by assumption) _ _ _ _ _ _ (raised_sub (by assumption) fun _ h => .tail _ (.tail _ (.tail _ h))) FG' (by assumption)
  · refine Hold.intro ?_
    (rename bad true (Txt.lower y) = false => hok)
    (rename Fr _ _ _ _ => F1)
    (rename News _ _ _ _ => N1)
    refine' For_list F1 ?_ ?hs
    case hs => exact fun _ => rfl
    w_strict k_steps
    refine ⟨l, vs, n, _, _, (fun i m₁ => ∃ t1, m₁ "name" = some (.str (Txt.lower y) t1) ∧ m₁ "default" = some .none ∧ ((ps.take i).any fun p => Txt.lower p.1 == Txt.lower y) = false), rfl, rfl, F1, N1, .tail _ (.tail _ (.head _)), ⟨_, rfl, rfl, rfl⟩, ?_, ?_⟩
    · clear F1 N1
      rintro i v m₁ I oI h tk hv ⟨t1, e1, e2, e3⟩ F1 N1 off
      obtain ⟨p, a, n', t2, u2, hp, rfl, hm⟩ := d2_at hD hv
      replace F1 := fr_know F1 e1
      have N2 : News g' L' h ((a, ({ cls := .type "tuple", data := .seq #[.str p.1 t2, .str p.2 u2] n' } : Obj)) :: (I, oI) :: (x, instObj 184 d) :: (d, hdDict w _ l) :: (l, W.listOf vs.toArray n) :: news) :=
        List.forall_mem_cons.mpr ⟨N1 _ (.tail _ (.tail _ (.tail _ (.tail _ hm)))), N1⟩
      have hpl := hps p (List.mem_of_getElem? hp)
      have htake : ps.take (i + 1) = ps.take i ++ [p] := by rw [List.take_add_one, hp]; rfl
      w_strict k_steps
      · rename (Txt.lower p.1 == Txt.lower y) = true => heq
        show TurnEnd _ _ _ _ _ _ (Flow.ret _) _
        refine TurnEnd.ret ?_
        (try dsimp only)
        w_strict k_steps
        (rename News _ _ _ _ => kN)
        exact ret1 hok (List.any_eq_true.mpr ⟨p, List.mem_of_getElem? hp, heq⟩) _ _ _ _ (by assumption) (fun q hq => kN q (.tail _ (.tail _ (.tail _ (.tail _ hq)))))
      · rename (Txt.lower p.1 == Txt.lower y) = false => heq
        (rename Fr _ _ _ _ => F3)
        (rename News _ _ _ _ => N3)
        exact TurnEnd.mk F3 N3 ⟨_, rfl, e2, by rw [htake, List.any_append, e3]; simpa using heq⟩
    · clear F1 N1
      rintro h tk m₁ ⟨t1, e1, e2, e3⟩ F1 N1
      replace F1 := fr_know F1 e2
      w_strict k_steps
      (rename News _ _ _ _ => kN)
      have hl : vs.length = ps.length := by have := hD.length; rwa [List.length_map] at this
      rw [hl, List.take_length] at e3
      exact ret2 hok e3 _ _ (by assumption) (fun q hq => kN q (.tail _ (.tail _ (.tail _ hq))))
end
end Mine
end
section
open PySem PySem.W PyProof.Rows PySem.Calls PySem.Spec
namespace Mine
open Builtin Builtin.List
section
variable {prog : Program} {w : World} {A : Around} {E : Value → Shared → Prop} {s : Shared}
theorem setItem_all {l S D : Addr} {vs ys : List Value} {n n' : Nat} {Q : Unit → Shared → Prop} (hl : s.heap.get? l = some (W.listOf vs.toArray n)) (hD : s.heap.get? D = some (W.listOf ys.toArray n'))
    (hS : s.heap.get? S = some { cls := .type "slice", data := .fields #[.none, .none, .none] }) (hne : l ≠ D) (h1 : vs.length ≤ 1000) (h2 : ys.length ≤ 1000)
    (h : ∀ h' k, h'.get? l = some (W.listOf ys.toArray k) → Heap.SameBut l s.heap h' → Q () { s with heap := h' }) :
    wpAny (model prog w) A (setItem (.ref l) (.ref S) (.ref D)) Q E s := by
  have hL : s.heap.IsList l vs.toArray := ⟨_, hl, rfl, n, rfl⟩
  have hLD : s.heap.IsList D ys.toArray := ⟨_, hD, rfl, n', rfl⟩
  have hT : s.TypeIs (.ref S) "slice" := ⟨_, hS, rfl⟩
  unfold setItem
  refine wpAny_holding ?_
  refine wpAny_bind (wpAny_sequenceKey hL.typeIs (by decide) ?_)
  refine wpAny_bind (wpAny_callSpecial?_slot (name := Str.ofString "__setitem__") hL.typeIs slot_list_setitem
    (wpAny_call_entry slot_list_setitem hL.typeIs entry_list_setitem ?_ (args_list_setitem _ _ _)))
  show wpAny _ _ (Builtin.List.listSubscript? (.ref S) >>= _) _ _ s
  unfold listSubscript?
  refine wpAny_bind (wpAny_bind (wpAny_specialOf (name := Str.ofString "__index__") hT slice_no_index (wpAny_pure ?_)))
  refine wpAny_bind (wpAny_typeOf hT ?_)
  dsimp only
  rw [if_neg (show ¬ ((Value.type "slice" != Value.type "slice") = true) by decide)]
  have parts : ∀ {Q : Value × Value × Value → Shared → Prop}, Q (.none, .none, .none) s → wpAny (model prog w) A.in1 (listSliceParts (.ref S)) Q E s := fun {Q} hq => by
    unfold listSliceParts
    refine wpAny_bind (wpAny_field hS rfl (x := .none) rfl ?_)
    refine wpAny_bind (wpAny_pure ?_)
    refine wpAny_bind (wpAny_field hS rfl (x := .none) rfl ?_)
    refine wpAny_bind (wpAny_pure ?_)
    refine wpAny_bind (wpAny_field hS rfl (x := .none) rfl ?_)
    exact wpAny_bind (wpAny_pure (wpAny_pure hq))
  refine wpAny_bind (parts ?_)
  dsimp only
  rw [if_neg (show ¬ (listSameRef (.ref l) (.ref D) = true) from fun e => hne (beq_iff_eq.mp e))]
  unfold listAllItems listItems seqItems?
  refine wpAny_bind (wpAny_bind (wpAny_typeOf hLD.typeIs ?_))
  rw [if_pos (show ((Value.type "list" == Value.type "list") || (Value.type "list" == Value.type "tuple")) = true by decide)]
  refine wpAny_bind (wpAny_bind (wpAny_load hD (wpAny_pure (wpAny_pure ?_))))
  refine wpAny_bind (wpAny_bind (wpAny_bind (wpAny_load hl (wpAny_pure (wpAny_pure ?_)))))
  have hi : sliceIndices .none .none .none vs.toArray.size = pure ((0 : Int), (vs.toArray.size : Int), (1 : Int)) := rfl
  rw [hi]
  refine wpAny_bind (wpAny_pure ?_)
  dsimp only
  rw [if_pos (by decide)]
  refine wpAny_bind (wpAny_rule ?_)
  rw [if_neg (by simp only [listTooLong, sizeLine, List.size_toArray, decide_eq_true_eq]; omega)]
  unfold listUpdate
  have e : vs.toArray.extract 0 (0 : Int).toNat ++ ys.toArray ++ vs.toArray.extract (max (0 : Int) (vs.toArray.size : Int)).toNat = ys.toArray := by simp
  refine wpAny_bind (wpAny_updateSeq hl rfl ?_ ?_ ?_)
  · obtain ⟨k, hk⟩ : ∃ k, Obj.mapSeq (fun xs => xs.extract 0 (0 : Int).toNat ++ ys.toArray ++ xs.extract (max (0 : Int) (vs.toArray.size : Int)).toNat) (W.listOf vs.toArray n) = W.listOf ys.toArray k :=
      ⟨_, congrArg (fun a => W.listOf a _) e⟩
    refine wpAny_bind (wpAny_letGo (wpAny_pure ⟨_, rfl, wpAny_pure (h _ k ?_ (Heap.SameBut.update ..))⟩))
    rw [Heap.get?_update_self _ hl rfl]
    exact congrArg some hk
  · simp only [sizeLine, List.size_toArray]; omega
  · rw [e]; simp only [sizeLine, List.size_toArray]; omega
end
section
variable {prog : Program} {w : World} {A : Around} {E : Value → Shared → Prop} {s : Shared} {h₀ : Heap} {L : Addr} {m : Str → Option Value} {news : List (Addr × Obj)}
/-- xs[:] = ys, the slice just made -/
theorem setItem_whole {l D : Addr} {vs ys : List Value} {n n' : Nat} {gens : Array GenState} {drawn : Drawn} {toks : Nat} {os : OsState} {h : Heap} {g : Obj → List (Addr × Obj)} {Q : Unit → Shared → Prop} (F : Fr h₀ L h m) (N : News h₀ L h news)
    (U : UpdF l (W.listOf vs.toArray n) news g) (hD : (D, W.listOf ys.toArray n') ∈ news) (hne : l ≠ D) (h1 : vs.length ≤ 1000) (h2 : ys.length ≤ 1000)
    (hq : ∀ h' k, Fr h₀ L h' m → News h₀ L h' (g (W.listOf ys.toArray k)) → Q () { heap := h', gens, drawn, toks, os }) :
    wpAny (model prog w) A (setItem (.ref l) (.ref h.objs.size) (.ref D)) Q E { heap := h.push { cls := .type "slice", data := .fields #[.none, .none, .none] }, gens, drawn, toks, os } := by
  obtain ⟨own, rest, rfl, hg, o1, o2⟩ := U.split
  have hmem := N (l, W.listOf vs.toArray n) (List.mem_append_right _ (.head _))
  refine setItem_all (s := { heap := h.push _, gens, drawn, toks, os }) (Heap.get?_push_of_some _ hmem.1) (Heap.get?_push_of_some _ (N _ hD).1) (Heap.get?_push_size _ rfl) hne h1 h2 fun h' k hl hs => ?_
  have up : ∀ b o, h.get? b = some o → (h.push { cls := .type "slice", data := .fields #[.none, .none, .none] }).get? b = some o := fun b o e => Heap.get?_push_of_some _ e
  have F1 := F.keeps up
  have N1 := N.grown up
  refine hq h' k ⟨F1.ns.sameBut hs (Ne.symm hmem.2.1), fun b ob e => (hs.2 b (fun q => ?_)).trans (F1.keep b ob e), F.above⟩ (hg _ ▸ N1.setAt o1 o2 hs hl)
  rw [q, hmem.2.2] at e; cases e
end
end Mine
end
section
open PySem PySem.W PyProof.Rows PySem.Calls PySem.Spec

namespace Mine
theorem offDe : True := by (w_top off; exact trivial)
theorem leave_onKX {M : Model} {A : Around} {E : Value → Shared → Prop} {s' : Shared} {base g g₂ : Heap} {outer : List Env} {L e t : Addr} {m : Str → Option Value} {env : Env} {Q : Unit → Shared → Prop} {news : List (Addr × Obj)} {cls : Value} {vs : List Value}
    (hf : env.frame = some L) (K : Below A base outer g) (F : Fr g L g₂ m) (R : RaisedK base (env :: outer) e cls t vs news s'.heap) (hsm : g₂.UpToSlots s'.heap)
    (hQ : ∀ h', RaisedK base outer e cls t vs news h' → g.UpToSlots h' → Q () { s' with heap := h' }) :
    wpAny M (A.deeper env) (leaving env (.ref e)) Q E s' := by
  obtain ⟨⟨B, hB, hl, hfl, hnew⟩, htup⟩ := R
  exact wpAny_leaves_onW (Around.frames_deeper K.stack) hf hfl fun h' x1 x2 => hQ h' ⟨⟨B, hB, hl, x1, hnew⟩, htup.of_slots x2⟩ ((Heap.UpToSlots.of_keeps F.keep).trans (hsm.trans x2))
section
local macro_rules | `(tactic| walk_at "call ref") => `(tactic| (k_here; (with_reducible show wpAny _ _ (call (Value.ref 83) [_, Value.str _ _] _) _ _ _); (with_unfolding_all refine' conv_wp ?k1 ?k2 ?k3 ?k4 ?k5 ?k6 ?k7 ?k8 ?k9 ?k10 ?k11 ?k12); (case k1 => assumption); (case k2 => k_asm); (case k3 => k_asm); (case k4 => k_asm); (case k5 => k_asm); (case k6 => exact rfl); (case k7 => exact rfl); (case k8 => first | omega | (dsimp only [Around.deeper]; omega)); (case k9 => first | omega | (dsimp only [Around.deeper]; omega)); (case k10 => first | omega | assumption); (case' k11 => intro cvOk h' tk' F' N'); (case' k12 => intro cvBad h' tk' g'' e' t' vs' R' FG'' U')))
local macro_rules | `(tactic| walk_at "leaving ref") => `(tactic| (k_here; (refine' leave_onKX ?k0 ?k1 ?k2 ?k3 ?k4 ?_; (case k0 => exact rfl); (case k3 => assumption); (case k1 => assumption); (case k4 => assumption); (case k2 => assumption); k_whole; intro h' R' U'; (try dsimp only at R' U' ⊢))))

local macro_rules | `(tactic| walk_at "eval ListComp") => `(tactic| (refine Hold.back ?_))
theorem off1_mem {D : Addr} : ∀ {l : List (Addr × Obj)}, LCg.Off1 D l → ∀ p ∈ l, p.1 ≠ D
  | [], _, _, h => nomatch h
  | _ :: _, x, p, h => by
    rcases List.mem_cons.mp h with rfl | h
    · exact x.1
    · exact off1_mem x.2 p h
theorem delC : ∀ (w : World) (mean : ExcName → Option Value) (mg mb : Str → Option Value) (dp un : Nat) (gd : Option (List Code)) (A₀ : Around) (base h₀ : Heap) (outer : List Env) (env : Env) (L : Addr) (m : Str → Option Value) (news : List (Addr × Obj)) (s : Shared)
    (x d l : Addr) (tk : Tok) (vs : List Value) (n : Nat) (ps : List (Str × Str)) (y : Str) (t : Tok) (R : Result → Shared → Prop),
    Below A₀ base outer h₀ → Fr h₀ L s.heap m → (hd.heap_39 w.params).In h₀ → News h₀ L s.heap news → Top hd.view_39 LS mean mg mb h₀ →
    env.frame = some L → env.scope.kind = .function → dp + 8 < recursionLimit → un + 150 < cLine →
    (x, instObj 184 d) ∈ news → (d, hdDict w tk l) ∈ news → (∀ p ∈ news, p.1 ≠ l) → y.length ≤ 100 →
    DatAll news vs (ps.map d2) → (∀ p ∈ ps, p.1.length ≤ 1000) → vs.length ≤ 100 →
    News h₀ L s.heap ((l, W.listOf vs.toArray n) :: news) →
    (bad true (Txt.lower y) = false → ∀ h' tk' ys k, Fr h₀ L h' m → News h₀ L h' ((l, W.listOf ys.toArray k) :: news) → DatAll news ys ((ps.filter fun p => Txt.lower p.1 != Txt.lower y).map d2) → R (.ok (.ret .none)) { s with heap := h', toks := tk' }) →
    (bad true (Txt.lower y) = true → ∀ h' tk' g e t vs', RaisedK base (env :: outer) e (.type "ValueError") t vs' ((l, W.listOf vs.toArray n) :: news) h' → Fr h₀ L g m → g.UpToSlots h' → R (.error (.ref e)) { s with heap := h', toks := tk' }) →
    codeAny (model PySem.Challenge.rw_dr0124_01.row.prog w) { handled := none, depth := dp, frames := some (env :: outer), guards := gd, units := un } (.call (.ref 102) ⟨[.ref x, .str y t], []⟩) R s := by
  k_fill
  intro w mean mg mb dp un gd A₀ base h₀ outer env L m news s x d l tk vs n ps y t R B F X _ T hf hke hdep hun m1 m2 offl hy hD hps hvs N₀ ret err
  have N : News h₀ L s.heap ((l, W.listOf vs.toArray n) :: (x, instObj 184 d) :: (d, hdDict w tk l) :: news) :=
    List.forall_mem_cons.mpr ⟨N₀ _ (.head _), List.forall_mem_cons.mpr ⟨N₀ _ (.tail _ m1), List.forall_mem_cons.mpr ⟨N₀ _ (.tail _ m2), fun p hp => N₀ p (.tail _ hp)⟩⟩⟩
  refine' code_defC B F X N T rfl hf hke ?k6 ?k7 ?k8 ?k9 ?kB ?kD ?_ ?c2 ?c3 ?c4
  case k6 => k_is
  case k7 => k_is
  case k8 => (show dp < recursionLimit); omega
  case k9 => first | exact BindsTo.of_eq rfl | exact binds_K (by k_in) rfl (by k_is) rfl rfl rfl
  case kB => exact rfl
  case kD => decide +kernel
  case c2 => exact rfl
  case c3 => exact rfl
  case c4 => exact rfl
  intro g' L' h' tk' cells' FG' F' N' Y' B' X' T' l1
  have l0 := l1
  (try k_lt l1); k_cells Y'; (try simp only [List.cons_append, List.nil_append] at N'); (try dsimp only); (try k_lift B'); (try k_fold)

  have offc : OwnOff news [L' + 1, l] := fun p hp b hb => by
    rcases List.mem_cons.mp hb with rfl | hb
    · exact Nat.ne_of_lt (Nat.lt_succ_of_lt (l0 p (.tail _ (.tail _ (.tail _ hp)))))
    · rw [List.mem_singleton.mp hb]; exact offl p hp
  w_strict k_steps
  · exact err (by assumption) _ _ _ _ _ _ (raised_sub (by assumption) fun _ h => .tail _ (by rcases List.mem_cons.mp h with rfl | h; exact .head _; exact .tail _ (.tail _ (.tail _ h)))) FG' (by assumption)
  · refine Hold.intro ?_
    (rename bad true (Txt.lower y) = false => hok)
    (rename Fr _ _ _ _ => F1)
    (rename News _ _ _ _ => N1)
    refine' ListComp_TL F1 ?q1 ?q2 ?q3 ?q4 ?q5 ?_ ?q6
    case q1 => exact rfl
    case q2 => decide
    case q3 => exact rfl
    case q4 => decide
    case q5 => exact rfl
    case q6 => exact fun _ => rfl
    w_strict k_steps
    refine ⟨l, vs, n, _, rfl, rfl, F1, N1, .tail _ (.head _), Nat.le_trans hvs (by decide), fun g => ?_⟩
    refine restT_inv (n := vs.length) (fun i ys => DatAll news ys (((ps.take i).filter fun p => Txt.lower p.1 != Txt.lower y).map d2)) (.inr ⟨_, .tail _ (.head _), rfl, n, rfl⟩) (fun ys hys => ?_) (fun i ys v I oI C oC D m₂ h tk E' hi hInv hP hNs hmx F2 N2 => ?_) _ 0 [] (by omega) .nil
    · intro D h tk F2 N2 o1
      clear N1 F1
      w_strict k_steps
      have hlen : ys.length ≤ 1000 := by
        have h1 := hys.length
        rw [List.length_map] at h1
        have h2 := List.length_filter_le (fun p : Str × Str => Txt.lower p.1 != Txt.lower y) (ps.take vs.length)
        have h3 := List.length_take_le vs.length ps
        omega
      have hDl : D ≠ l := by
        have := (off1_mem o1) _ (.tail _ (.head _))
        exact fun e => this e.symm
      refine setItem_whole F2 N2 (.tail hDl (.tail (by k_ne) (.head (List.forall_mem_cons.mpr ⟨offl _ m1, List.forall_mem_cons.mpr ⟨offl _ m2, offl⟩⟩)))) (.head _) hDl.symm (by omega) hlen fun h1 k F3 N3 => ?_
      (try dsimp only at N3)
      clear F2 N2
      w_strict k_steps
      (rename News _ _ _ _ => kN)
      have hl : vs.length = ps.length := by have := hD.length; rwa [List.length_map] at this
      rw [hl, List.take_length] at hys
      exact ret hok _ _ _ _ (by assumption) (List.forall_mem_cons.mpr ⟨kN _ (.tail _ (.tail _ (.head _))), fun q hq => kN q (.tail _ (.tail _ (.tail _ (.tail _ (.tail _ hq)))))⟩) hys
    · clear N1 F1
      obtain ⟨p, a, n', t2, u2, hp, rfl, hm⟩ := d2_at hD hP
      have N3 : News g' L' h ((a, ({ cls := .type "tuple", data := .seq #[.str p.1 t2, .str p.2 u2] n' } : Obj)) :: (I, oI) :: (C, oC) :: (D, LCg.lst ys) :: _ :: (l, W.listOf vs.toArray n) :: (x, instObj 184 d) :: (d, hdDict w _ l) :: news) :=
        List.forall_mem_cons.mpr ⟨N2 _ (.tail _ (.tail _ (.tail _ (.tail _ (.tail _ (.tail _ (.tail _ hm))))))), N2⟩
      have hpl := hps p (List.mem_of_getElem? hp)
      have htake : ps.take (i + 1) = ps.take i ++ [p] := by rw [List.take_add_one, hp]; rfl
      w_strict k_steps
      · rename (Txt.lower p.1 != Txt.lower y) = true => hk
        refine TurnAt.mk F2 N2 ?_
        rw [htake, List.filter_append, List.map_append, List.filter_cons_of_pos (by exact hk)]
        exact hInv.append (.one (.tuple hm (.cons (.str _ _) (.cons (.str _ _) .nil))))
      · rename (Txt.lower p.1 != Txt.lower y) = false => hk
        refine TurnAt.mk F2 N2 ?_
        rw [htake, List.filter_append, List.map_append, List.filter_cons_of_neg (by rw [hk]; exact Bool.false_ne_true)]
        simpa using hInv
end
end Mine
end
section
open PySem PySem.W PyProof.Rows PySem.Calls PySem.Spec

namespace Mine
theorem offSe : True := by (w_top off; exact trivial)
theorem allLt_mem {d : Addr} : ∀ {l : List (Addr × Obj)}, AllLt d l → ∀ p ∈ l, p.1 < d
  | [], _, _, h => nomatch h
  | _ :: _, x, p, h => by
    rcases List.mem_cons.mp h with rfl | h
    · exact x.1
    · exact allLt_mem x.2 p h
theorem drop2 {p q : Addr × Obj} {news : List (Addr × Obj)} {vs : List Value} {ds : List Dat} (h : DatAll (p :: q :: news) vs ds) (hp : p ∈ news) (hq : q ∈ news) : DatAll news vs ds := h.mono fun r hr => by
  rcases List.mem_cons.mp hr with rfl | hr
  · exact hp
  · rcases List.mem_cons.mp hr with rfl | hr
    · exact hq
    · exact hr
theorem ksp_delItem {M : Model} {A : Around} {E : Value → Shared → Prop} {s : Shared} {K : Frag} {x C L f : Addr} {h₀ : Heap} {m : Str → Option Value} {ox : Obj} {od : Option Obj} {i : Value} {Q : Unit → Shared → Prop} (F : Fr h₀ L s.heap m) (X₀ : K.In h₀) (I : InstAt s.heap x ox C od) (hq : noSeq K C = true) (hs : findIn K (.ref C) "__delitem__" = some (some (.ref f))) (hf : isFn K (.ref f) = true)
    (h : wpAny M A (call (.ref f) [.ref x, i]) (fun _ s' => Q () s') E s) : wpAny M A (delItem (.ref x) i) Q E s := by
  have X := X₀.keeps F.keep
  unfold delItem sequenceKey
  refine wpAny_holding (wpAny_bind (wpAny_bind (I.type.here ?_)))
  refine wpAny_bind ((anyM_none X hq).here ?_)
  rw [if_pos (show (!false) = true from rfl)]
  exact wpAny_pure (wpAny_bind (special_fn X I hs (beq_iff_eq.mp hf) (wpAny_mono h (fun _ _ z => wpAny_pure z) fun _ _ z => z)))
section
local macro_rules | `(tactic| walk_at "idle") => `(tactic| fail)
local macro_rules | `(tactic| walk_at "delItem ref str") => `(tactic| (k_here; (with_reducible show wpAny _ _ (delItem (Value.ref _) _) _ _ _); k_dflt (refine' ksp_delItem ?F ?X ?I ?hQ ?hS ?hF ?_; (case F => k_asm); (case X => k_asm); (case I => k_inst); (case hS => k_is); (case hF => k_is); (case hQ => k_is); k_whole); refine Hold.back ?_))
local macro_rules | `(tactic| walk_at "call ref") => `(tactic| (k_here; (with_unfolding_all show wpAny _ _ (call (Value.ref 83) [_, Value.str _ _] _) _ _ _); (with_unfolding_all refine' conv_wp ?k1 ?k2 ?k3 ?k4 ?k5 ?k6 ?k7 ?k8 ?k9 ?k10 ?_ ?_); (case k1 => assumption); (case k2 => k_asm); (case k3 => k_asm); (case k4 => k_asm); (case k5 => k_asm); (case k6 => exact rfl); (case k7 => exact rfl); (case k8 => first | omega | (dsimp only [Around.deeper]; omega)); (case k9 => first | omega | (dsimp only [Around.deeper]; omega)); (case k10 => first | omega | assumption); (intro cvOk h' tk' F' N'); rotate_left; (intro cvBad h' tk' g'' e' t' vs' R' FG'' U'); rotate_left))
local macro_rules | `(tactic| walk_at "leaving ref") => `(tactic| (k_here; (refine' leave_onKX ?k0 ?k1 ?k2 ?k3 ?k4 ?_; (case k0 => exact rfl); (case k3 => assumption); (case k1 => assumption); (case k4 => assumption); (case k2 => assumption); k_whole; intro h' R' U'; (try dsimp only at R' U' ⊢))))

theorem setC : ∀ (w : World) (mean : ExcName → Option Value) (mg mb : Str → Option Value) (dp un : Nat) (gd : Option (List Code)) (A₀ : Around) (base h₀ : Heap) (outer : List Env) (env : Env) (L : Addr) (m : Str → Option Value) (news : List (Addr × Obj)) (s : Shared)
    (x d l : Addr) (dt : Tok) (vs : List Value) (n : Nat) (ps : List (Str × Str)) (y z : Str) (t u : Tok) (R : Result → Shared → Prop),
    Below A₀ base outer h₀ → Fr h₀ L s.heap m → (hd.heap_39 w.params).In h₀ → News h₀ L s.heap news → Top hd.view_39 LS mean mg mb h₀ →
    env.frame = some L → env.scope.kind = .function → dp + 12 < recursionLimit → un + 200 < cLine →
    (x, instObj 184 d) ∈ news → (d, hdDict w dt l) ∈ news → (∀ p ∈ news, p.1 ≠ l) → y.length ≤ 100 → z.length ≤ 100 →
    DatAll news vs (ps.map d2) → (∀ p ∈ ps, p.1.length ≤ 1000) → vs.length ≤ 100 →
    News h₀ L s.heap ((l, W.listOf vs.toArray n) :: news) → bad true (Txt.lower y) = bad true y →
    (bad true y = false → bad false z = false → ∀ h' tk' ys k a j t u, Fr h₀ L h' m → News h₀ L h' ((l, W.listOf ys.toArray k) :: (a, ({ cls := .type "tuple", data := .seq #[.str y t, .str z u] j } : Obj)) :: news) → (∀ p ∈ (l, W.listOf ys.toArray k) :: news, p.1 < a) →
      DatAll ((a, ({ cls := .type "tuple", data := .seq #[.str y t, .str z u] j } : Obj)) :: news) ys (((ps.filter fun p => Txt.lower p.1 != Txt.lower y) ++ [(y, z)]).map d2) → R (.ok (.ret .none)) { s with heap := h', toks := tk' }) →
    (bad true y = true → ∀ h' tk' g e t vs', RaisedK base (env :: outer) e (.type "ValueError") t vs' ((l, W.listOf vs.toArray n) :: news) h' → Fr h₀ L g m → g.UpToSlots h' → R (.error (.ref e)) { s with heap := h', toks := tk' }) →
    (bad true y = false → bad false z = true → ∀ h' tk' g e t vs' ys k, RaisedK base (env :: outer) e (.type "ValueError") t vs' ((l, W.listOf ys.toArray k) :: news) h' → Fr h₀ L g m → g.UpToSlots h' →
      DatAll news ys ((ps.filter fun p => Txt.lower p.1 != Txt.lower y).map d2) → R (.error (.ref e)) { s with heap := h', toks := tk' }) →
    codeAny (model PySem.Challenge.rw_dr0124_01.row.prog w) { handled := none, depth := dp, frames := some (env :: outer), guards := gd, units := un } (.call (.ref 97) ⟨[.ref x, .str y t, .str z u], []⟩) R s := by
  k_fill
  intro w mean mg mb dp un gd A₀ base h₀ outer env L m news s x d l dt vs n ps y z t u R B F X _ T hf hke hdep hun m1 m2 offl hy hz hD hps hvs N₀ hlow ret err1 err2
  have N : News h₀ L s.heap ((l, W.listOf vs.toArray n) :: (x, instObj 184 d) :: (d, hdDict w dt l) :: news) :=
    List.forall_mem_cons.mpr ⟨N₀ _ (.head _), List.forall_mem_cons.mpr ⟨N₀ _ (.tail _ m1), List.forall_mem_cons.mpr ⟨N₀ _ (.tail _ m2), fun p hp => N₀ p (.tail _ hp)⟩⟩⟩
  refine' code_def B F X N T rfl hf hke ?k6 ?k7 ?k8 ?k9 ?kB ?_ ?c2 ?c3 ?c4 ?c5
  case k6 => k_is
  case k7 => k_is
  case k8 => (show dp < recursionLimit); omega
  case k9 => first | exact BindsTo.of_eq rfl | exact binds_K (by k_in) rfl (by k_is) rfl rfl rfl
  case c5 => decide
  case kB => exact locs rfl
  case c2 => exact rfl
  case c3 => exact rfl
  case c4 => exact rfl
  intro g' L' h' FG' F' N' B' X' T'
  (try dsimp only); (try k_lift B'); (try k_fold)

  w_strict k_steps
  refine Hold.intro (wpAny_call ?_)
  have offc : OwnOff news [l] := fun p hp b hb => by rw [List.mem_singleton.mp hb]; exact offl p hp
  have hD' : DatAll ((x, instObj 184 d) :: (d, hdDict w dt l) :: news) vs (ps.map d2) := hD.mono fun p hp => .tail _ (.tail _ hp)
  refine delC w mean mg mb _ _ _ _ base g' _ _ L' _ ((x, instObj 184 d) :: (d, hdDict w dt l) :: news) _ x d l dt vs n ps y t _ B' F' X' (fun p hp => N' p (List.mem_cons_of_mem _ hp)) T' rfl rfl ?_ ?_ (.head _) (.tail _ (.head _)) (List.forall_mem_cons.mpr ⟨offl _ m1, List.forall_mem_cons.mpr ⟨offl _ m2, offl⟩⟩) hy hD' hps hvs N' ?_ ?_
  · show dp + 1 + 8 < recursionLimit; omega
  · show un + 3 + 150 < cLine; omega
  · clear N' F'
    intro hok h1 tk1 ys k F1 N1 hys
    have hyl : ys.length ≤ 100 := by
      have e1 := hys.length
      have e2 := hD.length
      rw [List.length_map] at e1 e2
      have e3 := List.length_filter_le (fun p : Str × Str => Txt.lower p.1 != Txt.lower y) ps
      omega
    have hyz : ys.toArray.size ≤ 100 := by rw [List.size_toArray]; exact hyl
    (try dsimp only)
    w_strict k_steps
    · rename_i D3 h3 F3 N3 l3
      have low := allLt_mem l3.2.2.2
      refine append_K F3 N3 (.tail (by k_ne) (.head (List.forall_mem_cons.mpr ⟨offl _ m1, List.forall_mem_cons.mpr ⟨offl _ m2, offl⟩⟩))) (fun h4 F4 N4 => ?_) (Nat.le_trans hyz (by decide))
      clear F3 N3
      w_strict k_steps
      (rename News _ _ _ _ => kN)
      refine ret (by rw [← hlow]; exact hok) (by assumption) _ _ (ys ++ [.ref D3]) (k + 1) D3 0 t u (by assumption) (List.forall_mem_cons.mpr ⟨?_, List.forall_mem_cons.mpr ⟨kN _ (.head _), fun q hq => kN q (.tail _ (.tail _ (.tail _ (.tail _ hq))))⟩⟩) (List.forall_mem_cons.mpr ⟨l3.1, low⟩) ?_
      · have := kN _ (.tail _ (.head _))
        rwa [List.push_toArray] at this
      · rw [List.map_append]
        exact ((drop2 hys m1 m2).mono fun p hp => .tail _ hp).append (.one (.tuple (.head _) (.cons (.str _ _) (.cons (.str _ _) .nil))))
    · exact err2 (by rw [← hlow]; exact hok) (by assumption) _ _ _ _ _ _ ys k (raised_sub (by assumption) fun _ h => by rcases List.mem_cons.mp h with rfl | h; exact .head _; exact .tail _ (.tail _ (.tail _ h))) FG' (by assumption) (drop2 hys m1 m2)
    · rename bad true y = true => hbad
      rw [← hlow, hok] at hbad
      cases hbad
  · clear N' F'
    intro hok h1 tk1 g1 e1 t1 vs1 R1 F1 U1
    (try dsimp only)
    w_strict k_steps
    exact err1 (by rw [← hlow]; exact hok) _ _ _ _ _ _ (raised_sub (by assumption) fun _ h => by rcases List.mem_cons.mp h with rfl | h; exact .head _; exact .tail _ (.tail _ (.tail _ h))) FG' (by assumption)
end
end Mine
end
section
open PySem PySem.W PyProof.Rows PySem.Calls PySem.Spec

namespace Mine
theorem offSd : True := by (w_top off; exact trivial)
section
local macro_rules | `(tactic| walk_at "call ref") => `(tactic| (k_here; (with_unfolding_all show wpAny _ _ (call (Value.ref 83) [_, Value.str _ _] _) _ _ _); (with_unfolding_all refine' conv_wp ?k1 ?k2 ?k3 ?k4 ?k5 ?k6 ?k7 ?k8 ?k9 ?k10 ?_ ?_); (case k1 => assumption); (case k2 => k_asm); (case k3 => k_asm); (case k4 => k_asm); (case k5 => k_asm); (case k6 => exact rfl); (case k7 => exact rfl); (case k8 => first | omega | (dsimp only [Around.deeper]; omega)); (case k9 => first | omega | (dsimp only [Around.deeper]; omega)); (case k10 => first | omega | assumption); (intro cvOk h' tk' F' N'); rotate_left; (intro cvBad h' tk' g'' e' t' vs' R' FG'' U'); rotate_left))
local macro_rules | `(tactic| walk_at "leaving ref") => `(tactic| (k_here; (refine' leave_onKX ?k0 ?k1 ?k2 ?k3 ?k4 ?_; (case k0 => exact rfl); (case k3 => assumption); (case k1 => assumption); (case k4 => assumption); (case k2 => assumption); k_whole; intro h' R' U'; (try dsimp only at R' U' ⊢))))
local macro_rules | `(tactic| walk_at "call ref") => `(tactic| (k_here; (with_unfolding_all show wpAny _ _ (call (Value.ref 131) [_, Value.str _ _] []) _ _ _); refine Hold.back ?_))
theorem sub3 {a b c : Addr × Obj} {news : List (Addr × Obj)} : ∀ p ∈ a :: news, p ∈ a :: b :: c :: news := fun _ h => by
  rcases List.mem_cons.mp h with rfl | h
  · exact .head _
  · exact .tail _ (.tail _ (.tail _ h))
theorem sdC : ∀ (w : World) (mean : ExcName → Option Value) (mg mb : Str → Option Value) (dp un : Nat) (gd : Option (List Code)) (A₀ : Around) (base h₀ : Heap) (outer : List Env) (env : Env) (L : Addr) (m : Str → Option Value) (news : List (Addr × Obj)) (s : Shared)
    (x d l : Addr) (dt : Tok) (vs : List Value) (n : Nat) (ps : List (Str × Str)) (y z : Str) (t u : Tok) (R : Result → Shared → Prop),
    Below A₀ base outer h₀ → Fr h₀ L s.heap m → (hd.heap_39 w.params).In h₀ → News h₀ L s.heap news → Top hd.view_39 LS mean mg mb h₀ →
    env.frame = some L → env.scope.kind = .function → dp + 12 < recursionLimit → un + 200 < cLine →
    (x, instObj 184 d) ∈ news → (d, hdDict w dt l) ∈ news → (∀ p ∈ news, p.1 ≠ l) → y.length ≤ 100 → z.length ≤ 100 →
    DatAll news vs (ps.map d2) → (∀ p ∈ ps, p.1.length ≤ 1000) → vs.length ≤ 100 →
    News h₀ L s.heap ((l, W.listOf vs.toArray n) :: news) → bad true (Txt.lower y) = bad true y →
    (bad true y = false → (ps.any fun p => Txt.lower p.1 == Txt.lower y) = true → ∀ h' tk' v, Fr h₀ L h' m → News h₀ L h' ((l, W.listOf vs.toArray n) :: news) → R (.ok (.ret v)) { s with heap := h', toks := tk' }) →
    (bad true y = false → (ps.any fun p => Txt.lower p.1 == Txt.lower y) = false → bad false z = false → ∀ h' tk' v ys k a j t u, Fr h₀ L h' m → News h₀ L h' ((l, W.listOf ys.toArray k) :: (a, ({ cls := .type "tuple", data := .seq #[.str y t, .str z u] j } : Obj)) :: news) → (∀ p ∈ (l, W.listOf ys.toArray k) :: news, p.1 < a) →
      DatAll ((a, ({ cls := .type "tuple", data := .seq #[.str y t, .str z u] j } : Obj)) :: news) ys ((ps ++ [(y, z)]).map d2) → R (.ok (.ret v)) { s with heap := h', toks := tk' }) →
    ((bad true y = true ∨ (bad true y = false ∧ (ps.any fun p => Txt.lower p.1 == Txt.lower y) = false ∧ bad false z = true)) → ∀ h' tk' g e t vs', RaisedK base (env :: outer) e (.type "ValueError") t vs' ((l, W.listOf vs.toArray n) :: news) h' → Fr h₀ L g m → g.UpToSlots h' → R (.error (.ref e)) { s with heap := h', toks := tk' }) →
    codeAny (model PySem.Challenge.rw_dr0124_01.row.prog w) { handled := none, depth := dp, frames := some (env :: outer), guards := gd, units := un } (.call (.ref 174) ⟨[.ref x, .str y t, .str z u], []⟩) R s := by
  k_fill
  intro w mean mg mb dp un gd A₀ base h₀ outer env L m news s x d l dt vs n ps y z t u R B F X _ T hf hke hdep hun m1 m2 offl hy hz hD hps hvs N₀ hlow ret1 ret2 err
  have N : News h₀ L s.heap ((l, W.listOf vs.toArray n) :: (x, instObj 184 d) :: (d, hdDict w dt l) :: news) :=
    List.forall_mem_cons.mpr ⟨N₀ _ (.head _), List.forall_mem_cons.mpr ⟨N₀ _ (.tail _ m1), List.forall_mem_cons.mpr ⟨N₀ _ (.tail _ m2), fun p hp => N₀ p (.tail _ hp)⟩⟩⟩
  refine' code_def B F X N T rfl hf hke ?k6 ?k7 ?k8 ?k9 ?kB ?_ ?c2 ?c3 ?c4 ?c5
  case k6 => k_is
  case k7 => k_is
  case k8 => (show dp < recursionLimit); omega
  case k9 => first | exact BindsTo.of_eq rfl | exact binds_K (by k_in) rfl (by k_is) rfl rfl rfl
  case c5 => decide
  case kB => exact locs rfl
  case c2 => exact rfl
  case c3 => exact rfl
  case c4 => exact rfl
  intro g' L' h' FG' F' N' B' X' T'
  (try dsimp only); (try k_lift B'); (try k_fold)

  w_strict k_steps
  refine Hold.intro (wpAny_call ?_)
  have offc : OwnOff news [l] := fun p hp b hb => by rw [List.mem_singleton.mp hb]; exact offl p hp
  have hD' : DatAll ((l, W.listOf vs.toArray n) :: (x, instObj 184 d) :: (d, hdDict w dt l) :: news) vs (ps.map d2) := hD.mono fun p hp => .tail _ (.tail _ (.tail _ hp))
  refine getC w mean mg mb _ _ _ _ base g' _ _ L' _ ((l, W.listOf vs.toArray n) :: (x, instObj 184 d) :: (d, hdDict w dt l) :: news) _ x d l dt vs n ps y t _ B' F' X' N' T' rfl rfl ?_ ?_ (.tail _ (.head _)) (.tail _ (.tail _ (.head _))) (.head _) hy hD' hps ?_ ?_ ?_
  · show dp + 1 + 8 < recursionLimit; omega
  · show un + 3 + 150 < cLine; omega
  · clear N' F'
    intro hok hany h1 tk1 z1 t1 F1 N1
    (try dsimp only)
    w_strict k_steps
    (rename News _ _ _ _ => kN)
    exact ret1 (by rw [← hlow]; exact hok) hany _ _ _ (by assumption) fun p hp => kN p (sub3 p hp)
  · clear N' F'
    intro hok hany h1 tk1 F1 N1
    (try dsimp only)
    have hyz : vs.toArray.size ≤ 100 := by rw [List.size_toArray]; exact hvs
    w_strict k_steps
    · rename_i D3 h3 F3 N3 l3
      have low := allLt_mem l3.2.2.2
      refine append_K F3 N3 (.tail (by k_ne) (.head (List.forall_mem_cons.mpr ⟨offl _ m1, List.forall_mem_cons.mpr ⟨offl _ m2, offl⟩⟩))) (fun h4 F4 N4 => ?_) (Nat.le_trans hyz (by decide))
      clear F3 N3
      w_strict k_steps
      (rename News _ _ _ _ => kN)
      refine ret2 (by rw [← hlow]; exact hok) hany (by assumption) _ _ _ (vs ++ [.ref D3]) (n + 1) D3 0 t u (by assumption) (List.forall_mem_cons.mpr ⟨?_, List.forall_mem_cons.mpr ⟨kN _ (.head _), fun q hq => kN q (.tail _ (.tail _ (.tail _ (.tail _ hq))))⟩⟩) (List.forall_mem_cons.mpr ⟨l3.1, low⟩) ?_
      · have := kN _ (.tail _ (.head _))
        rwa [List.push_toArray] at this
      · rw [List.map_append]
        exact (hD.mono fun p hp => .tail _ hp).append (.one (.tuple (.head _) (.cons (.str _ _) (.cons (.str _ _) .nil))))
    · exact err (.inr ⟨by rw [← hlow]; exact hok, hany, by assumption⟩) _ _ _ _ _ _ (raised_sub (by assumption) sub3) FG' (by assumption)
    · rename bad true y = true => hbad
      rw [← hlow, hok] at hbad
      cases hbad
  · clear N' F'
    intro hok h1 tk1 g1 e1 t1 vs1 R1 F1 U1
    (try dsimp only)
    w_strict k_steps
    exact err (.inl (by rw [← hlow]; exact hok)) _ _ _ _ _ _ (raised_sub (by assumption) sub3) FG' (by assumption)
end
end Mine
end
section
open PySem PySem.W PyProof.Rows PySem.Calls PySem.Spec

namespace Mine
theorem offIn : True := by (w_top off; exact trivial)
section
local macro_rules | `(tactic| walk_at "idle") => `(tactic| fail)
local macro_rules | `(tactic| walk_at "call ref") => `(tactic| (k_here; (with_unfolding_all show wpAny _ _ (call (Value.ref 83) [_, Value.str _ _] _) _ _ _); (with_unfolding_all refine' conv_wp ?k1 ?k2 ?k3 ?k4 ?k5 ?k6 ?k7 ?k8 ?k9 ?k10 ?_ ?_); (case k1 => assumption); (case k2 => k_asm); (case k3 => k_asm); (case k4 => k_asm); (case k5 => k_asm); (case k6 => exact rfl); (case k7 => exact rfl); (case k8 => first | omega | (dsimp only [Around.deeper]; omega)); (case k9 => first | omega | (dsimp only [Around.deeper]; omega)); (case k10 => first | omega | assumption); (intro cvOk h' tk' F' N'); rotate_left; (intro cvBad h' tk' g'' e' t' vs' R' FG'' U'); rotate_left))
local macro_rules | `(tactic| walk_at "leaving ref") => `(tactic| (k_here; (refine' leave_onKX ?k0 ?k1 ?k2 ?k3 ?k4 ?_; (case k0 => exact rfl); (case k3 => assumption); (case k1 => assumption); (case k4 => assumption); (case k2 => assumption); k_whole; intro h' R' U'; (try dsimp only at R' U' ⊢))))
local macro_rules | `(tactic| walk_at "exec For Tuple Name cons nil") => `(tactic| (refine Hold.back ?_))
theorem all_no {α : Type} {l : List α} {f : α → Bool} {a : α} (h : a ∈ l) (hf : f a = false) : l.all f = false := by
  cases e : l.all f with
  | false => rfl
  | true => rw [List.all_eq_true.mp e a h] at hf; cases hf
theorem initC : ∀ (w : World) (mean : ExcName → Option Value) (mg mb : Str → Option Value) (dp un : Nat) (gd : Option (List Code)) (A₀ : Around) (base h₀ : Heap) (outer : List Env) (env : Env) (L : Addr) (m : Str → Option Value) (news : List (Addr × Obj)) (s : Shared)
    (x d q : Addr) (vs : List Value) (n : Nat) (ps : List (Str × Str)) (R : Result → Shared → Prop),
    Below A₀ base outer h₀ → Fr h₀ L s.heap m → (hd.heap_39 w.params).In h₀ → News h₀ L s.heap news → Top hd.view_39 LS mean mg mb h₀ →
    env.frame = some L → env.scope.kind = .function → dp + 8 < recursionLimit → un + 150 < cLine →
    (x, instObj 184 d) ∈ news → (q, W.listOf vs.toArray n) ∈ news → (∀ p ∈ news, p.1 ≠ d) →
    DatAll news vs (ps.map d2) → (∀ p ∈ ps, p.1.length ≤ 1000 ∧ p.2.length ≤ 1000) → vs.length ≤ 100 →
    News h₀ L s.heap ((d, dictOf [] 0) :: news) →
    ((ps.all fun p => !bad true p.1 && !bad false p.2) = true → ∀ h' tk' dt, Fr h₀ L h' m → News h₀ L h' ((d, hdDict w dt q) :: news) → R (.ok (.ret .none)) { s with heap := h', toks := tk' }) →
    ((ps.all fun p => !bad true p.1 && !bad false p.2) = false → ∀ h' tk' g e t vs', RaisedK base (env :: outer) e (.type "ValueError") t vs' news h' → Fr h₀ L g m → g.UpToSlots h' → R (.error (.ref e)) { s with heap := h', toks := tk' }) →
    codeAny (model PySem.Challenge.rw_dr0124_01.row.prog w) { handled := none, depth := dp, frames := some (env :: outer), guards := gd, units := un } (.call (.ref 76) ⟨[.ref x, .ref q], []⟩) R s := by
  k_fill
  intro w mean mg mb dp un gd A₀ base h₀ outer env L m news s x d q vs n ps R B F X _ T hf hke hdep hun m1 m2 offd hD hps hvs N₀ ret err
  have N : News h₀ L s.heap ((d, dictOf [] 0) :: (x, instObj 184 d) :: (q, W.listOf vs.toArray n) :: news) :=
    List.forall_mem_cons.mpr ⟨N₀ _ (.head _), List.forall_mem_cons.mpr ⟨N₀ _ (.tail _ m1), List.forall_mem_cons.mpr ⟨N₀ _ (.tail _ m2), fun p hp => N₀ p (.tail _ hp)⟩⟩⟩
  refine' code_def B F X N T rfl hf hke ?k6 ?k7 ?k8 ?k9 ?kB ?_ ?c2 ?c3 ?c4 ?c5
  case k6 => k_is
  case k7 => k_is
  case k8 => (show dp < recursionLimit); omega
  case k9 => first | exact BindsTo.of_eq rfl | exact binds_K (by k_in) rfl (by k_is) rfl rfl rfl
  case c5 => decide
  case kB => exact locs rfl
  case c2 => exact rfl
  case c3 => exact rfl
  case c4 => exact rfl
  intro g' L' h' FG' F' N' B' X' T'
  (try dsimp only); (try k_lift B'); (try k_fold)

  have offc : OwnOff news [d] := fun p hp b hb => by rw [List.mem_singleton.mp hb]; exact offd p hp
  have hdx : x ≠ d := offd _ m1
  have hdq : q ≠ d := offd _ m2
  w_strict k_steps
  refine Hold.intro ?_
  (rename Fr _ _ _ _ => F1)
  (rename News _ _ _ _ => N1)
  refine' For_list F1 ?_ ?hs
  case hs => exact fun _ => rfl
  w_strict k_steps
  refine ⟨q, vs, n, _, _, (fun i m₁ => m₁ "self" = some (.ref x) ∧ ((ps.take i).all fun p => !bad true p.1 && !bad false p.2) = true), rfl, rfl, F1, N1, .tail _ (.tail _ (.head _)), ⟨rfl, rfl⟩, ?_, ?_⟩
  · clear F1 N1
    rintro i v m₁ I oI h tk hv ⟨e1, e3⟩ F1 N1 off
    obtain ⟨p, a, n', t2, u2, hp, rfl, hm⟩ := d2_at hD hv
    replace F1 := fr_know F1 e1
    have N2 : News g' L' h ((a, ({ cls := .type "tuple", data := .seq #[.str p.1 t2, .str p.2 u2] n' } : Obj)) :: (I, oI) :: (d, hdDict w _ q) :: (x, instObj 184 d) :: (q, W.listOf vs.toArray n) :: news) :=
      List.forall_mem_cons.mpr ⟨N1 _ (.tail _ (.tail _ (.tail _ (.tail _ hm)))), N1⟩
    have hpl := hps p (List.mem_of_getElem? hp)
    have htake : ps.take (i + 1) = ps.take i ++ [p] := by rw [List.take_add_one, hp]; rfl
    w_strict k_steps
    · rename bad true p.1 = false => b1
      rename bad false p.2 = false => b2
      (rename Fr _ _ _ _ => F3)
      (rename News _ _ _ _ => N3)
      exact TurnEnd.mk F3 N3 ⟨rfl, by rw [htake, List.all_append, e3, List.all_cons, b1, b2]; rfl⟩
    · rename bad true p.1 = false => b1
      rename bad false p.2 = true => b2
      exact err (all_no (List.mem_of_getElem? hp) (by rw [b1, b2]; rfl)) _ _ _ _ _ _ (raised_sub (by assumption) fun _ h => .tail _ (.tail _ (.tail _ (.tail _ h)))) FG' (by assumption)
    · rename bad true p.1 = true => b1
      exact err (all_no (List.mem_of_getElem? hp) (by rw [b1]; rfl)) _ _ _ _ _ _ (raised_sub (by assumption) fun _ h => .tail _ (.tail _ (.tail _ (.tail _ h)))) FG' (by assumption)
  · clear F1 N1
    rintro h tk m₁ ⟨e1, e3⟩ F1 N1
    w_strict k_steps
    (rename News _ _ _ _ => kN)
    have hl : vs.length = ps.length := by have := hD.length; rwa [List.length_map] at this
    rw [hl, List.take_length] at e3
    exact ret e3 _ _ _ (by assumption) fun p hp => kN p (sub3 p hp)
end
end Mine
end
section
open PySem PySem.W PyProof.Rows PySem.Calls PySem.Spec

namespace Mine
theorem offAh : True := by (w_top off; exact trivial)
abbrev ahNames : List Str := [Str.ofString "self", Str.ofString "_name", Str.ofString "_value"]
abbrev ahVal (z k o : Str) : Str := Txt.join (Str.ofString "; ") [z, fmtOf k o]
theorem app_len (a b : Str) : (a ++ b).length = a.length + b.length := by
  show (a.cps ++ b.cps).size = _
  rw [Array.size_append]; rfl
theorem fmt_len {p v : Str} (hp : p.length ≤ 100) (hv : v.length ≤ 100) : (fmtOf p v).length ≤ 1000 := by
  unfold fmtOf
  split
  · rw [app_len, app_len, app_len, app_len]
    have e1 : Str.empty.length = 0 := rfl
    have e2 : (Str.ofString "=\"").length = 2 := by decide
    have e3 : (Str.ofString "\"").length = 1 := by decide
    omega
  · omega
section
local macro_rules | `(tactic| walk_at "idle") => `(tactic| fail)
local macro_rules | `(tactic| walk_at "call builtin:str.replace") => `(tactic| (with_unfolding_all first | refine replace_none (c := 95) (by assumption) ?_))
local macro_rules | `(tactic| walk_at "call ref") => `(tactic| (k_here; (with_unfolding_all show wpAny _ _ (call (Value.ref 83) [_, Value.str _ _] _) _ _ _); (with_unfolding_all refine' conv_wp ?k1 ?k2 ?k3 ?k4 ?k5 ?k6 ?k7 ?k8 ?k9 ?k10 ?_ ?_); (case k1 => assumption); (case k2 => k_asm); (case k3 => k_asm); (case k4 => k_asm); (case k5 => k_asm); (case k6 => exact rfl); (case k7 => exact rfl); (case k8 => first | omega | (dsimp only [Around.deeper]; omega)); (case k9 => first | omega | (dsimp only [Around.deeper]; omega)); (case k10 => first | omega | assumption); (intro cvOk h' tk' F' N'); rotate_left; (intro cvBad h' tk' g'' e' t' vs' R' FG'' U'); rotate_left))
local macro_rules | `(tactic| walk_at "leaving ref") => `(tactic| (k_here; (refine' leave_onKX ?k0 ?k1 ?k2 ?k3 ?k4 ?_; (case k0 => exact rfl); (case k3 => assumption); (case k1 => assumption); (case k4 => assumption); (case k2 => assumption); k_whole; intro h' R' U'; (try dsimp only at R' U' ⊢))))
local macro_rules | `(tactic| walk_at "call ref") => `(tactic| ((with_unfolding_all show wpAny _ _ (call (Value.ref 61) [Value.str _ _, Value.str _ _]) _ _ _); (refine Hold.back ?_)))

theorem addC : ∀ (w : World) (mean : ExcName → Option Value) (mg mb : Str → Option Value) (dp un : Nat) (gd : Option (List Code)) (A₀ : Around) (base h₀ : Heap) (outer : List Env) (env : Env) (L : Addr) (m : Str → Option Value) (news : List (Addr × Obj)) (s : Shared)
    (x d l : Addr) (dt : Tok) (vs : List Value) (n : Nat) (ps : List (Str × Str)) (y z k o : Str) (t u t1 : Tok) (R : Result → Shared → Prop),
    Below A₀ base outer h₀ → Fr h₀ L s.heap m → (hd.heap_39 w.params).In h₀ → News h₀ L s.heap news → Top hd.view_39 LS mean mg mb h₀ →
    env.frame = some L → env.scope.kind = .function → dp + 12 < recursionLimit → un + 200 < cLine →
    (x, instObj 184 d) ∈ news → (d, hdDict w dt l) ∈ news → (∀ p ∈ news, p.1 ≠ l) → y.length ≤ 100 → z.length ≤ 100 → k.length ≤ 100 → o.length ≤ 100 →
    ahNames.contains k = false → 95 ∉ k.cps.toList → 92 ∉ o.cps.toList → 34 ∉ o.cps.toList →
    DatAll news vs (ps.map d2) → vs.length ≤ 100 →
    News h₀ L s.heap ((l, W.listOf vs.toArray n) :: news) →
    (bad true y = false → bad false z = false → bad true k = false → bad false o = false → ∀ h' tk' ys k' a j t u, Fr h₀ L h' m → News h₀ L h' ((l, W.listOf ys.toArray k') :: (a, ({ cls := .type "tuple", data := .seq #[.str y t, .str (ahVal z k o) u] j } : Obj)) :: news) → (∀ p ∈ (l, W.listOf ys.toArray k') :: news, p.1 < a) →
      DatAll ((a, ({ cls := .type "tuple", data := .seq #[.str y t, .str (ahVal z k o) u] j } : Obj)) :: news) ys ((ps ++ [(y, ahVal z k o)]).map d2) → R (.ok (.ret .none)) { s with heap := h', toks := tk' }) →
    ((bad true y || bad false z || bad true k || bad false o) = true → ∀ h' tk' g e t vs', RaisedK base (env :: outer) e (.type "ValueError") t vs' ((l, W.listOf vs.toArray n) :: news) h' → Fr h₀ L g m → g.UpToSlots h' → R (.error (.ref e)) { s with heap := h', toks := tk' }) →
    codeAny (model PySem.Challenge.rw_dr0124_01.row.prog w) { handled := none, depth := dp, frames := some (env :: outer), guards := gd, units := un } (.call (.ref 181) ⟨[.ref x, .str y t, .str z u], [(k, .str o t1)]⟩) R s := by
  k_fill
  intro w mean mg mb dp un gd A₀ base h₀ outer env L m news s x d l dt vs n ps y z k o t u t1 R B F X _ T hf hke hdep hun m1 m2 offl hy hz hk ho hkn h95 h92 h34 hD hvs N₀ ret err
  have N : News h₀ L s.heap ((l, W.listOf vs.toArray n) :: (x, instObj 184 d) :: (d, hdDict w dt l) :: news) :=
    List.forall_mem_cons.mpr ⟨N₀ _ (.head _), List.forall_mem_cons.mpr ⟨N₀ _ (.tail _ m1), List.forall_mem_cons.mpr ⟨N₀ _ (.tail _ m2), fun p hp => N₀ p (.tail _ hp)⟩⟩⟩
  have hl0 : l < h₀.objs.size ∨ True := .inr trivial
  refine' kp_more (nm := Str.ofString "_params") (ex := [(k, .str o t1)]) (DD := [(.str k, .str o)]) (front := [(Str.ofString "self", .ref x), (Str.ofString "_name", .str y t), (Str.ofString "_value", .str z u)]) B F X N T rfl hf hke ?k6 ?k7 ?k8 ?kX ?kM ?kN ?kD ?kR ?kP ?kT ?kB ?_ ?c2 ?c3 ?c4 ?c5
  case k6 => k_is
  case k7 => k_is
  case k8 => (show dp < recursionLimit); omega
  case kM => exact rfl
  case kN => exact rfl
  case kD => exact .cons (by k_flat) .nil
  case kX => (show List.filter (fun x => !(ahNames.contains x.1 || false)) [(k, Value.str o t1)] = _); rw [List.filter_cons, hkn]; exact rfl
  case kR => (show peek _ _ (bindArgs _ ⟨_, List.filter (fun x => (ahNames.contains x.1 || false)) [(k, Value.str o t1)]⟩) = _); rw [List.filter_cons, hkn]; exact rfl
  case kP =>
    unfold bindArgs
    simp only [List.map_cons, List.map_nil, List.nil_append, hkn, List.contains_nil, Bool.or_false, Bool.false_eq_true, ↓reduceIte, List.forIn_cons, List.forIn_nil, pure_bind, Option.isSome_some]
    exact rfl
  case kT => exact fun _ => rfl
  case kB => exact fun _ => locs rfl
  case c5 => decide
  case c2 => exact rfl
  case c3 => exact rfl
  case c4 => exact rfl
  intro D' o' g' L' h' tk' l1 lo' hs' fs' FG' F' N' B' X' T'
  (try dsimp only); (try k_lift B'); (try k_fold)
  have offc : OwnOff news [l] := fun p hp b hb => by rw [List.mem_singleton.mp hb]; exact offl p hp
  clear fs'
  k_lt l1
  w_strict k_steps
  · (rename Fr _ _ _ _ => lF)
    (rename News _ _ _ _ => lN)
    with_unfolding_all ((refine' For_turns lF ?_); k_whole; (refine MethodCall_ ?_); (refine ld lF (by rfl) ?_); (refine kdl_method (knd := PySem.strKind _ _) PySem.F.slot_dict_items PySem.F.type_dict_items lN (by k_mem) (by k_asm) ?_); (refine callWith_method0 ?_); (refine kta_callItems (knd := PySem.strKind _ _) lF lN (by k_mem) hs' lo' ?_); intro h'' hv'' F'' N''; (refine kta_items (knd := PySem.strKind _ _) (enc := PyData.str) (xs := [Itm.pair (fun t => .str k t) (.str o t1)]) (by rfl) F'' N'' hv'' (by k_mem) hs' (fun _ _ h => Value.isStrOf_shape h) (by rfl) ?_))
    clear lF lN
    intro i' l2
    k_lt l2
    w_strict k_steps
    · refine Hold.intro (wpAny_call ?_)
      (rename Fr _ _ _ _ => lF)
      (rename News _ _ _ _ => lN)
      refine fmtP w mean mg mb _ _ _ _ base g' _ _ L' _ _ _ k o _ _ _ B' lF X' lN T' rfl rfl ?_ ?_ hk ho h92 h34 ?_
      · show dp + 1 + 4 < recursionLimit; omega
      · show un + 3 + 100 < cLine; omega
      clear lF lN
      intro h3 tk3 t3 lF lN
      have hfl : (fmtOf k o).length ≤ 1000 := fmt_len hk ho
      (try dsimp only)
      w_strict k_steps
      (rename Fr _ _ _ _ => lF)
      (rename News _ _ _ _ => lN)
      refine ⟨_, _, _, _, rfl, lF, lN, fun p hp q hq => ?_, ⟨.tail _ (.head _), trivial⟩, ?_⟩
      · obtain rfl := List.mem_singleton.mp hq
        refine Nat.ne_of_lt (allLt_mem ?_ p hp)
        exact l2
      clear lF lN
      w_strict k_steps
      · rename_i D3 h3 F3 N3 l3
        have low := allLt_mem l3.2.2.2.2.2
        have hsz : vs.toArray.size ≤ 100 := by rw [List.size_toArray]; exact hvs
        refine append_K F3 N3 (.tail (by k_ne) (.tail (by k_ne) (.tail (by k_ne) (.head (List.forall_mem_cons.mpr ⟨offl _ m1, List.forall_mem_cons.mpr ⟨offl _ m2, offl⟩⟩))))) (fun h4 F4 N4 => ?_) (Nat.le_trans hsz (by decide))
        clear F3 N3
        w_strict k_steps
        (rename News _ _ _ _ => kN)
        refine ret (by assumption) (by assumption) (by assumption) (by assumption) _ _ (vs ++ [.ref D3]) (n + 1) D3 0 _ _ (by assumption) (List.forall_mem_cons.mpr ⟨?_, List.forall_mem_cons.mpr ⟨kN _ (.head _), fun q hq => kN q (.tail _ (.tail _ (.tail _ (.tail _ (.tail _ (.tail _ hq))))))⟩⟩) (List.forall_mem_cons.mpr ⟨l3.2.2.1, low⟩) ?_
        · have := kN _ (.tail _ (.tail _ (.tail _ (.head _))))
          rwa [List.push_toArray] at this
        · rw [List.map_append]
          exact (hD.mono fun p hp => .tail _ hp).append (.one (.tuple (.head _) (.cons (.str _ _) (.cons (.str _ _) .nil))))
      · rename bad true y = true => bb
        exact err (by rw [bb]; rfl) _ _ _ _ _ _ (raised_sub (by assumption) fun _ h => by rcases List.mem_cons.mp h with rfl | h; exact .tail _ (.tail _ (.head _)); exact .tail _ (.tail _ (.tail _ (.tail _ (.tail _ h))))) FG' (by assumption)
    · rename bad false o = true => bb
      exact err (by rw [bb, Bool.or_true]) _ _ _ _ _ _ (raised_sub (by assumption) fun _ h => by rcases List.mem_cons.mp h with rfl | h; exact .tail _ (.tail _ (.tail _ (.head _))); exact .tail _ (.tail _ (.tail _ (.tail _ (.tail _ (.tail _ h)))))) FG' (by assumption)
    · rename bad true k = true => bb
      exact err (by rw [bb, Bool.or_true, Bool.true_or]) _ _ _ _ _ _ (raised_sub (by assumption) fun _ h => by rcases List.mem_cons.mp h with rfl | h; exact .tail _ (.tail _ (.tail _ (.head _))); exact .tail _ (.tail _ (.tail _ (.tail _ (.tail _ (.tail _ h)))))) FG' (by assumption)
  · rename bad false z = true => bb
    exact err (by rw [bb, Bool.or_true]; rfl) _ _ _ _ _ _ (raised_sub (by assumption) fun _ h => by rcases List.mem_cons.mp h with rfl | h; exact .tail _ (.tail _ (.head _)); exact .tail _ (.tail _ (.tail _ (.tail _ (.tail _ h))))) FG' (by assumption)
end
end Mine
end
section
open PySem PySem.W PyProof.Rows PySem.Calls PySem.Spec

namespace Mine
theorem offSt : True := by (w_top off; exact trivial)
abbrev lineOf (p : Str × Str) : Str := p.1 ++ Str.ofString ": " ++ p.2
theorem line_len (p : Str × Str) : (lineOf p).length = p.1.length + 2 + p.2.length := by
  show (p.1 ++ Str.ofString ": " ++ p.2).length = _
  rw [app_len, app_len]
  have e2 : (Str.ofString ": ").length = 2 := by decide
  omega
theorem line_sum : ∀ (ps : List (Str × Str)), (∀ p ∈ ps, p.1.length ≤ 1000 ∧ p.2.length ≤ 1000) → ((ps.map lineOf).map (·.length)).sum ≤ ps.length * 2002
  | [], _ => Nat.le_refl _
  | p :: r, h => by
    have h1 := line_sum r fun q hq => h q (.tail _ hq)
    have h2 := h p (.head _)
    have h3 := line_len p
    rw [List.map_cons, List.map_cons, List.sum_cons, List.length_cons]
    omega
theorem line_room {ps : List (Str × Str)} (h : ∀ p ∈ ps, p.1.length ≤ 1000 ∧ p.2.length ≤ 1000) (hn : ps.length ≤ 100) : ((ps.map lineOf ++ [Str.empty, Str.empty]).map (·.length)).sum + (ps.map lineOf ++ [Str.empty, Str.empty]).length ≤ 1048576 := by
  have h1 := line_sum ps h
  have e1 : Str.empty.length = 0 := rfl
  rw [List.map_append, List.sum_append, List.length_append, List.length_map]
  have e2 : (List.map (fun x => x.length) [Str.empty, Str.empty]).sum = 0 := rfl
  have e3 : [Str.empty, Str.empty].length = 2 := rfl
  omega
section
local macro_rules | `(tactic| walk_at "eval ListComp") => `(tactic| (refine Hold.back ?_))
theorem strC : ∀ (w : World) (mean : ExcName → Option Value) (mg mb : Str → Option Value) (dp un : Nat) (gd : Option (List Code)) (A₀ : Around) (base h₀ : Heap) (outer : List Env) (env : Env) (L : Addr) (m : Str → Option Value) (news : List (Addr × Obj)) (s : Shared)
    (x d l : Addr) (dt : Tok) (vs : List Value) (n : Nat) (ps : List (Str × Str)) (R : Result → Shared → Prop),
    Below A₀ base outer h₀ → Fr h₀ L s.heap m → (hd.heap_39 w.params).In h₀ → News h₀ L s.heap news → Top hd.view_39 LS mean mg mb h₀ →
    env.frame = some L → env.scope.kind = .function → dp + 8 < recursionLimit → un + 150 < cLine →
    (x, instObj 184 d) ∈ news → (d, hdDict w dt l) ∈ news → (l, W.listOf vs.toArray n) ∈ news →
    DatAll news vs (ps.map d2) → (∀ p ∈ ps, p.1.length ≤ 1000 ∧ p.2.length ≤ 1000) → vs.length ≤ 100 →
    (∀ h' tk' u, Fr h₀ L h' m → News h₀ L h' news → R (.ok (.ret (.str (Txt.join (Str.ofString "\r\n") (ps.map lineOf ++ [Str.empty, Str.empty])) u))) { s with heap := h', toks := tk' }) →
    codeAny (model PySem.Challenge.rw_dr0124_01.row.prog w) { handled := none, depth := dp, frames := some (env :: outer), guards := gd, units := un } (.call (.ref 160) ⟨[.ref x], []⟩) R s := by
  k_fill
  intro w mean mg mb dp un gd A₀ base h₀ outer env L m news s x d l dt vs n ps R B F X N₀ T hf hke hdep hun m1 m2 m3 hD hps hvs ret
  have N : News h₀ L s.heap ((x, instObj 184 d) :: (d, hdDict w dt l) :: (l, W.listOf vs.toArray n) :: news) :=
    List.forall_mem_cons.mpr ⟨N₀ _ m1, List.forall_mem_cons.mpr ⟨N₀ _ m2, List.forall_mem_cons.mpr ⟨N₀ _ m3, N₀⟩⟩⟩
  refine' code_def B F X N T rfl hf hke ?k6 ?k7 ?k8 ?k9 ?kB ?_ ?c2 ?c3 ?c4 ?c5
  case k6 => k_is
  case k7 => k_is
  case k8 => (show dp < recursionLimit); omega
  case k9 => exact BindsTo.of_eq rfl
  case c5 => decide
  case kB => exact locs rfl
  case c2 => exact rfl
  case c3 => exact rfl
  case c4 => exact rfl
  intro g' L' h' FG' F' N' B' X' T'
  (try dsimp only); (try k_lift B'); (try k_fold)

  w_strict k_steps
  refine Hold.intro ?_
  (rename Fr _ _ _ _ => F1)
  (rename News _ _ _ _ => N1)
  refine' ListComp_UL F1 ?q1 ?q2 ?q3 ?q4 ?q5 ?_ ?q6
  case q1 => exact rfl
  case q2 => decide
  case q3 => exact rfl
  case q4 => decide
  case q5 => exact rfl
  case q6 => exact fun _ => rfl
  w_strict k_steps
  refine ⟨l, vs, n, _, rfl, rfl, F1, N1, .tail _ (.tail _ (.head _)), Nat.le_trans hvs (by decide), fun g => ?_⟩
  refine restU_inv (n := vs.length) (fun i ys => StrsAre ys ((ps.take i).map lineOf)) (.inr ⟨_, .tail _ (.tail _ (.head _)), rfl, n, rfl⟩) (fun ys hys => ?_) (fun i ys v I oI C oC D m₂ h tk E' hi hInv hP hNs hmx F2 N2 => ?_) _ 0 [] (by omega) .nil
  · intro D h tk F2 N2 o1
    clear N1 F1
    w_strict k_steps
    rename_i l2 h2 F3 N3 l3
    have hl : vs.length = ps.length := by have := hD.length; rwa [List.length_map] at this
    rw [hl, List.take_length] at hys
    have hyl : ys.length = ps.length := by rw [hys.len_eq, List.length_map]
    refine kmk_add_lit F3 N3 (N3.isList (.tail _ (.head _))) (N3.isList (.head _)) rfl (fun D4 h4 F4 N4 l4 => ?_) ?_
    rotate_left
    · show ys.toArray.toList.length + 2 ≤ sizeLine
      rw [sizeLine_eq, List.toList_toArray]; omega
    clear F3 N3
    w_strict k_steps
    refine join_listW (ys := ps.map lineOf ++ [Str.empty, Str.empty]) (N4.isList (.head _)) ?_ ?_ ?_ ?_
    · rw [List.toList_toArray]
      exact StrsAre.append' (by rw [List.toList_toArray]; exact hys) (.cons _ _ (.cons _ _ .nil))
    · decide
    · exact line_room hps (by omega)
    · intro t5 k5
      w_strict k_steps
      (rename News _ _ _ _ => kN)
      exact ret _ _ _ (by assumption) fun p hp => kN p (.tail _ (.tail _ (.tail _ (.tail _ (.tail _ (.tail _ hp))))))
  · clear N1 F1
    obtain ⟨p, a, n', t2, u2, hp, rfl, hm⟩ := d2_at hD hP
    have N3 : News g' L' h ((a, ({ cls := .type "tuple", data := .seq #[.str p.1 t2, .str p.2 u2] n' } : Obj)) :: (I, oI) :: (C, oC) :: (D, LCg.lst ys) :: (x, instObj 184 d) :: (d, hdDict w _ l) :: (l, W.listOf vs.toArray n) :: news) :=
      List.forall_mem_cons.mpr ⟨N2 _ (.tail _ (.tail _ (.tail _ (.tail _ (.tail _ (.tail _ hm)))))), N2⟩
    have hpl := hps p (List.mem_of_getElem? hp)
    have htake : ps.take (i + 1) = ps.take i ++ [p] := by rw [List.take_add_one, hp]; rfl
    w_strict k_steps
    refine TurnAt.mk F2 N2 ?_
    rw [htake, List.map_append]
    exact StrsAre.append' hInv (.cons _ _ .nil)
end
end Mine
end
section
open PySem PySem.W PyProof.Rows PySem.Calls PySem.Spec

namespace Mine
/-- an except line for ValueError, in a frame with cells, behind a raise out of a call -/
theorem caughtX {prog : Program} {w : World} {A₀ : Around} {s' : Shared} {h₀ h : Heap} {outer : List Env} {L a e t : Addr} {m : Str → Option Value} {name : Str} {scope : Scope} {cd : Value} {cl : List (Str × Addr)}
    {vs : List Value} {b₀ : Stmt} {suite : List Stmt} {pos np : Pos} {rest : List ExceptHandler} {Q : Flow → Shared → Prop} {news : List (Addr × Obj)} {KF : Frag}
    {p : Program} {loose : List Str} {mg mb : Str → Option Value}
    (K : Below A₀ h₀ outer h₀) (F : Fr h₀ L h m) (hsm : h.UpToSlots s'.heap) (R : RaisedK h₀ (envX name scope L a cd cl :: outer) e (.type "ValueError") t vs news s'.heap)
    (X : KF.In h₀) (T : TopRead p loose mg mb h₀) (hns : nsIn KF mainGlobals (Str.ofString "ValueError") = some none)
    (hk : scope.kind = .function) (hx : (envX name scope L a cd cl).kindOf (Str.ofString "ValueError") = some .globalImplicit)
    (k : ∀ h', Fr h₀ L h' m → News h₀ L h' news → wpAny (model prog w) ((A₀.deeper (envX name scope L a cd cl)).mark (some (.ref e))) (execs (b₀ :: suite) (envX name scope L a cd cl)) Q (fun _ _ => False) { s' with heap := h' }) :
    wpAny (model prog w) (A₀.deeper (envX name scope L a cd cl)) (noteFrame (.ref e) (envX name scope L a cd cl))
      (fun _ s₂ => wpAny (model prog w) (A₀.deeper (envX name scope L a cd cl)) (setFlight (.ref e) none) (fun _ s₃ =>
        wpAny (model prog w) (A₀.deeper (envX name scope L a cd cl)) (handleBy (.ref e) (envX name scope L a cd cl) (.ExceptHandler (some (.Name (Str.ofString "ValueError") np)) none (b₀ :: suite) pos :: rest)) Q (fun _ _ => False) s₃) (fun _ _ => False) s₂) (fun _ _ => False) s' := by
  obtain ⟨⟨B, hB, hl, hfl, hnew⟩, htup⟩ := R
  have hL : B.get? L = none := by
    obtain ⟨_, ⟨L', _, hf, hn', _⟩, _⟩ := hfl.2.2.1
    obtain rfl : L = L' := Option.some.inj hf
    exact hn'
  refine wpAny_looks_onW (Around.frames_deeper K.stack) rfl hfl fun h₄ held₄ s4 => wpAny_landsW held₄ fun h₅ held s5 => ?_
  have held' := flyingW_base hB held
  have F₅ := F.of_stays held'.1 (hsm.trans (s4.trans s5))
  obtain ⟨ob, hob, hobc⟩ := held'.there
  have hsub : isSubtype (.type "ValueError") (.type "ValueError") = pure true := by rw [isSubtype_type]; kernel_rfl
  refine wpAny_handleBy_builtin (X := "ValueError") (T := "ValueError") (b := true) PySem.F.isExc_ValueError PySem.F.notTuple_ValueError hsub (nameX_B F₅ X T hns PyProof.Rows.Boot.«ValueError» (by decide) ⟨rfl, ⟨ob, hob, hobc⟩, ?_⟩ hk hx)
  refine lands_againW held fun h₆ fl₆ s6 => ?_
  have fl₆' := flyingW_base hB fl₆
  refine wpAny_passesOwnAt PassesOwnAt.never (k h₆ (F.of_stays fl₆'.1 ((hsm.trans (s4.trans s5)).trans s6)) fun q hq => ⟨fl₆.1 _ _ (hl q hq).1, fun z => ?_, (hl q hq).2⟩)
  have := (hl q hq).1
  rw [z, hL] at this
  cases this
end Mine
end
section
open PySem PySem.W PyProof.Rows PySem.Calls PySem.Spec

namespace Mine
noncomputable def lastOf : List Stmt → Stmt
  | [] => .Pass default
  | [x] => x
  | _ :: y :: r => lastOf (y :: r)
noncomputable def lawS : Stmt := lastOf PySem.Challenge.pw_dr0124_01.main.body
def bodyOf : Stmt → List Stmt
  | .FunctionDef _ _ b _ _ _ _ _ _ _ => b
  | .For _ _ b _ _ => b
  | _ => []
def scopeOf : Stmt → Scope
  | .FunctionDef _ _ _ _ _ _ s _ _ _ => s
  | _ => default
def fourth : List Stmt → Stmt
  | _ :: _ :: _ :: x :: _ => x
  | _ => .Pass default
def behind7 : List Stmt → List Stmt
  | _ :: _ :: _ :: _ :: _ :: _ :: _ :: r => r
  | _ => []
def headOf : List Stmt → Stmt
  | x :: _ => x
  | _ => .Pass default
def behind1 : List Stmt → List Stmt
  | _ :: r => r
  | _ => []
def behind3 : List Stmt → List Stmt
  | _ :: _ :: _ :: r => r
  | _ => []
noncomputable def forBody : List Stmt := bodyOf (fourth (bodyOf lawS))
/-- the try statement -/
noncomputable def tryS : Stmt := headOf (behind7 forBody)
/-- what stands behind it -/
noncomputable def aftB : List Stmt := behind1 (behind7 forBody)
/-- the two last questions -/
noncomputable def endB : List Stmt := behind3 aftB
noncomputable def lawScope : Scope := scopeOf lawS
noncomputable def lawEnv (L fa : Addr) (cd : Value) : Env := envOfC (Str.ofString "law") lawScope L fa cd
theorem lawText_wp {w : World} {mean : ExcName → Option Value} {mg mb : Str → Option Value} {dp un : Nat} {gd : Option (List Code)} {A₀ : Around} {base h₀ : Heap} {outer : List Env} {env : Env} {L : Addr} {m : Str → Option Value} {news : List (Addr × Obj)} {s : Shared}
    {n : Int} {t : Tok} {Q : Value → Shared → Prop} {E : Value → Shared → Prop}
    (B : Below A₀ base outer h₀) (F : Fr h₀ L s.heap m) (X : (hd.heap_39 w.params).In h₀) (N : News h₀ L s.heap news) (T : Top hd.view_39 LS mean mg mb h₀)
    (hf : env.frame = some L) (hke : env.scope.kind = .function) (hdep : dp + 4 < recursionLimit) (hun : un + 100 < cLine)
    (ret : ∀ h' tk' t, Fr h₀ L h' m → News h₀ L h' news → Q (.str (textOf n) t) { s with heap := h', toks := tk' }) :
    wpAny (model PySem.Challenge.rw_dr0124_01.row.prog w) { handled := none, depth := dp, frames := some (env :: outer), guards := gd, units := un } (call (.ref 195) [.int n t]) Q E s :=
  wpAny_call (lawText w mean mg mb dp un gd A₀ base h₀ outer env L m news s n t _ B F X N T hf hke hdep hun ret)
theorem lawBad_wp {w : World} {mean : ExcName → Option Value} {mg mb : Str → Option Value} {dp un : Nat} {gd : Option (List Code)} {A₀ : Around} {base h₀ : Heap} {outer : List Env} {env : Env} {L : Addr} {m : Str → Option Value} {news : List (Addr × Obj)} {s : Shared}
    {x : Str} {t : Tok} {b : Bool} {Q : Value → Shared → Prop} {E : Value → Shared → Prop}
    (B : Below A₀ base outer h₀) (F : Fr h₀ L s.heap m) (X : (hd.heap_39 w.params).In h₀) (N : News h₀ L s.heap news) (T : Top hd.view_39 LS mean mg mb h₀)
    (hf : env.frame = some L) (hke : env.scope.kind = .function) (hdep : dp + 4 < recursionLimit) (hun : un + 100 < cLine)
    (hx : x.cps.size ≤ 100) (hc : ∀ c ∈ x.cps.toList, c < 1114112)
    (ret : ∀ h' tk', Fr h₀ L h' m → News h₀ L h' news → Q (.bool (x.cps.toList.any (lhit b))) { s with heap := h', toks := tk' }) :
    wpAny (model PySem.Challenge.rw_dr0124_01.row.prog w) { handled := none, depth := dp, frames := some (env :: outer), guards := gd, units := un } (call (.ref 200) [.str x t, .bool b]) Q E s :=
  wpAny_call (lawBad w mean mg mb dp un gd A₀ base h₀ outer env L m news s x t b _ B F X N T hf hke hdep hun hx hc ret)
/-- the table and its twin, as they lie in the ledger -/
structure Tab (w : World) (h₀ : Heap) (L : Addr) (oc : Obj) (h : Heap) (x d l tw : Addr) (dt : Tok) (vs ws : List Value) (n k : Nat) (ps qs : List (Str × Str)) (tail : List (Addr × Obj)) : Prop where
  news : News h₀ L h ((L + 1, oc) :: (x, instObj 184 d) :: (d, hdDict w dt l) :: (l, W.listOf vs.toArray n) :: (tw, W.listOf ws.toArray k) :: tail)
  toff : OwnOff tail [L + 1, l]
  xc : x ≠ L + 1
  dc : d ≠ L + 1
  lc : l ≠ L + 1
  tc : tw ≠ L + 1
  xl : x ≠ l
  dl : d ≠ l
  tl : tw ≠ l
  dv : DatAll tail vs (ps.map d2)
  dw : DatAll tail ws (qs.map d2)
/-- what a door makes of the pairs, and whether it refuses -/
def doorStep (door : Int) (y z k o : Str) (ps : List (Str × Str)) : Bool × List (Str × Str) :=
  if door = 0 then (bad true y || bad false z, if bad true y then ps else (ps.filter fun p => Txt.lower p.1 != Txt.lower y) ++ (if bad false z then [] else [(y, z)]))
  else if door = 1 then (bad true y || (!(ps.any fun p => Txt.lower p.1 == Txt.lower y) && bad false z), if bad true y || (ps.any fun p => Txt.lower p.1 == Txt.lower y) || bad false z then ps else ps ++ [(y, z)])
  else if door = 2 then (bad true y || bad false z || bad true k || bad false o, if bad true y || bad false z || bad true k || bad false o then ps else ps ++ [(y, ahVal z k o)])
  else (!((ps ++ [(y, z)]).all fun p => !bad true p.1 && !bad false p.2), if ((ps ++ [(y, z)]).all fun p => !bad true p.1 && !bad false p.2) then ps ++ [(y, z)] else ps)
def TryEnd (w : World) (h₀ : Heap) (L : Addr) (m : Str → Option Value) (s : Shared) (oc : Obj) (tw : Addr) (ws : List Value) (k : Nat) (qs : List (Str × Str)) (tl₀ : List (Addr × Obj)) (r : Bool × List (Str × Str)) (f : Flow) (s' : Shared) : Prop :=
  f = .next ∧ ∃ (x d l : Addr) (dt : Tok) (vs : List Value) (n : Nat) (tail : List (Addr × Obj)) (h' : Heap) (tk' : Nat), s' = { s with heap := h', toks := tk' } ∧
    Fr h₀ L h' (fun y => if y = Str.ofString "refused" then some (.bool r.1) else if y = Str.ofString "table" then some (.ref x) else m y) ∧ Tab w h₀ L oc h' x d l tw dt vs ws n k r.2 qs tail ∧ ∀ p ∈ tl₀, p ∈ tail
end Mine
end
section
open PySem PySem.W PyProof.Rows PySem.Calls PySem.Spec

namespace Mine
def handOf : Stmt → List ExceptHandler
  | .Try _ h _ _ _ => h
  | _ => []
theorem know_eq {m : Str → Option Value} {x : Str} {v : Value} (e : m x = some v) : (fun y => if y = x then some v else m y) = m := by
  funext y; by_cases hy : y = x
  · rw [if_pos hy, hy, e]
  · rw [if_neg hy]
theorem okEnd {w : World} {h₀ : Heap} {L : Addr} {m : Str → Option Value} {s : Shared} {oc : Obj} {tw : Addr} {ws : List Value} {k : Nat} {qs : List (Str × Str)} {r : Bool × List (Str × Str)}
    {x d l : Addr} {dt : Tok} {vs : List Value} {n : Nat} {tail tl₀ : List (Addr × Obj)} {h' : Heap} {tk' : Nat} {ps : List (Str × Str)}
    (F : Fr h₀ L h' m) (e1 : m (Str.ofString "table") = some (.ref x)) (e6 : m (Str.ofString "refused") = some (.bool false)) (TB : Tab w h₀ L oc h' x d l tw dt vs ws n k ps qs tail) (hr : r = (false, ps)) (hsub : ∀ p ∈ tl₀, p ∈ tail) :
    TryEnd w h₀ L m s oc tw ws k qs tl₀ r .next { s with heap := h', toks := tk' } := by
  subst hr
  exact ⟨rfl, x, d, l, dt, vs, n, tail, h', tk', rfl, fr_know (x := Str.ofString "refused") (fr_know F e1) ((if_neg (by decide)).trans e6), TB, hsub⟩
theorem errEnd : ∀ {w : World} {mean : ExcName → Option Value} {mg mb : Str → Option Value} {h₀ : Heap} {L fa : Addr} {cd : Value} {m : Str → Option Value} {s : Shared} {oc : Obj} {tw : Addr} {ws : List Value} {k : Nat} {qs : List (Str × Str)} {r : Bool × List (Str × Str)}
    {x d l : Addr} {dt : Tok} {vs : List Value} {n : Nat} {tail tl₀ : List (Addr × Obj)} {h' g : Heap} {tk' : Nat} {ps : List (Str × Str)} {e t : Addr} {vs' : List Value} {led : List (Addr × Obj)},
    Below callerA h₀ [] h₀ → (hd.heap_39 w.params).In h₀ → Top hd.view_39 LS mean mg mb h₀ → RaisedK h₀ [lawEnv L fa cd] e (.type "ValueError") t vs' led h' → Fr h₀ L g m → g.UpToSlots h' →
    m (Str.ofString "table") = some (.ref x) → (∀ h'', News h₀ L h'' led → Tab w h₀ L oc h'' x d l tw dt vs ws n k ps qs tail) → r = (true, ps) → (∀ p ∈ tl₀, p ∈ tail) →
    wpAny (model PySem.Challenge.rw_dr0124_01.row.prog w) (callerA.deeper (lawEnv L fa cd)) (noteFrame (.ref e) (lawEnv L fa cd)) (fun _ s₂ => wpAny (model PySem.Challenge.rw_dr0124_01.row.prog w) (callerA.deeper (lawEnv L fa cd)) (setFlight (.ref e) none) (fun _ s₃ =>
      wpAny (model PySem.Challenge.rw_dr0124_01.row.prog w) (callerA.deeper (lawEnv L fa cd)) (handleBy (.ref e) (lawEnv L fa cd) (handOf tryS)) (TryEnd w h₀ L m s oc tw ws k qs tl₀ r) (fun _ _ => False) s₃) (fun _ _ => False) s₂) (fun _ _ => False) { s with heap := h', toks := tk' } := by
  k_fill
  intro w mean mg mb h₀ L fa cd m s oc tw ws k qs r x d l dt vs n tail tl₀ h' g tk' ps e t vs' led B X T R F U e1 hT hr hsub
  unfold lawEnv tryS forBody lawScope lawS at *
  dsimp only [bodyOf, fourth, scopeOf, lastOf, behind7, behind1, behind3, headOf, handOf, PySem.Challenge.pw_dr0124_01] at *
  with_unfolding_all refine caughtX B F U R X (topRead_of T) ?ns rfl rfl fun h'' F'' N'' => ?_
  case ns => k_is
  replace F'' := fr_know F'' e1
  w_strict k_steps
  subst hr
  exact ⟨rfl, x, d, l, dt, vs, n, tail, _, _, rfl, by assumption, hT _ (by assumption), hsub⟩
end Mine
end
section
open PySem PySem.W PyProof.Rows PySem.Calls PySem.Spec

namespace Mine
abbrev tup (items : Array Value) (n : Nat) : Obj := { cls := .type "tuple", data := .seq items n }
theorem dat_sub {big small : List (Addr × Obj)} (hs : ∀ a items n, (a, tup items n) ∈ big → (a, tup items n) ∈ small) : ∀ (ps : List (Str × Str)) (vs : List Value), DatAll big vs (ps.map d2) → DatAll small vs (ps.map d2)
  | [], vs, h => by
    cases h
    exact .nil
  | p :: r, vs, h => by
    rw [List.map_cons] at h ⊢
    cases h with
    | cons h1 h2 =>
      refine .cons ?_ (dat_sub hs r _ h2)
      obtain ⟨a, n, t, u, rfl, hm⟩ := d2_open h1
      exact .tuple (hs _ _ _ hm) (.cons (.str _ _) (.cons (.str _ _) .nil))
section
variable {w : World} {h₀ h h'' : Heap} {L x d l tw a : Addr} {oc : Obj} {dt : Tok} {vs ws ys : List Value} {n k k' : Nat} {ps qs ps' : List (Str × Str)} {tail : List (Addr × Obj)} {c : Option Value} {y z : Value} {j : Nat}
theorem tup_tail (hoc : oc.data = .cell c) : ∀ b items i, (b, tup items i) ∈ ((L + 1, oc) :: (x, instObj 184 d) :: (d, hdDict w dt l) :: (tw, W.listOf ws.toArray k) :: tail) → (b, tup items i) ∈ tail := by
  intro b items i hm
  rcases List.mem_cons.mp hm with e | hm
  · have e2 : tup items i = oc := congrArg Prod.snd e
    rw [← e2] at hoc; cases hoc
  rcases List.mem_cons.mp hm with e | hm
  · have e2 : (tup items i).cls = (instObj 184 d).cls := congrArg (fun q => (Prod.snd q).cls) e
    cases e2
  rcases List.mem_cons.mp hm with e | hm
  · have e2 : (tup items i).cls = (hdDict w dt l).cls := congrArg (fun q => (Prod.snd q).cls) e
    injection e2 with e3; exact absurd e3 (by decide)
  rcases List.mem_cons.mp hm with e | hm
  · have e2 : (tup items i).cls = (W.listOf ws.toArray k).cls := congrArg (fun q => (Prod.snd q).cls) e
    injection e2 with e3; exact absurd e3 (by decide)
  exact hm
theorem Tab.upd (TB : Tab w h₀ L oc h x d l tw dt vs ws n k ps qs tail) (hoc : oc.data = .cell c)
    (N : News h₀ L h'' ((l, W.listOf ys.toArray k') :: (L + 1, oc) :: (x, instObj 184 d) :: (d, hdDict w dt l) :: (tw, W.listOf ws.toArray k) :: tail))
    (D : DatAll ((L + 1, oc) :: (x, instObj 184 d) :: (d, hdDict w dt l) :: (tw, W.listOf ws.toArray k) :: tail) ys (ps'.map d2)) : Tab w h₀ L oc h'' x d l tw dt ys ws k' k ps' qs tail :=
  { TB with
    news := List.forall_mem_cons.mpr ⟨N _ (.tail _ (.head _)), List.forall_mem_cons.mpr ⟨N _ (.tail _ (.tail _ (.head _))), List.forall_mem_cons.mpr ⟨N _ (.tail _ (.tail _ (.tail _ (.head _)))), List.forall_mem_cons.mpr ⟨N _ (.head _), fun p hp => N p (.tail _ (.tail _ (.tail _ (.tail _ hp))))⟩⟩⟩⟩
    dv := dat_sub (tup_tail hoc) _ _ D }
theorem Tab.same (TB : Tab w h₀ L oc h x d l tw dt vs ws n k ps qs tail)
    (N : News h₀ L h'' ((l, W.listOf vs.toArray n) :: (L + 1, oc) :: (x, instObj 184 d) :: (d, hdDict w dt l) :: (tw, W.listOf ws.toArray k) :: tail)) : Tab w h₀ L oc h'' x d l tw dt vs ws n k ps qs tail :=
  { TB with
    news := List.forall_mem_cons.mpr ⟨N _ (.tail _ (.head _)), List.forall_mem_cons.mpr ⟨N _ (.tail _ (.tail _ (.head _))), List.forall_mem_cons.mpr ⟨N _ (.tail _ (.tail _ (.tail _ (.head _)))), List.forall_mem_cons.mpr ⟨N _ (.head _), fun p hp => N p (.tail _ (.tail _ (.tail _ (.tail _ hp))))⟩⟩⟩⟩ }
theorem Tab.add (TB : Tab w h₀ L oc h x d l tw dt vs ws n k ps qs tail) (hoc : oc.data = .cell c)
    (N : News h₀ L h'' ((l, W.listOf ys.toArray k') :: (a, tup #[y, z] j) :: (L + 1, oc) :: (x, instObj 184 d) :: (d, hdDict w dt l) :: (tw, W.listOf ws.toArray k) :: tail))
    (low : ∀ p ∈ (l, W.listOf ys.toArray k') :: (L + 1, oc) :: (x, instObj 184 d) :: (d, hdDict w dt l) :: (tw, W.listOf ws.toArray k) :: tail, p.1 < a)
    (D : DatAll ((a, tup #[y, z] j) :: (L + 1, oc) :: (x, instObj 184 d) :: (d, hdDict w dt l) :: (tw, W.listOf ws.toArray k) :: tail) ys (ps'.map d2)) : Tab w h₀ L oc h'' x d l tw dt ys ws k' k ps' qs ((a, tup #[y, z] j) :: tail) :=
  { TB with
    news := List.forall_mem_cons.mpr ⟨N _ (.tail _ (.tail _ (.head _))), List.forall_mem_cons.mpr ⟨N _ (.tail _ (.tail _ (.tail _ (.head _)))), List.forall_mem_cons.mpr ⟨N _ (.tail _ (.tail _ (.tail _ (.tail _ (.head _))))), List.forall_mem_cons.mpr ⟨N _ (.head _), List.forall_mem_cons.mpr ⟨N _ (.tail _ (.tail _ (.tail _ (.tail _ (.tail _ (.head _)))))), List.forall_mem_cons.mpr ⟨N _ (.tail _ (.head _)), fun p hp => N p (.tail _ (.tail _ (.tail _ (.tail _ (.tail _ (.tail _ hp))))))⟩⟩⟩⟩⟩⟩
    toff := fun p hp b hb => by
      rcases List.mem_cons.mp hp with rfl | hp
      · rcases List.mem_cons.mp hb with rfl | hb
        · exact Ne.symm (Nat.ne_of_lt (low _ (.tail _ (.head _))))
        · rw [List.mem_singleton.mp hb]; exact Ne.symm (Nat.ne_of_lt (low _ (.head _)))
      · exact TB.toff p hp b hb
    dv := dat_sub (fun b items i hm => by
      rcases List.mem_cons.mp hm with e | hm
      · rw [e]; exact .head _
      · exact .tail _ (tup_tail hoc b items i hm)) _ _ D
    dw := TB.dw.mono fun p hp => .tail _ hp }
/-- the ledger as the contracts want it -/
theorem Tab.front (TB : Tab w h₀ L oc h x d l tw dt vs ws n k ps qs tail) : News h₀ L h ((l, W.listOf vs.toArray n) :: (L + 1, oc) :: (x, instObj 184 d) :: (d, hdDict w dt l) :: (tw, W.listOf ws.toArray k) :: tail) :=
  List.forall_mem_cons.mpr ⟨TB.news _ (.tail _ (.tail _ (.tail _ (.head _)))), List.forall_mem_cons.mpr ⟨TB.news _ (.head _), List.forall_mem_cons.mpr ⟨TB.news _ (.tail _ (.head _)), List.forall_mem_cons.mpr ⟨TB.news _ (.tail _ (.tail _ (.head _))), fun p hp => TB.news p (.tail _ (.tail _ (.tail _ (.tail _ hp))))⟩⟩⟩⟩
theorem Tab.offl (TB : Tab w h₀ L oc h x d l tw dt vs ws n k ps qs tail) : ∀ p ∈ (L + 1, oc) :: (x, instObj 184 d) :: (d, hdDict w dt l) :: (tw, W.listOf ws.toArray k) :: tail, p.1 ≠ l :=
  List.forall_mem_cons.mpr ⟨TB.lc.symm, List.forall_mem_cons.mpr ⟨TB.xl, List.forall_mem_cons.mpr ⟨TB.dl, List.forall_mem_cons.mpr ⟨TB.tl, fun p hp => TB.toff p hp l (.tail _ (.head _))⟩⟩⟩⟩
theorem Tab.dv' (TB : Tab w h₀ L oc h x d l tw dt vs ws n k ps qs tail) : DatAll ((L + 1, oc) :: (x, instObj 184 d) :: (d, hdDict w dt l) :: (tw, W.listOf ws.toArray k) :: tail) vs (ps.map d2) :=
  TB.dv.mono fun p hp => .tail _ (.tail _ (.tail _ (.tail _ hp)))
end
end Mine
end
section
open PySem PySem.W PyProof.Rows PySem.Calls PySem.Spec

namespace Mine
theorem dict_iter : typeLookup (.type "dict") "__iter__" = pure (some (.builtin "dict.__iter__")) := by rw [typeLookup_type, builtinLookup_eq_fast]; kernel_rfl
section
variable {prog : Program} {w : World} {A : Around} {E : Value → Shared → Prop} {s : Shared} {h₀ : Heap} {L a d : Addr} {m : Str → Option Value} {news : List (Addr × Obj)} {oa : Obj} {e : DictEntry} {key : Str} {tk : Tok} {ep : Nat}
theorem find_nil {x : Str} {t : Tok} {hsh : Int} {Q : Option Nat → Shared → Prop} (ho : s.heap.get? d = some (dictOf [] 0)) (h : Q none s) : wpAny (model prog w) A (dictFind d (.str x t) hsh) Q E s := by
  unfold dictFind
  refine wpAny_holding (wpAny_bind (wpAny_dictEntries ho rfl ?_))
  dsimp only
  rw [if_pos (show (([] : List DictEntry).toArray.all fun e => isExactStrKey e.key) = true from by simp)]
  unfold foundByValue
  rw [show (([] : List DictEntry).toArray.findIdx? (·.key.isStr x)) = none from by simp]
  exact wpAny_pure h
/-- a dict of one text key is merged into a new one -/
theorem merge_one {Q : Unit → Shared → Prop} (F : Fr h₀ L s.heap m) (N : News h₀ L s.heap ((d, dictOf [] 0) :: news)) (off : ∀ p ∈ news, p.1 ≠ d) (hm : (a, oa) ∈ news) (hc : oa.ExactDict) (hd : oa.data = .dict #[e] ep) (hk : e.key = .str key tk) (lo : (a == sysModules) = false)
    (h : ∀ h', Fr h₀ L h' m → News h₀ L h' ((d, dictOf [e] 1) :: news) → Q () { s with heap := h' }) : wpAny (model prog w) A (mergeMapping d (.ref a) true) Q E s := by
  have ga := (N _ (.tail _ hm)).1
  have gd := (N _ (.head _)).1
  have hT : s.TypeIs (.ref a) "dict" := ⟨_, ga, hc.1⟩
  unfold mergeMapping
  refine wpAny_bind (wpAny_isInstance (T := "dict") (b := true) hT (by rw [isSubtype_type]; kernel_rfl) ?_)
  dsimp only
  rw [if_pos rfl]
  refine wpAny_bind (wpAny_specialOf hT dict_iter ?_)
  refine wpAny_bind (wpAny_pure ?_)
  rw [show (some (Value.builtin "dict.__iter__") == some (Value.builtin "dict.__iter__")) = true from by decide +kernel]
  dsimp only
  rw [lo, if_neg Bool.false_ne_true]
  refine wpAny_bind (wpAny_dictEntries gd rfl ?_)
  rw [if_pos (show (([] : List DictEntry).toArray.isEmpty) = true from rfl)]
  refine wpAny_bind (wpAny_dictEntries ga hd ?_)
  rw [← Array.forIn_toList]
  show wpAny _ _ (forIn [e] PUnit.unit _ >>= _) _ _ _
  rw [List.forIn_cons]
  simp only [hk]
  rw [pure_bind]
  dsimp only
  rw [List.forIn_nil, pure_bind]
  refine wpAny_bind (wpAny_dictEntries ga hd ?_)
  refine wpAny_bind (wpAny_dictEpoch ga hd ?_)
  show wpAny _ _ (forIn [0] PUnit.unit _ >>= _) _ _ _
  rw [List.forIn_cons]
  refine wpAny_bind (wpAny_bind (wpAny_bind (wpAny_dictEntries ga hd ?_)))
  rw [show (([e] : List DictEntry).toArray[0]? : Option DictEntry) = some e from rfl]
  dsimp only
  refine wpAny_bind (wpAny_holding ?_)
  rw [if_pos trivial, hk]
  refine wpAny_bind (find_nil gd ?_)
  rw [if_neg (show ¬ ((none : Option Nat).isSome = true) from by simp)]
  unfold dictPut
  refine wpAny_bind (find_nil gd ?_)
  refine wpAny_updateDictKeys gd rfl ?_
  have ee : (⟨e.hash, .str key tk, e.val⟩ : DictEntry) = e := by rw [← hk]
  have U := news_upd (pre := []) (f := Obj.mapDictKeys fun x => x.push ⟨e.hash, .str key tk, e.val⟩) F N (fun _ hp => nomatch hp) off (show _ = dictOf [e] 1 from by rw [ee]; rfl) rfl
  refine wpAny_bind (wpAny_dictEpoch (U.2 _ (.tail _ hm)).1 hd ?_)
  rw [if_neg (show ¬ ((ep != ep) = true) from by simp)]
  refine wpAny_pure (wpAny_pure ?_)
  exact wpAny_pure (h _ U.1 U.2)
def MergeAt (h₀ : Heap) (L : Addr) (m : Str → Option Value) (s : Shared) (d : Addr) (Q : Shared → Prop) (v : Value) (s₁ : Shared) : Prop :=
  ∃ a t1 h1 oa e key tk ep news₁, v = .ref a ∧ s₁ = { s with heap := h1, toks := t1 } ∧ Fr h₀ L h1 m ∧ News h₀ L h1 ((d, dictOf [] 0) :: news₁) ∧ (∀ p ∈ news₁, p.1 ≠ d) ∧ (a, oa) ∈ news₁ ∧ oa.ExactDict ∧ oa.data = .dict #[e] ep ∧ e.key = .str key tk ∧ (a == sysModules) = false ∧
      ∀ h2, Fr h₀ L h2 m → News h₀ L h2 ((d, dictOf [e] 1) :: news₁) → Q { s with heap := h2, toks := t1 }
theorem merged_one {f : Value} {xd : Sem Value} {Q : Addr → Shared → Prop} (F : Fr h₀ L s.heap m) (N : News h₀ L s.heap news)
    (h : ∀ d h', Fr h₀ L h' m → News h₀ L h' ((d, dictOf [] 0) :: news) → (∀ p ∈ news, p.1 < d) → wpAny (model prog w) A xd (MergeAt h₀ L m s d (Q d)) E { s with heap := h' }) :
    wpAny (model prog w) A (mergedKeywords f [(none, xd)]) Q E s := by
  unfold mergedKeywords
  refine wpAny_bind (wpAny_alloc (wpAny_bind (wpAny_holding ?_)))
  dsimp only
  rw [List.forIn_cons]
  dsimp only
  refine wpAny_bind (wpAny_bind (wpAny_bind ?_))
  rw [if_pos (show ([] : List (Str × Sem Value)).isEmpty = true from rfl)]
  refine wpAny_pure (wpAny_bind ?_)
  have N1 := N.push F (dictOf [] 0)
  refine wpAny_mono (h _ _ (F.push _) N1 fun p hp => Heap.lt_size (N p hp).1) (fun v s₁ hv => ?_) fun _ _ x => x
  obtain ⟨a, t1, h1, oa, e, key, tk, ep, news₁, rfl, rfl, F1, N2, off, hm, hc, hd, hk, lo, hq⟩ := hv
  refine wpAny_bind (wpAny_onRaise (wpAny_holding (wpAny_tryCatch (wpAny_onRaise (merge_one F1 N2 off hm hc hd hk lo fun h2 F2 N2 => ?_)))))
  refine wpAny_pure (wpAny_pure ?_)
  rw [if_pos (show ([] : List (Str × Sem Value)).isEmpty = true from rfl)]
  exact wpAny_pure (wpAny_pure (hq h2 F2 N2))
theorem kwIn_one {f : Value} {n : Nat} {Q : List (Str × Value) → Shared → Prop} (ho : s.heap.get? d = some (dictOf [e] n)) (hk : e.key = .str key tk) (h : Q [(key, e.val)] s) : wpAny (model prog w) A (keywordsIn f d) Q E s := by
  unfold keywordsIn
  refine wpAny_bind (wpAny_dictEntries ho rfl ?_)
  rw [← Array.forIn_toList]
  show wpAny _ _ (forIn [e] _ _ >>= _) _ _ _
  rw [List.forIn_cons]
  simp only [hk]
  rw [pure_bind]
  dsimp only
  rw [List.forIn_nil, pure_bind]
  exact wpAny_pure h
theorem evalArgs_star {f : Value} {x xd : Sem Value} {rest : List (Bool × Sem Value)} {Q : Args → Shared → Prop}
    (h : wpAny (model prog w) A (spliced ((false, x) :: rest)) (fun vs s₁ => wpAny (model prog w) A (mergedKeywords f [(none, xd)]) (fun d s₂ => wpAny (model prog w) A (keywordsIn f d) (fun kw s₃ => Q ⟨vs, kw⟩ s₃) E s₂) E s₁) E s) :
    wpAny (model prog w) A (evalArgs f true ((false, x) :: rest) [(none, xd)]) Q E s := by
  unfold evalArgs
  show wpAny _ _ (spliced ((false, x) :: rest) >>= _) Q E s
  refine wpAny_bind (wpAny_mono h (fun vs s₁ h₁ => ?_) fun _ _ x => x)
  refine wpAny_holding ?_
  rw [if_neg (show ¬ (([((none : Option Str), xd)].all fun x => x.1.isSome) = true) from by simp)]
  refine wpAny_bind (wpAny_mono h₁ (fun d s₂ h₂ => ?_) fun _ _ x => x)
  refine wpAny_bind (wpAny_pure (wpAny_bind (wpAny_holding (wpAny_mono h₂ (fun kw s₃ h₃ => wpAny_pure h₃) fun _ _ x => x))))
theorem callWith_star {K : Frag} {q g : Addr} {self : Value} {pos : Pos} {x xd : Sem Value} {rest : List (Bool × Sem Value)} {Q : Value → Shared → Prop} (hf : fnIn K g = true)
    (h : wpAny (model prog w) A (evalArgs (.ref q) true ((false, x) :: rest) [(none, xd)]) (fun a s₁ => MethP K q g self s₁.heap ∧ wpAny (model prog w) A (call (.ref q) a.pos a.kw) Q E s₁) E s) :
    wpAny (model prog w) A (callWith pos (.ref q) [] ((false, x) :: rest) [(none, xd)]) Q E s := by
  unfold callWith
  refine wpAny_bind (wpAny_holding (wpAny_mono h (fun a s₁ h₁ => wpAny_bind (wpAny_standAt ?_)) fun _ _ x => x))
  have LK : Looks (model prog w) s₁.heap (keeperOf (.ref q)) .boundFrame := by
    unfold fnIn at hf
    split at hf
    · rename_i e
      exact (Looks.ld (part := none) h₁.1.1).andThen ((Looks.ld (part := none) (h₁.1.2 _ _ e)).andThen .now)
    · cases hf
  have hs : (((false, x) :: rest).any (·.1) || [((none : Option Str), xd)].any (·.1.isNone)) = true := by simp
  simp only [hs]
  refine wpAny_bind (LK.here ?_)
  dsimp only
  refine wpAny_bind (wpAny_operate' (wpAny_mono h₁.2 (fun r s₂ hr => wpAny_bind (wpAny_holding (wpAny_point (wpAny_pure hr)))) fun _ _ x => x))
theorem MethodStar {o : Str} {op : Pos} {name : Str} {apos pos : Pos} {a : Expr} {args : List Expr} {dk dv : Expr} {kp dp : Pos} {env : Env} {Q : Value → Shared → Prop}
    (h : wpAny (model prog w) A (eval (.Name o op) env) (fun ov s₁ => wpAny (model prog w) A (getAttr ov name true) (fun f s₂ => wpAny (model prog w) A (callWith pos f [] (backTo pos (starEach (a :: args) env)) (backToKw pos (keywordEach [⟨none, .Dict [some dk] [dv] dp, kp⟩] env))) Q E s₂) E s₁) E s)
    (he : eval (.Call (.Attribute (.Name o op) name apos) (a :: args) [⟨none, .Dict [some dk] [dv] dp, kp⟩] pos) env = (do
      let ov ← eval (.Name o op) env
      standAt apos.atName
      let (f, first) ← holding [ov] (do pure (← getAttr ov name true, []))
      let p ← pure pos
      callWith p f first (backTo pos (starEach (a :: args) env)) (backToKw pos (keywordEach [⟨none, .Dict [some dk] [dv] dp, kp⟩] env))) := by rfl) :
    wpAny (model prog w) A (eval (.Call (.Attribute (.Name o op) name apos) (a :: args) [⟨none, .Dict [some dk] [dv] dp, kp⟩] pos) env) Q E s := by
  rw [he]
  refine wpAny_bind (wpAny_mono h (fun ov s₁ h₁ => wpAny_bind (wpAny_standAt (wpAny_bind (wpAny_holding (wpAny_bind (wpAny_mono h₁ (fun f s₂ h₂ => wpAny_pure (wpAny_bind (wpAny_pure h₂))) fun _ _ x => x)))))) fun _ _ x => x)
def StarAt (prog : Program) (w : World) (A : Around) (E : Value → Shared → Prop) (K : Frag) (h₀ : Heap) (L q g : Addr) (self : Value) (dk dv : Expr) (dp : Pos) (env : Env) (Q : Value → Shared → Prop) (vs : List Value) (s₁ : Shared) : Prop :=
  ∃ m news, Fr h₀ L s₁.heap m ∧ News h₀ L s₁.heap news ∧ ∀ d h', Fr h₀ L h' m → News h₀ L h' ((d, dictOf [] 0) :: news) → (∀ p ∈ news, p.1 < d) → wpAny (model prog w) A (eval (.Dict [some dk] [dv] dp) env)
    (MergeAt h₀ L m s₁ d (fun s₂ => wpAny (model prog w) A (keywordsIn (.ref q) d) (fun kw s₃ => MethP K q g self s₃.heap ∧ wpAny (model prog w) A (call (.ref q) vs kw) Q E s₃) E s₂)) E { s₁ with heap := h' }
theorem callStar {K : Frag} {q g : Addr} {self : Value} {pos dp kp : Pos} {a dk dv : Expr} {args : List Expr} {env : Env} {Q : Value → Shared → Prop} (hf : fnIn K g = true)
    (h : wpAny (model prog w) A (spliced (backTo pos (starEach (a :: args) env))) (StarAt prog w A E K h₀ L q g self dk dv dp env Q) E s)
    (he : ∃ x rest, backTo pos (starEach (a :: args) env) = (false, x) :: rest := by exact ⟨_, _, rfl⟩)
    (hk : backToKw pos (keywordEach [⟨none, .Dict [some dk] [dv] dp, kp⟩] env) = [(none, do let v ← eval (.Dict [some dk] [dv] dp) env; standAt pos; pure v)] := by rfl) :
    wpAny (model prog w) A (callWith pos (.ref q) [] (backTo pos (starEach (a :: args) env)) (backToKw pos (keywordEach [⟨none, .Dict [some dk] [dv] dp, kp⟩] env))) Q E s := by
  obtain ⟨x, rest, he⟩ := he
  rw [hk, he]
  rw [he] at h
  refine callWith_star (K := K) (g := g) (self := self) hf (evalArgs_star (wpAny_mono h (fun vs s₁ h₁ => ?_) fun _ _ x => x))
  obtain ⟨m, news, F, N, h₂⟩ := h₁
  exact merged_one F N fun d h' F' N' low => wpAny_bind (wpAny_mono (h₂ d h' F' N' low) (fun v s₂ hv => wpAny_bind (wpAny_standAt (wpAny_pure hv))) fun _ _ x => x)
end
end Mine
end
section
open PySem PySem.W PyProof.Rows PySem.Calls PySem.Spec

namespace Mine
theorem offTr : True := by (w_top off; exact trivial)
theorem one_entry {prog : Program} {w : World} {o : Obj} {k : Str} {v : Value} (h : o.IsDictOf (PySem.strKind prog w) [(k, v)]) : ∃ e ep tk, o.ExactDict ∧ o.data = .dict #[e] ep ∧ e.key = .str k tk ∧ e.val = v := by
  obtain ⟨⟨es⟩, ep, hc, hdat, _, hp, _⟩ := h
  cases hp with
  | cons hk hv hr =>
    cases hr
    obtain ⟨t, ht⟩ := Value.isStrOf_shape hk
    exact ⟨_, ep, t, hc, hdat, ht, hv⟩
section
local macro_rules | `(tactic| walk_at "call ref") => `(tactic| ((with_unfolding_all show wpAny _ _ (call (Value.ref 97) [Value.ref _, Value.str _ _, Value.str _ _]) _ _ _); (refine Hold.back ?_)))
local macro_rules | `(tactic| walk_at "call ref") => `(tactic| ((with_unfolding_all show wpAny _ _ (call (Value.ref 174) [Value.ref _, Value.str _ _, Value.str _ _]) _ _ _); (refine Hold.back ?_)))
local macro_rules | `(tactic| walk_at "call ref") => `(tactic| ((with_unfolding_all show wpAny _ _ (call (Value.ref 181) _ _) _ _ _); (refine Hold.back ?_)))
local macro_rules | `(tactic| walk_at "call ref") => `(tactic| ((with_unfolding_all show wpAny _ _ (call (Value.ref 148) _ _) _ _ _); (refine Hold.back ?_)))
local macro_rules | `(tactic| walk_at "call ref") => `(tactic| ((with_unfolding_all show wpAny _ _ (call (Value.ref 184) [Value.ref _] _) _ _ _); (refine Hold.back ?_)))
theorem tryL : ∀ (w : World) (mean : ExcName → Option Value) (mg mb : Str → Option Value) (h₀ : Heap) (L fa : Addr) (cd : Value) (m : Str → Option Value) (s : Shared)
    (dr : Int) (y z kk o : Str) (ty tz tk1 to td : Tok) (x d l tw : Addr) (dt : Tok) (vs ws : List Value) (n k : Nat) (ps qs : List (Str × Str)) (oc : Obj) (tail : List (Addr × Obj)),
    Below callerA h₀ [] h₀ → Fr h₀ L s.heap m → (hd.heap_39 w.params).In h₀ → Top hd.view_39 LS mean mg mb h₀ →
    oc.data = .cell (some (.str y ty)) → Tab w h₀ L oc s.heap x d l tw dt vs ws n k ps qs tail →
    y.length ≤ 100 → z.length ≤ 100 → kk.length ≤ 100 → o.length ≤ 100 → (∀ p ∈ ps, p.1.length ≤ 1000 ∧ p.2.length ≤ 1000) → vs.length ≤ 90 → bad true (Txt.lower y) = bad true y →
    ahNames.contains kk = false → 95 ∉ kk.cps.toList → 92 ∉ o.cps.toList → 34 ∉ o.cps.toList → 0 ≤ dr → dr < 4 →
    m (Str.ofString "table") = some (.ref x) → m (Str.ofString "value") = some (.str z tz) → m (Str.ofString "key") = some (.str kk tk1) → m (Str.ofString "more") = some (.str o to) → m (Str.ofString "door") = some (.int dr td) → m (Str.ofString "refused") = some (.bool false) →
    wpAny (model PySem.Challenge.rw_dr0124_01.row.prog w) (callerA.deeper (lawEnv L fa cd)) (exec tryS (lawEnv L fa cd)) (TryEnd w h₀ L m s oc tw ws k qs tail (doorStep dr y z kk o ps)) (fun _ _ => False) s := by
  k_fill
  intro w mean mg mb h₀ L fa cd m s dr y z kk o ty tz tk1 to td x d l tw dt vs ws n k ps qs oc tail B F X T hoc TB hy hz hkk ho hps hvs hlow hkn h95 h92 h34 hd0 hd4 e1 e2 e3 e4 e5 e6
  unfold lawEnv tryS forBody lawScope lawS
  dsimp only [bodyOf, fourth, scopeOf, lastOf, behind7, behind1, behind3, headOf, handOf, PySem.Challenge.pw_dr0124_01]
  replace F := fr_know F e1
  replace F := fr_know (x := Str.ofString "value") F ((if_neg (by decide)).trans e2)
  replace F := fr_know (x := Str.ofString "key") F ((if_neg (by decide)).trans ((if_neg (by decide)).trans e3))
  replace F := fr_know (x := Str.ofString "more") F ((if_neg (by decide)).trans ((if_neg (by decide)).trans ((if_neg (by decide)).trans e4)))
  replace F := fr_know (x := Str.ofString "door") F ((if_neg (by decide)).trans ((if_neg (by decide)).trans ((if_neg (by decide)).trans ((if_neg (by decide)).trans e5))))
  have hmm : (fun y => if y = Str.ofString "door" then some (Value.int dr td) else (if y = Str.ofString "more" then some (Value.str o to) else (if y = Str.ofString "key" then some (Value.str kk tk1) else (if y = Str.ofString "value" then some (Value.str z tz) else (if y = Str.ofString "table" then some (Value.ref x) else m y))))) = m := by
    funext q
    by_cases h1 : q = Str.ofString "door"
    · rw [if_pos h1, h1, e5]
    rw [if_neg h1]
    by_cases h2 : q = Str.ofString "more"
    · rw [if_pos h2, h2, e4]
    rw [if_neg h2]
    by_cases h3 : q = Str.ofString "key"
    · rw [if_pos h3, h3, e3]
    rw [if_neg h3]
    by_cases h4 : q = Str.ofString "value"
    · rw [if_pos h4, h4, e2]
    rw [if_neg h4]
    by_cases h5 : q = Str.ofString "table"
    · rw [if_pos h5, h5, e1]
    rw [if_neg h5]
  have TB' := TB
  obtain ⟨N, toff, xc, dc, lc, tc, xl, dl, tl, dv, dw⟩ := TB'
  have dep : callerA.depth + 1 + 12 < recursionLimit := by decide +kernel
  have uni : callerA.units + 3 + 200 < cLine := by decide +kernel
  refine wpAny_Try_except ?_
  w_strict k_steps
  · rename dr = 0 => hdr
    refine Hold.intro (wpAny_call ?_)
    with_unfolding_all refine setC w mean mg mb _ _ _ callerA h₀ h₀ [] (lawEnv L fa cd) L _ ((L + 1, oc) :: (x, instObj 184 d) :: (d, hdDict w dt l) :: (tw, W.listOf ws.toArray k) :: tail) _ x d l dt vs n ps y z ty tz _ B F X (fun p hp => TB.front p (.tail _ hp)) T rfl rfl dep uni (.tail _ (.head _)) (.tail _ (.tail _ (.head _))) TB.offl hy hz TB.dv' (fun p hp => (hps p hp).1) (Nat.le_trans hvs (by decide)) TB.front hlow ?_ ?_ ?_
    · intro b1 b2 h' tk' ys k' a j t u F1 N1 low D1
      rw [hmm] at F1
      (try dsimp only)
      w_strict k_steps
      exact okEnd F1 e1 e6 (TB.add hoc N1 low D1) (by rw [doorStep, if_pos hdr, b1, b2]; rfl) (fun _ hp => .tail _ hp)
    · intro b1 h' tk' g e t vs' R1 F1 U1
      rw [hmm] at F1
      (try dsimp only)
      with_unfolding_all exact errEnd B X T R1 F1 U1 e1 (fun h'' N'' => TB.same N'') (by rw [doorStep, if_pos hdr, b1]; rfl) (fun _ hp => hp)
    · intro b1 b2 h' tk' g e t vs' ys k' R1 F1 U1 D1
      rw [hmm] at F1
      (try dsimp only)
      with_unfolding_all exact errEnd B X T R1 F1 U1 e1 (fun h'' N'' => TB.upd hoc N'' D1) (by rw [doorStep, if_pos hdr, b1, b2]; simp) (fun _ hp => hp)
  · rename dr = 1 => hdr
    rename dr ≠ 0 => hdr0
    refine Hold.intro (wpAny_call ?_)
    with_unfolding_all refine sdC w mean mg mb _ _ _ callerA h₀ h₀ [] (lawEnv L fa cd) L _ ((L + 1, oc) :: (x, instObj 184 d) :: (d, hdDict w dt l) :: (tw, W.listOf ws.toArray k) :: tail) _ x d l dt vs n ps y z ty tz _ B F X (fun p hp => TB.front p (.tail _ hp)) T rfl rfl dep uni (.tail _ (.head _)) (.tail _ (.tail _ (.head _))) TB.offl hy hz TB.dv' (fun p hp => (hps p hp).1) (Nat.le_trans hvs (by decide)) TB.front hlow ?_ ?_ ?_
    · intro b1 b2 h' tk' v F1 N1
      rw [hmm] at F1
      (try dsimp only)
      w_strict k_steps
      exact okEnd F1 e1 e6 (TB.same N1) (by rw [doorStep, if_neg hdr0, if_pos hdr, b1, b2]; rfl) (fun _ hp => hp)
    · intro b1 b2 b3 h' tk' v ys k' a j t u F1 N1 low D1
      rw [hmm] at F1
      (try dsimp only)
      w_strict k_steps
      exact okEnd F1 e1 e6 (TB.add hoc N1 low D1) (by rw [doorStep, if_neg hdr0, if_pos hdr, b1, b2, b3]; rfl) (fun _ hp => .tail _ hp)
    · intro bb h' tk' g e t vs' R1 F1 U1
      rw [hmm] at F1
      (try dsimp only)
      have hb : doorStep dr y z kk o ps = (true, ps) := by
        rw [doorStep, if_neg hdr0, if_pos hdr]
        rcases bb with b1 | ⟨b1, b2, b3⟩
        · rw [b1]; rfl
        · rw [b1, b2, b3]; rfl
      with_unfolding_all exact errEnd B X T R1 F1 U1 e1 (fun h'' N'' => TB.same N'') hb (fun _ hp => hp)
  · rename dr = 2 => hdr
    rename dr ≠ 1 => hdr1
    rename dr ≠ 0 => hdr0
    with_unfolding_all refine MethodStar ?_
    w_strict k_steps
    with_unfolding_all refine callStar (K := hd.heap_39 w.params) (g := 181) (self := .ref x) (h₀ := h₀) (L := L) ?hf ?_
    case hf => k_is
    rename_i q1 hq F1 N1 lq
    w_strict k_steps
    refine ⟨_, _, F1, N1, fun D1 h1 F2 N2 low2 => ?_⟩
    k_lt low2
    clear F1 N1
    refine Dict_made (knd := PySem.strKind _ w) F2 rfl rfl (List.cons_ne_nil _ _) (by decide) fun _ => ?_
    w_strict k_steps
    rename_i h2 o2 F3 N3 lo2 hd2 hf2 ap2 l3
    obtain ⟨e, ep, tk3, hc3, hdat3, hk3, hv3⟩ := one_entry (show Obj.IsDictOf (PySem.strKind _ w) o2 [(kk, Value.str o to)] from hd2)
    have hnx : ∀ p ∈ (h1.objs.size, o2) :: (q1, methodObj (Value.ref 181) (Value.ref x)) :: (L + 1, oc) :: (x, instObj 184 d) :: (d, hdDict w dt l) :: (l, W.listOf vs.toArray n) :: (tw, W.listOf ws.toArray k) :: tail, p.1 ≠ D1 := by
      refine List.forall_mem_cons.mpr ⟨Ne.symm (Nat.ne_of_lt l3.1), fun p hp => Nat.ne_of_lt (allLt_mem ?_ p hp)⟩
      exact low2
    refine ⟨h1.objs.size, _, h2, o2, e, kk, tk3, ep, _, rfl, rfl, F3, ?_, hnx, .head _, hc3, hdat3, hk3, lo2, fun h4 F4 N4 => ?_⟩
    · exact List.forall_mem_cons.mpr ⟨N3 _ (.tail _ (.head _)), List.forall_mem_cons.mpr ⟨N3 _ (.head _), fun p hp => N3 p (.tail _ (.tail _ hp))⟩⟩
    clear F2 N2 F3 N3
    refine kwIn_one (N4 _ (.head _)).1 hk3 ⟨methP N4 (.tail _ (.tail _ (.head _))) (X.keeps F4.keep), ?_⟩
    rw [hv3]
    refine call_meth N4 (.tail _ (.tail _ (.head _))) ?_
    have N5 : News h₀ L h4 ((l, W.listOf vs.toArray n) :: (L + 1, oc) :: (x, instObj 184 d) :: (d, hdDict w dt l) :: (tw, W.listOf ws.toArray k) :: tail) :=
      List.forall_mem_cons.mpr ⟨N4 _ (.tail _ (.tail _ (.tail _ (.tail _ (.tail _ (.tail _ (.head _))))))), List.forall_mem_cons.mpr ⟨N4 _ (.tail _ (.tail _ (.tail _ (.head _)))), List.forall_mem_cons.mpr ⟨N4 _ (.tail _ (.tail _ (.tail _ (.tail _ (.head _))))), List.forall_mem_cons.mpr ⟨N4 _ (.tail _ (.tail _ (.tail _ (.tail _ (.tail _ (.head _)))))), fun p hp => N4 p (.tail _ (.tail _ (.tail _ (.tail _ (.tail _ (.tail _ (.tail _ hp)))))))⟩⟩⟩⟩
    with_unfolding_all refine addC w mean mg mb _ _ _ callerA h₀ h₀ [] (lawEnv L fa cd) L _ ((L + 1, oc) :: (x, instObj 184 d) :: (d, hdDict w dt l) :: (tw, W.listOf ws.toArray k) :: tail) _ x d l dt vs n ps y z kk o ty tz to _ B F4 X (fun p hp => N5 p (.tail _ hp)) T rfl rfl dep uni (.tail _ (.head _)) (.tail _ (.tail _ (.head _))) TB.offl hy hz hkk ho hkn h95 h92 h34 TB.dv' (Nat.le_trans hvs (by decide)) N5 ?_ ?_
    · intro b1 b2 b3 b4 h' tk' ys k' a j t u F1 N1 low D1
      rw [hmm] at F1
      (try dsimp only)
      w_strict k_steps
      exact okEnd F1 e1 e6 (TB.add hoc N1 low D1) (by rw [doorStep, if_neg hdr0, if_neg hdr1, if_pos hdr, b1, b2, b3, b4]; rfl) (fun _ hp => .tail _ hp)
    · intro bb h' tk' g e t vs' R1 F1 U1
      rw [hmm] at F1
      (try dsimp only)
      have hb : doorStep dr y z kk o ps = (true, ps) := by
        rw [doorStep, if_neg hdr0, if_neg hdr1, if_pos hdr, bb]; rfl
      with_unfolding_all exact errEnd B X T R1 F1 U1 e1 (fun h'' N'' => TB.same N'') hb (fun _ hp => hp)
  · have hdr : doorStep dr y z kk o ps = (!((ps ++ [(y, z)]).all fun p => !bad true p.1 && !bad false p.2), if ((ps ++ [(y, z)]).all fun p => !bad true p.1 && !bad false p.2) then ps ++ [(y, z)] else ps) := by
      rw [doorStep, if_neg (by assumption), if_neg (by assumption), if_neg (by assumption)]
    refine Hold.intro (wpAny_call ?_)
    with_unfolding_all refine itemsC w mean mg mb _ _ _ callerA h₀ h₀ [] (lawEnv L fa cd) L _ _ _ x d l dt vs n _ B F X N T rfl rfl (Nat.lt_of_le_of_lt (Nat.add_le_add_left (by decide) _) dep) (Nat.lt_of_le_of_lt (Nat.add_le_add_left (by decide) _) uni) (.tail _ (.head _)) (.tail _ (.tail _ (.head _))) (.tail _ (.tail _ (.tail _ (.head _)))) (Nat.le_trans hvs (by decide)) ?_
    intro h1 tk1 D c F1 N1 low1
    clear F N
    (try dsimp only)
    have low1' := low1
    k_lt low1
    have hsz : vs.toArray.size ≤ 90 := by rw [List.size_toArray]; exact hvs
    w_strict k_steps
    refine Hold.intro ?_
    rename_i a hA la q1 hB FB NB lq hC F5 N5
    have low5 : ∀ p ∈ (q1, W.listOf #[Value.ref a] 0) :: (a, tup #[.str y ty, .str z tz] 0) :: (D, W.listOf vs.toArray c) :: (L + 1, oc) :: (x, instObj 184 d) :: (d, hdDict w dt l) :: (l, W.listOf vs.toArray n) :: (tw, W.listOf ws.toArray k) :: tail, p.1 < hB.objs.size := fun p hp => Heap.lt_size (NB p hp).1
    have lac : L + 1 < a := la.2.1
    with_unfolding_all refine call_cls (fI := 76) F5 X N5 ?k1 ?k2 ?k3 fun x' d' h6 F6 N6 low6 ldx => ?_
    case k1 => k_is
    case k2 => k_is
    case k3 => k_is
    have hlen : vs.length = ps.length := by have := dv.length; rwa [List.length_map] at this
    with_unfolding_all refine initC w mean mg mb _ _ _ callerA h₀ h₀ [] (lawEnv L fa cd) L _ ((x', instObj 184 d') :: (hB.objs.size, W.listOf (vs ++ [Value.ref a]).toArray 0) :: (q1, W.listOf #[Value.ref a] 0) :: (a, tup #[.str y ty, .str z tz] 0) :: (D, W.listOf vs.toArray c) :: (L + 1, oc) :: (x, instObj 184 d) :: (d, hdDict w dt l) :: (l, W.listOf vs.toArray n) :: (tw, W.listOf ws.toArray k) :: tail) _ x' d' hB.objs.size (vs ++ [Value.ref a]) 0 (ps ++ [(y, z)]) _ B F6 X (fun p hp => N6 p (by rcases List.mem_cons.mp hp with rfl | hp; exact .head _; exact .tail _ (.tail _ hp))) T rfl rfl (Nat.le_of_ble_eq_true rfl) (Nat.le_of_ble_eq_true rfl) (.head _) (.tail _ (.head _)) ?od ?dd ?pp ?ll (fun p hp => N6 p (by rcases List.mem_cons.mp hp with rfl | hp; exact .tail _ (.head _); rcases List.mem_cons.mp hp with rfl | hp; exact .head _; exact .tail _ (.tail _ hp))) ?_ ?_
    case od => exact List.forall_mem_cons.mpr ⟨Ne.symm (Nat.ne_of_lt ldx), fun p hp => Nat.ne_of_lt (low6 p hp)⟩
    case dd =>
      rw [List.map_append]
      exact (dv.mono fun p hp => .tail _ (.tail _ (.tail _ (.tail _ (.tail _ (.tail _ (.tail _ (.tail _ (.tail _ (.tail _ hp)))))))))).append (.one (.tuple (.tail _ (.tail _ (.tail _ (.head _)))) (.cons (.str _ _) (.cons (.str _ _) .nil))))
    case pp =>
      intro p hp
      rcases List.mem_append.mp hp with hp | hp
      · exact hps p hp
      · rw [List.mem_singleton.mp hp]; exact ⟨Nat.le_trans hy (by decide), Nat.le_trans hz (by decide)⟩
    case ll => rw [List.length_append]; show vs.length + 1 ≤ 100; omega
    · intro hall h7 tk7 dt7 F7 N7
      rw [hmm] at F7
      refine ⟨rfl, ?_⟩
      (try dsimp only)
      clear F5 N5 F6 N6
      w_strict k_steps
      rw [hall, if_pos rfl] at hdr
      rw [hdr]
      (rename Fr _ _ _ _ => F9)
      (rename News _ _ _ _ => N9)
      refine ⟨rfl, x', d', hB.objs.size, dt7, vs ++ [Value.ref a], 0, (a, tup #[.str y ty, .str z tz] 0) :: tail, _, _, rfl, fr_know (x := Str.ofString "refused") F9 ((if_neg (by decide)).trans e6), ?_, fun _ hp => .tail _ hp⟩
      have l8 := low6 _ (.head _)
      have l9 := low5 _ (.tail _ (.head _))
      have l10 := low5 _ (.tail _ (.tail _ (.tail _ (.tail _ (.tail _ (.tail _ (.tail _ (.head _))))))))
      exact {
        news := List.forall_mem_cons.mpr ⟨N9 _ (.tail _ (.tail _ (.tail _ (.tail _ (.tail _ (.tail _ (.head _))))))), List.forall_mem_cons.mpr ⟨N9 _ (.tail _ (.head _)), List.forall_mem_cons.mpr ⟨N9 _ (.head _), List.forall_mem_cons.mpr ⟨N9 _ (.tail _ (.tail _ (.head _))), List.forall_mem_cons.mpr ⟨N9 _ (.tail _ (.tail _ (.tail _ (.tail _ (.tail _ (.tail _ (.tail _ (.tail _ (.tail _ (.tail _ (.head _))))))))))), List.forall_mem_cons.mpr ⟨N9 _ (.tail _ (.tail _ (.tail _ (.tail _ (.head _))))), fun p hp => N9 p (.tail _ (.tail _ (.tail _ (.tail _ (.tail _ (.tail _ (.tail _ (.tail _ (.tail _ (.tail _ (.tail _ hp)))))))))))⟩⟩⟩⟩⟩⟩
        toff := fun p hp b hb => by
          rcases List.mem_cons.mp hp with rfl | hp
          · rcases List.mem_cons.mp hb with rfl | hb
            · exact Ne.symm (Nat.ne_of_lt lac)
            · rw [List.mem_singleton.mp hb]; exact Nat.ne_of_lt l9
          · rcases List.mem_cons.mp hb with rfl | hb
            · exact toff p hp _ (.head _)
            · rw [List.mem_singleton.mp hb]; exact Nat.ne_of_lt (low5 p (.tail _ (.tail _ (.tail _ (.tail _ (.tail _ (.tail _ (.tail _ (.tail _ hp)))))))))
        xc := Ne.symm (Nat.ne_of_lt (Nat.lt_trans lac (Nat.lt_trans l9 (Nat.lt_trans l8 ldx))))
        dc := Ne.symm (Nat.ne_of_lt (Nat.lt_trans lac (Nat.lt_trans l9 l8)))
        lc := Ne.symm (Nat.ne_of_lt (Nat.lt_trans lac l9))
        tc := tc
        xl := Ne.symm (Nat.ne_of_lt (Nat.lt_trans l8 ldx))
        dl := Ne.symm (Nat.ne_of_lt l8)
        tl := Nat.ne_of_lt l10
        dv := by
          rw [List.map_append]
          exact (dv.mono fun p hp => .tail _ hp).append (.one (.tuple (.head _) (.cons (.str _ _) (.cons (.str _ _) .nil))))
        dw := dw.mono fun p hp => .tail _ hp }
    · intro hall h7 tk7 g e t vs' R7 F7 U7
      rw [hmm] at F7
      rw [hall, if_neg Bool.false_ne_true] at hdr
      show wpAny _ _ _ _ _ _
      (try dsimp only)
      with_unfolding_all exact errEnd B X T R7 F7 U7 e1 (fun h'' N'' => { TB with news := fun p hp => N'' p (.tail _ (.tail _ (.tail _ (.tail _ (.tail _ hp))))) }) hdr (fun _ hp => hp)
end
end Mine
end
section
open PySem PySem.W PyProof.Rows PySem.Calls PySem.Spec
namespace Mine
open PySem.StrLaws PySem.Builtin PySem.Builtin.Str
abbrev crlf : Str := ⟨#[13, 10]⟩
theorem crlf_at (x : Str) (k : Nat) (h1 : x.cps.toList[k]? = some 13) (h2 : x.cps.toList[k + 1]? = some 10) : At x crlf x.length k := by
  obtain ⟨a1, b1⟩ := List.getElem?_eq_some_iff.mp h1
  obtain ⟨a2, b2⟩ := List.getElem?_eq_some_iff.mp h2
  refine ⟨?_, ?_⟩
  · show k + 2 ≤ x.cps.size
    rw [← Array.length_toList]; omega
  · rw [subAt_eq]
    show ((x.cps.toList.drop k).take 2 == [13, 10]) = true
    rw [List.drop_eq_getElem_cons a1, List.drop_eq_getElem_cons a2, b1, b2]
    rfl
theorem cr_free (x : Str) (a b : Nat) (hx : ∀ k, x.cps.toList[k]? = some 13 → At x crlf x.length k) (hn : ∀ k, a ≤ k → k < b → ¬ At x crlf x.length k) : 13 ∉ (strSub x a b).cps.toList := by
  intro hm
  rw [strSub_toList] at hm
  obtain ⟨j, hj⟩ := List.getElem?_of_mem hm
  have hlt : j < b - a := by
    have h1 := (List.getElem?_eq_some_iff.mp hj).1
    rw [List.length_take] at h1
    omega
  rw [List.getElem?_take_of_lt hlt, List.getElem?_drop] at hj
  exact hn (a + j) (by omega) (by omega) (hx _ hj)
theorem crs_free (x : Str) (hx : ∀ k, x.cps.toList[k]? = some 13 → At x crlf x.length k) : ∀ (cuts : List Nat) (a f : Nat), ChainG x crlf x.length a cuts f → (∀ k, f ≤ k → ¬ At x crlf x.length k) → ∀ p ∈ partsFrom x crlf.length a cuts, 13 ∉ p.cps.toList
  | [], a, f, h, hn, p, hp => by
    have e : f = a := h
    subst e
    rw [List.mem_singleton.mp hp]
    exact cr_free x f x.length hx fun k h1 _ => hn k h1
  | d :: r, a, f, h, hn, p, hp => by
    rcases List.mem_cons.mp hp with rfl | hp'
    · exact cr_free x a d hx h.2.2.1
    · exact crs_free x hx r _ f h.2.2.2 hn p hp'
theorem kind_ge (x : Str) : 1 ≤ Builtin.Str.strKind x := by
  unfold Builtin.Str.strKind
  split
  · exact Nat.le_refl _
  · split <;> decide
theorem split_crs (x : Str) (hx : ∀ k, x.cps.toList[k]? = some 13 → At x crlf x.length k) : ∀ p ∈ Txt.split x crlf, 13 ∉ p.cps.toList := by
  obtain ⟨f, hG, hn⟩ := occ_tight x crlf (by decide)
  unfold Txt.split
  split
  · rename_i hc
    intro p hp
    rw [List.mem_singleton.mp hp]
    intro hm
    obtain ⟨j, hj⟩ := List.getElem?_of_mem hm
    have hA := hx j hj
    rw [Bool.or_eq_true, decide_eq_true_eq, decide_eq_true_eq] at hc
    rcases hc with h | h
    · have := hA.1; omega
    · have h1 := kind_ge x
      have h2 : Builtin.Str.strKind crlf = 1 := by decide +kernel
      omega
  · split
    · rename_i he
      intro p hp
      rw [List.mem_singleton.mp hp]
      have h0 : occurrences x crlf 0 x.length (x.length + 1) = [] := List.isEmpty_iff.mp he
      rw [h0] at hG
      have hf : f = 0 := hG
      subst hf
      intro hm
      obtain ⟨j, hj⟩ := List.getElem?_of_mem hm
      exact hn j (Nat.zero_le _) (hx j hj)
    · rw [partsBetween_eq]
      exact crs_free x hx _ 0 f hG hn
/-- a text that is glued of lines without CR: each CR in it stands ahead of an LF -/
theorem join_cr : ∀ (ls : List Str), (∀ l ∈ ls, 13 ∉ l.cps.toList) → ∀ k, (Str.join crlf ls).cps.toList[k]? = some 13 → (Str.join crlf ls).cps.toList[k + 1]? = some 10
  | [], _, k, h => by
    have e : (Str.join crlf []).cps.toList = [] := rfl
    rw [e] at h; cases h
  | [x], hl, k, h => absurd (List.mem_of_getElem? h) (hl x (.head _))
  | x :: y :: r, hl, k, h => by
    have e : (Str.join crlf (x :: y :: r)).cps.toList = x.cps.toList ++ ([13, 10] ++ (Str.join crlf (y :: r)).cps.toList) := by
      show (x.cps ++ #[13, 10] ++ (Str.join crlf (y :: r)).cps).toList = _
      simp
    rw [e] at h ⊢
    by_cases h1 : k < x.cps.toList.length
    · rw [List.getElem?_append_left h1] at h
      exact absurd (List.mem_of_getElem? h) (hl x (.head _))
    · rw [List.getElem?_append_right (by omega)] at h ⊢
      obtain ⟨j, hj⟩ : ∃ j, k - x.cps.toList.length = j := ⟨_, rfl⟩
      have hj' : k + 1 - x.cps.toList.length = j + 1 := by omega
      rw [hj] at h
      rw [hj']
      match j, h with
      | 0, _ => rfl
      | 1, h => exact absurd (show (10 : Nat) = 13 from Option.some.inj h) (by decide)
      | j + 2, h =>
        have h' : (Str.join crlf (y :: r)).cps.toList[j]? = some 13 := h
        exact join_cr (y :: r) (fun l hh => hl l (.tail _ hh)) j h'
theorem str_ext {a b : Str} (h : a.cps.toList = b.cps.toList) : a = b := by
  obtain ⟨⟨a⟩⟩ := a
  obtain ⟨⟨b⟩⟩ := b
  have : a = b := h
  rw [this]
theorem cut_eq : ∀ {a b u v : List Nat}, 13 ∉ a → 13 ∉ b → a ++ 13 :: u = b ++ 13 :: v → a = b ∧ u = v
  | [], [], _, _, _, _, h => ⟨rfl, (List.cons.inj h).2⟩
  | [], c :: b, _, _, _, hb, h => absurd (List.mem_cons.mpr (.inl (List.cons.inj h).1)) hb
  | c :: a, [], _, _, ha, _, h => absurd (List.mem_cons.mpr (.inl (List.cons.inj h).1.symm)) ha
  | c :: a, d :: b, _, _, ha, hb, h => by
    obtain ⟨h1, h2⟩ := List.cons.inj (show c :: (a ++ 13 :: _) = d :: (b ++ 13 :: _) from h)
    obtain ⟨h3, h4⟩ := cut_eq (fun hm => ha (.tail _ hm)) (fun hm => hb (.tail _ hm)) h2
    exact ⟨by rw [h1, h3], h4⟩
theorem join_inj : ∀ (a b : List Str), a ≠ [] → b ≠ [] → (∀ l ∈ a, 13 ∉ l.cps.toList) → (∀ l ∈ b, 13 ∉ l.cps.toList) → (Str.join crlf a).cps.toList = (Str.join crlf b).cps.toList → a = b
  | [], _, h, _, _, _, _ => absurd rfl h
  | _, [], _, h, _, _, _ => absurd rfl h
  | [x], [y], _, _, _, _, h => by
    have : x.cps.toList = y.cps.toList := h
    rw [str_ext this]
  | [x], y :: z :: r, _, _, hx, _, h => by
    have h' : x.cps.toList = y.cps.toList ++ 13 :: 10 :: (Str.join crlf (z :: r)).cps.toList := h.trans (by
      show (y.cps ++ #[13, 10] ++ (Str.join crlf (z :: r)).cps).toList = _
      simp)
    exact absurd (by rw [h']; simp) (hx x (.head _))
  | x :: z :: r, [y], _, _, _, hy, h => by
    have h' : y.cps.toList = x.cps.toList ++ 13 :: 10 :: (Str.join crlf (z :: r)).cps.toList := h.symm.trans (by
      show (x.cps ++ #[13, 10] ++ (Str.join crlf (z :: r)).cps).toList = _
      simp)
    exact absurd (by rw [h']; simp) (hy y (.head _))
  | x :: x2 :: r, y :: y2 :: t, _, _, hx, hy, h => by
    have e1 : (Str.join crlf (x :: x2 :: r)).cps.toList = x.cps.toList ++ 13 :: 10 :: (Str.join crlf (x2 :: r)).cps.toList := by
      show (x.cps ++ #[13, 10] ++ (Str.join crlf (x2 :: r)).cps).toList = _
      simp
    have e2 : (Str.join crlf (y :: y2 :: t)).cps.toList = y.cps.toList ++ 13 :: 10 :: (Str.join crlf (y2 :: t)).cps.toList := by
      show (y.cps ++ #[13, 10] ++ (Str.join crlf (y2 :: t)).cps).toList = _
      simp
    rw [e1, e2] at h
    obtain ⟨h1, h2⟩ := cut_eq (hx x (.head _)) (hy y (.head _)) h
    have h3 := join_inj (x2 :: r) (y2 :: t) (List.cons_ne_nil _ _) (List.cons_ne_nil _ _) (fun l hl => hx l (.tail _ hl)) (fun l hl => hy l (.tail _ hl)) (List.cons.inj h2).2
    rw [h3, str_ext h1]
theorem split_ne (x : Str) : Txt.split x crlf ≠ [] := by
  unfold Txt.split
  split
  · exact List.cons_ne_nil _ _
  · split
    · exact List.cons_ne_nil _ _
    · rw [partsBetween_eq]
      obtain ⟨p, r, e⟩ := partsFrom_ne x crlf.length 0 (occurrences x crlf 0 x.length (x.length + 1))
      rw [e]; exact List.cons_ne_nil _ _
/-- what is glued of lines without CR, parted at CR LF, is those lines -/
theorem split_join (ls : List Str) (h0 : ls ≠ []) (hl : ∀ l ∈ ls, 13 ∉ l.cps.toList) : Txt.split (Txt.join (Str.ofString "\r\n") ls) (Str.ofString "\r\n") = ls := by
  have e0 : Str.ofString "\r\n" = crlf := by decide
  have e1 : Txt.join crlf ls = Str.join crlf ls := glued_eq_join _ _
  rw [e0, e1]
  refine join_inj _ _ (split_ne _) h0 (split_crs _ fun k hk => crlf_at _ k hk (join_cr ls hl k hk)) hl ?_
  rw [StrLaws.join_split]
end Mine
end
section
open PySem PySem.W PyProof.Rows PySem.Calls PySem.Spec

namespace Mine
theorem offFi : True := by (w_top off; exact trivial)
theorem dat_strs : ∀ {vs : List Value} {ys : List Str}, StrsAre vs ys → DatAll [] vs (ys.map Dat.str)
  | _, _, .nil => .nil
  | _, _, .cons y t h => .cons (.str y t) (dat_strs h)
theorem join_room {ps : List (Str × Str)} (h : ∀ p ∈ ps, p.1.length ≤ 1000 ∧ p.2.length ≤ 1000) (hn : ps.length ≤ 100) : (Txt.join (Str.ofString "\r\n") (ps.map lineOf ++ [Str.empty, Str.empty])).length + 2 ≤ sizeLine := by
  have e1 : Txt.join (Str.ofString "\r\n") (ps.map lineOf ++ [Str.empty, Str.empty]) = Str.join (Str.ofString "\r\n") (ps.map lineOf ++ [Str.empty, Str.empty]) := StrLaws.glued_eq_join _ _
  have h1 := StrLaws.join_length_le (Str.ofString "\r\n") (ps.map lineOf ++ [Str.empty, Str.empty])
  have h2 := line_room h hn
  have h3 : (Str.ofString "\r\n").length = 2 := by decide
  rw [h3] at h1
  rw [e1, sizeLine_eq]
  omega
theorem strOk_app {a b : Str} (ha : PyData.strOk a = true) (hb : PyData.strOk b = true) : PyData.strOk (a ++ b) = true := by
  unfold PyData.strOk at *
  show (a.cps ++ b.cps).all _ = true
  rw [Array.all_append, ha, hb]; rfl
theorem strOk_line {p : Str × Str} (h : PyData.strOk p.1 = true ∧ PyData.strOk p.2 = true) : PyData.strOk (lineOf p) = true :=
  strOk_app (strOk_app h.1 (by decide +kernel)) h.2
theorem line_cr {p : Str × Str} (h : 13 ∉ p.1.cps.toList ∧ 13 ∉ p.2.cps.toList) : 13 ∉ (lineOf p).cps.toList := by
  have e : (lineOf p).cps.toList = p.1.cps.toList ++ [58, 32] ++ p.2.cps.toList := by
    show (p.1.cps ++ (Str.ofString ": ").cps ++ p.2.cps).toList = _
    rw [show (Str.ofString ": ").cps = #[58, 32] from by decide +kernel]
    simp
  rw [e]
  simp [h.1, h.2]
def EndAt (w : World) (h₀ : Heap) (L : Addr) (m : Str → Option Value) (s : Shared) (oc : Obj) (x d l tw : Addr) (dt : Tok) (vs ws : List Value) (n k : Nat) (ps : List (Str × Str)) (tail : List (Addr × Obj)) (f : Flow) (s' : Shared) : Prop :=
  f = .next ∧ ∃ h' tk', s' = { s with heap := h', toks := tk' } ∧ Fr h₀ L h' m ∧ Tab w h₀ L oc h' x d l tw dt vs ws n k ps ps tail
open PyProof.Rows.LCg PyProof.Rows.LCp in
theorem restP_inv {prog : Program} {w : World} {A : Around} {s : Shared} {h₀ : Heap} {L : Addr} {m : Str → Option Value} {env : Env} {elt : Expr} {x x₂ : Str} {scope : Scope} {cl : List (Str × Addr)} {S : List (Addr × Obj) → Prop} {P : Nat → Value → Prop} {Fin : List Value → List (Addr × Obj) → Prop} {news : List (Addr × Obj)} {n : Nat}
    (Inv : Nat → List Value → Prop) (Good : Nat → Value → Value → Prop) (hS : S news) (hfin : ∀ ys, Inv n ys → Fin ys news)
    (pairs : ∀ i v, P i v → ∃ (t : Addr) (ot : Obj) (v₁ v₂ : Value) (nt : Nat), v = .ref t ∧ (t, ot) ∈ news ∧ ot.cls = .type "tuple" ∧ ot.data = .seq #[v₁, v₂] nt ∧ Good i v₁ v₂)
    (step : ∀ i ys v₁ v₂ I oI C oC D m₂ h tk (E' : Value → Shared → Prop), i < n → Inv i ys → Good i v₁ v₂ → NsObj oC m₂ → m₂ x = some v₁ → m₂ x₂ = some v₂ → Fr h₀ L h m → News h₀ L h ((I, oI) :: (C, oC) :: (D, lst ys) :: news) →
        wpAny (model prog w) A (eval elt (compEnvC scope cl C env)) (fun y s'' => TurnAt h₀ L m s ((I, oI) :: (C, oC) :: (D, lst ys) :: news) (Inv (i + 1) (ys ++ [y])) s'') E' { s with heap := h, toks := tk }) :
    ∀ k i ys, i + k = n → Inv i ys → CompRestP prog w A h₀ L m env elt x x₂ scope cl s S P Fin k i ys news
  | 0, i, ys, e, hi => CompRestP.zero (hfin ys (by rw [← (show i = n by omega)]; exact hi))
  | k + 1, i, ys, e, hi => by
    refine CompRestP.succ fun v hv => ?_
    obtain ⟨t, ot, v₁, v₂, nt, e1, e2, e3, e4, g⟩ := pairs i v hv
    refine ⟨t, ot, v₁, v₂, nt, e1, e2, e3, e4, fun I oI C oC D m₂ h tk E' hN hx hx2 F N off _ => ?_⟩
    refine wpAny_mono (step i ys v₁ v₂ I oI C oC D m₂ h tk E' (by omega) hi g hN hx hx2 F N) (fun y s'' h'' => ?_) fun _ _ e => e
    obtain ⟨⟨h1, tk1, rfl, F1, N1⟩, hi'⟩ := h''
    exact ⟨h1, tk1, news, rfl, F1, N1, off, hS, restP_inv Inv Good hS hfin pairs step k (i + 1) (ys ++ [y]) (by omega) hi'⟩
section
local macro_rules | `(tactic| walk_at "call builtin:str.split") => `(tactic| (refine Hold.back ?_))
local macro_rules | `(tactic| walk_at "call ref") => `(tactic| ((with_unfolding_all show wpAny _ _ (call (Value.ref 148) _ _) _ _ _); (refine Hold.back ?_)))
local macro_rules | `(tactic| walk_at "call ref") => `(tactic| ((with_unfolding_all show wpAny _ _ (call (Value.ref 160) _ _) _ _ _); (refine Hold.back ?_)))
local macro_rules | `(tactic| walk_at "eval ListComp") => `(tactic| (refine Hold.back ?_))
theorem finL : ∀ (w : World) (mean : ExcName → Option Value) (mg mb : Str → Option Value) (h₀ : Heap) (L fa : Addr) (cd : Value) (m : Str → Option Value) (s : Shared)
    (b : Bool) (x d l tw : Addr) (dt : Tok) (vs ws : List Value) (n k : Nat) (ps : List (Str × Str)) (oc : Obj) (tail : List (Addr × Obj)),
    Below callerA h₀ [] h₀ → Fr h₀ L s.heap m → (hd.heap_39 w.params).In h₀ → Top hd.view_39 LS mean mg mb h₀ →
    Tab w h₀ L oc s.heap x d l tw dt vs ws n k ps ps tail → (∀ p ∈ ps, p.1.length ≤ 1000 ∧ p.2.length ≤ 1000) → vs.length ≤ 90 →
    (∀ p ∈ ps, 13 ∉ p.1.cps.toList ∧ 13 ∉ p.2.cps.toList) → (∀ p ∈ ps, PyData.strOk p.1 = true ∧ PyData.strOk p.2 = true) →
    m (Str.ofString "table") = some (.ref x) → m (Str.ofString "twin") = some (.ref tw) → m (Str.ofString "refused") = some (.bool b) → m (Str.ofString "want") = some (.bool b) →
    wpAny (model PySem.Challenge.rw_dr0124_01.row.prog w) (callerA.deeper (lawEnv L fa cd)) (execs endB (lawEnv L fa cd)) (EndAt w h₀ L m s oc x d l tw dt vs ws n k ps tail) (fun _ _ => False) s := by
  k_fill
  intro w mean mg mb h₀ L fa cd m s b x d l tw dt vs ws n k ps oc tail B F X T TB hps hvs hcr hok e1 e2 e3 e4
  unfold lawEnv endB aftB forBody lawScope lawS
  dsimp only [bodyOf, fourth, scopeOf, lastOf, behind7, behind1, behind3, headOf, handOf, PySem.Challenge.pw_dr0124_01]
  replace F := fr_know F e1
  replace F := fr_know (x := Str.ofString "twin") F ((if_neg (by decide)).trans e2)
  replace F := fr_know (x := Str.ofString "refused") F ((if_neg (by decide)).trans ((if_neg (by decide)).trans e3))
  replace F := fr_know (x := Str.ofString "want") F ((if_neg (by decide)).trans ((if_neg (by decide)).trans ((if_neg (by decide)).trans e4)))
  have TB' := TB
  obtain ⟨N, toff, xc, dc, lc, tc, xl, dl, tl, dv, dw⟩ := TB'
  have dep : callerA.depth + 1 + 12 < recursionLimit := by decide +kernel
  have uni : callerA.units + 3 + 200 < cLine := by decide +kernel
  w_strict k_steps
  · rename (b != b) = true => hb
    rw [bne_self_eq_false] at hb
    cases hb
  · refine Hold.intro (wpAny_call ?_)
    with_unfolding_all refine itemsC w mean mg mb _ _ _ callerA h₀ h₀ [] (lawEnv L fa cd) L _ _ _ x d l dt vs n _ B F X N T rfl rfl (Nat.lt_of_le_of_lt (Nat.add_le_add_left (by decide) _) dep) (Nat.lt_of_le_of_lt (Nat.add_le_add_left (by decide) _) uni) (.tail _ (.head _)) (.tail _ (.tail _ (.head _))) (.tail _ (.tail _ (.tail _ (.head _)))) (Nat.le_trans hvs (by decide)) ?_
    intro h1 tk1 D c F1 N1 low1
    (try dsimp only)
    have okd : ∀ d ∈ ps.map d2, kqdOk 8 d = true := by
      intro d hd
      obtain ⟨p, hp, rfl⟩ := List.mem_map.mp hd
      have := hok p hp
      show ([Dat.str p.1, Dat.str p.2].all (kqdOk 7)) = true
      rw [List.all_cons, List.all_cons]
      show (PyData.strOk p.1 && (PyData.strOk p.2 && true)) = true
      rw [this.1, this.2]; rfl
    have hsub : ∀ p ∈ tail, p ∈ (D, W.listOf vs.toArray c) :: (L + 1, oc) :: (x, instObj 184 d) :: (d, hdDict w dt l) :: (l, W.listOf vs.toArray n) :: (tw, W.listOf ws.toArray k) :: tail := fun p hp => .tail _ (.tail _ (.tail _ (.tail _ (.tail _ (.tail _ hp)))))
    clear F N
    w_strict k_steps
    refine Hold.intro (wpAny_call ?_)
    with_unfolding_all refine strC w mean mg mb _ _ _ callerA h₀ h₀ [] (lawEnv L fa cd) L _ _ _ x d l dt vs n ps _ B F1 X N1 T rfl rfl (Nat.le_of_ble_eq_true rfl) (Nat.le_of_ble_eq_true rfl) (.tail _ (.tail _ (.head _))) (.tail _ (.tail _ (.tail _ (.head _)))) (.tail _ (.tail _ (.tail _ (.tail _ (.head _))))) (dv.mono hsub) hps (Nat.le_trans hvs (by decide)) ?_
    intro h2 tk2 u F2 N2
    clear F1 N1
    dsimp only [StrBack]
    w_strict k_steps
    have hlen : vs.length = ps.length := by have := dv.length; rwa [List.length_map] at this
    have hlen2 : ws.length = ps.length := by have := dw.length; rwa [List.length_map] at this
    refine Hold.intro (KSpl.split1 F2 N2 (by decide) (fun D3 lp h3 k3 eq3 a3 F3 N3 low3 => ?_) (join_room hps (by omega)))
    rw [split_join _ (by simp) (fun q hq => by
      rcases List.mem_append.mp hq with hq | hq
      · obtain ⟨p, hp, rfl⟩ := List.mem_map.mp hq
        exact line_cr (hcr p hp)
      · have : q = Str.empty := by simpa using hq
        rw [this]; decide)] at eq3
    rw [eq3] at a3
    clear F2 N2
    (try dsimp only)
    w_strict k_steps
    refine Hold.intro ?_
    refine' LCp.ListComp_P F3 ?q1 ?q2 ?q3 ?q4 ?q5 ?q6 ?q7 ?_ ?q8
    case q1 => exact rfl
    case q2 => decide
    case q3 => exact rfl
    case q4 => decide
    case q5 => exact rfl
    case q6 => exact rfl
    case q7 => decide
    case q8 => exact fun _ => rfl
    w_strict k_steps
    have hsub3 : ∀ p ∈ tail, p ∈ (D3, W.listOf (strValues lp).toArray 0) :: (D, W.listOf vs.toArray c) :: (L + 1, oc) :: (x, instObj 184 d) :: (d, hdDict w dt l) :: (l, W.listOf vs.toArray n) :: (tw, W.listOf ws.toArray k) :: tail := fun p hp => .tail _ (hsub p hp)
    refine LCp.SrcLP.ledger rfl F3 N3 (k := k) (its := ws.toArray) (.tail _ (.tail _ (.tail _ (.tail _ (.tail _ (.tail _ (.head _))))))) (by rw [List.size_toArray, sizeLine_eq]; omega) fun g => ?_
    rw [List.size_toArray]
    refine restP_inv (n := ws.length) (fun i ys => StrsAre ys ((ps.take i).map lineOf)) (fun i v₁ v₂ => ∃ p t u, ps[i]? = some p ∧ v₁ = .str p.1 t ∧ v₂ = .str p.2 u) (.inr ⟨_, .tail _ (.tail _ (.tail _ (.tail _ (.tail _ (.tail _ (.head _)))))), rfl, k, rfl⟩) (fun ys hys => ?_) (fun i v hv => ?_) (fun i ys v₁ v₂ I oI C oC D m₂ h tk E' hi hInv hG hNs hmx hmy F4 N4 => ?_) _ 0 [] (by omega) .nil
    · intro D4 h4 tk4 F4 N4 o4
      clear F3 N3
      w_strict k_steps
      rename_i l5 h5 F5 N5 low5
      rw [hlen2, List.take_length] at hys
      have hyl : ys.length = ps.length := by rw [hys.len_eq, List.length_map]
      refine kmk_add_lit F5 N5 (N5.isList (.tail _ (.head _))) (N5.isList (.head _)) rfl (fun D6 h6 F6 N6 l6 => ?_) ?_
      rotate_left
      · show ys.toArray.toList.length + 2 ≤ sizeLine
        rw [sizeLine_eq, List.toList_toArray]; omega
      clear F5 N5
      have okl : ∀ d ∈ (ps.map lineOf ++ [Str.empty, Str.empty]).map Dat.str, kqdOk 8 d = true := by
        intro d hd
        obtain ⟨q, hq, rfl⟩ := List.mem_map.mp hd
        show PyData.strOk q = true
        rcases List.mem_append.mp hq with hq | hq
        · obtain ⟨p, hp, rfl⟩ := List.mem_map.mp hq
          exact strOk_line (hok p hp)
        · have : q = Str.empty := by simpa using hq
          rw [this]; decide +kernel
      refine kqd_ne (n₁ := []) (n₂ := []) (ds := (ps.map lineOf ++ [Str.empty, Str.empty]).map Dat.str) (es := (ps.map lineOf ++ [Str.empty, Str.empty]).map Dat.str) (xs := strValues lp) (ys := ys ++ [Value.str (Str.ofString "") _, Value.str (Str.ofString "") _]) N6 (.tail _ (.tail _ (.tail _ (.head _)))) rfl rfl (dat_strs a3) (fun _ h => nomatch h) (.head _) rfl rfl (dat_strs (StrsAre.append' hys (.cons _ _ (.cons _ _ .nil)))) (fun _ h => nomatch h) okl okl (by show callerA.units + 3 + 64 < cLine; omega) ?_
      have hde : ∀ (A : List Dat) (inst : Decidable (A = A)), @decide (A = A) inst = true := fun A inst => @decide_eq_true _ inst rfl
      rw [hde]
      w_strict k_steps
      (rename Fr _ _ _ _ => F7)
      (rename News _ _ _ _ => N7)
      have hmm : (fun y => if y = Str.ofString "want" then some (Value.bool b) else (if y = Str.ofString "refused" then some (Value.bool b) else (if y = Str.ofString "twin" then some (Value.ref tw) else (if y = Str.ofString "table" then some (Value.ref x) else m y)))) = m := by
        funext q
        by_cases h1 : q = Str.ofString "want"
        · rw [if_pos h1, h1, e4]
        rw [if_neg h1]
        by_cases h2 : q = Str.ofString "refused"
        · rw [if_pos h2, h2, e3]
        rw [if_neg h2]
        by_cases h3 : q = Str.ofString "twin"
        · rw [if_pos h3, h3, e2]
        rw [if_neg h3]
        by_cases h4 : q = Str.ofString "table"
        · rw [if_pos h4, h4, e1]
        rw [if_neg h4]
      rw [hmm] at F7
      exact ⟨rfl, _, _, rfl, F7, { TB with news := fun p hp => N7 p (.tail _ (.tail _ (.tail _ (.tail _ (.tail _ hp))))) }⟩
    · have hv' : ws[i]? = some v := by simpa using hv
      obtain ⟨p, a, n', t2, u2, hp, e, hm⟩ := d2_at dw hv'
      exact ⟨a, _, _, _, n', e, hsub3 _ hm, rfl, rfl, p, t2, u2, hp, rfl, rfl⟩
    · clear F3 N3
      obtain ⟨p, t, u, hp, rfl, rfl⟩ := hG
      have hpl := hps p (List.mem_of_getElem? hp)
      have htake : ps.take (i + 1) = ps.take i ++ [p] := by rw [List.take_add_one, hp]; rfl
      w_strict k_steps
      refine TurnAt.mk F4 N4 ?_
      rw [htake, List.map_append]
      exact StrsAre.append' hInv (.cons _ _ .nil)
end
end Mine
end
section
open PySem PySem.W PyProof.Rows PySem.Calls PySem.Spec

namespace Mine
theorem offAf : True := by (w_top off; exact trivial)
def AftEnd (w : World) (h₀ : Heap) (L : Addr) (m : Str → Option Value) (s : Shared) (oc : Obj) (x d l : Addr) (dt : Tok) (vs : List Value) (n : Nat) (ps : List (Str × Str)) (tl₀ : List (Addr × Obj)) (f : Flow) (s' : Shared) : Prop :=
  f = .next ∧ ∃ (tw : Addr) (ws : List Value) (k : Nat) (tail : List (Addr × Obj)) (h' : Heap) (tk' : Nat) (m' : Str → Option Value), s' = { s with heap := h', toks := tk' } ∧ Fr h₀ L h' m' ∧
    m' (Str.ofString "script") = m (Str.ofString "script") ∧ m' (Str.ofString "size") = m (Str.ofString "size") ∧ m' (Str.ofString "table") = some (.ref x) ∧ m' (Str.ofString "twin") = some (.ref tw) ∧ Tab w h₀ L oc h' x d l tw dt vs ws n k ps ps tail ∧ ∀ p ∈ tl₀, p ∈ tail
theorem Tab.retwin {w : World} {h₀ h h'' : Heap} {L x d l tw tw' : Addr} {oc : Obj} {dt : Tok} {vs ws ws' : List Value} {n k k' : Nat} {ps qs qs' : List (Str × Str)} {tail tail' : List (Addr × Obj)}
    (TB : Tab w h₀ L oc h x d l tw dt vs ws n k ps qs tail) (N : News h₀ L h'' ((L + 1, oc) :: (x, instObj 184 d) :: (d, hdDict w dt l) :: (l, W.listOf vs.toArray n) :: (tw', W.listOf ws'.toArray k') :: tail'))
    (tc : tw' ≠ L + 1) (tl : tw' ≠ l) (toff : OwnOff tail' [L + 1, l]) (sub : ∀ p ∈ tail, p ∈ tail') (dw : DatAll tail' ws' (qs'.map d2)) : Tab w h₀ L oc h'' x d l tw' dt vs ws' n k' ps qs' tail' :=
  { TB with news := N, toff := toff, tc := tc, tl := tl, dv := TB.dv.mono sub, dw := dw }
theorem kept_any (y : Str) : ∀ ps : List (Str × Str), (ps.any fun p => Txt.lower p.1 == Txt.lower y) = decide ((ps.filter fun p => Txt.lower p.1 != Txt.lower y).length < ps.length)
  | [] => rfl
  | p :: r => by
    have ih := kept_any y r
    have hl := List.length_filter_le (fun p : Str × Str => Txt.lower p.1 != Txt.lower y) r
    cases h : (Txt.lower p.1 == Txt.lower y) with
    | true =>
      rw [List.any_cons, h, Bool.true_or, List.filter_cons_of_neg (by simp only [bne, h]; decide), List.length_cons]
      exact (decide_eq_true (by omega)).symm
    | false =>
      rw [List.any_cons, h, Bool.false_or, ih, List.filter_cons_of_pos (by simp only [bne, h]; decide), List.length_cons, List.length_cons]
      simp
theorem ah_yes {z k o : Str} (h : 0 < o.length) : ahVal z k o = z ++ Str.ofString "; " ++ k ++ (Str.ofString "=\"" ++ o ++ Str.ofString "\"") := by
  show z ++ Str.ofString "; " ++ fmtOf k o = _
  rw [fmtOf, if_pos h]
  simp only [PySem.Str.append_assoc, PySem.Str.empty_append]
theorem ah_no {z k o : Str} (h : ¬ 0 < o.length) : ahVal z k o = z ++ Str.ofString "; " ++ k ++ Str.ofString "" := by
  show z ++ Str.ofString "; " ++ fmtOf k o = _
  rw [fmtOf, if_neg h, show Str.ofString "" = Str.empty from by decide, PySem.Str.append_empty]
theorem endUp {w : World} {mean : ExcName → Option Value} {mg mb : Str → Option Value} {h₀ : Heap} {L fa : Addr} {cd : Value} {m M : Str → Option Value} {s : Shared} {h : Heap} {tk : Nat} {b : Bool} {x d l tw : Addr} {dt : Tok} {vs ws : List Value} {n k : Nat} {ps : List (Str × Str)} {oc : Obj} {tail tl₀ : List (Addr × Obj)}
    (B : Below callerA h₀ [] h₀) (X : (hd.heap_39 w.params).In h₀) (T : Top hd.view_39 LS mean mg mb h₀) (F : Fr h₀ L h M) (TB : Tab w h₀ L oc h x d l tw dt vs ws n k ps ps tail) (hvs : vs.length ≤ 90)
    (h1 : ∀ p ∈ ps, p.1.length ≤ 1000 ∧ p.2.length ≤ 1000) (h2 : ∀ p ∈ ps, 13 ∉ p.1.cps.toList ∧ 13 ∉ p.2.cps.toList) (h3 : ∀ p ∈ ps, PyData.strOk p.1 = true ∧ PyData.strOk p.2 = true)
    (e1 : M (Str.ofString "table") = some (.ref x)) (e2 : M (Str.ofString "twin") = some (.ref tw)) (e3 : M (Str.ofString "refused") = some (.bool b)) (e4 : M (Str.ofString "want") = some (.bool b))
    (es : M (Str.ofString "script") = m (Str.ofString "script")) (ez : M (Str.ofString "size") = m (Str.ofString "size")) (hsub : ∀ p ∈ tl₀, p ∈ tail) :
    wpAny (model PySem.Challenge.rw_dr0124_01.row.prog w) (callerA.deeper (lawEnv L fa cd)) (execs endB (lawEnv L fa cd)) (AftEnd w h₀ L m s oc x d l dt vs n ps tl₀) (fun _ _ => False) { s with heap := h, toks := tk } := by
  refine wpAny_mono (finL w mean mg mb h₀ L fa cd M { s with heap := h, toks := tk } b x d l tw dt vs ws n k ps oc tail B F X T TB h1 hvs h2 h3 e1 e2 e3 e4) (fun f s' hq => ?_) fun _ _ e => e
  obtain ⟨rfl, h', tk', rfl, F', TB'⟩ := hq
  exact ⟨rfl, tw, ws, k, tail, h', tk', M, rfl, F', es, ez, e1, e2, TB', hsub⟩
section
local macro_rules | `(tactic| walk_at "call ref") => `(tactic| ((with_unfolding_all show wpAny _ _ (call (Value.ref 200) [Value.str _ _, Value.bool _]) _ _ _); (rename Fr _ _ _ _ => lF'); (rename News _ _ _ _ => lN'); (rename Below _ _ _ _ => lB'); (rename Frag.In _ _ => lX'); (rename Top _ _ _ _ _ _ => lT'); (with_unfolding_all refine lawBad_wp lB' lF' lX' lN' lT' rfl rfl (Nat.le_of_ble_eq_true rfl) (Nat.le_of_ble_eq_true rfl) (by assumption) (by assumption) ?_); clear lF' lN'; (intro h' tk' F' N')))
local macro_rules | `(tactic| walk_at "eval ListComp") => `(tactic| (refine Hold.back ?_))
local macro_rules | `(tactic| walk_at "call builtin:len") => `(tactic| ((with_reducible show wpAny _ _ (call (Value.builtin "len") [Value.ref _]) _ _ _); (with_unfolding_all refine kun_lenL (News.isList (by k_asm) (by k_mem)) rfl (by omega) ?_)))
local macro_rules | `(tactic| walk_at "binaryOp Add ref ref") => `(tactic| ((with_reducible show wpAny _ _ (binaryOp _ (Value.ref _) (Value.ref _)) _ _ _); (with_unfolding_all refine' kmk_add_lit ?F ?N ?a ?b ?e ?_ ?z); (case F => k_asm); (case N => k_asm); (case a => exact News.isList (by k_asm) (by k_mem)); (case b => exact News.isList (by k_asm) (by k_mem)); (case e => exact rfl); (case z => (rw [sizeLine_eq, Array.length_toList, Array.length_toList, List.size_toArray]; (show _ + 1 ≤ _); omega)); intro D' h' F' N' l1; (try k_lt l1); (try k_sweep)))
local macro_rules | `(tactic| walk_at "exec Assign cons ListComp") => `(tactic| (refine Hold.back ?_))
local macro_rules | `(tactic| walk_at "execs cons") => `(tactic| ((with_reducible show wpAny _ _ (execs (Stmt.If (Expr.BoolOp _ _ _) _ _ _ :: _) _) _ _ _); (refine Hold.back ?_)))
theorem aftL : ∀ (w : World) (mean : ExcName → Option Value) (mg mb : Str → Option Value) (h₀ : Heap) (L fa : Addr) (cd : Value) (m : Str → Option Value) (s : Shared)
    (dr : Int) (y z kk o : Str) (ty tz tk1 to td : Tok) (x d l tw : Addr) (dt : Tok) (vs ws : List Value) (n k : Nat) (ps : List (Str × Str)) (oc : Obj) (tail : List (Addr × Obj)),
    Below callerA h₀ [] h₀ → Fr h₀ L s.heap m → (hd.heap_39 w.params).In h₀ → Top hd.view_39 LS mean mg mb h₀ →
    oc.data = .cell (some (.str y ty)) → Tab w h₀ L oc s.heap x d l tw dt vs ws n k (doorStep dr y z kk o ps).2 ps tail →
    y.cps.size ≤ 100 → z.cps.size ≤ 100 → kk.cps.size ≤ 100 → o.cps.size ≤ 100 →
    (∀ c ∈ y.cps.toList, c < 1114112) → (∀ c ∈ z.cps.toList, c < 1114112) → (∀ c ∈ kk.cps.toList, c < 1114112) → (∀ c ∈ o.cps.toList, c < 1114112) →
    y.cps.toList.any (lhit true) = bad true y → z.cps.toList.any (lhit false) = bad false z → kk.cps.toList.any (lhit true) = bad true kk → o.cps.toList.any (lhit false) = bad false o →
    bad true (Txt.lower y) = bad true y → (∀ p ∈ ps, bad true p.1 = false ∧ bad false p.2 = false ∧ bad true (Txt.lower p.1) = false) →
    (∀ p ∈ ps, p.1.length ≤ 1000) → ws.length ≤ 80 → vs.length ≤ 90 →
    (∀ p ∈ (doorStep dr y z kk o ps).2, p.1.length ≤ 1000 ∧ p.2.length ≤ 1000) → (∀ p ∈ (doorStep dr y z kk o ps).2, 13 ∉ p.1.cps.toList ∧ 13 ∉ p.2.cps.toList) → (∀ p ∈ (doorStep dr y z kk o ps).2, PyData.strOk p.1 = true ∧ PyData.strOk p.2 = true) →
    0 ≤ dr → dr < 4 →
    m (Str.ofString "table") = some (.ref x) → m (Str.ofString "twin") = some (.ref tw) → m (Str.ofString "value") = some (.str z tz) → m (Str.ofString "key") = some (.str kk tk1) → m (Str.ofString "more") = some (.str o to) → m (Str.ofString "door") = some (.int dr td) → m (Str.ofString "refused") = some (.bool (doorStep dr y z kk o ps).1) →
    wpAny (model PySem.Challenge.rw_dr0124_01.row.prog w) (callerA.deeper (lawEnv L fa cd)) (execs aftB (lawEnv L fa cd)) (AftEnd w h₀ L m s oc x d l dt vs n (doorStep dr y z kk o ps).2 tail) (fun _ _ => False) s := by
  k_fill
  intro w mean mg mb h₀ L fa cd m s dr y z kk o ty tz tk1 to td x d l tw dt vs ws n k ps oc tail B F X T hoc TB hy hz hkk ho cy cz ck co by' bz bk bo hlow hgood hpl hws hvs h1 h2 h3 hd0 hd4 e1 e2 e3 e4 e5 e6 e7
  unfold lawEnv aftB forBody lawScope lawS
  dsimp only [bodyOf, fourth, scopeOf, lastOf, behind7, behind1, behind3, headOf, handOf, PySem.Challenge.pw_dr0124_01]
  replace F := fr_know F e1
  replace F := fr_know (x := Str.ofString "twin") F ((if_neg (by decide)).trans e2)
  replace F := fr_know (x := Str.ofString "value") F ((if_neg (by decide)).trans ((if_neg (by decide)).trans e3))
  replace F := fr_know (x := Str.ofString "key") F ((if_neg (by decide)).trans ((if_neg (by decide)).trans ((if_neg (by decide)).trans e4)))
  replace F := fr_know (x := Str.ofString "more") F ((if_neg (by decide)).trans ((if_neg (by decide)).trans ((if_neg (by decide)).trans ((if_neg (by decide)).trans e5))))
  replace F := fr_know (x := Str.ofString "door") F ((if_neg (by decide)).trans ((if_neg (by decide)).trans ((if_neg (by decide)).trans ((if_neg (by decide)).trans ((if_neg (by decide)).trans e6)))))
  replace F := fr_know (x := Str.ofString "refused") F ((if_neg (by decide)).trans ((if_neg (by decide)).trans ((if_neg (by decide)).trans ((if_neg (by decide)).trans ((if_neg (by decide)).trans ((if_neg (by decide)).trans e7))))))
  have TB' := TB
  obtain ⟨N, toff, xc, dc, lc, tc, xl, dl, tl, dv, dw⟩ := TB'
  have hy' : y.length ≤ 100 := hy
  have hz' : z.length ≤ 100 := hz
  have hk' : kk.length ≤ 100 := hkk
  have ho' : o.length ≤ 100 := ho
  have hwl : ws.length = ps.length := by have := dw.length; rwa [List.length_map] at this
  w_strict k_steps
  refine Hold.intro ?_
  refine' LCt.Assign_ListComp_T F ?q0 ?q7 ?q1 ?q2 ?q3 ?q4 ?q5 ?q8 ?q9 ?_ ?q6
  case q0 => exact rfl
  case q7 => with_unfolding_all rfl
  case q1 => exact rfl
  case q2 => decide
  case q3 => exact rfl
  case q4 => decide
  case q5 => exact rfl
  case q8 => exact rfl
  case q9 => exact rfl
  case q6 => exact fun _ => rfl
  with_unfolding_all refine nameX_L F rfl ?_
  refine LCt.CompSrcT.ledger rfl F N (k := k) (its := ws.toArray) (.tail _ (.tail _ (.tail _ (.tail _ (.head _))))) (by rw [List.size_toArray, sizeLine_eq]; omega) fun g => ?_
  rw [List.size_toArray]
  refine restT_inv (n := ws.length) (fun i ys => DatAll tail ys (((ps.take i).filter fun p => Txt.lower p.1 != Txt.lower y).map d2)) (.inr ⟨_, .tail _ (.tail _ (.tail _ (.tail _ (.head _)))), rfl, k, rfl⟩) (fun ys hys => ?_) (fun i ys v I oI C oC D m₂ h tk E' hi hInv hP hNs hmx F2 N2 => ?_) _ 0 [] (by omega) .nil
  · intro D h tk F2 N2 o1
    clear N F
    rw [hwl, List.take_length] at hys
    have hyl : ys.length = (ps.filter fun p => Txt.lower p.1 != Txt.lower y).length := by have := hys.length; rwa [List.length_map] at this
    have hfl := List.length_filter_le (fun p : Str × Str => Txt.lower p.1 != Txt.lower y) ps
    have hsz1 : ys.toArray.size ≤ 80 := by rw [List.size_toArray]; omega
    have hsz2 : ws.toArray.size ≤ 80 := by rw [List.size_toArray]; omega
    w_strict k_steps
    all_goals (rename Below _ _ _ _ => lB)
    all_goals (rename Frag.In _ _ => lX)
    all_goals (rename Top _ _ _ _ _ _ => lT)
    · -- path 0
      rename y.cps.toList.any (lhit true) = true => hA
      rename dr = 0 => hdr
      have hs : doorStep dr y z kk o ps = (y.cps.toList.any (lhit true), ps) := by
        rw [doorStep, if_pos hdr, ← by', ← bz, hA]; rfl
      (rename Fr _ _ _ _ => FZ)
      (rename News _ _ _ _ => NZ)
      with_unfolding_all exact Hold.intro (endUp lB lX lT FZ (TB.retwin (fun p hp => NZ p (.tail _ hp)) tc tl toff (fun _ hp => hp) (by rw [hs]; exact dw)) hvs h1 h2 h3 rfl rfl rfl (by rw [hs]; rfl) rfl rfl (fun _ hp => hp))
    · -- path 1
      rename y.cps.toList.any (lhit true) = true => hA
      rename (ys.toArray.size : Int) < (ws.toArray.size : Int) => hlt
      rename dr ≠ 0 => n0
      rename dr = 1 => hdr
      have hany : (ps.any fun p => Txt.lower p.1 == Txt.lower y) = true := by
        rw [kept_any]; rw [List.size_toArray, List.size_toArray] at hlt; exact decide_eq_true (by omega)
      obtain ⟨p, hp, hpe⟩ := List.any_eq_true.mp hany
      have hpe' : Txt.lower p.1 = Txt.lower y := by simpa using hpe
      have hg := (hgood p hp).2.2
      rw [hpe', hlow, ← by', hA] at hg
      cases hg
    · -- path 2
      rename y.cps.toList.any (lhit true) = true => hA
      rename dr ≠ 0 => n0
      rename dr = 1 => hdr
      have hs : doorStep dr y z kk o ps = (y.cps.toList.any (lhit true), ps) := by
        rw [doorStep, if_neg n0, if_pos hdr, ← by', hA]; rfl
      (rename Fr _ _ _ _ => FZ)
      (rename News _ _ _ _ => NZ)
      with_unfolding_all exact Hold.intro (endUp lB lX lT FZ (TB.retwin (fun p hp => NZ p (.tail _ hp)) tc tl toff (fun _ hp => hp) (by rw [hs]; exact dw)) hvs h1 h2 h3 rfl rfl rfl (by rw [hs]; rfl) rfl rfl (fun _ hp => hp))
    · -- path 3
      rename y.cps.toList.any (lhit true) = true => hA
      rename dr ≠ 0 => n0
      rename dr ≠ 1 => n1
      rename dr = 2 => hdr
      have hs : doorStep dr y z kk o ps = (y.cps.toList.any (lhit true), ps) := by
        rw [doorStep, if_neg n0, if_neg n1, if_pos hdr, ← by', hA]; rfl
      (rename Fr _ _ _ _ => FZ)
      (rename News _ _ _ _ => NZ)
      with_unfolding_all exact Hold.intro (endUp lB lX lT FZ (TB.retwin (fun p hp => NZ p (.tail _ hp)) tc tl toff (fun _ hp => hp) (by rw [hs]; exact dw)) hvs h1 h2 h3 rfl rfl rfl (by rw [hs]; rfl) rfl rfl (fun _ hp => hp))
    · -- path 4
      rename y.cps.toList.any (lhit true) = true => hA
      rename dr ≠ 0 => n0
      rename dr ≠ 1 => n1
      rename dr ≠ 2 => n2
      have hs : doorStep dr y z kk o ps = (y.cps.toList.any (lhit true), ps) := by
        rw [doorStep, if_neg n0, if_neg n1, if_neg n2, all_no (List.mem_append_right ps (.head _)) (show (!bad true y && !bad false z) = false by rw [← by', hA]; rfl), hA]; rfl
      (rename Fr _ _ _ _ => FZ)
      (rename News _ _ _ _ => NZ)
      with_unfolding_all exact Hold.intro (endUp lB lX lT FZ (TB.retwin (fun p hp => NZ p (.tail _ hp)) tc tl toff (fun _ hp => hp) (by rw [hs]; exact dw)) hvs h1 h2 h3 rfl rfl rfl (by rw [hs]; rfl) rfl rfl (fun _ hp => hp))
    · -- path 5
      rename y.cps.toList.any (lhit true) = false => hA
      rename z.cps.toList.any (lhit false) = true => hZ
      rename dr = 0 => hdr
      have hs : doorStep dr y z kk o ps = (z.cps.toList.any (lhit false), (ps.filter fun p => Txt.lower p.1 != Txt.lower y)) := by
        rw [doorStep, if_pos hdr, ← by', ← bz, hA, hZ]; exact congrArg (Prod.mk true) (List.append_nil _)
      (rename Fr _ _ _ _ => FZ)
      (rename News _ _ _ _ => NZ)
      with_unfolding_all exact Hold.intro (endUp lB lX lT FZ (TB.retwin (tw' := D) (ws' := ys) (k' := ys.length) (List.forall_mem_cons.mpr ⟨NZ _ (.tail _ (.head _)), List.forall_mem_cons.mpr ⟨NZ _ (.tail _ (.tail _ (.head _))), List.forall_mem_cons.mpr ⟨NZ _ (.tail _ (.tail _ (.tail _ (.head _)))), List.forall_mem_cons.mpr ⟨NZ _ (.tail _ (.tail _ (.tail _ (.tail _ (.head _))))), List.forall_mem_cons.mpr ⟨NZ _ (.head _), fun p hp => NZ p (.tail _ (.tail _ (.tail _ (.tail _ (.tail _ (.tail _ hp)))))) ⟩⟩⟩⟩⟩) (off1_mem o1 _ (.head _)).symm (off1_mem o1 _ (.tail _ (.tail _ (.tail _ (.head _))))).symm toff (fun _ hp => hp) (by rw [hs]; exact hys)) hvs h1 h2 h3 rfl rfl rfl (by rw [hs]; rfl) rfl rfl (fun _ hp => hp))
    · -- path 6
      rename y.cps.toList.any (lhit true) = false => hA
      rename z.cps.toList.any (lhit false) = false => hZ
      rename dr = 0 => hdr
      have hs : doorStep dr y z kk o ps = (z.cps.toList.any (lhit false), (ps.filter fun p => Txt.lower p.1 != Txt.lower y) ++ [(y, z)]) := by
        rw [doorStep, if_pos hdr, ← by', ← bz, hA, hZ]; rfl
      rename_i a hAh la q1 hBh lq D2 hDh l2 hS FS NS
      (rename Fr _ _ _ _ => FZ)
      (rename News _ _ _ _ => NZ)
      have lac : L + 1 < a := la.2.1
      have lal : l < a := la.2.2.2.2.1
      have l9 : a < D2 := l2.2.1
      with_unfolding_all exact Hold.intro (endUp lB lX lT FZ (TB.retwin (tw' := D2) (ws' := ys ++ [.ref a]) (k' := 0) (tail' := (a, tup #[.str y ty, .str z _] 0) :: tail) (List.forall_mem_cons.mpr ⟨NZ _ (.tail _ (.tail _ (.tail _ (.tail _ (.head _))))), List.forall_mem_cons.mpr ⟨NZ _ (.tail _ (.tail _ (.tail _ (.tail _ (.tail _ (.head _)))))), List.forall_mem_cons.mpr ⟨NZ _ (.tail _ (.tail _ (.tail _ (.tail _ (.tail _ (.tail _ (.head _))))))), List.forall_mem_cons.mpr ⟨NZ _ (.tail _ (.tail _ (.tail _ (.tail _ (.tail _ (.tail _ (.tail _ (.head _)))))))), List.forall_mem_cons.mpr ⟨NZ _ (.head _), List.forall_mem_cons.mpr ⟨NZ _ (.tail _ (.tail _ (.head _))), fun p hp => NZ p (.tail _ (.tail _ (.tail _ (.tail _ (.tail _ (.tail _ (.tail _ (.tail _ (.tail _ hp)))))))))⟩⟩⟩⟩⟩⟩)
        (Ne.symm (Nat.ne_of_lt (Nat.lt_trans lac l9))) (Ne.symm (Nat.ne_of_lt (Nat.lt_trans lal l9))) (fun p hp b hb => by
          rcases List.mem_cons.mp hp with rfl | hp
          · rcases List.mem_cons.mp hb with rfl | hb
            · exact Ne.symm (Nat.ne_of_lt lac)
            · rw [List.mem_singleton.mp hb]; exact Ne.symm (Nat.ne_of_lt lal)
          · exact toff p hp b hb) (fun _ hp => .tail _ hp) (by rw [hs, List.map_append]; exact (DatAll.mono (fun p hp => .tail _ hp) hys).append (.one (.tuple (.head _) (.cons (.str _ _) (.cons (.str _ _) .nil)))))) hvs h1 h2 h3 rfl rfl rfl (by rw [hs]; rfl) rfl rfl (fun _ hp => .tail _ hp))
    · -- path 7
      rename y.cps.toList.any (lhit true) = false => hA
      rename (ys.toArray.size : Int) < (ws.toArray.size : Int) => hlt
      rename dr ≠ 0 => n0
      rename dr = 1 => hdr
      have hany : (ps.any fun p => Txt.lower p.1 == Txt.lower y) = true := by
        rw [kept_any]; rw [List.size_toArray, List.size_toArray] at hlt; exact decide_eq_true (by omega)
      have hs : doorStep dr y z kk o ps = (false, ps) := by
        rw [doorStep, if_neg n0, if_pos hdr, ← by', hA, hany]; rfl
      (rename Fr _ _ _ _ => FZ)
      (rename News _ _ _ _ => NZ)
      with_unfolding_all exact Hold.intro (endUp lB lX lT FZ (TB.retwin (fun p hp => NZ p (.tail _ hp)) tc tl toff (fun _ hp => hp) (by rw [hs]; exact dw)) hvs h1 h2 h3 rfl rfl rfl (by rw [hs]; rfl) rfl rfl (fun _ hp => hp))
    · -- path 8
      rename y.cps.toList.any (lhit true) = false => hA
      rename ¬ (ys.toArray.size : Int) < (ws.toArray.size : Int) => hlt
      rename z.cps.toList.any (lhit false) = true => hZ
      rename dr ≠ 0 => n0
      rename dr = 1 => hdr
      have hany : (ps.any fun p => Txt.lower p.1 == Txt.lower y) = false := by
        rw [kept_any]; rw [List.size_toArray, List.size_toArray] at hlt; exact decide_eq_false (by omega)
      have hs : doorStep dr y z kk o ps = (z.cps.toList.any (lhit false), ps) := by
        rw [doorStep, if_neg n0, if_pos hdr, ← by', ← bz, hA, hany, hZ]; rfl
      (rename Fr _ _ _ _ => FZ)
      (rename News _ _ _ _ => NZ)
      with_unfolding_all exact Hold.intro (endUp lB lX lT FZ (TB.retwin (fun p hp => NZ p (.tail _ hp)) tc tl toff (fun _ hp => hp) (by rw [hs]; exact dw)) hvs h1 h2 h3 rfl rfl rfl (by rw [hs]; rfl) rfl rfl (fun _ hp => hp))
    · -- path 9
      rename y.cps.toList.any (lhit true) = false => hA
      rename ¬ (ys.toArray.size : Int) < (ws.toArray.size : Int) => hlt
      rename z.cps.toList.any (lhit false) = false => hZ
      rename dr ≠ 0 => n0
      rename dr = 1 => hdr
      have hany : (ps.any fun p => Txt.lower p.1 == Txt.lower y) = false := by
        rw [kept_any]; rw [List.size_toArray, List.size_toArray] at hlt; exact decide_eq_false (by omega)
      have hs : doorStep dr y z kk o ps = (z.cps.toList.any (lhit false), ps ++ [(y, z)]) := by
        rw [doorStep, if_neg n0, if_pos hdr, ← by', ← bz, hA, hany, hZ]; rfl
      rename_i a hAh la q1 hBh lq D2 hDh l2 hS FS NS
      (rename Fr _ _ _ _ => FZ)
      (rename News _ _ _ _ => NZ)
      have lac : L + 1 < a := la.2.1
      have lal : l < a := la.2.2.2.2.1
      have l9 : a < D2 := l2.2.1
      with_unfolding_all exact Hold.intro (endUp lB lX lT FZ (TB.retwin (tw' := D2) (ws' := ws ++ [.ref a]) (k' := 0) (tail' := (a, tup #[.str y ty, .str z _] 0) :: tail) (List.forall_mem_cons.mpr ⟨NZ _ (.tail _ (.tail _ (.tail _ (.tail _ (.head _))))), List.forall_mem_cons.mpr ⟨NZ _ (.tail _ (.tail _ (.tail _ (.tail _ (.tail _ (.head _)))))), List.forall_mem_cons.mpr ⟨NZ _ (.tail _ (.tail _ (.tail _ (.tail _ (.tail _ (.tail _ (.head _))))))), List.forall_mem_cons.mpr ⟨NZ _ (.tail _ (.tail _ (.tail _ (.tail _ (.tail _ (.tail _ (.tail _ (.head _)))))))), List.forall_mem_cons.mpr ⟨NZ _ (.head _), List.forall_mem_cons.mpr ⟨NZ _ (.tail _ (.tail _ (.head _))), fun p hp => NZ p (.tail _ (.tail _ (.tail _ (.tail _ (.tail _ (.tail _ (.tail _ (.tail _ (.tail _ hp)))))))))⟩⟩⟩⟩⟩⟩)
        (Ne.symm (Nat.ne_of_lt (Nat.lt_trans lac l9))) (Ne.symm (Nat.ne_of_lt (Nat.lt_trans lal l9))) (fun p hp b hb => by
          rcases List.mem_cons.mp hp with rfl | hp
          · rcases List.mem_cons.mp hb with rfl | hb
            · exact Ne.symm (Nat.ne_of_lt lac)
            · rw [List.mem_singleton.mp hb]; exact Ne.symm (Nat.ne_of_lt lal)
          · exact toff p hp b hb) (fun _ hp => .tail _ hp) (by rw [hs, List.map_append]; exact (DatAll.mono (fun p hp => .tail _ hp) dw).append (.one (.tuple (.head _) (.cons (.str _ _) (.cons (.str _ _) .nil)))))) hvs h1 h2 h3 rfl rfl rfl (by rw [hs]; rfl) rfl rfl (fun _ hp => .tail _ hp))
    · -- path 10
      rename y.cps.toList.any (lhit true) = false => hA
      rename z.cps.toList.any (lhit false) = true => hZ
      rename dr ≠ 0 => n0
      rename dr ≠ 1 => n1
      rename dr = 2 => hdr
      have hs : doorStep dr y z kk o ps = (z.cps.toList.any (lhit false), ps) := by
        rw [doorStep, if_neg n0, if_neg n1, if_pos hdr, ← by', ← bz, hA, hZ]; rfl
      (rename Fr _ _ _ _ => FZ)
      (rename News _ _ _ _ => NZ)
      with_unfolding_all exact Hold.intro (endUp lB lX lT FZ (TB.retwin (fun p hp => NZ p (.tail _ hp)) tc tl toff (fun _ hp => hp) (by rw [hs]; exact dw)) hvs h1 h2 h3 rfl rfl rfl (by rw [hs]; rfl) rfl rfl (fun _ hp => hp))
    · -- path 11
      rename y.cps.toList.any (lhit true) = false => hA
      rename z.cps.toList.any (lhit false) = false => hZ
      rename kk.cps.toList.any (lhit true) = true => hK
      rename dr ≠ 0 => n0
      rename dr ≠ 1 => n1
      rename dr = 2 => hdr
      have hs : doorStep dr y z kk o ps = (kk.cps.toList.any (lhit true), ps) := by
        rw [doorStep, if_neg n0, if_neg n1, if_pos hdr, ← by', ← bz, ← bk, hA, hZ, hK]; rfl
      (rename Fr _ _ _ _ => FZ)
      (rename News _ _ _ _ => NZ)
      with_unfolding_all exact Hold.intro (endUp lB lX lT FZ (TB.retwin (fun p hp => NZ p (.tail _ hp)) tc tl toff (fun _ hp => hp) (by rw [hs]; exact dw)) hvs h1 h2 h3 rfl rfl rfl (by rw [hs]; rfl) rfl rfl (fun _ hp => hp))
    · -- path 12
      rename y.cps.toList.any (lhit true) = false => hA
      rename z.cps.toList.any (lhit false) = false => hZ
      rename kk.cps.toList.any (lhit true) = false => hK
      rename o.cps.toList.any (lhit false) = true => hO
      rename dr ≠ 0 => n0
      rename dr ≠ 1 => n1
      rename dr = 2 => hdr
      have hs : doorStep dr y z kk o ps = (o.cps.toList.any (lhit false), ps) := by
        rw [doorStep, if_neg n0, if_neg n1, if_pos hdr, ← by', ← bz, ← bk, ← bo, hA, hZ, hK, hO]; rfl
      (rename Fr _ _ _ _ => FZ)
      (rename News _ _ _ _ => NZ)
      with_unfolding_all exact Hold.intro (endUp lB lX lT FZ (TB.retwin (fun p hp => NZ p (.tail _ hp)) tc tl toff (fun _ hp => hp) (by rw [hs]; exact dw)) hvs h1 h2 h3 rfl rfl rfl (by rw [hs]; rfl) rfl rfl (fun _ hp => hp))
    · -- path 13
      rename y.cps.toList.any (lhit true) = false => hA
      rename z.cps.toList.any (lhit false) = false => hZ
      rename kk.cps.toList.any (lhit true) = false => hK
      rename o.cps.toList.any (lhit false) = false => hO
      rename (o.length : Int) ≠ 0 => hol
      rename dr ≠ 0 => n0
      rename dr ≠ 1 => n1
      rename dr = 2 => hdr
      have hs : doorStep dr y z kk o ps = (o.cps.toList.any (lhit false), ps ++ [(y, (z ++ Str.ofString "; " ++ kk ++ (Str.ofString "=\"" ++ o ++ Str.ofString "\"")))]) := by
        rw [doorStep, if_neg n0, if_neg n1, if_pos hdr, ← by', ← bz, ← bk, ← bo, hA, hZ, hK, hO, ← ah_yes (show 0 < o.length by omega)]; rfl
      rename_i a hAh la q1 hBh lq D2 hDh l2 hS FS NS
      (rename Fr _ _ _ _ => FZ)
      (rename News _ _ _ _ => NZ)
      have lac : L + 1 < a := la.2.1
      have lal : l < a := la.2.2.2.2.1
      have l9 : a < D2 := l2.2.1
      with_unfolding_all exact Hold.intro (endUp lB lX lT FZ (TB.retwin (tw' := D2) (ws' := ws ++ [.ref a]) (k' := 0) (tail' := (a, tup #[.str y ty, .str (z ++ Str.ofString "; " ++ kk ++ (Str.ofString "=\"" ++ o ++ Str.ofString "\"")) _] 0) :: tail) (List.forall_mem_cons.mpr ⟨NZ _ (.tail _ (.tail _ (.tail _ (.tail _ (.head _))))), List.forall_mem_cons.mpr ⟨NZ _ (.tail _ (.tail _ (.tail _ (.tail _ (.tail _ (.head _)))))), List.forall_mem_cons.mpr ⟨NZ _ (.tail _ (.tail _ (.tail _ (.tail _ (.tail _ (.tail _ (.head _))))))), List.forall_mem_cons.mpr ⟨NZ _ (.tail _ (.tail _ (.tail _ (.tail _ (.tail _ (.tail _ (.tail _ (.head _)))))))), List.forall_mem_cons.mpr ⟨NZ _ (.head _), List.forall_mem_cons.mpr ⟨NZ _ (.tail _ (.tail _ (.head _))), fun p hp => NZ p (.tail _ (.tail _ (.tail _ (.tail _ (.tail _ (.tail _ (.tail _ (.tail _ (.tail _ hp)))))))))⟩⟩⟩⟩⟩⟩)
        (Ne.symm (Nat.ne_of_lt (Nat.lt_trans lac l9))) (Ne.symm (Nat.ne_of_lt (Nat.lt_trans lal l9))) (fun p hp b hb => by
          rcases List.mem_cons.mp hp with rfl | hp
          · rcases List.mem_cons.mp hb with rfl | hb
            · exact Ne.symm (Nat.ne_of_lt lac)
            · rw [List.mem_singleton.mp hb]; exact Ne.symm (Nat.ne_of_lt lal)
          · exact toff p hp b hb) (fun _ hp => .tail _ hp) (by rw [hs, List.map_append]; exact (DatAll.mono (fun p hp => .tail _ hp) dw).append (.one (.tuple (.head _) (.cons (.str _ _) (.cons (.str _ _) .nil)))))) hvs h1 h2 h3 rfl rfl rfl (by rw [hs]; rfl) rfl rfl (fun _ hp => .tail _ hp))
    · -- path 14
      rename y.cps.toList.any (lhit true) = false => hA
      rename z.cps.toList.any (lhit false) = false => hZ
      rename kk.cps.toList.any (lhit true) = false => hK
      rename o.cps.toList.any (lhit false) = false => hO
      rename (o.length : Int) = 0 => hol
      rename dr ≠ 0 => n0
      rename dr ≠ 1 => n1
      rename dr = 2 => hdr
      have hs : doorStep dr y z kk o ps = (o.cps.toList.any (lhit false), ps ++ [(y, (z ++ Str.ofString "; " ++ kk ++ Str.ofString ""))]) := by
        rw [doorStep, if_neg n0, if_neg n1, if_pos hdr, ← by', ← bz, ← bk, ← bo, hA, hZ, hK, hO, ← ah_no (show ¬ 0 < o.length by omega)]; rfl
      rename_i a hAh la q1 hBh lq D2 hDh l2 hS FS NS
      (rename Fr _ _ _ _ => FZ)
      (rename News _ _ _ _ => NZ)
      have lac : L + 1 < a := la.2.1
      have lal : l < a := la.2.2.2.2.1
      have l9 : a < D2 := l2.2.1
      with_unfolding_all exact Hold.intro (endUp lB lX lT FZ (TB.retwin (tw' := D2) (ws' := ws ++ [.ref a]) (k' := 0) (tail' := (a, tup #[.str y ty, .str (z ++ Str.ofString "; " ++ kk ++ Str.ofString "") _] 0) :: tail) (List.forall_mem_cons.mpr ⟨NZ _ (.tail _ (.tail _ (.tail _ (.tail _ (.head _))))), List.forall_mem_cons.mpr ⟨NZ _ (.tail _ (.tail _ (.tail _ (.tail _ (.tail _ (.head _)))))), List.forall_mem_cons.mpr ⟨NZ _ (.tail _ (.tail _ (.tail _ (.tail _ (.tail _ (.tail _ (.head _))))))), List.forall_mem_cons.mpr ⟨NZ _ (.tail _ (.tail _ (.tail _ (.tail _ (.tail _ (.tail _ (.tail _ (.head _)))))))), List.forall_mem_cons.mpr ⟨NZ _ (.head _), List.forall_mem_cons.mpr ⟨NZ _ (.tail _ (.tail _ (.head _))), fun p hp => NZ p (.tail _ (.tail _ (.tail _ (.tail _ (.tail _ (.tail _ (.tail _ (.tail _ (.tail _ hp)))))))))⟩⟩⟩⟩⟩⟩)
        (Ne.symm (Nat.ne_of_lt (Nat.lt_trans lac l9))) (Ne.symm (Nat.ne_of_lt (Nat.lt_trans lal l9))) (fun p hp b hb => by
          rcases List.mem_cons.mp hp with rfl | hp
          · rcases List.mem_cons.mp hb with rfl | hb
            · exact Ne.symm (Nat.ne_of_lt lac)
            · rw [List.mem_singleton.mp hb]; exact Ne.symm (Nat.ne_of_lt lal)
          · exact toff p hp b hb) (fun _ hp => .tail _ hp) (by rw [hs, List.map_append]; exact (DatAll.mono (fun p hp => .tail _ hp) dw).append (.one (.tuple (.head _) (.cons (.str _ _) (.cons (.str _ _) .nil)))))) hvs h1 h2 h3 rfl rfl rfl (by rw [hs]; rfl) rfl rfl (fun _ hp => .tail _ hp))
    · -- path 15
      rename y.cps.toList.any (lhit true) = false => hA
      rename z.cps.toList.any (lhit false) = true => hZ
      rename dr ≠ 0 => n0
      rename dr ≠ 1 => n1
      rename dr ≠ 2 => n2
      have hs : doorStep dr y z kk o ps = (z.cps.toList.any (lhit false), ps) := by
        rw [doorStep, if_neg n0, if_neg n1, if_neg n2, all_no (List.mem_append_right ps (.head _)) (show (!bad true y && !bad false z) = false by rw [← by', ← bz, hA, hZ]; rfl), hZ]; rfl
      (rename Fr _ _ _ _ => FZ)
      (rename News _ _ _ _ => NZ)
      with_unfolding_all exact Hold.intro (endUp lB lX lT FZ (TB.retwin (fun p hp => NZ p (.tail _ hp)) tc tl toff (fun _ hp => hp) (by rw [hs]; exact dw)) hvs h1 h2 h3 rfl rfl rfl (by rw [hs]; rfl) rfl rfl (fun _ hp => hp))
    · -- path 16
      rename y.cps.toList.any (lhit true) = false => hA
      rename z.cps.toList.any (lhit false) = false => hZ
      rename dr ≠ 0 => n0
      rename dr ≠ 1 => n1
      rename dr ≠ 2 => n2
      have hall : ((ps ++ [(y, z)]).all fun p => !bad true p.1 && !bad false p.2) = true := by
        rw [List.all_append, List.all_eq_true.mpr (fun p hp => by rw [(hgood p hp).1, (hgood p hp).2.1]; rfl)]
        show (true && ((!bad true y && !bad false z) && true)) = true
        rw [← by', ← bz, hA, hZ]; rfl
      have hs : doorStep dr y z kk o ps = (z.cps.toList.any (lhit false), ps ++ [(y, z)]) := by
        rw [doorStep, if_neg n0, if_neg n1, if_neg n2, hall, hZ]; rfl
      rename_i a hAh la q1 hBh lq D2 hDh l2 hS FS NS
      (rename Fr _ _ _ _ => FZ)
      (rename News _ _ _ _ => NZ)
      have lac : L + 1 < a := la.2.1
      have lal : l < a := la.2.2.2.2.1
      have l9 : a < D2 := l2.2.1
      with_unfolding_all exact Hold.intro (endUp lB lX lT FZ (TB.retwin (tw' := D2) (ws' := ws ++ [.ref a]) (k' := 0) (tail' := (a, tup #[.str y ty, .str z _] 0) :: tail) (List.forall_mem_cons.mpr ⟨NZ _ (.tail _ (.tail _ (.tail _ (.tail _ (.head _))))), List.forall_mem_cons.mpr ⟨NZ _ (.tail _ (.tail _ (.tail _ (.tail _ (.tail _ (.head _)))))), List.forall_mem_cons.mpr ⟨NZ _ (.tail _ (.tail _ (.tail _ (.tail _ (.tail _ (.tail _ (.head _))))))), List.forall_mem_cons.mpr ⟨NZ _ (.tail _ (.tail _ (.tail _ (.tail _ (.tail _ (.tail _ (.tail _ (.head _)))))))), List.forall_mem_cons.mpr ⟨NZ _ (.head _), List.forall_mem_cons.mpr ⟨NZ _ (.tail _ (.tail _ (.head _))), fun p hp => NZ p (.tail _ (.tail _ (.tail _ (.tail _ (.tail _ (.tail _ (.tail _ (.tail _ (.tail _ hp)))))))))⟩⟩⟩⟩⟩⟩)
        (Ne.symm (Nat.ne_of_lt (Nat.lt_trans lac l9))) (Ne.symm (Nat.ne_of_lt (Nat.lt_trans lal l9))) (fun p hp b hb => by
          rcases List.mem_cons.mp hp with rfl | hp
          · rcases List.mem_cons.mp hb with rfl | hb
            · exact Ne.symm (Nat.ne_of_lt lac)
            · rw [List.mem_singleton.mp hb]; exact Ne.symm (Nat.ne_of_lt lal)
          · exact toff p hp b hb) (fun _ hp => .tail _ hp) (by rw [hs, List.map_append]; exact (DatAll.mono (fun p hp => .tail _ hp) dw).append (.one (.tuple (.head _) (.cons (.str _ _) (.cons (.str _ _) .nil)))))) hvs h1 h2 h3 rfl rfl rfl (by rw [hs]; rfl) rfl rfl (fun _ hp => .tail _ hp))
  · clear N F
    obtain ⟨p, a, n', t2, u2, hp, rfl, hm⟩ := d2_at dw (show ws[i]? = some v by simpa using hP)
    have N3 : News h₀ L h ((a, ({ cls := .type "tuple", data := .seq #[.str p.1 t2, .str p.2 u2] n' } : Obj)) :: (I, oI) :: (C, oC) :: (D, LCg.lst ys) :: (L + 1, oc) :: (x, instObj 184 d) :: (d, hdDict w dt l) :: (l, W.listOf vs.toArray n) :: (tw, W.listOf ws.toArray k) :: tail) :=
      List.forall_mem_cons.mpr ⟨N2 _ (.tail _ (.tail _ (.tail _ (.tail _ (.tail _ (.tail _ (.tail _ (.tail _ hm)))))))), N2⟩
    have hpl := hpl p (List.mem_of_getElem? hp)
    have htake : ps.take (i + 1) = ps.take i ++ [p] := by rw [List.take_add_one, hp]; rfl
    w_strict k_steps
    · rename (Txt.lower p.1 != Txt.lower y) = true => hk
      refine TurnAt.mk F2 N2 ?_
      rw [htake, List.filter_append, List.map_append, List.filter_cons_of_pos (by exact hk)]
      exact hInv.append (.one (.tuple hm (.cons (.str _ _) (.cons (.str _ _) .nil))))
    · rename (Txt.lower p.1 != Txt.lower y) = false => hk
      refine TurnAt.mk F2 N2 ?_
      rw [htake, List.filter_append, List.map_append, List.filter_cons_of_neg (by rw [hk]; exact Bool.false_ne_true)]
      simpa using hInv
end
end Mine
end
section
open PySem PySem.W PyProof.Rows PySem.Calls PySem.Spec
namespace Mine
/-- a text over the law's signs, of four at most -/
def SignT (x : Str) : Prop := x.cps.size ≤ 4 ∧ ∀ c ∈ x.cps.toList, c ∈ signs
theorem digs_signs : ∀ (f n : Nat), n < 16 ^ f → ∀ c ∈ digs n, c ∈ signs
  | 0, n, h, c, hc => by
    rw [show n = 0 by simpa using h, digs_zero] at hc; cases hc
  | f + 1, n, h, c, hc => by
    by_cases hn : n = 0
    · rw [hn, digs_zero] at hc; cases hc
    · rw [digs_pos (by omega)] at hc
      rcases List.mem_cons.mp hc with rfl | hc
      · have : n % 16 < signs.length := Nat.mod_lt _ (by decide)
        rw [List.getD_eq_getElem?_getD, List.getElem?_eq_getElem this]
        exact List.getElem_mem _
      · exact digs_signs f (n / 16) (by rw [Nat.pow_succ] at h; omega) c hc
theorem textOf_sign (n : Int) : SignT (textOf n) := by
  have hn0 : 0 ≤ n.fmod 65536 := Int.fmod_nonneg_of_pos _ (by decide)
  have hn1 : n.fmod 65536 < 65536 := Int.fmod_lt_of_pos _ (by decide)
  have hb : (n.fmod 65536).toNat < 16 ^ 4 := by omega
  refine ⟨?_, ?_⟩
  · show (digs (n.fmod 65536).toNat).toArray.size ≤ 4
    rw [List.size_toArray]; exact digs_len 4 _ hb
  · show ∀ c ∈ (digs (n.fmod 65536).toNat).toArray.toList, c ∈ signs
    rw [List.toList_toArray]; exact digs_signs 4 _ hb
theorem sign_hit : ∀ c ∈ signs, ∀ b, lhit b c = hitOf b c := by decide +kernel
theorem sign_low : ∀ c ∈ signs, ((Unicode.lowerOf c).any (hitOf true) = hitOf true c) ∧ c ≠ 0x3A3 := by decide +kernel
theorem sign_lt : ∀ c ∈ signs, c < 1114112 := by decide +kernel
theorem sign_no : ∀ c ∈ signs, c ≠ 95 ∧ c ≠ 92 ∧ c ≠ 34 ∧ c ≠ 115 := by decide +kernel
theorem any_congr' {f g : Nat → Bool} : ∀ (l : List Nat), (∀ c ∈ l, f c = g c) → l.any f = l.any g
  | [], _ => rfl
  | c :: r, h => by rw [List.any_cons, List.any_cons, h c (.head _), any_congr' r fun d hd => h d (.tail _ hd)]
theorem SignT.hit {x : Str} (h : SignT x) (b : Bool) : x.cps.toList.any (lhit b) = bad b x := any_congr' _ fun c hc => sign_hit c (h.2 c hc) b
theorem SignT.lt {x : Str} (h : SignT x) : ∀ c ∈ x.cps.toList, c < 1114112 := fun c hc => sign_lt c (h.2 c hc)
theorem SignT.ok {x : Str} (h : SignT x) : PyData.strOk x = true := by
  unfold PyData.strOk
  rw [← Array.all_toList]
  exact List.all_eq_true.mpr fun c hc => decide_eq_true (h.lt c hc)
theorem SignT.low {x : Str} (h : SignT x) : bad true (Txt.lower x) = bad true x := by
  have mem : ∀ c', c' ∈ (Txt.lower x).cps.toList ↔ ∃ c ∈ x.cps.toList, c' ∈ Unicode.lowerOf c := by
    intro c'
    show c' ∈ ((x.cps.mapIdx fun i _ => (Unicode.lowerAt x.cps i).toArray).flatten).toList ↔ _
    rw [Array.mem_toList_iff, Array.mem_flatten]
    have hlow : ∀ (i : Nat) (hi : i < x.cps.size), Unicode.lowerAt x.cps i = Unicode.lowerOf (x.cps[i]) := by
      intro i hi
      unfold Unicode.lowerAt
      rw [Array.getElem?_eq_getElem hi]
      have hc := (sign_low _ (h.2 _ (Array.mem_toList_iff.mpr (Array.getElem_mem hi)))).2
      dsimp only
      rw [if_neg]
      intro q
      rw [Bool.and_eq_true] at q
      exact hc (by simpa using q.1)
    constructor
    · rintro ⟨a, ha, hc⟩
      obtain ⟨i, hi, rfl⟩ := Array.mem_mapIdx.mp ha
      rw [hlow i hi] at hc
      exact ⟨x.cps[i], Array.mem_toList_iff.mpr (Array.getElem_mem hi), by simpa using hc⟩
    · rintro ⟨c, hc, hc'⟩
      obtain ⟨i, hi, rfl⟩ := Array.mem_iff_getElem.mp (Array.mem_toList_iff.mp hc)
      refine ⟨_, Array.mem_mapIdx.mpr ⟨i, hi, rfl⟩, ?_⟩
      rw [hlow i hi]
      simpa using hc'
  unfold bad
  cases hb : x.cps.toList.any (hitOf true) with
  | true =>
    obtain ⟨c, h1, h2⟩ := List.any_eq_true.mp hb
    have := (sign_low c (h.2 c h1)).1
    rw [h2] at this
    obtain ⟨c', h3, h4⟩ := List.any_eq_true.mp this
    exact List.any_eq_true.mpr ⟨c', (mem c').mpr ⟨c, h1, h3⟩, h4⟩
  | false =>
    refine List.any_eq_false.mpr fun c' hc' => ?_
    obtain ⟨c, h1, h3⟩ := (mem c').mp hc'
    have h2 := (sign_low c (h.2 c h1)).1
    have h5 : hitOf true c = false := by simpa using List.any_eq_false.mp hb c h1
    rw [h5] at h2
    exact List.any_eq_false.mp h2 c' h3
theorem SignT.names {x : Str} (h : SignT x) : ahNames.contains x = false := by
  have key : ∀ q ∈ ahNames, x ≠ q := by
    intro q hq e
    have h95 : ∀ c ∈ q.cps.toList, c ∈ signs := e ▸ h.2
    revert h95
    clear e h
    revert q
    decide +kernel
  cases hc : ahNames.contains x with
  | false => rfl
  | true => exact absurd rfl (key x (by simpa using hc))
theorem SignT.not {x : Str} (h : SignT x) : 95 ∉ x.cps.toList ∧ 92 ∉ x.cps.toList ∧ 34 ∉ x.cps.toList :=
  ⟨fun q => (sign_no _ (h.2 _ q)).1 rfl, fun q => (sign_no _ (h.2 _ q)).2.1 rfl, fun q => (sign_no _ (h.2 _ q)).2.2.1 rfl⟩
/-- a pair that may stand in the table -/
structure GP (p : Str × Str) : Prop where
  key : bad true p.1 = false
  val : bad false p.2 = false
  low : bad true (Txt.lower p.1) = false
  l1 : p.1.length ≤ 1000
  l2 : p.2.length ≤ 1000
  o1 : PyData.strOk p.1 = true
  o2 : PyData.strOk p.2 = true
theorem bad_cr {b : Bool} {x : Str} (h : bad b x = false) : 13 ∉ x.cps.toList := fun hm => by
  have := List.any_eq_false.mp h 13 hm
  cases b <;> exact this (by decide)
theorem bad_app {b : Bool} {x y : Str} (hx : bad b x = false) (hy : bad b y = false) : bad b (x ++ y) = false := by
  unfold bad at *
  show (x.cps ++ y.cps).toList.any _ = false
  rw [Array.toList_append, List.any_append, hx, hy]; rfl
theorem bad_less {x : Str} (h : bad true x = false) : bad false x = false := by
  refine List.any_eq_false.mpr fun c hc hv => List.any_eq_false.mp h c hc ?_
  have hv' : hitV c = true := hv
  show hitN c = true
  unfold hitV at hv'
  unfold hitN
  rw [Bool.or_eq_true, Bool.and_eq_true] at hv'
  rw [Bool.or_eq_true]
  exact hv'.imp And.left id
theorem GP.mk1 {y z : Str} (hy : SignT y) (hz : SignT z) (h1 : bad true y = false) (h2 : bad false z = false) : GP (y, z) :=
  ⟨h1, h2, by rw [hy.low]; exact h1, Nat.le_trans hy.1 (by decide), Nat.le_trans hz.1 (by decide), hy.ok, hz.ok⟩
theorem GP.mk2 {y z k o : Str} (hy : SignT y) (hz : SignT z) (hk : SignT k) (ho : SignT o) (h1 : bad true y = false) (h2 : bad false z = false) (h3 : bad true k = false) (h4 : bad false o = false) : GP (y, ahVal z k o) := by
  have e : ahVal z k o = z ++ Str.ofString "; " ++ k ++ (Str.ofString "=\"" ++ o ++ Str.ofString "\"") ∨ ahVal z k o = z ++ Str.ofString "; " ++ k ++ Str.ofString "" := by
    by_cases h : 0 < o.length
    · exact .inl (ah_yes h)
    · exact .inr (ah_no h)
  have a1 : (Str.ofString "; ").length = 2 := by decide
  have a2 : (Str.ofString "=\"").length = 2 := by decide
  have a3 : (Str.ofString "\"").length = 1 := by decide
  have a4 : (Str.ofString "").length = 0 := by decide
  have b1 : z.length ≤ 4 := hz.1
  have b2 : k.length ≤ 4 := hk.1
  have b3 : o.length ≤ 4 := ho.1
  refine ⟨h1, ?_, by rw [hy.low]; exact h1, Nat.le_trans hy.1 (by decide), ?_, hy.ok, ?_⟩
  · show bad false (ahVal z k o) = false
    rcases e with e | e <;> rw [e]
    · exact bad_app (bad_app (bad_app h2 (by decide +kernel)) (bad_less h3)) (bad_app (bad_app (by decide +kernel) h4) (by decide +kernel))
    · exact bad_app (bad_app (bad_app h2 (by decide +kernel)) (bad_less h3)) (by decide +kernel)
  · show (ahVal z k o).length ≤ 1000
    rcases e with e | e <;> rw [e] <;> simp only [app_len] <;> omega
  · show PyData.strOk (ahVal z k o) = true
    rcases e with e | e <;> rw [e]
    · exact strOk_app (strOk_app (strOk_app hz.ok (by decide +kernel)) hk.ok) (strOk_app (strOk_app (by decide +kernel) ho.ok) (by decide +kernel))
    · exact strOk_app (strOk_app (strOk_app hz.ok (by decide +kernel)) hk.ok) (by decide +kernel)
theorem step_good {dr : Int} {y z k o : Str} {ps : List (Str × Str)} (hy : SignT y) (hz : SignT z) (hk : SignT k) (ho : SignT o) (hp : ∀ p ∈ ps, GP p) :
    (∀ p ∈ (doorStep dr y z k o ps).2, GP p) ∧ (doorStep dr y z k o ps).2.length ≤ ps.length + 1 := by
  have snoc : ∀ (q : Str × Str), GP q → (∀ p ∈ ps ++ [q], GP p) ∧ (ps ++ [q]).length ≤ ps.length + 1 := fun q hq => ⟨fun p h => by
    rcases List.mem_append.mp h with h | h
    · exact hp p h
    · rw [List.mem_singleton.mp h]; exact hq, by simp⟩
  have same : (∀ p ∈ ps, GP p) ∧ ps.length ≤ ps.length + 1 := ⟨hp, Nat.le_succ _⟩
  unfold doorStep
  split
  · dsimp only
    split
    · exact same
    · rename_i b1
      have hf : ∀ p ∈ ps.filter fun p => Txt.lower p.1 != Txt.lower y, GP p := fun p h => hp p (List.mem_filter.mp h).1
      have hl := List.length_filter_le (fun p : Str × Str => Txt.lower p.1 != Txt.lower y) ps
      split
      · rw [List.append_nil]; exact ⟨hf, by omega⟩
      · rename_i b2
        refine ⟨fun p h => ?_, by rw [List.length_append]; show _ + 1 ≤ _; omega⟩
        rcases List.mem_append.mp h with h | h
        · exact hf p h
        · rw [List.mem_singleton.mp h]
          exact GP.mk1 hy hz (by simpa using b1) (by simpa using b2)
  · split
    · dsimp only
      split
      · exact same
      · rename_i b
        simp only [Bool.or_eq_true, not_or, Bool.not_eq_true] at b
        exact snoc _ (GP.mk1 hy hz b.1.1 b.2)
    · split
      · dsimp only
        split
        · exact same
        · rename_i b
          simp only [Bool.or_eq_true, not_or, Bool.not_eq_true] at b
          exact snoc _ (GP.mk2 hy hz hk ho b.1.1.1 b.1.1.2 b.1.2 b.2)
      · dsimp only
        split
        · rename_i b
          have := List.all_eq_true.mp b (y, z) (List.mem_append_right _ (.head _))
          simp only [Bool.and_eq_true, Bool.not_eq_true'] at this
          exact snoc _ (GP.mk1 hy hz this.1 this.2)
        · exact same
end Mine
end
section
open PySem PySem.W PyProof.Rows PySem.Calls PySem.Spec

namespace Mine
theorem offLw : True := by (w_top off; exact trivial)
/-- how things stand between two turns -/
structure Between (w : World) (h₀ : Heap) (L : Addr) (sa : Addr) (len i : Nat) (m : Str → Option Value) (h : Heap) (x d l tw : Addr) (dt ts : Tok) (vs ws : List Value) (n k : Nat) (ps : List (Str × Str)) (oc : Obj) (cv : Option Value) (tail : List (Addr × Obj)) : Prop where
  cell : oc.data = .cell cv
  tab : Tab w h₀ L oc h x d l tw dt vs ws n k ps ps tail
  good : ∀ p ∈ ps, GP p
  few : ps.length ≤ i
  e1 : m (Str.ofString "script") = some (.ref sa)
  e2 : m (Str.ofString "table") = some (.ref x)
  e3 : m (Str.ofString "twin") = some (.ref tw)
  e4 : m (Str.ofString "size") = some (.int len ts)
def TurnPost (w : World) (h₀ : Heap) (L : Addr) (sa : Addr) (len i : Nat) (tl₀ : List (Addr × Obj)) (s : Shared) (f : Flow) (s' : Shared) : Prop :=
  f = .next ∧ ∃ (m : Str → Option Value) (h : Heap) (tk : Nat) (x d l tw : Addr) (dt ts : Tok) (vs ws : List Value) (n k : Nat) (ps : List (Str × Str)) (oc : Obj) (cv : Option Value) (tail : List (Addr × Obj)),
    s' = { s with heap := h, toks := tk } ∧ Fr h₀ L h m ∧ Between w h₀ L sa len i m h x d l tw dt ts vs ws n k ps oc cv tail ∧ ∀ p ∈ tl₀, p ∈ tail
section
local macro_rules | `(tactic| walk_at "call ref") => `(tactic| ((with_unfolding_all show wpAny _ _ (call (Value.ref 195) [Value.int _ _]) _ _ _); (rename Fr _ _ _ _ => lF'); (rename News _ _ _ _ => lN'); (rename Below _ _ _ _ => lB'); (rename Frag.In _ _ => lX'); (rename Top _ _ _ _ _ _ => lT'); (with_unfolding_all refine lawText_wp lB' lF' lX' lN' lT' rfl rfl (Nat.le_of_ble_eq_true rfl) (Nat.le_of_ble_eq_true rfl) ?_); clear lF' lN'; (intro h' tk' t' F' N')))
local macro_rules | `(tactic| walk_at "exec Try cons cons nil nil") => `(tactic| (refine Hold.back ?_))
theorem turn : ∀ (w : World) (mean : ExcName → Option Value) (mg mb : Str → Option Value) (h₀ : Heap) (L fa : Addr) (cd : Value) (m : Str → Option Value) (s : Shared)
    (sa : Addr) (svs : List Value) (ns : List Int) (i : Nat) (x d l tw : Addr) (dt ti ts : Tok) (vs ws : List Value) (n k : Nat) (ps : List (Str × Str)) (oc : Obj) (cv : Option Value) (tail : List (Addr × Obj)),
    Below callerA h₀ [] h₀ → Fr h₀ L s.heap m → (hd.heap_39 w.params).In h₀ → Top hd.view_39 LS mean mg mb h₀ →
    Between w h₀ L sa ns.length i m s.heap x d l tw dt ts vs ws n k ps oc cv tail →
    h₀.IsList sa svs.toArray → IntsAre svs ns → ns.length ≤ 63 → i < ns.length →
    m (Str.ofString "i") = some (.int i ti) →
    wpAny (model PySem.Challenge.rw_dr0124_01.row.prog w) (callerA.deeper (lawEnv L fa cd)) (execs forBody (lawEnv L fa cd)) (TurnPost w h₀ L sa ns.length (i + 1) tail s) (fun _ _ => False) s := by
  k_fill
  intro w mean mg mb h₀ L fa cd m s sa svs ns i x d l tw dt ti ts vs ws n k ps oc cv tail B F X T BT hL hI hn hi e5
  obtain ⟨hoc, TB, hgood, hfew, e1, e2, e3, e4⟩ := BT
  have TB' := TB
  obtain ⟨N, toff, xc, dc, lc, tc, xl, dl, tl, dv, dw⟩ := TB'
  unfold lawEnv forBody lawScope lawS
  dsimp only [bodyOf, fourth, scopeOf, lastOf, behind7, behind1, behind3, headOf, handOf, PySem.Challenge.pw_dr0124_01]
  replace F := fr_know F e1
  replace F := fr_know (x := Str.ofString "table") F ((if_neg (by decide)).trans e2)
  replace F := fr_know (x := Str.ofString "twin") F ((if_neg (by decide)).trans ((if_neg (by decide)).trans e3))
  replace F := fr_know (x := Str.ofString "size") F ((if_neg (by decide)).trans ((if_neg (by decide)).trans ((if_neg (by decide)).trans e4)))
  replace F := fr_know (x := Str.ofString "i") F ((if_neg (by decide)).trans ((if_neg (by decide)).trans ((if_neg (by decide)).trans ((if_neg (by decide)).trans e5))))
  have hz : (0 : Int) < (ns.length : Int) := by omega
  have b1 : 0 ≤ ((i : Int) + 1).fmod (ns.length : Int) := Int.fmod_nonneg_of_pos _ hz
  have b2 : ((i : Int) + 1).fmod (ns.length : Int) < (ns.length : Int) := Int.fmod_lt_of_pos _ hz
  have b3 : 0 ≤ ((i : Int) + 2).fmod (ns.length : Int) := Int.fmod_nonneg_of_pos _ hz
  have b4 : ((i : Int) + 2).fmod (ns.length : Int) < (ns.length : Int) := Int.fmod_lt_of_pos _ hz
  have b5 : 0 ≤ ((i : Int) + 3).fmod (ns.length : Int) := Int.fmod_nonneg_of_pos _ hz
  have b6 : ((i : Int) + 3).fmod (ns.length : Int) < (ns.length : Int) := Int.fmod_lt_of_pos _ hz
  w_strict k_steps
  refine Hold.intro ?_
  (rename Fr _ _ _ _ => F1)
  (rename News _ _ _ _ => N1)
  (rename Obj.data _ = Data.cell (some (Value.str (textOf _) _)) => hoc1)
  (rename Below _ _ _ _ => B1)
  (rename Frag.In _ _ => X1)
  (rename Top _ _ _ _ _ _ => T1)
  have hvl : vs.length = ps.length := by have := dv.length; rwa [List.length_map] at this
  have hwl : ws.length = ps.length := by have := dw.length; rwa [List.length_map] at this
  have sy := textOf_sign (ns.getD (((i : Int) + 1).fmod (ns.length : Int)).toNat 0)
  have sz := textOf_sign (ns.getD (((i : Int) + 2).fmod (ns.length : Int)).toNat 0)
  have sk := textOf_sign (ns.getD (((i : Int) + 3).fmod (ns.length : Int)).toNat 0)
  have so := textOf_sign ((ns.getD (i : Int).toNat 0).fdiv 4)
  generalize textOf (ns.getD (((i : Int) + 1).fmod (ns.length : Int)).toNat 0) = y at *
  generalize textOf (ns.getD (((i : Int) + 2).fmod (ns.length : Int)).toNat 0) = z at *
  generalize textOf (ns.getD (((i : Int) + 3).fmod (ns.length : Int)).toNat 0) = kk at *
  generalize textOf ((ns.getD (i : Int).toNat 0).fdiv 4) = o at *
  have dr0 : 0 ≤ (ns.getD (i : Int).toNat 0).fmod 4 := Int.fmod_nonneg_of_pos _ (by decide)
  have dr4 : (ns.getD (i : Int).toNat 0).fmod 4 < 4 := Int.fmod_lt_of_pos _ (by decide)
  generalize (ns.getD (i : Int).toNat 0).fmod 4 = dr at *
  with_unfolding_all refine wpAny_mono (tryL w mean mg mb h₀ L fa cd _ _ dr y z kk o _ _ _ _ _ x d l tw dt vs ws n k ps ps _ tail B1 F1 X1 T1 hoc1 { TB with news := N1 } (Nat.le_trans sy.1 (by decide)) (Nat.le_trans sz.1 (by decide)) (Nat.le_trans sk.1 (by decide)) (Nat.le_trans so.1 (by decide)) (fun p hp => ⟨(hgood p hp).l1, (hgood p hp).l2⟩) (by omega) sy.low sk.names sk.not.1 so.not.2.1 so.not.2.2 dr0 dr4 rfl rfl rfl rfl rfl rfl) (fun f s' hq => ?_) (fun _ _ e => e)
  obtain ⟨rfl, x', d', l', dt', vs', n', tail', h', tk', rfl, F2, TB2, sub2⟩ := hq
  have sg := step_good (dr := dr) sy sz sk so hgood
  have hvl' : vs'.length = (doorStep dr y z kk o ps).2.length := by have := TB2.dv.length; rwa [List.length_map] at this
  have c100 : (4 : Nat) ≤ 100 := by decide
  dsimp only
  with_unfolding_all refine wpAny_mono (aftL w mean mg mb h₀ L fa cd _ _ dr y z kk o _ _ _ _ _ x' d' l' tw dt' vs' ws n' k ps _ tail' B1 F2 X1 T1 hoc1 TB2 (Nat.le_trans sy.1 c100) (Nat.le_trans sz.1 c100) (Nat.le_trans sk.1 c100) (Nat.le_trans so.1 c100) sy.lt sz.lt sk.lt so.lt (sy.hit true) (sz.hit false) (sk.hit true) (so.hit false) sy.low (fun p hp => ⟨(hgood p hp).key, (hgood p hp).val, (hgood p hp).low⟩) (fun p hp => (hgood p hp).l1) (by omega) (by omega) (fun p hp => ⟨(sg.1 p hp).l1, (sg.1 p hp).l2⟩) (fun p hp => ⟨bad_cr (sg.1 p hp).key, bad_cr (sg.1 p hp).val⟩) (fun p hp => ⟨(sg.1 p hp).o1, (sg.1 p hp).o2⟩) dr0 dr4 rfl rfl rfl rfl rfl rfl rfl) (fun f s'' hq => ?_) (fun _ _ e => e)
  obtain ⟨rfl, tw', ws', k', tail'', h'', tk'', m', rfl, F3, es, ez, et, ew, TB3, sub3⟩ := hq
  exact ⟨rfl, m', h'', tk'', x', d', l', tw', dt', ts, vs', ws', n', k', _, _, _, tail'', rfl, F3, { cell := hoc1, tab := TB3, good := sg.1, few := Nat.le_trans sg.2 (Nat.succ_le_succ hfew), e1 := es.trans rfl, e2 := et, e3 := ew, e4 := ez.trans rfl }, fun p hp => sub3 p (sub2 p hp)⟩
end
end Mine
end
section
open PySem PySem.W PyProof.Rows PySem.Calls PySem.Spec
namespace Mine
/-- the loop's invariant -/
def LoopJ (w : World) (h₀ : Heap) (L sa : Addr) (len i : Nat) (m : Str → Option Value) (nx : List (Addr × Obj)) : Prop :=
  ∃ (x d l tw : Addr) (dt ts : Tok) (vs ws : List Value) (n k : Nat) (ps : List (Str × Str)) (oc : Obj) (cv : Option Value) (tail : List (Addr × Obj)),
    nx = (L + 1, oc) :: (x, instObj 184 d) :: (d, hdDict w dt l) :: (l, W.listOf vs.toArray n) :: (tw, W.listOf ws.toArray k) :: tail ∧
    (∀ p ∈ tail, p.2.cls = .type "tuple") ∧ ∀ h, News h₀ L h nx → Between w h₀ L sa len i m h x d l tw dt ts vs ws n k ps oc cv tail
theorem lawLoop {w : World} {mean : ExcName → Option Value} {mg mb : Str → Option Value} {h₀ : Heap} {L fa : Addr} {cd : Value} {m : Str → Option Value} {s : Shared} {E : Value → Shared → Prop} {Q : Flow → Shared → Prop}
    {sa r : Addr} {svs : List Value} {ns : List Int} {b₀ : Int} {t₀ u₀ v₀ : Tok} {nn : Nat} {nx : List (Addr × Obj)}
    (B : Below callerA h₀ [] h₀) (F : Fr h₀ L s.heap m) (X : (hd.heap_39 w.params).In h₀) (T : Top hd.view_39 LS mean mg mb h₀) (N : News h₀ L s.heap nx)
    (hr : IsRange s.heap r 0 b₀ 1 t₀ u₀ v₀) (hsmall : Builtin.Range.small 0 b₀ 1 = true) (hsz : Builtin.Range.rangeSize 0 b₀ 1 = (nn : Int)) (hnn : nn ≤ ns.length)
    (hL : h₀.IsList sa svs.toArray) (hI : IntsAre svs ns) (hn : ns.length ≤ 63) (hj : LoopJ w h₀ L sa ns.length 0 m nx)
    (done : ∀ h tk m' nx', Fr h₀ L h m' → News h₀ L h nx' → Q .next { s with heap := h, toks := tk }) :
    wpAny (model PySem.Challenge.rw_dr0124_01.row.prog w) (callerA.deeper (lawEnv L fa cd)) (pyIter (.ref r)) (fun it s₂ => LoopAtV PySem.Challenge.rw_dr0124_01.row.prog w (callerA.deeper (lawEnv L fa cd)) h₀ (lawEnv L fa cd) (Str.ofString "i") forBody Q E it s₂) E s := by
  refine wpAny_pyIter_range hr hsmall ?_
  have WK : Walks PySem.Challenge.rw_dr0124_01.row.prog w (callerA.deeper (lawEnv L fa cd)) s.heap.objs.size [s.heap.objs.size] [s.heap.objs.size] nn (fun i v => i < nn ∧ ∃ t, v = .int (0 + i * 1) t)
      (fun i h => IsRangeIter h s.heap.objs.size (0 + (i : Nat) * 1) ((nn : Int) - (i : Nat)) 1) := (Walks.range rfl _ 0 1 nn).bound
  refine ⟨_, _, _, nn, _, _, m, nx, LoopJ w h₀ L sa ns.length, rfl, WK, ?_, ?_, ?_, (by show IsRangeIter _ _ _ _ _; rw [hsz]; simpa using Heap.get?_push_size _ rfl), F.push _, (fun p hp => ⟨Heap.get?_push_of_some _ (N p hp).1, (N p hp).2⟩), hj, ?_, ?_⟩
  · intro hm
    exact absurd F.ns.lt ((List.mem_singleton.mp hm) ▸ Nat.lt_irrefl _)
  · intro b hb
    rw [List.mem_singleton.mp hb]
    exact next_is_new F
  · intro p hp hI
    exact absurd (Heap.lt_size (N p hp).1) ((List.mem_singleton.mp hI) ▸ Nat.lt_irrefl _)
  · rintro i v m₁ news₁ s₁ own ⟨h1, tk1, rfl⟩ hin ⟨_, t, rfl⟩ ⟨x, d, l, tw, dt, ts, vs, ws, n, k, ps, oc, cv, tail, rfl, htup, hB⟩ hoff hown hget hmem hst F₁ N₁
    have ei : (0 + (i : Int) * 1) = (i : Int) := by omega
    rw [ei] at F₁
    have B1 := hB h1 fun p hp => N₁ p (List.mem_append_right _ hp)
    have TB := B1.tab
    have offI : ∀ p ∈ own, ∀ b, (∃ ob, (b, ob) ∈ (L + 1, oc) :: (x, instObj 184 d) :: (d, hdDict w dt l) :: (l, W.listOf vs.toArray n) :: (tw, W.listOf ws.toArray k) :: tail) → p.1 ≠ b := fun p hp b ⟨ob, hb⟩ e => hoff (b, ob) hb (by rw [← e]; exact hown p hp)
    have TB2 : Tab w h₀ L oc h1 x d l tw dt vs ws n k ps ps (tail ++ own) := { TB with
      news := fun p hp => by
        rcases List.mem_cons.mp hp with rfl | hp
        · exact N₁ _ (List.mem_append_right _ (.head _))
        rcases List.mem_cons.mp hp with rfl | hp
        · exact N₁ _ (List.mem_append_right _ (.tail _ (.head _)))
        rcases List.mem_cons.mp hp with rfl | hp
        · exact N₁ _ (List.mem_append_right _ (.tail _ (.tail _ (.head _))))
        rcases List.mem_cons.mp hp with rfl | hp
        · exact N₁ _ (List.mem_append_right _ (.tail _ (.tail _ (.tail _ (.head _)))))
        rcases List.mem_cons.mp hp with rfl | hp
        · exact N₁ _ (List.mem_append_right _ (.tail _ (.tail _ (.tail _ (.tail _ (.head _))))))
        rcases List.mem_append.mp hp with hp | hp
        · exact N₁ _ (List.mem_append_right _ (.tail _ (.tail _ (.tail _ (.tail _ (.tail _ hp))))))
        · exact N₁ _ (List.mem_append_left _ hp)
      toff := fun p hp b hb => by
        rcases List.mem_append.mp hp with hp | hp
        · exact TB.toff p hp b hb
        · rcases List.mem_cons.mp hb with rfl | hb
          · exact offI p hp _ ⟨_, .head _⟩
          · rw [List.mem_singleton.mp hb]; exact offI p hp _ ⟨_, .tail _ (.tail _ (.tail _ (.head _)))⟩
      dv := TB.dv.mono fun p hp => List.mem_append_left _ hp
      dw := TB.dw.mono fun p hp => List.mem_append_left _ hp }
    refine wpAny_mono (turn w mean mg mb h₀ L fa cd _ { s with heap := h1, toks := tk1 } sa svs ns i x d l tw dt t ts vs ws n k ps oc cv (tail ++ own) B F₁ X T { cell := B1.cell, tab := TB2, good := B1.good, few := B1.few, e1 := (if_neg (by decide)).trans B1.e1, e2 := (if_neg (by decide)).trans B1.e2, e3 := (if_neg (by decide)).trans B1.e3, e4 := (if_neg (by decide)).trans B1.e4 } hL hI hn (by omega) (if_pos rfl)) (fun f s₂ hq => ?_) fun _ _ h => h.elim
    obtain ⟨rfl, m', h', tk', x', d', l', tw', dt', ts', vs', ws', n', k', ps', oc', cv', tail', rfl, F', BT, sub⟩ := hq
    have hI' : ∃ oI, h1.get? s.heap.objs.size = some oI ∧ oI.cls = .type "range_iterator" ∧ ∃ q, oI.data = .fields q := ⟨_, hst, rfl, _, rfl⟩
    obtain ⟨oI, g1, g2, q, g3⟩ := hI'
    have hmI := hmem s.heap.objs.size (.head _) (next_is_new F) oI g1
    have gI : h'.get? s.heap.objs.size = some oI := (BT.tab.news _ (.tail _ (.tail _ (.tail _ (.tail _ (.tail _ (sub _ (List.mem_append_right _ hmI)))))))).1
    have hcl : ∀ p, News h₀ L h' [p] → p.1 = s.heap.objs.size → p.2.cls = .type "range_iterator" ∧ p.2.data = .fields q := fun p hp e => by
      have := (hp p (.head _)).1
      rw [e, gI] at this
      cases this
      exact ⟨g2, g3⟩
    refine ⟨rfl, h', tk', m', (L + 1, oc') :: (x', instObj 184 d') :: (d', hdDict w dt' l') :: (l', W.listOf vs'.toArray n') :: (tw', W.listOf ws'.toArray k') :: tail'.filter (fun p => p.2.cls == .type "tuple"), rfl, F', ?_, ?_, ?_⟩
    · intro p hp
      rcases List.mem_append.mp hp with hp | hp
      · exact BT.tab.news p (.tail _ (.tail _ (.tail _ (.tail _ (.tail _ (sub p (List.mem_append_right _ hp)))))))
      · refine BT.tab.news p ?_
        rcases List.mem_cons.mp hp with rfl | hp
        · exact .head _
        rcases List.mem_cons.mp hp with rfl | hp
        · exact .tail _ (.head _)
        rcases List.mem_cons.mp hp with rfl | hp
        · exact .tail _ (.tail _ (.head _))
        rcases List.mem_cons.mp hp with rfl | hp
        · exact .tail _ (.tail _ (.tail _ (.head _)))
        rcases List.mem_cons.mp hp with rfl | hp
        · exact .tail _ (.tail _ (.tail _ (.tail _ (.head _))))
        exact .tail _ (.tail _ (.tail _ (.tail _ (.tail _ (List.mem_filter.mp hp).1))))
    · intro p hp hpI
      have eI : p.1 = s.heap.objs.size := List.mem_singleton.mp hpI
      have one : ∀ p, p ∈ (L + 1, oc') :: (x', instObj 184 d') :: (d', hdDict w dt' l') :: (l', W.listOf vs'.toArray n') :: (tw', W.listOf ws'.toArray k') :: tail' → News h₀ L h' [p] := fun p hp q hq => by rw [List.mem_singleton.mp hq]; exact BT.tab.news p hp
      rcases List.mem_cons.mp hp with rfl | hp
      · have := (hcl _ (one _ (.head _)) eI).2
        have hc := BT.cell
        rw [show oc'.data = _ from this] at hc; cases hc
      rcases List.mem_cons.mp hp with rfl | hp
      · have := (hcl _ (one _ (.tail _ (.head _))) eI).1
        cases this
      rcases List.mem_cons.mp hp with rfl | hp
      · have := (hcl _ (one _ (.tail _ (.tail _ (.head _)))) eI).1
        injection this with e; exact absurd e (by decide)
      rcases List.mem_cons.mp hp with rfl | hp
      · have := (hcl _ (one _ (.tail _ (.tail _ (.tail _ (.head _))))) eI).1
        injection this with e; exact absurd e (by decide)
      rcases List.mem_cons.mp hp with rfl | hp
      · have := (hcl _ (one _ (.tail _ (.tail _ (.tail _ (.tail _ (.head _)))))) eI).1
        injection this with e; exact absurd e (by decide)
      · have h2 := (hcl p (one _ (.tail _ (.tail _ (.tail _ (.tail _ (.tail _ (List.mem_filter.mp hp).1)))))) eI).1
        have h3 : p.2.cls = .type "tuple" := beq_iff_eq.mp (List.mem_filter.mp hp).2
        rw [h3] at h2
        injection h2 with e; exact absurd e (by decide)
    · refine ⟨x', d', l', tw', dt', ts', vs', ws', n', k', ps', oc', cv', _, rfl, fun p hp => beq_iff_eq.mp (List.mem_filter.mp hp).2, fun h2 N2 => ?_⟩
      have keep : ∀ a items n, (a, tup items n) ∈ tail' → (a, tup items n) ∈ tail'.filter (fun p => p.2.cls == .type "tuple") := fun a items n hm => List.mem_filter.mpr ⟨hm, beq_self_eq_true _⟩
      exact { BT with tab := { BT.tab with news := N2, toff := fun p hp => BT.tab.toff p (List.mem_filter.mp hp).1, dv := dat_sub keep _ _ BT.tab.dv, dw := dat_sub keep _ _ BT.tab.dw } }
  · rintro h' tk m' news' F' N' _ _
    exact done h' tk m' news' F' N'
end Mine
end
section
open PySem PySem.W PyProof.Rows PySem.Calls PySem.Spec
namespace Mine
theorem tab0 {w : World} {h₀ h : Heap} {L x d l tw : Addr} {oc : Obj} {dt : Tok} (N : News h₀ L h [(L + 1, oc), (x, instObj 184 d), (d, hdDict w dt l), (l, W.listOf #[] 0), (tw, W.listOf #[] 0)])
    (l1 : L + 1 < d) (l2 : d < x) (l3 : x < l) (l4 : l < tw) : Tab w h₀ L oc h x d l tw dt [] [] 0 0 [] [] [] :=
  { news := N, toff := fun _ hp => (nomatch hp), xc := Ne.symm (Nat.ne_of_lt (Nat.lt_trans l1 l2)), dc := Ne.symm (Nat.ne_of_lt l1), lc := Ne.symm (Nat.ne_of_lt (Nat.lt_trans l1 (Nat.lt_trans l2 l3))),
    tc := Ne.symm (Nat.ne_of_lt (Nat.lt_trans l1 (Nat.lt_trans l2 (Nat.lt_trans l3 l4)))), xl := Nat.ne_of_lt l3, dl := Nat.ne_of_lt (Nat.lt_trans l2 l3), tl := Ne.symm (Nat.ne_of_lt l4), dv := .nil, dw := .nil }
end Mine
theorem PySem.Challenge.cw_dr0124_01_holds : PySem.Challenge.rw_dr0124_01.Holds :=
  Mine.hd (by
  w_strict (k_go0; (all_goals try k_fold); k_steps)
  (rename Fr _ _ _ _ => FZ)
  (rename News _ _ _ _ => NZ)
  (rename IsRange _ _ _ _ _ _ _ _ => hr)
  (rename Below callerA _ [] _ => hB)
  (rename IntsAre _ _ => hI)
  (rename List Int => ns)
  (rename ¬ ((63 : Nat) : Int) < (ns.length : Int) => h63)
  have hlen : ns.length ≤ 63 := by omega
  have hnn : min 16 ns.length ≤ ns.length := Nat.min_le_right _ _
  with_unfolding_all refine' Mine.lawLoop (sa := ?sa) (nn := min 16 ns.length) (nx := [(_, _), (_, _), (_, _), (_, _), (_, _)]) hB FZ (by assumption) (by assumption) (List.forall_mem_cons.mpr ⟨NZ _ (.tail _ (.tail _ (.tail _ (.tail _ (.head _))))), List.forall_mem_cons.mpr ⟨NZ _ (.tail _ (.tail _ (.head _))), List.forall_mem_cons.mpr ⟨NZ _ (.tail _ (.tail _ (.tail _ (.head _)))), List.forall_mem_cons.mpr ⟨NZ _ (.tail _ (.head _)), List.forall_mem_cons.mpr ⟨NZ _ (.head _), fun _ h => (nomatch h)⟩⟩⟩⟩⟩) hr ?a1 ?a2 hnn ?a5 hI hlen ?a3 ?a4
  case a5 => assumption
  case a1 => split <;> exact small_one (by omega) (by omega) (by omega) (by omega)
  case a2 => rw [rangeSize_nat]; split <;> omega
  case a3 => with_unfolding_all refine ⟨_, _, _, _, _, _, [], [], 0, 0, [], _, _, [], rfl, fun _ h => (nomatch h), fun h N => { cell := (by assumption), tab := Mine.tab0 N (by first | assumption | omega) (by first | assumption | omega) (by first | exact And.left (by assumption) | omega) (by first | exact And.left (by assumption) | omega), good := fun _ h => (nomatch h), few := Nat.zero_le _, e1 := rfl, e2 := rfl, e3 := rfl, e4 := rfl }⟩
  case a4 => intro h tk m' nx' F' N'; w_strict k_steps
)
end
