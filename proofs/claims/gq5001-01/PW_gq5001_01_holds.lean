import PyProof.Rows.All
import Wide.All
import OpenK.AllK
import Wide.FinOn
import PySem.Challenge.RW_gq5001_01
set_option Elab.async false
section
open PySem PySem.W PyProof.Rows
set_option Elab.async false
namespace Mine
set_option maxRecDepth 100000 in
set_option maxHeartbeats 8000000 in
open_top gqHead for PySem.Challenge.rw_gq5001_01
end Mine
end
section
open PySem PySem.W PySem.Spec PySem.Calls PyProof.Rows
set_option Elab.async false
namespace Mine
set_option maxRecDepth 100000
set_option maxHeartbeats 8000000

theorem plain_pattern : PlainAttrs "re.Pattern" :=
  ⟨⟨"object.__getattribute__", by rw [typeLookup_type, builtinLookup_eq_fast]; kernel_rfl, by decide +kernel⟩, by rw [typeLookup_type, builtinLookup_eq_fast]; kernel_rfl⟩
theorem plain_match : PlainAttrs "re.Match" :=
  ⟨⟨"object.__getattribute__", by rw [typeLookup_type, builtinLookup_eq_fast]; kernel_rfl, by decide +kernel⟩, by rw [typeLookup_type, builtinLookup_eq_fast]; kernel_rfl⟩
theorem plain_date : PlainAttrs "datetime.date" :=
  ⟨⟨"object.__getattribute__", by rw [typeLookup_type, builtinLookup_eq_fast]; kernel_rfl, by decide +kernel⟩, by rw [typeLookup_type, builtinLookup_eq_fast]; kernel_rfl⟩

theorem slot_search : Slot "re.Pattern" "search" "re.Pattern.search" :=
  .of (owner := "re.Pattern") (n := "search") (by rw [typeLookup_type, builtinLookup_eq_fast]; kernel_rfl) (by decide +kernel) (by decide +kernel) (by decide +kernel)
    (by first | exact .inl (by decide +kernel) | exact .inr (by decide +kernel)) (by rw [isSubtype_type]; kernel_rfl)
theorem slot_group : Slot "re.Match" "group" "re.Match.group" :=
  .of (owner := "re.Match") (n := "group") (by rw [typeLookup_type, builtinLookup_eq_fast]; kernel_rfl) (by decide +kernel) (by decide +kernel) (by decide +kernel)
    (by first | exact .inl (by decide +kernel) | exact .inr (by decide +kernel)) (by rw [isSubtype_type]; kernel_rfl)
theorem slot_toordinal : Slot "datetime.date" "toordinal" "datetime.date.toordinal" :=
  .of (owner := "datetime.date") (n := "toordinal") (by rw [typeLookup_type, builtinLookup_eq_fast]; kernel_rfl) (by decide +kernel) (by decide +kernel) (by decide +kernel)
    (by first | exact .inl (by decide +kernel) | exact .inr (by decide +kernel)) (by rw [isSubtype_type]; kernel_rfl)
theorem type_search : typeOf (.builtin "re.Pattern.search") = pure (.type "method_descriptor") := by show builtinType _ = _; rw [builtinType_eq_fast]; kernel_rfl
theorem type_group : typeOf (.builtin "re.Match.group") = pure (.type "method_descriptor") := by show builtinType _ = _; rw [builtinType_eq_fast]; kernel_rfl
theorem type_toordinal : typeOf (.builtin "datetime.date.toordinal") = pure (.type "method_descriptor") := by show builtinType _ = _; rw [builtinType_eq_fast]; kernel_rfl
theorem entry_search : entryFor table "re.Pattern.search" = some Builtin.«re.Pattern.search» := entryFor_of_tree (by kernel_rfl)
theorem entry_group : entryFor table "re.Match.group" = some Builtin.«re.Match.group» := entryFor_of_tree (by kernel_rfl)
theorem entry_toordinal : entryFor table "datetime.date.toordinal" = some Builtin.«datetime.date.toordinal» := entryFor_of_tree (by kernel_rfl)
theorem owner_pattern : Manifest.owners.lookup (String.ofList ['n', 'r', 'e', 't', 't', 'a', 'P', '.', 'e', 'r'].reverse) = some Manifest.sig_re_Pattern := by kernel_rfl
theorem owner_match : Manifest.owners.lookup (String.ofList ['h', 'c', 't', 'a', 'M', '.', 'e', 'r'].reverse) = some Manifest.sig_re_Match := by kernel_rfl
theorem owner_date : Manifest.owners.lookup (String.ofList ['e', 't', 'a', 'd', '.', 'e', 'm', 'i', 't', 'e', 't', 'a', 'd'].reverse) = some Manifest.sig_datetime_date := by kernel_rfl
theorem args_search (a b : Value) : argsOk "re.Pattern.search" ⟨[a, b], []⟩ := by
  unfold argsOk; rw [signature?_of (id := "re.Pattern.search") (n := ['h', 'c', 'r', 'a', 'e', 's']) (o := ['n', 'r', 'e', 't', 't', 'a', 'P', '.', 'e', 'r']) (by kernel_rfl) owner_pattern]; kernel_rfl
theorem args_group (a b : Value) : argsOk "re.Match.group" ⟨[a, b], []⟩ := by
  unfold argsOk; rw [signature?_of (id := "re.Match.group") (n := ['p', 'u', 'o', 'r', 'g']) (o := ['h', 'c', 't', 'a', 'M', '.', 'e', 'r']) (by kernel_rfl) owner_match]; kernel_rfl
theorem args_toordinal (a : Value) : argsOk "datetime.date.toordinal" ⟨[a], []⟩ := by
  unfold argsOk; rw [signature?_of (id := "datetime.date.toordinal") (n := ['l', 'a', 'n', 'i', 'd', 'r', 'o', 'o', 't']) (o := ['e', 't', 'a', 'd', '.', 'e', 'm', 'i', 't', 'e', 't', 'a', 'd']) (by kernel_rfl) owner_date]; kernel_rfl
theorem nobool_match : typeLookup (.type "re.Match") "__bool__" = pure none := by rw [typeLookup_type, builtinLookup_eq_fast]; kernel_rfl
theorem nolen_match : typeLookup (.type "re.Match") "__len__" = pure none := by rw [typeLookup_type, builtinLookup_eq_fast]; kernel_rfl
end Mine
end
section
open PySem PySem.W PySem.Spec PySem.Calls PyProof.Rows
set_option Elab.async false
namespace Mine
set_option maxRecDepth 100000
set_option maxHeartbeats 8000000
open PySem.Sre

theorem runFor_done (m : Sre.M) (h : m.outcome.isSome = true) : ∀ n, m.runFor n = m
  | 0 => rfl
  | n + 1 => by unfold Sre.M.runFor; rw [if_pos h]
theorem runFor_add (a b : Nat) (m : Sre.M) : m.runFor (a + b) = (m.runFor a).runFor b := by
  induction a generalizing m with
  | zero => rw [Nat.zero_add]; rfl
  | succ a ih =>
    rw [Nat.succ_add]
    show (if m.outcome.isSome = true then m else Sre.M.runFor (a + b) m.step) = Sre.M.runFor b (if m.outcome.isSome = true then m else Sre.M.runFor a m.step)
    by_cases h : m.outcome.isSome = true
    · rw [if_pos h, if_pos h, runFor_done m h]
    · rw [if_neg h, if_neg h, ih]

section
variable {M : Model} {A : Around} {E : Value → Shared → Prop} {s : Shared}
theorem drive_end {Q : Sre.M → Shared → Prop} : ∀ (turns n : Nat) (m : Sre.M), n ≤ 4 * turns → 0 < turns → (m.runFor n).outcome.isSome = true → Q (m.runFor n) s → wpAny M A (Builtin.Re.reDrive turns m) Q E s
  | 0, _, _, _, h0, _, _ => absurd h0 (Nat.lt_irrefl 0)
  | turns + 1, n, m, hn, _, hm, hq => by
    show wpAny M A (if (m.runFor 4).outcome.isSome = true then pure (m.runFor 4) else rule "sre.turn" >>= fun _ => Builtin.Re.reDrive turns (m.runFor 4)) Q E s
    by_cases h4 : (m.runFor 4).outcome.isSome = true
    · rw [if_pos h4]
      have e : m.runFor n = m.runFor 4 := by
        rcases Nat.le_total n 4 with h | h
        · obtain ⟨k, hk⟩ := Nat.exists_eq_add_of_le h
          have this := runFor_add n k m
          rw [← hk, runFor_done _ hm] at this
          exact this.symm
        · obtain ⟨k, rfl⟩ := Nat.exists_eq_add_of_le h
          rw [runFor_add, runFor_done _ h4]
      rw [e] at hq
      exact wpAny_pure hq
    · rw [if_neg h4]
      refine wpAny_bind (wpAny_rule ?_)
      have hgt : 4 ≤ n := by
        rcases Nat.le_total n 4 with h | h
        · exfalso
          obtain ⟨k, e⟩ := Nat.exists_eq_add_of_le h
          have := runFor_add n k m
          rw [← e] at this
          rw [runFor_done _ hm] at this
          exact h4 (by rw [this]; exact hm)
        · exact h
      obtain ⟨k, rfl⟩ := Nat.exists_eq_add_of_le hgt
      rw [runFor_add] at hm hq
      have ht : 0 < turns := by
        rcases Nat.eq_zero_or_pos turns with rfl | h
        · exfalso
          have : k = 0 := by omega
          subst this
          exact h4 hm
        · exact h
      exact drive_end turns k _ (by omega) ht hm hq
theorem run_end {m f : Sre.M} {n : Nat} {Q : Option Sre.M → Shared → Prop} (hn : n ≤ 1000) (e : m.runFor n = f)
    (h : (f.outcome = some .matched ∧ Q (some f) s) ∨ (f.outcome = some .failed ∧ Q none s)) : wpAny M A (Builtin.Re.reRunToEnd m) Q E s := by
  subst e
  unfold Builtin.Re.reRunToEnd
  refine wpAny_bind (drive_end (2 ^ 64) n m (by omega) (by omega) (by rcases h with h | h <;> rw [h.1] <;> rfl) ?_)
  generalize m.runFor n = f at h
  have loop : ∀ (l : List Nat) (Q' : PUnit → Shared → Prop), Q' ⟨⟩ s → wpAny M A (forIn l PUnit.unit fun i (_ : PUnit) => if f.seen.has i = true then (rule (Sre.names.getD i "") >>= fun _ => pure (ForInStep.yield PUnit.unit)) else pure (ForInStep.yield PUnit.unit)) Q' E s := by
    intro l
    induction l with
    | nil => intro Q' hq; exact wpAny_pure hq
    | cons i l ih =>
      intro Q' hq
      rw [List.forIn_cons]
      refine wpAny_bind ?_
      by_cases hc : f.seen.has i = true
      · rw [if_pos hc]; exact wpAny_bind (wpAny_rule (wpAny_pure (ih Q' hq)))
      · rw [if_neg hc]; exact wpAny_pure (ih Q' hq)
  refine wpAny_bind ?_
  refine wpAny_mono (Q := fun _ s' => s' = s) (loop _ _ rfl) (fun _ s' e => ?_) fun _ _ x => x
  subst e
  rcases h with ⟨e, hq⟩ | ⟨e, hq⟩
  · rw [e]; exact wpAny_pure hq
  · rw [e]; exact wpAny_pure hq
end
end Mine
end
section
open PySem PySem.W PySem.Spec PySem.Calls PyProof.Rows
set_option Elab.async false
namespace Mine
set_option maxRecDepth 100000
set_option maxHeartbeats 8000000
open PySem.Sre

def gqCode : Array Nat := #[14, 4, 0, 1, 6, 6, 0, 23, 14, 0, 1, 17, 0, 13, 6, 16, 45, 16, 43, 0, 17, 1, 18, 17, 2, 13, 4, 8, 0, 0, 24, 9, 0, 1, 13, 4, 8, 0, 0, 1, 17, 3, 24, 6, 0, 1, 16, 58, 1, 23, 17, 0, 1, 17, 4, 13, 4, 8, 0, 0, 13, 4, 8, 0, 0, 17, 5, 18, 6, 5, 1]

def patObj (x0 : Value) (t1 : Tok) (c : Addr) : Obj := { cls := .type "re.Pattern", data := .fields #[x0, .int 256 t1, .int 3 0, .none, .none, .ref c, .int 0 0] }
def codeObj : Obj := { cls := .type "tuple", data := .seq #[Value.int 14 0, Value.int 4 0, Value.int 0 0, Value.int 1 0, Value.int 6 0, Value.int 6 0, Value.int 0 0, Value.int 23 0, Value.int 14 0, Value.int 0 0, Value.int 1 0, Value.int 17 0, Value.int 0 0, Value.int 13 0, Value.int 6 0, Value.int 16 0, Value.int 45 0, Value.int 16 0, Value.int 43 0, Value.int 0 0, Value.int 17 0, Value.int 1 0, Value.int 18 0, Value.int 17 0, Value.int 2 0, Value.int 13 0, Value.int 4 0, Value.int 8 0, Value.int 0 0, Value.int 0 0, Value.int 24 0, Value.int 9 0, Value.int 0 0, Value.int 1 0, Value.int 13 0, Value.int 4 0, Value.int 8 0, Value.int 0 0, Value.int 0 0, Value.int 1 0, Value.int 17 0, Value.int 3 0, Value.int 24 0, Value.int 6 0, Value.int 0 0, Value.int 1 0, Value.int 16 0, Value.int 58 0, Value.int 1 0, Value.int 23 0, Value.int 17 0, Value.int 0 0, Value.int 1 0, Value.int 17 0, Value.int 4 0, Value.int 13 0, Value.int 4 0, Value.int 8 0, Value.int 0 0, Value.int 0 0, Value.int 13 0, Value.int 4 0, Value.int 8 0, Value.int 0 0, Value.int 0 0, Value.int 17 0, Value.int 5 0, Value.int 18 0, Value.int 6 0, Value.int 5 0, Value.int 1 0] }

/-- the spans that a match keeps -/
def spansOf (f : Sre.M) : List Int := (List.range 3).flatMap fun g =>
    match if ((2 * g + 1 : Nat) : Int) ≤ f.lastmark then (f.marks.getD (2 * g) none, f.marks.getD (2 * g + 1) none) else (none, none) with
    | (some b, some e) => [(b : Int), (e : Int)]
    | _ => [-1, -1]
def spansFine (f : Sre.M) : Bool := !((List.range 3).any (fun g => match f.marks.getD (2 * g) none, f.marks.getD (2 * g + 1) none with | some b, some e => ((2 * g + 1 : Nat) : Int) ≤ f.lastmark && e < b | _, _ => false))

def matchTup (f : Sre.M) : Obj := { cls := .type "tuple", data := .seq ((((f.start : Int) :: (f.handed : Int) :: spansOf f).map rawInt).toArray) }
def matchObj (p : Addr) (t : Str) (tk : Tok) (f : Sre.M) (d : Addr) : Obj := { cls := .type "re.Match", data := .fields #[.str t tk, .ref p, rawInt 0, rawInt (t.cps.size : Int), rawInt f.lastindex, .ref d] }

section
variable {M : Model} {A : Around} {E : Value → Shared → Prop} {s : Shared}
theorem target_rule {p c : Addr} {x0 : Value} {t1 tk : Tok} {t : Str} {Q : Builtin.Re.ReTarget → Shared → Prop} (hp : s.heap.get? p = some (patObj x0 t1 c)) (hc : s.heap.get? c = some codeObj) (ht : t.length ≤ 600)
    (h : Q { pattern := .ref p, string := .str t tk, code := gqCode, text := t.cps, kind := 0, groups := 3, pos := 0, lim := t.cps.size } s) :
    wpAny M A (Builtin.Re.reTarget "re.Pattern.search" "search" ⟨[.ref p, .str t tk], []⟩) Q E s := by
  unfold Builtin.Re.reTarget
  have hn : Builtin.Re.reNamed "re.Pattern.search" "search" ["string", "pos", "endpos"] 1 [.str t tk] [] = pure [some (.str t tk), none, none] := by rfl
  dsimp only
  rw [hn]
  wp_walk
  have e1 : Array.map (fun x => x.toNat) (Array.map Builtin.Re.reRawOf ((some #[Value.int 14 0, Value.int 4 0, Value.int 0 0, Value.int 1 0, Value.int 6 0, Value.int 6 0, Value.int 0 0, Value.int 23 0, Value.int 14 0, Value.int 0 0, Value.int 1 0, Value.int 17 0, Value.int 0 0, Value.int 13 0, Value.int 6 0, Value.int 16 0, Value.int 45 0, Value.int 16 0, Value.int 43 0, Value.int 0 0, Value.int 17 0, Value.int 1 0, Value.int 18 0, Value.int 17 0, Value.int 2 0, Value.int 13 0, Value.int 4 0, Value.int 8 0, Value.int 0 0, Value.int 0 0, Value.int 24 0, Value.int 9 0, Value.int 0 0, Value.int 1 0, Value.int 13 0, Value.int 4 0, Value.int 8 0, Value.int 0 0, Value.int 0 0, Value.int 1 0, Value.int 17 0, Value.int 3 0, Value.int 24 0, Value.int 6 0, Value.int 0 0, Value.int 1 0, Value.int 16 0, Value.int 58 0, Value.int 1 0, Value.int 23 0, Value.int 17 0, Value.int 0 0, Value.int 1 0, Value.int 17 0, Value.int 4 0, Value.int 13 0, Value.int 4 0, Value.int 8 0, Value.int 0 0, Value.int 0 0, Value.int 13 0, Value.int 4 0, Value.int 8 0, Value.int 0 0, Value.int 0 0, Value.int 17 0, Value.int 5 0, Value.int 18 0, Value.int 6 0, Value.int 5 0, Value.int 1 0]).getD #[])) = gqCode := by decide +kernel
  have e2 : min (2 ^ 63 - 1 : Int).toNat t.cps.size = t.cps.size := by
    have : t.cps.size ≤ 600 := ht
    omega
  have e3 : min (Int.toNat 0) t.cps.size = 0 := Nat.zero_min _
  dsimp only
  rw [e1, e2, e3]
  exact h

theorem newMatch_rule {p : Addr} {t : Str} {tk : Tok} {f : Sre.M} {Q : Value → Shared → Prop} (hf : spansFine f = true)
    (h : Q (.ref (s.heap.objs.size + 1)) { s with heap := (s.heap.push (matchTup f)).push (matchObj p t tk f s.heap.objs.size) }) :
    wpAny M A (Builtin.Re.reNewMatch (.ref p) (.str t tk) 3 0 t.cps.size f) Q E s := by
  unfold Builtin.Re.reNewMatch
  have hany := hf
  unfold spansFine at hany
  rw [Bool.not_eq_true'] at hany
  dsimp only
  split
  · rename_i hc
    exact absurd (hany.symm.trans hc) Bool.false_ne_true
  · have e : ∀ l : List Nat, (l.flatMap (fun (g : Nat) => match (if ((2 * g + 1 : Nat) : Int) ≤ f.lastmark then (f.marks.getD (2 * g) none, f.marks.getD (2 * g + 1) none) else (none, none)) with
        | (some b, some e) => [rawInt (b : Int), rawInt (e : Int)]
        | _ => [rawInt (-1), rawInt (-1)])) = (l.flatMap (fun (g : Nat) => match (if ((2 * g + 1 : Nat) : Int) ≤ f.lastmark then (f.marks.getD (2 * g) none, f.marks.getD (2 * g + 1) none) else (none, none)) with
        | (some b, some e) => [(b : Int), (e : Int)]
        | _ => [-1, -1])).map rawInt := by
      intro l
      induction l with
      | nil => rfl
      | cons g l ih =>
        rw [List.flatMap_cons, List.flatMap_cons, List.map_append, ih]
        congr 1
        split <;> rfl
    refine wpAny_bind (wpAny_newObj_type ?_ ?_)
    · refine wpAny_newObj_type ?_ ?_
      · have e' := e (List.range 3)
        have h1 : matchTup f = { cls := .type "tuple", data := .seq ((rawInt (f.start : Int) :: rawInt (f.handed : Int) :: ((List.range 3).flatMap (fun (g : Nat) => match (if ((2 * g + 1 : Nat) : Int) ≤ f.lastmark then (f.marks.getD (2 * g) none, f.marks.getD (2 * g + 1) none) else (none, none)) with
        | (some b, some e) => [rawInt (b : Int), rawInt (e : Int)]
        | _ => [rawInt (-1), rawInt (-1)]))).toArray) } := by
          rw [e']; rfl
        rw [h1, ← Heap.size_push s.heap] at h
        exact h
      · exact Nat.le_of_ble_eq_true rfl
    · show Array.size _ ≤ sizeLine
      rw [List.size_toArray, List.length_cons, List.length_cons]
      have : ∀ l : List Nat, (l.flatMap (fun (g : Nat) => match (if ((2 * g + 1 : Nat) : Int) ≤ f.lastmark then (f.marks.getD (2 * g) none, f.marks.getD (2 * g + 1) none) else (none, none)) with
        | (some b, some e) => [rawInt (b : Int), rawInt (e : Int)]
        | _ => [rawInt (-1), rawInt (-1)])).length = 2 * l.length := by
        intro l
        induction l with
        | nil => rfl
        | cons g l ih =>
          rw [List.flatMap_cons, List.length_append, ih]
          split <;> simp <;> omega
      exact Nat.le_trans (Nat.le_of_eq (congrArg (· + 1 + 1) (this (List.range 3)))) (Nat.le_of_ble_eq_true rfl)

theorem answer_none {p : Addr} {t : Str} {tk : Tok} {f : Sre.M} {n : Nat} {Q : Fin → Shared → Prop} (hn : n ≤ 1000) (e : (Sre.forSearch gqCode t.cps 3 0 t.cps.size false).runFor n = f) (hf : f.outcome = some .failed)
    (h : Q (.done (.ret .none)) s) :
    wpAny M A (Builtin.Re.reAnswer { pattern := .ref p, string := .str t tk, code := gqCode, text := t.cps, kind := 0, groups := 3, pos := 0, lim := t.cps.size } (Sre.forSearch gqCode t.cps 3 0 t.cps.size false)) Q E s := by
  unfold Builtin.Re.reAnswer
  exact wpAny_bind (run_end hn e (.inr ⟨hf, wpAny_pure h⟩))
theorem answer_some {p : Addr} {t : Str} {tk : Tok} {f : Sre.M} {n : Nat} {Q : Fin → Shared → Prop} (hn : n ≤ 1000) (e : (Sre.forSearch gqCode t.cps 3 0 t.cps.size false).runFor n = f) (hf : f.outcome = some .matched) (hs : spansFine f = true)
    (h : Q (.done (.ret (.ref (s.heap.objs.size + 1)))) { s with heap := (s.heap.push (matchTup f)).push (matchObj p t tk f s.heap.objs.size) }) :
    wpAny M A (Builtin.Re.reAnswer { pattern := .ref p, string := .str t tk, code := gqCode, text := t.cps, kind := 0, groups := 3, pos := 0, lim := t.cps.size } (Sre.forSearch gqCode t.cps 3 0 t.cps.size false)) Q E s := by
  unfold Builtin.Re.reAnswer
  exact wpAny_bind (run_end hn e (.inl ⟨hf, wpAny_bind (newMatch_rule hs (wpAny_pure h))⟩))
end
section
variable {prog : Program} {w : World} {A : Around} {E : Value → Shared → Prop} {s : Shared} {h₀ : Heap} {L : Addr} {m : Str → Option Value} {news : List (Addr × Obj)}
theorem call_search_none {p c : Addr} {x0 : Value} {t1 tk : Tok} {t : Str} {f : Sre.M} {n : Nat} {Q : Value → Shared → Prop} (hp : s.heap.get? p = some (patObj x0 t1 c)) (hc : s.heap.get? c = some codeObj) (ht : t.length ≤ 600)
    (hn : n ≤ 1000) (e : (Sre.forSearch gqCode t.cps 3 0 t.cps.size false).runFor n = f) (hf : f.outcome = some .failed) (h : Q .none s) :
    wpAny (model prog w) A (call (.builtin "re.Pattern.search") [.ref p, .str t tk]) Q E s := by
  refine wpAny_call_entry slot_search ⟨_, hp, rfl⟩ entry_search ?_ (args_search _ _)
  unfold Builtin.«re.Pattern.search»
  exact wpAny_bind (target_rule hp hc ht (answer_none hn e hf ⟨_, rfl, h⟩))
theorem call_search_some {p c : Addr} {x0 : Value} {t1 tk : Tok} {t : Str} {f : Sre.M} {n : Nat} {Q : Value → Shared → Prop} (F : Fr h₀ L s.heap m) (N : News h₀ L s.heap news) (hp : s.heap.get? p = some (patObj x0 t1 c)) (hc : s.heap.get? c = some codeObj) (ht : t.length ≤ 600)
    (hn : n ≤ 1000) (e : (Sre.forSearch gqCode t.cps 3 0 t.cps.size false).runFor n = f) (hf : f.outcome = some .matched) (hs : spansFine f = true)
    (h : ∀ d a h', Fr h₀ L h' m → News h₀ L h' ((a, matchObj p t tk f d) :: (d, matchTup f) :: news) → (∀ p ∈ news, p.1 < d) → d < a → Q (.ref a) { s with heap := h' }) :
    wpAny (model prog w) A (call (.builtin "re.Pattern.search") [.ref p, .str t tk]) Q E s := by
  refine wpAny_call_entry slot_search ⟨_, hp, rfl⟩ entry_search ?_ (args_search _ _)
  unfold Builtin.«re.Pattern.search»
  refine wpAny_bind (target_rule hp hc ht (answer_some hn e hf hs ⟨_, rfl, ?_⟩))
  have F1 := F.push (matchTup f)
  have N1 := News.push F N (matchTup f)
  have F2 := F1.push (matchObj p t tk f s.heap.objs.size)
  have N2 := News.push F1 N1 (matchObj p t tk f s.heap.objs.size)
  rw [Heap.size_push] at N2
  exact h _ _ _ F2 N2 (fun q hq => Heap.lt_size (N q hq).1) (Nat.lt_succ_self _)
end
end Mine
end
section
open PySem PySem.W PySem.Spec PySem.Calls PyProof.Rows
set_option Elab.async false
namespace Mine
set_option maxRecDepth 100000
set_option maxHeartbeats 8000000
open PySem.Sre

def tupObj (sp : List Int) : Obj := { cls := .type "tuple", data := .seq (sp.map rawInt).toArray }
theorem matchTup_eq {f : Sre.M} {sp : List Int} (h : (f.start : Int) :: (f.handed : Int) :: spansOf f = sp) : matchTup f = tupObj sp := by subst h; rfl

def gtext (t : Str) (b e : Int) : Str := ⟨t.cps.extract b.toNat e.toNat⟩
theorem gtext_len (t : Str) (b e : Int) : (gtext t b e).length ≤ t.length := by
  unfold gtext Str.length
  rw [Array.size_extract]; omega

section
variable {prog : Program} {w : World} {A : Around} {E : Value → Shared → Prop} {s : Shared} {h₀ : Heap} {L : Addr} {m : Str → Option Value} {news : List (Addr × Obj)}
theorem rawItems_map (sp : List Int) : Array.map Builtin.Re.reRawOf (sp.map rawInt).toArray = sp.toArray := by
  simp only [List.map_toArray, List.map_map]
  congr 1
  induction sp with
  | nil => rfl
  | cons x l ih => rw [List.map_cons, ih]; rfl
theorem call_group {a d p : Addr} {t : Str} {tk u : Tok} {f : Sre.M} {sp : List Int} {g : Int} {Q : Value → Shared → Prop} (ha : s.heap.get? a = some (matchObj p t tk f d)) (hd : s.heap.get? d = some (tupObj sp)) (ht : t.length ≤ 600)
    (h0 : 0 ≤ g) (hg : 2 * g < sp.length)
    (hno : (sp.getD (2 * g.toNat) (-1) < 0 ∨ sp.getD (2 * g.toNat + 1) (-1) < 0) → Q .none s)
    (hyes : 0 ≤ sp.getD (2 * g.toNat) (-1) → 0 ≤ sp.getD (2 * g.toNat + 1) (-1) → Q (.str (gtext t (sp.getD (2 * g.toNat) (-1)) (sp.getD (2 * g.toNat + 1) (-1))) s.toks) { s with toks := s.toks + 1 }) :
    wpAny (model prog w) A (call (.builtin "re.Match.group") [.ref a, .int g u]) Q E s := by
  refine wpAny_call_entry slot_group ⟨_, ha, rfl⟩ entry_group ?_ (args_group _ _)
  unfold Builtin.«re.Match.group»
  have hsz : ¬ (2 * g ≥ (sp.length : Int)) := by omega
  have h0' : ¬ (g < 0) := by omega
  have hfound : ∀ {Q' : Builtin.Re.ReFound → Shared → Prop}, Q' ⟨#[.str t tk, .ref p, rawInt 0, rawInt (t.cps.size : Int), rawInt f.lastindex, .ref d], sp.toArray⟩ s → wpAny (model prog w) A.in1 (Builtin.Re.reFound (.ref a)) Q' (fun e s' => E e s') s := by
    intro Q' h
    unfold Builtin.Re.reFound
    wp_walk
    dsimp only [Option.getD_some]
    rw [rawItems_map]
    exact h
  refine wpAny_bind (m := noKeywords _ _) (wpAny_pure ?_)
  dsimp only
  refine wpAny_bind (hfound ?_)
  refine wpAny_bind (m := Builtin.Re.reGroupNumber _ _) ?_
  · unfold Builtin.Re.reGroupNumber
    wp_walk
    have eg : ∀ i, sp.toArray.getD i (-1) = sp.getD i (-1) := fun i => by simp [Array.getD_eq_getD_getElem?, List.getD_eq_getElem?_getD]
    dsimp only
    rw [eg, eg]
    by_cases hc : sp.getD (2 * g.toNat) (-1) < 0 ∨ sp.getD (2 * g.toNat + 1) (-1) < 0
    · rw [if_pos (by simpa using hc)]
      exact wpAny_pure (wpAny_pure ⟨_, rfl, hno hc⟩)
    · rw [if_neg (by simpa using hc)]
      have hlen := gtext_len t (sp.getD (2 * g.toNat) (-1)) (sp.getD (2 * g.toNat + 1) (-1))
      refine wpAny_bind (m := Builtin.Re.reTextOf _) ?_
      unfold Builtin.Re.reTextOf
      wp_walk
      show wpAny _ _ (mkStr (gtext t (sp.getD (2 * g.toNat) (-1)) (sp.getD (2 * g.toNat + 1) (-1)))) _ _ _
      refine wpAny_mkStr ?_ (Nat.le_trans hlen (Nat.le_trans ht (Nat.le_of_ble_eq_true rfl)))
      exact wpAny_pure ⟨_, rfl, hyes (by omega) (by omega)⟩
theorem truthy_match {a : Addr} {o : Obj} {Q : Bool → Shared → Prop} (ha : s.heap.get? a = some o) (hc : o.cls = .type "re.Match") (h : Q true s) : wpAny (model prog w) A (truthy (.ref a)) Q E s := by
  unfold truthy
  dsimp only
  refine wpAny_bind (wpAny_callSpecial?_none (T := "re.Match") ⟨o, ha, hc⟩ nobool_match ?_)
  dsimp only
  exact wpAny_bind (wpAny_specialOf (T := "re.Match") ⟨o, ha, hc⟩ nolen_match (wpAny_pure h))
theorem method_search {p : Addr} {o : Obj} {pl : Sem Bool} {Q : Value × List Value → Shared → Prop} (hp : s.heap.get? p = some o) (hc : o.cls = .type "re.Pattern") (hd : o.dict = none) (h : Q (.builtin "re.Pattern.search", [.ref p]) s) : wpAny (model prog w) A (getMethod (.ref p) "search" pl) Q E s :=
  getMethod_builtin ⟨o, hp, hc⟩ plain_pattern slot_search type_search (fun _ e => by cases e; exact ⟨o, hp, hd⟩) h
theorem method_group {p : Addr} {o : Obj} {pl : Sem Bool} {Q : Value × List Value → Shared → Prop} (hp : s.heap.get? p = some o) (hc : o.cls = .type "re.Match") (hd : o.dict = none) (h : Q (.builtin "re.Match.group", [.ref p]) s) : wpAny (model prog w) A (getMethod (.ref p) "group" pl) Q E s :=
  getMethod_builtin ⟨o, hp, hc⟩ plain_match slot_group type_group (fun _ e => by cases e; exact ⟨o, hp, hd⟩) h
end
end Mine
end
section
open PySem PySem.W PySem.Spec PySem.Calls PyProof.Rows
set_option Elab.async false
namespace Mine
set_option maxRecDepth 100000
set_option maxHeartbeats 8000000

abbrev gqP : Program := PySem.Challenge.rw_gq5001_01.row.prog

theorem fill (w : World) : (gqHead.heap_39 w.params = gqHead.heap_39 w.params) ∧ PySem.Challenge.rw_gq5001_01 = PySem.Challenge.rw_gq5001_01 := by
  w_top off
  k_fill
  exact ⟨rfl, rfl⟩

theorem pat_in {w : World} {h : Heap} (X : (gqHead.heap_39 w.params).In h) : ∃ x0 t1, h.get? 88 = some (patObj x0 t1 87) := ⟨_, _, X 88 _ (by k_is)⟩
theorem code_in {w : World} {h : Heap} (X : (gqHead.heap_39 w.params).In h) : h.get? 87 = some codeObj := X 87 _ (by k_is)

def OutIntNone (o : Option Int) (v : Value) : Prop := match o with
  | some i => ∃ t, v = .int i t
  | none => v = .none

def OffClaim (w : World) (t : Str) (o : Option Int) : Prop :=
  ∀ (p : Program) (loose : List Str) (mean : ExcName → Option Value) (mg mb : Str → Option Value) (tk : Tok) (news : List (Addr × Obj))
    (dp un : Nat) (gd : Option (List Code)) (cn : Str) (cs : Scope) (a : Addr) (ccd : Value) (cl : List (Str × Addr)) (outer : List Env) (A₀ : Around) (base h₀ : Heap) (L : Addr) (m : Str → Option Value) (s : Shared) (Q E : Value → Shared → Prop),
    Below A₀ base outer h₀ → Fr h₀ L s.heap m → (gqHead.heap_39 w.params).In h₀ → News h₀ L s.heap news → Top p loose mean mg mb h₀ → cs.kind = .function →
    dp + 1 < recursionLimit → un + 8 < cLine →
    (∀ (v : Value) (h' : Heap) (tk' : Nat), OutIntNone o v → Fr h₀ L h' m → News h₀ L h' news → Q v { s with heap := h', toks := tk' }) →
      wpAny (model gqP w) (ktrTop dp un gd cn cs L a ccd cl outer) (call (.ref 95) [.str t tk]) Q E s

def isName (t : Str) : Bool := decide (t = { cps := #[71, 77, 84] }) || (decide (t = { cps := #[85, 84, 67] }) || (decide (t = { cps := #[85, 84] }) || (decide (t = { cps := #[90] }) || false)))

section
variable {prog : Program} {w : World} {A : Around} {E : Value → Shared → Prop} {s : Shared} {h₀ : Heap} {L : Addr} {m : Str → Option Value} {news : List (Addr × Obj)}
theorem gm_search {pl : Sem Bool} {Q : Value × List Value → Shared → Prop} (F : Fr h₀ L s.heap m) (X : (gqHead.heap_39 w.params).In h₀) (h : Q (.builtin "re.Pattern.search", [.ref 88]) s) : wpAny (model prog w) A (getMethod (.ref 88) "search" pl) Q E s := by
  obtain ⟨x0, t1, hp⟩ := pat_in (X.keeps F.keep)
  exact method_search hp rfl rfl h
theorem search_none {t : Str} {tk : Tok} {f : Sre.M} {n : Nat} {Q : Value → Shared → Prop} (F : Fr h₀ L s.heap m) (X : (gqHead.heap_39 w.params).In h₀) (ht : t.length ≤ 600)
    (hn : n ≤ 1000) (e : (Sre.forSearch gqCode t.cps 3 0 t.cps.size false).runFor n = f) (hf : f.outcome = some .failed) (h : Q .none s) :
    wpAny (model prog w) A (call (.builtin "re.Pattern.search") [.ref 88, .str t tk]) Q E s := by
  obtain ⟨x0, t1, hp⟩ := pat_in (X.keeps F.keep)
  exact call_search_none hp (code_in (X.keeps F.keep)) ht hn e hf h
theorem search_some {t : Str} {tk : Tok} {f : Sre.M} {n : Nat} {sp : List Int} {Q : Value → Shared → Prop} (F : Fr h₀ L s.heap m) (X : (gqHead.heap_39 w.params).In h₀) (N : News h₀ L s.heap news) (ht : t.length ≤ 600)
    (hn : n ≤ 1000) (e : (Sre.forSearch gqCode t.cps 3 0 t.cps.size false).runFor n = f) (hf : f.outcome = some .matched) (hs : spansFine f = true) (hsp : (f.start : Int) :: (f.handed : Int) :: spansOf f = sp)
    (h : ∀ d a h', Fr h₀ L h' m → News h₀ L h' ((a, matchObj 88 t tk f d) :: (d, tupObj sp) :: news) → (∀ p ∈ news, p.1 < d) → d < a → Q (.ref a) { s with heap := h' }) :
    wpAny (model prog w) A (call (.builtin "re.Pattern.search") [.ref 88, .str t tk]) Q E s := by
  obtain ⟨x0, t1, hp⟩ := pat_in (X.keeps F.keep)
  refine call_search_some F N hp (code_in (X.keeps F.keep)) ht hn e hf hs ?_
  rw [matchTup_eq hsp]
  exact h
end

local macro_rules | `(tactic| walk_at "getMethod ref") => `(tactic| (k_here; k_dflt (refine' gm_search ?k1 ?k2 ?_; (case k1 => k_asm); (case k2 => k_asm); k_whole)))
local macro_rules | `(tactic| walk_at "call builtin:re.Pattern.search") => `(tactic| (k_here; k_dflt (refine' search_none ?k1 ?k2 ?k3 ?k4 ?k5 ?k6 ?_; (case k1 => k_asm); (case k2 => k_asm); (case k5 => assumption); (case k3 => assumption); (case k4 => assumption);  (case k6 => assumption); k_whole)))

theorem off_none (w : World) (t : Str) (ht : t.length ≤ 600) (hname : isName t = false) (f : Sre.M) (n : Nat) (hn : n ≤ 1000) (e : (Sre.forSearch gqCode t.cps 3 0 t.cps.size false).runFor n = f) (hf : f.outcome = some .failed) : OffClaim w t none := by
  unfold OffClaim
  intro p loose mean mg mb tk news dp un gd cn cs a ccd cl outer A₀ base h₀ L m s Q E B F X N T hk hd hu hret
  refine wpAny_call ?_
  k_dflt cell_enter
  k_steps
  · exact absurd (show isName t = true by assumption) (by rw [hname]; decide)
  · exact hret _ _ _ rfl (by k_asm) (by k_asm)

theorem off_name (w : World) (t : Str) (ht : t.length ≤ 600) (hname : isName t = true) : OffClaim w t (some 0) := by
  unfold OffClaim
  intro p loose mean mg mb tk news dp un gd cn cs a ccd cl outer A₀ base h₀ L m s Q E B F X N T hk hd hu hret
  refine wpAny_call ?_
  k_dflt cell_enter
  k_steps
  · exact hret _ _ _ ⟨_, rfl⟩ (by k_asm) (by k_asm)
  · exact absurd hname (by rw [show isName t = false by assumption]; decide)
end Mine
end
section
open PySem PySem.W PySem.Spec PySem.Calls PyProof.Rows
set_option Elab.async false
namespace Mine
set_option maxRecDepth 100000
set_option maxHeartbeats 8000000
theorem fill2 (w : World) : (gqHead.heap_39 w.params = gqHead.heap_39 w.params) ∧ PySem.Challenge.rw_gq5001_01 = PySem.Challenge.rw_gq5001_01 := by
  w_top off
  k_fill
  exact ⟨rfl, rfl⟩

theorem news_drop2 {h₀ h : Heap} {L : Addr} {x y : Addr × Obj} {news : List (Addr × Obj)} (N : News h₀ L h (x :: y :: news)) : News h₀ L h news := fun p hp => N p (List.mem_cons_of_mem _ (List.mem_cons_of_mem _ hp))
section
variable {prog : Program} {w : World} {A : Around} {E : Value → Shared → Prop} {s : Shared} {h₀ : Heap} {L : Addr} {m : Str → Option Value} {news : List (Addr × Obj)}
  {a d p : Addr} {t : Str} {tk u : Tok} {f : Sre.M} {s0 e0 b1 e1 b2 e2 b3 e3 : Int}
theorem group1_yes {Q : Value → Shared → Prop} (N : News h₀ L s.heap news) (ha : (a, matchObj p t tk f d) ∈ news) (hd : (d, tupObj [s0, e0, b1, e1, b2, e2, b3, e3]) ∈ news) (ht : t.length ≤ 600)
    (h1 : 0 ≤ b1 ∧ 0 ≤ e1) (hyes : Q (.str (gtext t b1 e1) s.toks) { s with toks := s.toks + 1 }) :
    wpAny (model prog w) A (call (.builtin "re.Match.group") [.ref a, .int 1 u]) Q E s :=
  call_group (N _ ha).1 (N _ hd).1 ht (by decide) (by simp only [List.length_cons, List.length_nil]; decide) (fun h => by have h' : b1 < 0 ∨ e1 < 0 := h; omega) (fun _ _ => hyes)
theorem group1_no {Q : Value → Shared → Prop} (N : News h₀ L s.heap news) (ha : (a, matchObj p t tk f d) ∈ news) (hd : (d, tupObj [s0, e0, b1, e1, b2, e2, b3, e3]) ∈ news) (ht : t.length ≤ 600)
    (h1 : b1 < 0) (hno : Q .none s) :
    wpAny (model prog w) A (call (.builtin "re.Match.group") [.ref a, .int 1 u]) Q E s :=
  call_group (N _ ha).1 (N _ hd).1 ht (by decide) (by simp only [List.length_cons, List.length_nil]; decide) (fun _ => hno) (fun h _ => by have h' : 0 ≤ b1 := h; omega)
theorem group2_yes {Q : Value → Shared → Prop} (N : News h₀ L s.heap news) (ha : (a, matchObj p t tk f d) ∈ news) (hd : (d, tupObj [s0, e0, b1, e1, b2, e2, b3, e3]) ∈ news) (ht : t.length ≤ 600)
    (h1 : 0 ≤ b2 ∧ 0 ≤ e2) (hyes : Q (.str (gtext t b2 e2) s.toks) { s with toks := s.toks + 1 }) :
    wpAny (model prog w) A (call (.builtin "re.Match.group") [.ref a, .int 2 u]) Q E s :=
  call_group (N _ ha).1 (N _ hd).1 ht (by decide) (by simp only [List.length_cons, List.length_nil]; decide) (fun h => by have h' : b2 < 0 ∨ e2 < 0 := h; omega) (fun _ _ => hyes)
theorem group3_yes {Q : Value → Shared → Prop} (N : News h₀ L s.heap news) (ha : (a, matchObj p t tk f d) ∈ news) (hd : (d, tupObj [s0, e0, b1, e1, b2, e2, b3, e3]) ∈ news) (ht : t.length ≤ 600)
    (h1 : 0 ≤ b3 ∧ 0 ≤ e3) (hyes : Q (.str (gtext t b3 e3) s.toks) { s with toks := s.toks + 1 }) :
    wpAny (model prog w) A (call (.builtin "re.Match.group") [.ref a, .int 3 u]) Q E s :=
  call_group (N _ ha).1 (N _ hd).1 ht (by decide) (by simp only [List.length_cons, List.length_nil]; decide) (fun h => by have h' : b3 < 0 ∨ e3 < 0 := h; omega) (fun _ _ => hyes)
theorem group3_no {Q : Value → Shared → Prop} (N : News h₀ L s.heap news) (ha : (a, matchObj p t tk f d) ∈ news) (hd : (d, tupObj [s0, e0, b1, e1, b2, e2, b3, e3]) ∈ news) (ht : t.length ≤ 600)
    (h1 : b3 < 0) (hno : Q .none s) :
    wpAny (model prog w) A (call (.builtin "re.Match.group") [.ref a, .int 3 u]) Q E s :=
  call_group (N _ ha).1 (N _ hd).1 ht (by decide) (by simp only [List.length_cons, List.length_nil]; decide) (fun _ => hno) (fun h _ => by have h' : 0 ≤ b3 := h; omega)
theorem truthy_m {Q : Bool → Shared → Prop} (N : News h₀ L s.heap news) (ha : (a, matchObj p t tk f d) ∈ news) (h : Q true s) : wpAny (model prog w) A (truthy (.ref a)) Q E s := truthy_match (N _ ha).1 rfl h
theorem gm_group {pl : Sem Bool} {Q : Value × List Value → Shared → Prop} (N : News h₀ L s.heap news) (ha : (a, matchObj p t tk f d) ∈ news) (h : Q (.builtin "re.Match.group", [.ref a]) s) : wpAny (model prog w) A (getMethod (.ref a) "group" pl) Q E s :=
  method_group (N _ ha).1 rfl rfl h
end
local macro_rules | `(tactic| walk_at "getMethod ref") => `(tactic| (k_here; k_dflt (first
  | (refine' gm_search ?k1 ?k2 ?_; (case k1 => k_asm); (case k2 => k_asm); k_whole)
  | (refine' gm_group ?k1 ?k2 ?_; (case k1 => k_asm); (case k2 => k_mem); k_whole))))
local macro_rules | `(tactic| walk_at "truthy ref") => `(tactic| (k_here; k_dflt (refine' truthy_m ?k1 ?k2 ?_; (case k1 => k_asm); (case k2 => k_mem); k_whole)))
local macro_rules | `(tactic| walk_at "truthy str") => `(tactic| (k_here; k_dflt (refine' KXt.truthy_pos ?k1 ?k2 ?k3 ?_; (case k1 => assumption); (case k2 => exact Nat.le_trans (gtext_len _ _ _) (by assumption)); (case k3 => decide); k_whole); intro _))
local macro_rules | `(tactic| walk_at "call builtin:re.Pattern.search") => `(tactic| (k_here; k_dflt (refine' search_some ?k1 ?k2 ?kN ?k3 ?k4 ?k5 ?k6 ?k7 ?k8 ?_; (case k1 => k_asm); (case k2 => k_asm); (case kN => k_asm); (case k5 => assumption); (case k3 => assumption); (case k4 => assumption); (case k6 => assumption); (case k7 => assumption); (case k8 => assumption); k_whole; intro d' a' h' F' N' l1 l2; (try k_lt l1); (try k_lt2 l2); (try k_sweep))))
local macro_rules | `(tactic| walk_at "call builtin:re.Match.group") => `(tactic| (k_here; k_dflt (first
  | (refine' group1_yes ?k1 ?k2 ?k3 ?k4 ?k5 ?_; (case k1 => k_asm); (case k2 => k_mem); (case k3 => k_mem); (case k4 => assumption); (case k5 => assumption); k_whole)
  | (refine' group1_no ?k1 ?k2 ?k3 ?k4 ?k5 ?_; (case k1 => k_asm); (case k2 => k_mem); (case k3 => k_mem); (case k4 => assumption); (case k5 => assumption); k_whole)
  | (refine' group2_yes ?k1 ?k2 ?k3 ?k4 ?k5 ?_; (case k1 => k_asm); (case k2 => k_mem); (case k3 => k_mem); (case k4 => assumption); (case k5 => assumption); k_whole)
  | (refine' group3_yes ?k1 ?k2 ?k3 ?k4 ?k5 ?_; (case k1 => k_asm); (case k2 => k_mem); (case k3 => k_mem); (case k4 => assumption); (case k5 => assumption); k_whole)
  | (refine' group3_no ?k1 ?k2 ?k3 ?k4 ?k5 ?_; (case k1 => k_asm); (case k2 => k_mem); (case k3 => k_mem); (case k4 => assumption); (case k5 => assumption); k_whole))))
local macro_rules | `(tactic| walk_at "call type:int") => `(tactic| (k_here; k_dflt (refine' KIN.call_text ?k1 ?k2 ?_; (case k1 => assumption); (case k2 => exact Nat.le_trans (gtext_len _ _ _) (Nat.le_trans (by assumption) (by decide))); k_whole)))

theorem off_11 (w : World) (t : Str) (ht : t.length ≤ 600) (hname : isName t = false) (f : Sre.M) (n : Nat) (hn : n ≤ 1000) (e : (Sre.forSearch gqCode t.cps 3 0 t.cps.size false).runFor n = f) (hf : f.outcome = some .matched)
   (hs : spansFine f = true) (s0 e0 b1 e1 b2 e2 b3 e3 : Int) (hsp : (f.start : Int) :: (f.handed : Int) :: spansOf f = [s0, e0, b1, e1, b2, e2, b3, e3]) (h1 : 0 ≤ b1 ∧ 0 ≤ e1) (h2 : 0 ≤ b2 ∧ 0 ≤ e2) (h3 : 0 ≤ b3 ∧ 0 ≤ e3) (i3 : Int) (hi3 : PySem.intText? (gtext t b3 e3) = some i3) (hi3b : 0 ≤ i3 ∧ i3 ≤ 99) (h3p : 1 ≤ (gtext t b3 e3).length)
   (i2 : Int) (hi2 : PySem.intText? (gtext t b2 e2) = some i2) (hi2b : 0 ≤ i2 ∧ i2 ≤ 99) (r : Int) (hneg : (gtext t b1 e1 == Str.ofString "-") = true → r = -(3600 * i2 + 60 * i3)) (hpos : (gtext t b1 e1 == Str.ofString "-") = false → r = 3600 * i2 + 60 * i3) : OffClaim w t (some r) := by
  unfold OffClaim
  intro p loose mean mg mb tk news dp un gd cn cs a ccd cl outer A₀ base h₀ L m s Q E B F X N T hk hd hu hret
  refine wpAny_call ?_
  k_dflt cell_enter
  k_steps
  · exact absurd (show isName t = true by assumption) (by rw [hname]; decide)
  · exact hret _ _ _ ⟨_, by rw [hneg (by assumption)]⟩ (by k_asm) (news_drop2 (by k_asm))
  · exact hret _ _ _ ⟨_, by rw [hpos (by assumption)]⟩ (by k_asm) (news_drop2 (by k_asm))

theorem off_10 (w : World) (t : Str) (ht : t.length ≤ 600) (hname : isName t = false) (f : Sre.M) (n : Nat) (hn : n ≤ 1000) (e : (Sre.forSearch gqCode t.cps 3 0 t.cps.size false).runFor n = f) (hf : f.outcome = some .matched)
   (hs : spansFine f = true) (s0 e0 b1 e1 b2 e2 b3 e3 : Int) (hsp : (f.start : Int) :: (f.handed : Int) :: spansOf f = [s0, e0, b1, e1, b2, e2, b3, e3]) (h1 : 0 ≤ b1 ∧ 0 ≤ e1) (h2 : 0 ≤ b2 ∧ 0 ≤ e2) (h3 : b3 < 0)
   (i2 : Int) (hi2 : PySem.intText? (gtext t b2 e2) = some i2) (hi2b : 0 ≤ i2 ∧ i2 ≤ 99) (r : Int) (hneg : (gtext t b1 e1 == Str.ofString "-") = true → r = -(3600 * i2)) (hpos : (gtext t b1 e1 == Str.ofString "-") = false → r = 3600 * i2) : OffClaim w t (some r) := by
  unfold OffClaim
  intro p loose mean mg mb tk news dp un gd cn cs a ccd cl outer A₀ base h₀ L m s Q E B F X N T hk hd hu hret
  refine wpAny_call ?_
  k_dflt cell_enter
  k_steps
  · exact absurd (show isName t = true by assumption) (by rw [hname]; decide)
  · exact hret _ _ _ ⟨_, by rw [hneg (by assumption)]⟩ (by k_asm) (news_drop2 (by k_asm))
  · exact hret _ _ _ ⟨_, by rw [hpos (by assumption)]⟩ (by k_asm) (news_drop2 (by k_asm))

theorem off_01 (w : World) (t : Str) (ht : t.length ≤ 600) (hname : isName t = false) (f : Sre.M) (n : Nat) (hn : n ≤ 1000) (e : (Sre.forSearch gqCode t.cps 3 0 t.cps.size false).runFor n = f) (hf : f.outcome = some .matched)
   (hs : spansFine f = true) (s0 e0 b1 e1 b2 e2 b3 e3 : Int) (hsp : (f.start : Int) :: (f.handed : Int) :: spansOf f = [s0, e0, b1, e1, b2, e2, b3, e3]) (h1 : b1 < 0) (h2 : 0 ≤ b2 ∧ 0 ≤ e2) (h3 : 0 ≤ b3 ∧ 0 ≤ e3) (i3 : Int) (hi3 : PySem.intText? (gtext t b3 e3) = some i3) (hi3b : 0 ≤ i3 ∧ i3 ≤ 99) (h3p : 1 ≤ (gtext t b3 e3).length)
   (i2 : Int) (hi2 : PySem.intText? (gtext t b2 e2) = some i2) (hi2b : 0 ≤ i2 ∧ i2 ≤ 99)  : OffClaim w t (some (3600 * i2 + 60 * i3)) := by
  unfold OffClaim
  intro p loose mean mg mb tk news dp un gd cn cs a ccd cl outer A₀ base h₀ L m s Q E B F X N T hk hd hu hret
  refine wpAny_call ?_
  k_dflt cell_enter
  k_steps
  · exact absurd (show isName t = true by assumption) (by rw [hname]; decide)
  · exact hret _ _ _ ⟨_, rfl⟩ (by k_asm) (news_drop2 (by k_asm))

theorem off_00 (w : World) (t : Str) (ht : t.length ≤ 600) (hname : isName t = false) (f : Sre.M) (n : Nat) (hn : n ≤ 1000) (e : (Sre.forSearch gqCode t.cps 3 0 t.cps.size false).runFor n = f) (hf : f.outcome = some .matched)
   (hs : spansFine f = true) (s0 e0 b1 e1 b2 e2 b3 e3 : Int) (hsp : (f.start : Int) :: (f.handed : Int) :: spansOf f = [s0, e0, b1, e1, b2, e2, b3, e3]) (h1 : b1 < 0) (h2 : 0 ≤ b2 ∧ 0 ≤ e2) (h3 : b3 < 0)
   (i2 : Int) (hi2 : PySem.intText? (gtext t b2 e2) = some i2) (hi2b : 0 ≤ i2 ∧ i2 ≤ 99)  : OffClaim w t (some (3600 * i2)) := by
  unfold OffClaim
  intro p loose mean mg mb tk news dp un gd cn cs a ccd cl outer A₀ base h₀ L m s Q E B F X N T hk hd hu hret
  refine wpAny_call ?_
  k_dflt cell_enter
  k_steps
  · exact absurd (show isName t = true by assumption) (by rw [hname]; decide)
  · exact hret _ _ _ ⟨_, rfl⟩ (by k_asm) (news_drop2 (by k_asm))

end Mine
end
section
open PySem PySem.W PySem.Spec PySem.Calls PyProof.Rows
set_option Elab.async false
namespace Mine
set_option maxRecDepth 100000
set_option maxHeartbeats 8000000
section
variable {prog : Program} {w : World} {A : Around} {E : Value → Shared → Prop} {s : Shared} {h₀ : Heap} {L : Addr} {m : Str → Option Value} {news : List (Addr × Obj)}
theorem applied6 {sl : Addr} {u : Tok} {Q : Int × Int × Nat → Shared → Prop} (hs : s.heap.IsSliceOf sl .none (.int 6 u) .none) (h : Q (0, 1, 6) s) :
    wpAny (model prog w) A (Builtin.Slice.sliceApplied (.ref sl) (pure 7)) Q E s := by
  obtain ⟨os, hos, hcs, hds⟩ := id hs
  unfold Builtin.Slice.sliceApplied Builtin.Slice.sliceFields
  refine wpAny_bind (wpAny_bind (wpAny_field hos hds (x := .none) rfl (wpAny_bind (wpAny_field hos hds (x := .int 6 u) rfl (wpAny_bind (wpAny_field hos hds (x := .none) rfl (wpAny_pure ?_)))))))
  refine wpAny_bind (slicePart_none ?_)
  show wpAny _ _ (if ((1 : Int) == 0) = true then _ else _) _ _ s
  rw [if_neg (by decide)]
  refine wpAny_bind (slicePart_none (wpAny_bind (slicePart_int (wpAny_bind (wpAny_pure ?_)))))
  exact wpAny_pure h
theorem getItem_tup6 {t sl : Addr} {a b c d e f g : Value} {u : Tok} {Q : Value → Shared → Prop} (ht : IsTup s.heap t #[a, b, c, d, e, f, g]) (hs : s.heap.IsSliceOf sl .none (.int 6 u) .none)
    (h : Q (.ref s.heap.objs.size) { s with heap := s.heap.push { cls := .type "tuple", data := .seq #[a, b, c, d, e, f] } }) : wpAny (model prog w) A (getItem (.ref t) (.ref sl)) Q E s := by
  obtain ⟨os, hos, hcs, hds⟩ := id hs
  have hTs : s.TypeIs (.ref sl) "slice" := ⟨os, hos, hcs⟩
  unfold getItem
  try with_reducible refine wpAny_holding ?_
  first | refine wpAny_bind (wpAny_pure ?_) | skip
  refine wpAny_bind (wpAny_sequenceKey ht.typeIs (by decide) ?_)
  refine wpAny_bind (wpAny_callSpecial?_slot (name := Str.ofString "__getitem__") ht.typeIs slot_tuple_getitem
    (wpAny_call_entry slot_tuple_getitem ht.typeIs entry_tuple_getitem ?_ (args_tuple_getitem _ _)))
  show wpAny _ _ (Builtin.Tuple.tupleItemsOf (.ref t) >>= _) _ _ s
  refine wpAny_bind (tupleItemsOf_ ht ?_)
  refine wpAny_bind (wpAny_typeOf hTs ?_)
  rw [if_pos (by decide)]
  refine wpAny_bind (applied6 hs ?_)
  show wpAny _ _ (if ((0 : Int) == 0 && (1 : Int) == 1 && (6 : Nat) == 7) = true then _ else _) _ _ s
  rw [if_neg (by decide)]
  have hsz : sizeOk (.seq #[a, b, c, d, e, f]) := by show 6 ≤ sizeLine; exact Nat.le_of_ble_eq_true rfl
  first
    | exact wpAny_bind (m := Builtin.Tuple.tupleExact _) (wpAny_newObj_type (wpAny_pure ⟨_, rfl, wpAny_pure h⟩) hsz)
    | exact wpAny_bind (m := Builtin.Tuple.tupleExact _) (wpAny_newObj_type (wpAny_bind (wpAny_pure (wpAny_pure ⟨_, rfl, wpAny_pure h⟩))) hsz)
    | exact wpAny_bind (wpAny_bind (m := Builtin.Tuple.tupleExact _) (wpAny_newObj_type (wpAny_pure (wpAny_pure ⟨_, rfl, wpAny_pure h⟩)) hsz))
    | exact wpAny_bind (wpAny_bind (m := Builtin.Tuple.tupleExact _) (wpAny_newObj_type (wpAny_pure ⟨_, rfl, wpAny_pure h⟩) hsz))
theorem slice_tup6 {value slice : Expr} {t : Addr} {a b c d e f g : Value} {u : Tok} {Q : Value → Shared → Prop}
    (F : Fr h₀ L s.heap m) (N : News h₀ L s.heap news) (ht : IsTup s.heap t #[a, b, c, d, e, f, g])
    (h : ∀ q h', Fr h₀ L h' m → News h₀ L h' ((q, { cls := .type "tuple", data := .seq #[a, b, c, d, e, f] }) :: news) → (∀ p ∈ news, p.1 < q) → Q (.ref q) { s with heap := h' })
    (hs : subscripted slice false (.ref t) (.ref s.heap.objs.size) = operate [.ref s.heap.objs.size, .ref t] (getItem (.ref t) (.ref s.heap.objs.size)) := by with_unfolding_all rfl)
    (hg : ∀ r, letTemporaryGo value (.ref t) r = pure () := by intro _; with_unfolding_all rfl) :
    wpAny (model prog w) A (subscriptTail value slice (.ref t) (.ref s.heap.objs.size)) Q E { s with heap := s.heap.push { cls := .type "slice", data := .fields #[.none, .int 6 u, .none] } } := by
  have ht' : IsTup (s.heap.push { cls := .type "slice", data := .fields #[.none, .int 6 u, .none] }) t #[a, b, c, d, e, f, g] := ht.keeps fun _ _ e => Heap.get?_push_of_some _ e
  refine subscriptTail_ops (s := { s with heap := s.heap.push { cls := .type "slice", data := .fields #[.none, .int 6 u, .none] } }) ht'.typeIs slot_tuple_getitem.lookup
    (getItem_tup6 ht' (Heap.IsSliceOf.new ..) ?_) hs hg
  have N1 := News.push (F.push { cls := .type "slice", data := .fields #[.none, .int 6 u, .none] }) (N.grown fun _ _ e => Heap.get?_push_of_some _ e) { cls := .type "tuple", data := .seq #[a, b, c, d, e, f] }
  rw [Heap.size_push] at N1
  show Q (.ref (s.heap.push _).objs.size) _
  rw [Heap.size_push]
  exact h _ _ ((F.push _).push _) N1 (fun p hp => Nat.lt_trans (Heap.lt_size (N p hp).1) (Nat.lt_succ_self _))
end
end Mine
end
section
open PySem PySem.W PySem.Spec PySem.Calls PyProof.Rows
set_option Elab.async false
namespace Mine
set_option maxRecDepth 100000
set_option maxHeartbeats 8000000
theorem mro_date : mroOf (.type "datetime.date") = pure [.type "datetime.date", .type "object"] := by rw [mroOf_type]; kernel_rfl
theorem lookup_date_new : typeLookup (.type "datetime.date") "__new__" = pure (some (.builtin "datetime.date.__new__")) := by rw [typeLookup_type, builtinLookup_eq_fast]; kernel_rfl
theorem sub_date : isSubtype (.type "datetime.date") (.type "datetime.date") = pure true := by rw [isSubtype_type]; kernel_rfl
theorem sub_date_dt : isSubtype (.type "datetime.date") (.type "datetime.datetime") = pure false := by rw [isSubtype_type]; kernel_rfl
theorem slot_date_init : Slot "datetime.date" "__init__" "object.__init__" :=
  .of (owner := "object") (n := "__init__") (by rw [typeLookup_type, builtinLookup_eq_fast]; kernel_rfl) (by decide +kernel) (by decide +kernel) (by decide +kernel)
    (by first | exact .inl (by decide +kernel) | exact .inr (by decide +kernel)) (by rw [isSubtype_type]; kernel_rfl)
theorem called_date : TypeCalled "datetime.date" "datetime.date.__new__" "object.__init__" :=
  ⟨by decide +kernel, by decide +kernel, ⟨_, _, mro_date⟩, madeBy_type mro_date lookup_date_new (by decide +kernel), by decide +kernel, sub_date, slot_date_init⟩
theorem typeCall_date (a b c : Value) : checkTypeCall "datetime.date" ⟨[a, b, c], []⟩ = pure () := by kernel_rfl
theorem newCall_date (a b c : Value) : checkBuiltinCall "datetime.date.__new__" ⟨[.type "datetime.date", a, b, c], []⟩ = pure () := by kernel_rfl
theorem entry_date_new : entryFor table "datetime.date.__new__" = some Builtin.«datetime.date.__new__» := entryFor_of_tree (by kernel_rfl)
theorem newNe_date : (some "datetime.date.__new__" != some "object.__new__") = true := by decide +kernel
theorem args_object_init_4 (a b c d : Value) : argsOk "object.__init__" ⟨[a, b, c, d], []⟩ := by
  unfold argsOk; rw [signature?_of (id := "object.__init__") (n := ['_', '_', 't', 'i', 'n', 'i', '_', '_']) (o := ['t', 'c', 'e', 'j', 'b', 'o']) (by kernel_rfl) F.owner_object]; kernel_rfl
def dateObj (y m d : Int) : Obj := { cls := .type "datetime.date", data := .fields #[rawInt y, rawInt m, rawInt d] }
theorem new_date (t1 t2 t3 : Tok) : Meets (Builtin.«datetime.date.__new__» ⟨[.type "datetime.date", .int 2000 t1, .int 1 t2, .int 1 t3], []⟩) (fun _ R s => R (.ok (.ret (.ref s.heap.objs.size))) { s with heap := s.heap.push (dateObj 2000 1 1) }) := by
  refine Meets.of_wp fun prog w A R s hs => ?_
  unfold Builtin.«datetime.date.__new__»
  have f1 := sub_date
  have f2 := sub_date_dt
  have f3 := mro_date
  repeat (any_goals (first | assumption | wp_step))
  exact ⟨_, rfl, hs⟩
theorem ord2000 : PySem.Builtin._datetime.toOrdinal 2000 1 1 = 730120 := by decide +kernel
section
variable {prog : Program} {w : World} {A : Around} {E : Value → Shared → Prop} {s : Shared} {h₀ : Heap} {L : Addr} {m : Str → Option Value} {news : List (Addr × Obj)}
theorem call_date {t1 t2 t3 : Tok} {Q : Value → Shared → Prop} (F : Fr h₀ L s.heap m) (N : News h₀ L s.heap news)
    (h : ∀ a h', Fr h₀ L h' m → News h₀ L h' ((a, dateObj 2000 1 1) :: news) → (∀ p ∈ news, p.1 < a) → Q (.ref a) { s with heap := h' }) :
    wpAny (model prog w) A (call (.type "datetime.date") [.int 2000 t1, .int 1 t2, .int 1 t3]) Q E s := by
  have N1 := News.push F N (dateObj 2000 1 1)
  refine callType_new called_date newNe_date (typeCall_date _ _ _) (newCall_date _ _ _) (fun obj => args_object_init_4 obj _ _ _) entry_date_new (new_date t1 t2 t3) ?_
  exact ⟨⟨_, (N1 _ (List.mem_cons_self ..)).1, rfl⟩, h _ _ (F.push _) N1 (fun p hp => Heap.lt_size (N p hp).1)⟩
theorem call_toordinal {a : Addr} {Q : Value → Shared → Prop} (N : News h₀ L s.heap news) (ha : (a, dateObj 2000 1 1) ∈ news) (h : Q (.int 730120 s.toks) { s with toks := s.toks + 1 }) :
    wpAny (model prog w) A (call (.builtin "datetime.date.toordinal") [.ref a]) Q E s := by
  have ho := (N _ ha).1
  refine wpAny_call_entry slot_toordinal ⟨_, ho, rfl⟩ entry_toordinal ?_ (args_toordinal _)
  have f1 := sub_date
  have f2 : s.TypeIs (.ref a) "datetime.date" := ⟨_, ho, rfl⟩
  rw [← ord2000] at h
  have ho' : s.heap.get? a = some (dateObj 2000 1 1) := ho
  repeat (any_goals (first | assumption | wp_step))
  exact ⟨_, rfl, h⟩
theorem gm_toordinal {a : Addr} {pl : Sem Bool} {Q : Value × List Value → Shared → Prop} (N : News h₀ L s.heap news) (ha : (a, dateObj 2000 1 1) ∈ news) (h : Q (.builtin "datetime.date.toordinal", [.ref a]) s) : wpAny (model prog w) A (getMethod (.ref a) "toordinal" pl) Q E s :=
  getMethod_builtin ⟨_, (N _ ha).1, rfl⟩ plain_date slot_toordinal type_toordinal (fun _ e => by cases e; exact ⟨_, (N _ ha).1, rfl⟩) h
end
end Mine
end
section
open PySem PySem.W PySem.Spec PySem.Calls PyProof.Rows
set_option Elab.async false
namespace Mine
set_option maxRecDepth 100000
set_option maxHeartbeats 8000000
theorem fill3 (w : World) : (gqHead.heap_39 w.params = gqHead.heap_39 w.params) ∧ PySem.Challenge.rw_gq5001_01 = PySem.Challenge.rw_gq5001_01 := by
  w_top off
  k_fill
  exact ⟨rfl, rfl⟩
def ttObj (a b c d e f : Tok) (v : Value) : Obj := { cls := .type "tuple", data := .seq #[.int 2000 a, .int 1 b, .int 1 c, .int 0 d, .int 0 e, .int 0 f, v] }
theorem tt_tup {h₀ h : Heap} {L : Addr} {news : List (Addr × Obj)} {T : Addr} {a b c d e f : Tok} {v : Value} (N : News h₀ L h news) (hT : (T, ttObj a b c d e f v) ∈ news) : IsTup h T #[.int 2000 a, .int 1 b, .int 1 c, .int 0 d, .int 0 e, .int 0 f, v] := News.isTup N hT
local macro_rules | `(tactic| walk_at "getMethod ref") => `(tactic| (k_here; k_dflt (refine' gm_toordinal ?k1 ?k2 ?_; (case k1 => k_asm); (case k2 => k_mem); k_whole)))
local macro_rules | `(tactic| walk_at "call builtin:datetime.date.toordinal") => `(tactic| (k_here; k_dflt (refine' call_toordinal ?k1 ?k2 ?_; (case k1 => k_asm); (case k2 => k_mem); k_whole)))
local macro_rules | `(tactic| walk_at "call type:datetime.date") => `(tactic| (k_here; k_dflt (refine' call_date ?k1 ?k2 ?_; (case k1 => k_asm); (case k2 => k_asm); k_whole; intro q' h' F' N' l1; (try k_lt l1); (try k_sweep))))
local macro_rules | `(tactic| walk_at "subscriptTail Name Slice ref ref") => `(tactic| (k_here; k_dflt (refine' slice_tup6 ?k1 ?k2 ?k3 ?_; (case k1 => k_asm); (case k2 => k_asm); (case k3 => exact tt_tup (by k_asm) (by k_mem)); k_whole; intro q' h' F' N' l1; (try k_sweep))))

theorem timegm_claim {w : World} {T : Addr} {ta tb tc td te tf : Tok} {tv : Value} {news : List (Addr × Obj)} (hT : (T, ttObj ta tb tc td te tf tv) ∈ news) :
  ∀ {p : Program} {loose : List Str} {mean : ExcName → Option Value} {mg mb : Str → Option Value}
    {dp un : Nat} {gd : Option (List Code)} {cn : Str} {cs : Scope} {a : Addr} {ccd : Value} {cl : List (Str × Addr)} {outer : List Env} {A₀ : Around} {base h₀ : Heap} {L : Addr} {m : Str → Option Value} {s : Shared} {Q E : Value → Shared → Prop},
    Below A₀ base outer h₀ → Fr h₀ L s.heap m → (gqHead.heap_39 w.params).In h₀ → News h₀ L s.heap news → Top p loose mean mg mb h₀ → cs.kind = .function →
    dp + 2 < recursionLimit → un + 10 < cLine →
    (∀ (t : Tok) (h' : Heap) (tk' : Nat), Fr h₀ L h' m → News h₀ L h' news → Q (.int 946684800 t) { s with heap := h', toks := tk' }) →
      wpAny (model gqP w) (ktrTop dp un gd cn cs L a ccd cl outer) (call (.ref 69) [.ref T]) Q E s := by
  intro p loose mean mg mb dp un gd cn cs a ccd cl outer A₀ base h₀ L m s Q E B F X N TT hk hd hu hret
  refine wpAny_call ?_
  k_dflt cell_enter
  k_steps
  exact cb_retI hret (by decide) (by k_asm) (cb_drop (by k_asm) (fun q hq => by repeat' (first | exact hq | refine List.mem_cons_of_mem _ ?_)))
end Mine
end
section
open PySem PySem.W PySem.Spec PySem.Calls PyProof.Rows
set_option Elab.async false
namespace Mine
set_option maxRecDepth 100000
set_option maxHeartbeats 8000000
theorem fill4 (w : World) : (gqHead.heap_39 w.params = gqHead.heap_39 w.params) ∧ PySem.Challenge.rw_gq5001_01 = PySem.Challenge.rw_gq5001_01 := by
  w_top off
  k_fill
  exact ⟨rfl, rfl⟩
local macro_rules | `(tactic| walk_at "subscriptTail Name Slice ref ref") => `(tactic| (k_here; k_dflt (refine' slice_tup6 ?k1 ?k2 ?k3 ?_; (case k1 => k_asm); (case k2 => k_asm); (case k3 => exact tt_tup (by k_asm) (by k_mem)); k_whole; intro q' h' F' N' l1; (try k_sweep))))
local macro_rules | `(tactic| walk_at "call ref") => `(tactic| (k_here; k_dflt (refine' timegm_claim ?kT ?k1 ?k2 ?k3 ?k4 ?k5 ?k6 ?k7 ?k8 ?_; (case k1 => k_asm); (case k2 => k_asm); (case k3 => k_asm); (case k4 => k_asm); (case kT => first | assumption | exact List.mem_cons_of_mem _ (by assumption) | exact List.mem_cons_of_mem _ (List.mem_cons_of_mem _ (by assumption)) | k_mem); (case k5 => k_asm); (case k6 => first | assumption | exact rfl); (case k7 => ktr_room); (case k8 => ktr_units); intro t9 h9 tk9 F9 N9; (try dsimp only); (try k_fold))))

local macro_rules | `(tactic| walk_at "testChain") => `(tactic| (k_here; k_gentoks))
local macro_rules | `(tactic| walk_at "isTrue BoolOp") => `(tactic| (k_here; k_gentoks))
local macro_rules | `(tactic| walk_at "isTrue Compare") => `(tactic| (k_here; k_gentoks))
local macro_rules | `(tactic| walk_at "execs cons") => `(tactic| (k_here; k_gentoks))
theorem timegm2_claim {w : World} {T : Addr} {ta tb tc td te tf : Tok} {tv : Value} {news : List (Addr × Obj)} (hT : (T, ttObj ta tb tc td te tf tv) ∈ news) :
  ∀ {p : Program} {loose : List Str} {mean : ExcName → Option Value} {mg mb : Str → Option Value}
    {dp un : Nat} {gd : Option (List Code)} {cn : Str} {cs : Scope} {a : Addr} {ccd : Value} {cl : List (Str × Addr)} {outer : List Env} {A₀ : Around} {base h₀ : Heap} {L : Addr} {m : Str → Option Value} {s : Shared} {Q E : Value → Shared → Prop},
    Below A₀ base outer h₀ → Fr h₀ L s.heap m → (gqHead.heap_39 w.params).In h₀ → News h₀ L s.heap news → Top p loose mean mg mb h₀ → cs.kind = .function →
    dp + 3 < recursionLimit → un + 15 < cLine →
    (∀ (t : Tok) (h' : Heap) (tk' : Nat), Fr h₀ L h' m → News h₀ L h' news → Q (.int 946684800 t) { s with heap := h', toks := tk' }) →
      wpAny (model gqP w) (ktrTop dp un gd cn cs L a ccd cl outer) (call (.ref 76) [.ref T]) Q E s := by
  intro p loose mean mg mb dp un gd cn cs a ccd cl outer A₀ base h₀ L m s Q E B F X N TT hk hd hu hret
  refine wpAny_call ?_
  k_dflt cell_enter
  k_steps
  exact cb_retI hret (by decide) (by k_asm) (cb_drop (by k_asm) (fun q hq => by repeat' (first | exact hq | refine List.mem_cons_of_mem _ ?_)))
end Mine
end
section
open PySem PySem.W PySem.Spec PySem.Calls PyProof.Rows
set_option Elab.async false
namespace Mine
set_option maxRecDepth 100000
set_option maxHeartbeats 8000000
theorem fill5 (w : World) : (gqHead.heap_39 w.params = gqHead.heap_39 w.params) ∧ PySem.Challenge.rw_gq5001_01 = PySem.Challenge.rw_gq5001_01 := by
  w_top off
  k_fill
  exact ⟨rfl, rfl⟩

def monthsObj : Obj := { cls := .type "list", data := .seq #[.str ⟨#[106, 97, 110]⟩ 457, .str ⟨#[102, 101, 98]⟩ 459, .str ⟨#[109, 97, 114]⟩ 461, .str ⟨#[97, 112, 114]⟩ 463, .str ⟨#[109, 97, 121]⟩ 465, .str ⟨#[106, 117, 110]⟩ 467, .str ⟨#[106, 117, 108]⟩ 469, .str ⟨#[97, 117, 103]⟩ 471, .str ⟨#[115, 101, 112]⟩ 473, .str ⟨#[111, 99, 116]⟩ 475, .str ⟨#[110, 111, 118]⟩ 477, .str ⟨#[100, 101, 99]⟩ 479] 12 }
theorem months_in {w : World} {h : Heap} (X : (gqHead.heap_39 w.params).In h) : h.get? 79 = some monthsObj := X 79 _ (by k_is)
section
variable {prog : Program} {w : World} {A : Around} {E : Value → Shared → Prop} {s : Shared} {h₀ : Heap} {L : Addr} {m : Str → Option Value} {news : List (Addr × Obj)}
theorem gm_index {pl : Sem Bool} {Q : Value × List Value → Shared → Prop} (F : Fr h₀ L s.heap m) (X : (gqHead.heap_39 w.params).In h₀) (h : Q (.builtin "list.index", [.ref 79]) s) : wpAny (model prog w) A (getMethod (.ref 79) "index" pl) Q E s :=
  getMethod_builtin ⟨_, months_in (X.keeps F.keep), rfl⟩ PySem.F.plainAttrs_list PySem.F.slot_list_index PySem.F.type_list_index (fun _ e => by cases e; exact ⟨_, months_in (X.keeps F.keep), rfl⟩) h
theorem months_index {x : Str} {u : Tok} {Q : Value → Shared → Prop} (F : Fr h₀ L s.heap m) (X : (gqHead.heap_39 w.params).In h₀) (hx : x = ⟨#[106, 97, 110]⟩)
    (h : Q (.int 0 s.toks) { s with toks := s.toks + 1 }) : wpAny (model prog w) A (call (.builtin "list.index") [.ref 79, .str x u]) Q E s := by
  subst hx
  have ho := months_in (X.keeps F.keep)
  refine call_meets PySem.F.slot_list_index ⟨_, ho, rfl⟩ PySem.F.entry_list_index (PySem.F.args_list_index_2 _ _)
    (PySem.SeqAt.list_indexAt 79 #[.str ⟨#[106, 97, 110]⟩ 457, .str ⟨#[102, 101, 98]⟩ 459, .str ⟨#[109, 97, 114]⟩ 461, .str ⟨#[97, 112, 114]⟩ 463, .str ⟨#[109, 97, 121]⟩ 465, .str ⟨#[106, 117, 110]⟩ 467, .str ⟨#[106, 117, 108]⟩ 469, .str ⟨#[97, 117, 103]⟩ 471, .str ⟨#[115, 101, 112]⟩ 473, .str ⟨#[111, 99, 116]⟩ 475, .str ⟨#[110, 111, 118]⟩ 477, .str ⟨#[100, 101, 99]⟩ 479] 12 none #[] (.str ⟨#[106, 97, 110]⟩ u) (fun v => v.isStr ⟨#[106, 97, 110]⟩) 0 (by decide) (by decide) (by decide +kernel) (fun m _ hlt => absurd hlt (Nat.not_lt_zero m)))
    ⟨ho, ?_, h⟩
  intro y hy
  have hy' : ∃ z tz, y = .str z tz := by
    simp only [List.mem_toArray, List.mem_cons, List.not_mem_nil, or_false] at hy
    rcases hy with rfl | rfl | rfl | rfl | rfl | rfl | rfl | rfl | rfl | rfl | rfl | rfl <;> exact ⟨_, _, rfl⟩
  obtain ⟨z, tz, rfl⟩ := hy'
  exact PySem.SeqAt.EqAt.str_str _ _ _ _
end
local macro_rules | `(tactic| walk_at "getMethod ref") => `(tactic| (k_here; k_dflt (refine' gm_index ?k1 ?k2 ?_; (case k1 => k_asm); (case k2 => k_asm); k_whole)))
local macro_rules | `(tactic| walk_at "call builtin:list.index") => `(tactic| (k_here; k_dflt (refine' months_index ?k1 ?k2 ?k3 ?_; (case k1 => k_asm); (case k2 => k_asm); (case k3 => decide +kernel); k_whole)))


theorem off_use {w : World} {t : Str} {o : Option Int} (C : OffClaim w t o) {p : Program} {loose : List Str} {mean : ExcName → Option Value} {mg mb : Str → Option Value} {tk : Tok} {news : List (Addr × Obj)}
    {dp un : Nat} {gd : Option (List Code)} {cn : Str} {cs : Scope} {a : Addr} {ccd : Value} {cl : List (Str × Addr)} {outer : List Env} {A₀ : Around} {base h₀ : Heap} {L : Addr} {m : Str → Option Value} {s : Shared} {Q E : Value → Shared → Prop}
    (B : Below A₀ base outer h₀) (F : Fr h₀ L s.heap m) (X : (gqHead.heap_39 w.params).In h₀) (N : News h₀ L s.heap news) (T : Top p loose mean mg mb h₀) (hk : cs.kind = .function)
    (hd : dp + 1 < recursionLimit) (hu : un + 8 < cLine)
    (hret : ∀ (v : Value) (h' : Heap) (tk' : Nat), OutIntNone o v → Fr h₀ L h' m → News h₀ L h' news → Q v { s with heap := h', toks := tk' }) :
      wpAny (model gqP w) (ktrTop dp un gd cn cs L a ccd cl outer) (call (.ref 95) [.str t tk]) Q E s :=
  C _ _ _ _ _ _ _ _ _ _ _ _ _ _ _ _ _ _ _ _ _ _ _ _ B F X N T hk hd hu hret
local macro_rules | `(tactic| walk_at "isTrue BoolOp") => `(tactic| (k_here; k_gentoks))
local macro_rules | `(tactic| walk_at "isTrue Compare") => `(tactic| (k_here; k_gentoks))
local macro_rules | `(tactic| walk_at "execs cons") => `(tactic| (k_here; k_gentoks))
local macro_rules | `(tactic| walk_at "exec Assign") => `(tactic| (k_here; k_gentoks))
local macro_rules | `(tactic| walk_at "spliced") => `(tactic| (k_here; k_gentoks))

local macro_rules | `(tactic| walk_at "call ref") => `(tactic| (k_here; k_dflt (first
  | (refine' timegm2_claim ?kT ?k1 ?k2 ?k3 ?k4 ?k5 ?k6 ?k7 ?k8 ?_; (case k1 => k_asm); (case k2 => k_asm); (case k3 => k_asm); (case k4 => k_asm); (case kT => k_mem); (case k5 => k_asm); (case k6 => first | assumption | exact rfl); (case k7 => ktr_room); (case k8 => ktr_units); intro t9 h9 tk9 F9 N9; (try dsimp only); (try k_fold))
  | (refine' off_use ?kC ?k1 ?k2 ?k3 ?k4 ?k5 ?k6 ?k7 ?k8 ?_; (case k1 => k_asm); (case k2 => k_asm); (case k3 => k_asm); (case k4 => k_asm); (case kC => assumption); (case k5 => k_asm); (case k6 => first | assumption | exact rfl); (case k7 => ktr_room); (case k8 => ktr_units); intro v9 h9 tk9 ho9 F9 N9; (try dsimp only [OutIntNone] at ho9); (first | (obtain ⟨t9, ho9⟩ := ho9; subst ho9) | subst ho9); (try dsimp only); (try k_fold)))))

def StrClaim (w : World) (t : Str) (o : Option Int) : Prop :=
  ∀ (p : Program) (loose : List Str) (mean : ExcName → Option Value) (mg mb : Str → Option Value) (tk1 tk2 tk3 tk : Tok) (news : List (Addr × Obj))
    (dp un : Nat) (gd : Option (List Code)) (cn : Str) (cs : Scope) (a : Addr) (ccd : Value) (cl : List (Str × Addr)) (outer : List Env) (A₀ : Around) (base h₀ : Heap) (L : Addr) (m : Str → Option Value) (s : Shared) (Q E : Value → Shared → Prop),
    Below A₀ base outer h₀ → Fr h₀ L s.heap m → (gqHead.heap_39 w.params).In h₀ → News h₀ L s.heap news → Top p loose mean mg mb h₀ → cs.kind = .function →
    dp + 4 < recursionLimit → un + 20 < cLine →
    (∀ (v : Value) (h' : Heap) (tk' : Nat), OutIntNone o v → Fr h₀ L h' m → News h₀ L h' news → Q v { s with heap := h', toks := tk' }) →
      wpAny (model gqP w) (ktrTop dp un gd cn cs L a ccd cl outer) (call (.ref 116) [.str (Str.ofString "1") tk1, .str (Str.ofString "Jan") tk2, .str (Str.ofString "2000") tk3, .none, .none, .none, .str t tk]) Q E s

theorem str_some (w : World) (t : Str) (ht : t.length ≤ 600) (r : Int) (H : OffClaim w (Txt.upper t) (some r)) : StrClaim w t (some (946684800 - r)) := by
  unfold StrClaim
  intro p loose mean mg mb tk1 tk2 tk3 tk news dp un gd cn cs a ccd cl outer A₀ base h₀ L m s Q E B F X N T hk hd hu hret
  refine wpAny_call ?_
  k_dflt cell_enter
  k_steps
  exact hret _ _ _ ⟨_, rfl⟩ (by k_asm) (cb_drop (by k_asm) (fun q hq => by repeat' (first | exact hq | refine List.mem_cons_of_mem _ ?_)))
theorem str_none (w : World) (t : Str) (ht : t.length ≤ 600) (H : OffClaim w (Txt.upper t) none) : StrClaim w t none := by
  unfold StrClaim
  intro p loose mean mg mb tk1 tk2 tk3 tk news dp un gd cn cs a ccd cl outer A₀ base h₀ L m s Q E B F X N T hk hd hu hret
  refine wpAny_call ?_
  k_dflt cell_enter
  k_steps
  exact hret _ _ _ rfl (by k_asm) (cb_drop (by k_asm) (fun q hq => by repeat' (first | exact hq | refine List.mem_cons_of_mem _ ?_)))
end Mine
end
section
open PySem
set_option Elab.async false
namespace Mine
set_option maxRecDepth 100000
set_option maxHeartbeats 8000000
open PySem.Sre PySem.Sre.M

def dz (c : Nat) : Nat := if 48 ≤ c ∧ c ≤ 57 then 48 else c
theorem dz_zero : dz 0 = 0 := rfl
theorem dz_eq {c w : Nat} (h : ¬ (48 ≤ w ∧ w ≤ 57)) : (dz c == w) = (c == w) := by
  unfold dz
  split
  · rename_i hc
    have h1 : ¬ (48 = w) := by omega
    have h2 : ¬ (c = w) := by omega
    rw [beq_eq_false_iff_ne.mpr h1, beq_eq_false_iff_ne.mpr h2]
  · rfl
theorem dz_ne {c w : Nat} (h : ¬ (48 ≤ w ∧ w ≤ 57)) : (dz c != w) = (c != w) := by rw [bne, bne, dz_eq h]
theorem dz_digit (c : Nat) : Sre.isDigit (dz c) = Sre.isDigit c := by
  unfold dz
  split
  · rename_i hc
    have : Sre.isDigit c = true := by unfold Sre.isDigit; simp [hc.1, hc.2]
    rw [this]; rfl
  · rfl

def codeBad : List Nat := [1, 2, 3, 4, 5, 6, 13, 14, 17, 18, 23, 24, 43, 45, 58]
def codeFact (i : Nat) : Prop := gqCode.getD i 0 = 0 ∨ (gqCode.getD i 0 = 16 ∧ ¬ (48 ≤ gqCode.getD (i + 1) 0 ∧ gqCode.getD (i + 1) 0 ≤ 57)) ∨ (gqCode.getD i 0 = 8 ∧ gqCode.getD (i + 1) 0 = 0) ∨ (gqCode.getD i 0 = 9 ∧ gqCode.getD (i + 2) 0 = 1) ∨ gqCode.getD i 0 ∈ codeBad
theorem code_lt : ∀ i : Fin 71, codeFact i.val := by unfold codeFact; decide +kernel
theorem code_fact (i : Nat) : codeFact i := by
  rcases Nat.lt_or_ge i 71 with h | h
  · exact code_lt ⟨i, h⟩
  · refine .inl ?_
    rw [Array.getD_eq_getD_getElem?, Array.getElem?_eq_none (by show 71 ≤ i; exact h)]
    rfl
theorem set_dz (c : Nat) : ∀ fuel i yes sn, inSet gqCode (dz c) fuel i yes sn = inSet gqCode c fuel i yes sn
  | 0, _, _, _ => rfl
  | fuel + 1, i, yes, sn => by
    have ih := set_dz c fuel
    rw [inSet, inSet]
    simp only [Nat.add_zero]
    rcases code_fact i with h | ⟨h, h'⟩ | ⟨h, h'⟩ | ⟨h, h'⟩ | h
    · rw [h]; rfl
    · rw [h]
      show (if (dz c == gqCode.getD (i + 1) 0) = true then _ else _) = (if (c == gqCode.getD (i + 1) 0) = true then _ else _)
      rw [dz_eq h', ih]
    · rw [h]
      show (do if ← category (gqCode.getD (i + 1) 0) (dz c) then _ else _) = (do if ← category (gqCode.getD (i + 1) 0) c then _ else _)
      have : category (gqCode.getD (i + 1) 0) (dz c) = category (gqCode.getD (i + 1) 0) c := by
        rw [h']
        unfold category
        show (Except.ok (Sre.isDigit (dz c))).map _ = (Except.ok (Sre.isDigit c)).map _
        rw [dz_digit]
      rw [this, ih]
    · rw [h]
      show (if (dz c < 256 && (gqCode.getD (i + (1 + dz c / 32)) 0).testBit (dz c % 32)) = true then _ else _) = (if (c < 256 && (gqCode.getD (i + (1 + c / 32)) 0).testBit (c % 32)) = true then _ else _)
      have : (decide (dz c < 256) && (gqCode.getD (i + (1 + dz c / 32)) 0).testBit (dz c % 32)) = (decide (c < 256) && (gqCode.getD (i + (1 + c / 32)) 0).testBit (c % 32)) := by
        unfold dz
        split
        · rename_i hc
          have e1 : c / 32 = 1 := by omega
          rw [e1]
          show (true && (gqCode.getD (i + 2) 0).testBit 16) = (_ && (gqCode.getD (i + 2) 0).testBit _)
          rw [h']
          have : Nat.testBit 1 (c % 32) = false := by
            have : c % 32 = c - 32 := by omega
            rw [this]
            have : ∀ d : Fin 10, Nat.testBit 1 (16 + d.val) = false := by decide
            have q := this ⟨c - 48, by omega⟩
            have e2 : 16 + (c - 48) = c - 32 := by omega
            rw [← e2]; exact q
          rw [this]; simp; decide
        · rfl
      rw [this, ih]
    · revert h
      generalize gqCode.getD i 0 = x
      intro h
      simp only [codeBad, List.mem_cons, List.not_mem_nil, or_false] at h
      rcases h with rfl | rfl | rfl | rfl | rfl | rfl | rfl | rfl | rfl | rfl | rfl | rfl | rfl | rfl | rfl <;> rfl
theorem acc_dz (i c : Nat) (sn : Sre.Seen) : accepts gqCode i (dz c) sn = accepts gqCode i c sn := by
  unfold accepts
  rcases code_fact i with h | ⟨h, h'⟩ | ⟨h, h'⟩ | ⟨h, h'⟩ | h
  · rw [h]; rfl
  · rw [h]
    show Except.ok (dz c == gqCode.getD (i + 1) 0, sn) = Except.ok (c == gqCode.getD (i + 1) 0, sn)
    rw [dz_eq h']
  · rw [h]; rfl
  · rw [h]; rfl
  · revert h
    generalize gqCode.getD i 0 = x
    intro h
    simp only [codeBad, List.mem_cons, List.not_mem_nil, or_false] at h
    rcases h with rfl | rfl | rfl | rfl | rfl | rfl | rfl | rfl | rfl | rfl | rfl | rfl | rfl | rfl | rfl
    all_goals first
      | rfl
      | (show Except.ok (dz c != 10, sn) = Except.ok (c != 10, sn); rw [dz_ne (by decide)])
      | (show inSet gqCode (dz c) gqCode.size (i + 2) true sn = inSet gqCode c gqCode.size (i + 2) true sn; exact set_dz c _ _ _ _)
end Mine
end
section
open PySem
set_option Elab.async false
namespace Mine
set_option maxRecDepth 100000
set_option maxHeartbeats 8000000
open PySem.Sre PySem.Sre.M

def zA (t : Array Nat) : Array Nat := t.map dz
def zT (m : Sre.M) : Sre.M := { m with text := zA m.text }
theorem zA_getD (t : Array Nat) (p : Nat) : (zA t).getD p 0 = dz (t.getD p 0) := by
  unfold zA
  rw [Array.getD_eq_getD_getElem?, Array.getD_eq_getD_getElem?, Array.getElem?_map]
  cases t[p]? <;> rfl
theorem zT_code (m : Sre.M) : (zT m).code = m.code := rfl

theorem zT_attempt (m : Sre.M) (f : Sre.Frame) (a b : Nat) (o : Bool) : (zT m).attempt f a b o = zT (m.attempt f a b o) := by
  unfold Sre.M.attempt
  show (if m.weight + 1 + f.kept.marks.size > 16777216 then _ else _) = zT (if m.weight + 1 + f.kept.marks.size > 16777216 then _ else _)
  split <;> rfl
theorem zT_alternative (m : Sre.M) (a : Nat) (k : Sre.Kept) : (zT m).alternative a k = zT (m.alternative a k) := by
  unfold Sre.M.alternative
  show (if (m.code.getD a 0 == 0) = true then _ else _) = zT (if (m.code.getD a 0 == 0) = true then _ else _)
  split
  · rfl
  · exact zT_attempt m _ _ _ _
theorem zT_afterRun (m : Sre.M) (wt : Sre.Wait) (c : Int) (k : Sre.Kept) : (zT m).afterRun wt c k = zT (m.afterRun wt c k) := zT_attempt m _ _ _ _
theorem zT_afterLoop (m : Sre.M) (wt : Sre.Wait) (i : Nat) (c : Int) (wh : Option Nat → Bool) : (zT m).afterLoop wt i c wh = zT (m.afterLoop wt i c wh) := zT_attempt { m with inner := (m.loopAt i).outer } _ _ _ _
theorem zT_round (m : Sre.M) (wt : Sre.Wait) (i : Nat) (c : Int) (g : Bool) (k : Sre.Kept) : (zT m).round wt i c g k = zT (m.round wt i c g k) :=
  zT_attempt (m.setLoop i fun l => { l with count := c, began := if g then some m.pos else l.began }) _ _ _ _
theorem zT_ite {c : Prop} [Decidable c] (a b : Sre.M) : zT (if c then a else b) = if c then zT a else zT b := by split <;> rfl
theorem zT_until (m : Sre.M) (g : Bool) : (zT m).until_ g = zT (m.until_ g) := by
  unfold Sre.M.until_
  show (match m.inner with | none => _ | some i => _) = zT (match m.inner with | none => _ | some i => _)
  cases m.inner with
  | none => rfl
  | some i =>
    dsimp only
    simp only [zT_ite]
    congr 1
    · exact zT_round m _ _ _ _ _
    · congr 1
      · exact zT_afterLoop m _ _ _ _
      · congr 1
        · exact zT_round m _ _ _ _ _
        · exact zT_afterLoop m _ _ _ _
theorem zT_possessive (m : Sre.M) (i : Nat) (c : Int) (b : Option Nat) : (zT m).possessive i c b = zT (m.possessive i c b) := by
  unfold Sre.M.possessive
  dsimp only
  simp only [zT_ite]
  congr 1
  · exact zT_attempt m _ _ _ _
  · congr 1
    exact zT_attempt m _ _ _ _
theorem zT_attemptAt (m : Sre.M) (s : Nat) (f : Bool) : (zT m).attemptAt s f = zT (m.attemptAt s f) := zT_attempt { m with start := s, pos := s, lastmark := -1, lastindex := -1 } _ _ _ _
theorem noFirst (m : Sre.M) (h : m.code = gqCode) : m.hasFirstSet = false := by
  unfold Sre.M.hasFirstSet
  rw [h]; rfl
theorem zT_attemptFrom (m : Sre.M) (h : m.code = gqCode) (s : Nat) (f : Bool) : (zT m).attemptFrom s f = zT (m.attemptFrom s f) := by
  unfold Sre.M.attemptFrom
  rw [noFirst m h, noFirst (zT m) h]
  exact zT_attemptAt m s f
theorem run_dz (t : Array Nat) (i : Nat) : ∀ n p found sn, Sre.run gqCode (zA t) i n p found sn = Sre.run gqCode t i n p found sn
  | 0, _, _, _ => rfl
  | n + 1, p, found, sn => by
    rw [Sre.run, Sre.run, zA_getD, acc_dz]
    cases accepts gqCode i (t.getD p 0) sn with
    | error w => rfl
    | ok r =>
      show (if r.1 = true then _ else _) = (if r.1 = true then _ else _)
      rw [run_dz t i n]
theorem at_dz (m : Sre.M) (k : Nat) (hk : k ≠ 3 ∧ k ≠ 4 ∧ k ≠ 10 ∧ k ≠ 11) : (zT m).isAt k = m.isAt k := by
  unfold Sre.M.isAt
  have e1 : ∀ p, ((zT m).text.getD p 0 == 10) = (m.text.getD p 0 == 10) := fun p => by
    show ((zA m.text).getD p 0 == 10) = _
    rw [zA_getD, dz_eq (by decide)]
  dsimp only
  match k, hk with
  | 0, _ => rfl
  | 1, _ => show Except.ok (m.pos == 0 || ((zT m).text.getD (m.pos - 1) 0 == 10)) = _; rw [e1]; rfl
  | 2, _ => rfl
  | 5, _ => show Except.ok (m.pos == m.lim || (m.pos + 1 == m.lim && ((zT m).text.getD m.pos 0 == 10))) = _; rw [e1]; rfl
  | 6, _ => show Except.ok (m.pos == m.lim || ((zT m).text.getD m.pos 0 == 10)) = _; rw [e1]; rfl
  | 7, _ => rfl
  | 8, _ => rfl
  | 9, _ => rfl
  | k + 12, _ => rfl
def opFact (i : Nat) : Prop := gqCode.getD i 0 ∈ [0, 1, 2, 3, 4, 5, 8, 9, 13, 14, 16, 17, 18, 23, 24, 43, 45, 58] ∨ (gqCode.getD i 0 = 6 ∧ gqCode.getD (i + 1) 0 ≠ 3 ∧ gqCode.getD (i + 1) 0 ≠ 4 ∧ gqCode.getD (i + 1) 0 ≠ 10 ∧ gqCode.getD (i + 1) 0 ≠ 11)
theorem op_lt : ∀ i : Fin 71, opFact i.val := by unfold opFact; decide +kernel
theorem op_fact (i : Nat) : opFact i := by
  rcases Nat.lt_or_ge i 71 with h | h
  · exact op_lt ⟨i, h⟩
  · refine .inl ?_
    rw [Array.getD_eq_getD_getElem?, Array.getElem?_eq_none (by show 71 ≤ i; exact h)]
    exact List.mem_cons_self ..


theorem zT_one (m : Sre.M) (hm : m.code = gqCode) (sn : Sre.Seen) (k : Nat) :
    (if (zT m).pos ≥ (zT m).lim then ({ zT m with seen := sn } : Sre.M).say false else
      match accepts (zT m).code (zT m).pc ((zT m).text.getD (zT m).pos 0) sn with
      | .error why => ({ zT m with seen := sn } : Sre.M).stick why
      | .ok (false, seen) => ({ zT m with seen := seen } : Sre.M).say false
      | .ok (true, seen) => { zT m with seen := seen, pc := (zT m).pc + k, pos := (zT m).pos + 1 }) =
    zT (if m.pos ≥ m.lim then ({ m with seen := sn } : Sre.M).say false else
      match accepts m.code m.pc (m.text.getD m.pos 0) sn with
      | .error why => ({ m with seen := sn } : Sre.M).stick why
      | .ok (false, seen) => ({ m with seen := seen } : Sre.M).say false
      | .ok (true, seen) => { m with seen := seen, pc := m.pc + k, pos := m.pos + 1 }) := by
  have hacc : accepts (zT m).code (zT m).pc ((zT m).text.getD (zT m).pos 0) sn = accepts m.code m.pc (m.text.getD m.pos 0) sn := by
    show accepts m.code m.pc ((zA m.text).getD m.pos 0) sn = _
    rw [zA_getD, hm, acc_dz]
  rw [hacc]
  by_cases h : m.pos ≥ m.lim
  · have h' : (zT m).pos ≥ (zT m).lim := h
    rw [if_pos h', if_pos h]; rfl
  · have h' : ¬ ((zT m).pos ≥ (zT m).lim) := h
    rw [if_neg h', if_neg h]
    cases accepts m.code m.pc (m.text.getD m.pos 0) sn with
    | error w => rfl
    | ok r =>
      obtain ⟨b, sn'⟩ := r
      cases b <;> rfl
theorem zT_exec (m : Sre.M) (hm : m.code = gqCode) : (zT m).exec = zT m.exec := by
  have w0 : m.word 0 = gqCode.getD m.pc 0 := by show m.code.getD (m.pc + 0) 0 = _; rw [hm]; rfl
  have w1 : m.word 1 = gqCode.getD (m.pc + 1) 0 := by show m.code.getD (m.pc + 1) 0 = _; rw [hm]
  have one : (ops[m.word 0]? = some .ANY ∨ ops[m.word 0]? = some .ANY_ALL ∨ ops[m.word 0]? = some .IN ∨ ops[m.word 0]? = some .LITERAL) → (zT m).exec = zT m.exec := by
    intro ho
    have h1 := zT_one m hm (m.seen.add (m.word 0)) (itemWidth m.code m.pc)
    unfold Sre.M.exec
    show (match ops[m.word 0]? with | none => _ | some op => _) = zT (match ops[m.word 0]? with | none => _ | some op => _)
    rcases ho with ho | ho | ho | ho <;> rw [ho] <;> exact h1
  have hf := op_fact m.pc
  unfold opFact at hf
  rcases hf with hf | ⟨hf, hk⟩
  · simp only [List.mem_cons, List.not_mem_nil, or_false] at hf
    rw [← w0] at hf
    rcases hf with hf | hf | hf | hf | hf | hf | hf | hf | hf | hf | hf | hf | hf | hf | hf | hf | hf | hf
    · unfold Sre.M.exec
      show (match ops[m.word 0]? with | none => _ | some op => _) = zT (match ops[m.word 0]? with | none => _ | some op => _)
      rw [show ops[m.word 0]? = some .FAILURE by rw [hf]; rfl]
      rfl
    · unfold Sre.M.exec
      show (match ops[m.word 0]? with | none => _ | some op => _) = zT (match ops[m.word 0]? with | none => _ | some op => _)
      rw [show ops[m.word 0]? = some .SUCCESS by rw [hf]; rfl]
      dsimp only
      rw [zT_ite]
      rfl
    · exact one (by rw [hf]; first | exact .inl rfl | exact .inr (.inl rfl) | exact .inr (.inr (.inl rfl)) | exact .inr (.inr (.inr rfl)))
    · exact one (by rw [hf]; first | exact .inl rfl | exact .inr (.inl rfl) | exact .inr (.inr (.inl rfl)) | exact .inr (.inr (.inr rfl)))
    · unfold Sre.M.exec
      show (match ops[m.word 0]? with | none => _ | some op => _) = zT (match ops[m.word 0]? with | none => _ | some op => _)
      rw [show ops[m.word 0]? = some .ASSERT by rw [hf]; rfl]
      dsimp only
      rw [zT_ite]
      refine congr (congrArg _ rfl) ?_
      exact zT_attempt { m with seen := m.seen.add (m.word 0) } _ _ _ _
    · unfold Sre.M.exec
      show (match ops[m.word 0]? with | none => _ | some op => _) = zT (match ops[m.word 0]? with | none => _ | some op => _)
      rw [show ops[m.word 0]? = some .ASSERT_NOT by rw [hf]; rfl]
      dsimp only
      rw [zT_ite]
      refine congr (congrArg _ rfl) ?_
      exact zT_attempt { m with seen := m.seen.add (m.word 0) } _ _ _ _
    · unfold Sre.M.exec
      show (match ops[m.word 0]? with | none => _ | some op => _) = zT (match ops[m.word 0]? with | none => _ | some op => _)
      rw [show ops[m.word 0]? = some .CATEGORY by rw [hf]; rfl]
      rfl
    · unfold Sre.M.exec
      show (match ops[m.word 0]? with | none => _ | some op => _) = zT (match ops[m.word 0]? with | none => _ | some op => _)
      rw [show ops[m.word 0]? = some .CHARSET by rw [hf]; rfl]
      rfl
    · exact one (by rw [hf]; first | exact .inl rfl | exact .inr (.inl rfl) | exact .inr (.inr (.inl rfl)) | exact .inr (.inr (.inr rfl)))
    · unfold Sre.M.exec
      show (match ops[m.word 0]? with | none => _ | some op => _) = zT (match ops[m.word 0]? with | none => _ | some op => _)
      rw [show ops[m.word 0]? = some .INFO by rw [hf]; rfl]
      rfl
    · exact one (by rw [hf]; first | exact .inl rfl | exact .inr (.inl rfl) | exact .inr (.inr (.inl rfl)) | exact .inr (.inr (.inr rfl)))
    · unfold Sre.M.exec
      show (match ops[m.word 0]? with | none => _ | some op => _) = zT (match ops[m.word 0]? with | none => _ | some op => _)
      rw [show ops[m.word 0]? = some .MARK by rw [hf]; rfl]
      rfl
    · unfold Sre.M.exec
      show (match ops[m.word 0]? with | none => _ | some op => _) = zT (match ops[m.word 0]? with | none => _ | some op => _)
      rw [show ops[m.word 0]? = some .MAX_UNTIL by rw [hf]; rfl]
      exact zT_until { m with seen := m.seen.add (m.word 0), pc := m.pc + 1 } true
    · unfold Sre.M.exec
      show (match ops[m.word 0]? with | none => _ | some op => _) = zT (match ops[m.word 0]? with | none => _ | some op => _)
      rw [show ops[m.word 0]? = some .REPEAT by rw [hf]; rfl]
      exact zT_attempt { m with seen := m.seen.add (m.word 0), loops := m.loops.push { pc := m.pc, outer := m.inner }, inner := some m.loops.size } _ _ _ _
    · unfold Sre.M.exec
      show (match ops[m.word 0]? with | none => _ | some op => _) = zT (match ops[m.word 0]? with | none => _ | some op => _)
      rw [show ops[m.word 0]? = some .REPEAT_ONE by rw [hf]; rfl]
      have hr : ∀ i n p f sn, Sre.run (zT m).code (zT m).text i n p f sn = Sre.run m.code m.text i n p f sn := fun i n p f sn => by
        show Sre.run m.code (zA m.text) i n p f sn = _
        rw [hm]; exact run_dz _ _ _ _ _ _
      dsimp only
      rw [zT_ite]
      refine congr (congrArg _ rfl) ?_
      show (match Sre.run (zT m).code (zT m).text (m.pc + 4) (min (m.word 3) ((m.lim : Int) - m.pos).toNat) m.pos 0 ((m.seen.add (m.word 0)).add (m.word 4)) with
        | .error why => ({ (zT m) with seen := m.seen.add (m.word 0) } : Sre.M).stick why
        | .ok (n, seen) => if n < m.word 2 then ({ (zT m) with seen := seen } : Sre.M).say false else ({ (zT m) with seen := seen, pos := m.pos + n } : Sre.M).afterRun .giveBack n (({ (zT m) with seen := seen, pos := m.pos + n } : Sre.M).keep m.inner.isSome)) = zT (match Sre.run m.code m.text (m.pc + 4) (min (m.word 3) ((m.lim : Int) - m.pos).toNat) m.pos 0 ((m.seen.add (m.word 0)).add (m.word 4)) with
        | .error why => ({ m with seen := m.seen.add (m.word 0) } : Sre.M).stick why
        | .ok (n, seen) => if n < m.word 2 then ({ m with seen := seen } : Sre.M).say false else ({ m with seen := seen, pos := m.pos + n } : Sre.M).afterRun .giveBack n (({ m with seen := seen, pos := m.pos + n } : Sre.M).keep m.inner.isSome))
      rw [hr]
      cases Sre.run m.code m.text (m.pc + 4) (min (m.word 3) ((m.lim : Int) - m.pos).toNat) m.pos 0 ((m.seen.add (m.word 0)).add (m.word 4)) with
      | error w => rfl
      | ok r =>
        obtain ⟨n, sn⟩ := r
        dsimp only
        rw [zT_ite]
        refine congr (congrArg _ rfl) ?_
        exact zT_afterRun { m with seen := sn, pos := m.pos + n } _ _ _
    · unfold Sre.M.exec
      show (match ops[m.word 0]? with | none => _ | some op => _) = zT (match ops[m.word 0]? with | none => _ | some op => _)
      rw [show ops[m.word 0]? = none by rw [hf]; rfl]
      rfl
    · unfold Sre.M.exec
      show (match ops[m.word 0]? with | none => _ | some op => _) = zT (match ops[m.word 0]? with | none => _ | some op => _)
      rw [show ops[m.word 0]? = none by rw [hf]; rfl]
      rfl
    · unfold Sre.M.exec
      show (match ops[m.word 0]? with | none => _ | some op => _) = zT (match ops[m.word 0]? with | none => _ | some op => _)
      rw [show ops[m.word 0]? = none by rw [hf]; rfl]
      rfl
  · rw [← w0] at hf
    rw [← w1] at hk
    unfold Sre.M.exec
    show (match ops[m.word 0]? with | none => _ | some op => _) = zT (match ops[m.word 0]? with | none => _ | some op => _)
    rw [show ops[m.word 0]? = some .AT by rw [hf]; rfl]
    have ha := at_dz { m with seen := m.seen.add (m.word 0) } (m.word 1) hk
    show (match ({ zT m with seen := m.seen.add (m.word 0) } : Sre.M).isAt (m.word 1) with
        | .error why => ({ zT m with seen := m.seen.add (m.word 0) } : Sre.M).stick why
        | .ok yes => if yes = true then ({ zT m with seen := (m.seen.add (m.word 0)).add (43 + m.word 1), pc := m.pc + 2 } : Sre.M) else ({ zT m with seen := (m.seen.add (m.word 0)).add (43 + m.word 1) } : Sre.M).say false) = zT (match ({ m with seen := m.seen.add (m.word 0) } : Sre.M).isAt (m.word 1) with
        | .error why => ({ m with seen := m.seen.add (m.word 0) } : Sre.M).stick why
        | .ok yes => if yes = true then ({ m with seen := (m.seen.add (m.word 0)).add (43 + m.word 1), pc := m.pc + 2 } : Sre.M) else ({ m with seen := (m.seen.add (m.word 0)).add (43 + m.word 1) } : Sre.M).say false)
    rw [show ({ zT m with seen := m.seen.add (m.word 0) } : Sre.M).isAt (m.word 1) = ({ m with seen := m.seen.add (m.word 0) } : Sre.M).isAt (m.word 1) from ha]
    cases ({ m with seen := m.seen.add (m.word 0) } : Sre.M).isAt (m.word 1) with
    | error w => rfl
    | ok b => cases b <;> rfl
end Mine
end
section
open PySem
set_option Elab.async false
namespace Mine
set_option maxRecDepth 100000
set_option maxHeartbeats 8000000
open PySem.Sre PySem.Sre.M

theorem code_attempt (m : Sre.M) (f : Sre.Frame) (a b : Nat) (o : Bool) : (m.attempt f a b o).code = m.code := by
  unfold Sre.M.attempt
  split <;> rfl
theorem code_ite {c : Prop} [Decidable c] (a b : Sre.M) : (if c then a else b).code = if c then a.code else b.code := by split <;> rfl
theorem code_alternative (m : Sre.M) (a : Nat) (k : Sre.Kept) : (m.alternative a k).code = m.code := by
  unfold Sre.M.alternative
  split
  · rfl
  · exact code_attempt _ _ _ _ _
theorem code_afterRun (m : Sre.M) (wt : Sre.Wait) (c : Int) (k : Sre.Kept) : (m.afterRun wt c k).code = m.code := code_attempt _ _ _ _ _
theorem code_afterLoop (m : Sre.M) (wt : Sre.Wait) (i : Nat) (c : Int) (wh : Option Nat → Bool) : (m.afterLoop wt i c wh).code = m.code := code_attempt { m with inner := (m.loopAt i).outer } _ _ _ _
theorem code_round (m : Sre.M) (wt : Sre.Wait) (i : Nat) (c : Int) (g : Bool) (k : Sre.Kept) : (m.round wt i c g k).code = m.code :=
  code_attempt (m.setLoop i fun l => { l with count := c, began := if g then some m.pos else l.began }) _ _ _ _
theorem code_until (m : Sre.M) (g : Bool) : (m.until_ g).code = m.code := by
  unfold Sre.M.until_
  split
  · rfl
  · dsimp only
    split
    · exact code_round _ _ _ _ _ _
    · split
      · exact code_afterLoop _ _ _ _ _
      · split
        · exact code_round _ _ _ _ _ _
        · exact code_afterLoop _ _ _ _ _
theorem code_possessive (m : Sre.M) (i : Nat) (c : Int) (b : Option Nat) : (m.possessive i c b).code = m.code := by
  unfold Sre.M.possessive
  dsimp only
  split
  · exact code_attempt _ _ _ _ _
  · split
    · exact code_attempt _ _ _ _ _
    · rfl
theorem code_attemptFrom (m : Sre.M) (s : Nat) (f : Bool) : (m.attemptFrom s f).code = m.code := by
  unfold Sre.M.attemptFrom
  split
  · exact code_attempt { m with start := s, pos := s, lastmark := -1, lastindex := -1 } _ _ _ _
  · split
    · exact code_attempt _ _ _ _ _
    · rfl
    · rfl
theorem code_exec (m : Sre.M) : m.exec.code = m.code := by
  unfold Sre.M.exec
  split
  · rfl
  · rename_i op ho
    dsimp only
    cases op <;> dsimp only
    all_goals (repeat' (first
      | rfl
      | exact code_attempt _ _ _ _ _
      | exact code_afterRun _ _ _ _
      | exact code_alternative _ _ _
      | exact code_until _ _
      | exact code_possessive _ _ _ _
      | split))
theorem code_resume (m : Sre.M) (f : Sre.Frame) (y : Bool) : (m.resume f y).code = m.code := by
  unfold Sre.M.resume
  dsimp only
  split
  all_goals (repeat' (first
      | rfl
      | exact code_attempt _ _ _ _ _
      | exact code_afterRun _ _ _ _
      | exact code_alternative _ _ _
      | exact code_afterLoop _ _ _ _ _
      | exact code_attemptFrom _ _ _
      | exact code_round _ _ _ _ _ _
      | exact code_until _ _
      | exact code_possessive _ _ _ _
      | split))
theorem code_step (m : Sre.M) : m.step.code = m.code := by
  unfold Sre.M.step
  split
  · rfl
  · split
    · rfl
    · exact code_resume _ _ _
    · split
      · exact code_exec _
      · rfl
end Mine
end
section
open PySem
set_option Elab.async false
namespace Mine
set_option maxRecDepth 100000
set_option maxHeartbeats 8000000
open PySem.Sre PySem.Sre.M

theorem zT_resume (m : Sre.M) (hm : m.code = gqCode) (f : Sre.Frame) (y : Bool) : (zT m).resume f y = zT (m.resume f y) := by
  obtain ⟨wt, fpc, fpos, fo, fc, fk, fl, fb⟩ := f
  unfold Sre.M.resume
  cases wt <;> dsimp only
  case nextStart =>
    simp only [zT_ite]
    congr 1
    congr 1
    exact zT_attemptFrom { m with mustAdvance := false } hm _ _
  case nextBranch =>
    simp only [zT_ite]
    congr 1
    exact zT_alternative (m.putBack fk) _ _
  case giveBack =>
    simp only [zT_ite]
    congr 1
    congr 1
    exact zT_afterRun { m.putBack fk with pos := fpos - 1 } _ _ _
  case takeMore =>
    have hacc : ∀ i, accepts (zT m).code i ((zT m).text.getD fpos 0) (zT m).seen = accepts m.code i (m.text.getD fpos 0) m.seen := fun i => by
      show accepts m.code i ((zA m.text).getD fpos 0) m.seen = _
      rw [zA_getD, hm, acc_dz]
    simp only [zT_ite]
    congr 1
    congr 1
    congr 1
    rw [hacc]
    show (match accepts m.code (m.pc + 4) (m.text.getD fpos 0) m.seen with
        | .error why => (zT m).stick why
        | .ok (false, seen) => ({ (zT m).putBack fk with seen := seen } : Sre.M).say false
        | .ok (true, seen) => ({ (zT m).putBack fk with seen := seen, pos := fpos + 1 } : Sre.M).afterRun .takeMore (fc + 1) fk) = zT (match accepts m.code (m.pc + 4) (m.text.getD fpos 0) m.seen with
        | .error why => m.stick why
        | .ok (false, seen) => ({ m.putBack fk with seen := seen } : Sre.M).say false
        | .ok (true, seen) => ({ m.putBack fk with seen := seen, pos := fpos + 1 } : Sre.M).afterRun .takeMore (fc + 1) fk)
    cases accepts m.code (m.pc + 4) (m.text.getD fpos 0) m.seen with
    | error w => rfl
    | ok r =>
      obtain ⟨b, sn⟩ := r
      cases b
      · rfl
      · exact zT_afterRun { m.putBack fk with seen := sn, pos := fpos + 1 } _ _ _
  case closeLoop => rfl
  case maxBelow | minBelow => simp only [zT_ite]; rfl
  case maxMore =>
    simp only [zT_ite]
    congr 1
    exact zT_afterLoop ((({ m with loops := m.loops.modify fl fun l => { l with began := fb } } : Sre.M).putBack fk).setLoop fl fun l => { l with count := fc - 1 }) _ _ _ _
  case maxTail => rfl
  case minTail =>
    simp only [zT_ite]
    congr 1
    congr 1
    exact zT_round (({ m with inner := some fl } : Sre.M).putBack fk) _ _ _ _ _
  case minMore => simp only [zT_ite]; rfl
  case possBelow =>
    simp only [zT_ite]
    congr 1
    exact zT_possessive m _ _ _
  case possMore =>
    simp only [zT_ite]
    congr 1
    · exact zT_possessive m _ _ _
    · exact zT_possessive { m.putBack fk with handed := fpos } _ _ _
  case atomic | look | lookNot => simp only [zT_ite]; rfl
theorem zT_step (m : Sre.M) (hm : m.code = gqCode) : (zT m).step = zT m.step := by
  unfold Sre.M.step
  show (if m.outcome.isSome = true then _ else _) = zT (if m.outcome.isSome = true then _ else _)
  rw [zT_ite]
  congr 1
  cases ha : m.answer with
  | none =>
    show (match (zT m).answer, (zT m).frames with | some _, [] => _ | some _, _ :: _ => _ | none, _ => _) = _
    rw [show (zT m).answer = none from ha]
    dsimp only
    rw [zT_ite]
    congr 1
    exact zT_exec m hm
  | some y =>
    rw [show (zT m).answer = some y from ha, show (zT m).frames = m.frames from rfl]
    cases hf : m.frames with
    | nil => rfl
    | cons f rest => exact zT_resume { m with answer := none, frames := rest, weight := m.weight - (1 + f.kept.marks.size), pc := f.pc, pos := f.pos, outermost := f.outermost } hm f y
theorem zT_run : ∀ (n : Nat) (m : Sre.M), m.code = gqCode → (zT m).runFor n = zT (m.runFor n)
  | 0, _, _ => rfl
  | n + 1, m, hm => by
    show (if m.outcome.isSome = true then zT m else ((zT m).step).runFor n) = zT (if m.outcome.isSome = true then m else (m.step).runFor n)
    rw [zT_ite, zT_step m hm, zT_run n m.step ((code_step m).trans hm)]
theorem zT_search (t : Array Nat) (n : Nat) : Sre.forSearch gqCode (zA t) 3 0 n false = zT (Sre.forSearch gqCode t 3 0 n false) := by
  unfold Sre.forSearch
  dsimp only
  rw [zT_ite]
  congr 1
theorem code_search (t : Array Nat) (n : Nat) : (Sre.forSearch gqCode t 3 0 n false).code = gqCode := by
  unfold Sre.forSearch
  dsimp only
  rw [code_ite]
  split
  · rfl
  · exact code_attemptFrom _ _ _

/-- the machine's end on a text -/
def endOf (t : Array Nat) : Sre.M := (Sre.forSearch gqCode t 3 0 t.size false).runFor 400
theorem endOf_z (t : Array Nat) : endOf (zA t) = zT (endOf t) := by
  unfold endOf
  rw [show (zA t).size = t.size from Array.size_map .., zT_search, zT_run 400 _ (code_search _ _)]

/-- what the end tells: none where it fails; else the spans -/
def tells (f : Sre.M) : Option (Option (List Int)) := match f.outcome with
  | some .matched => if spansFine f then some (some ((f.start : Int) :: (f.handed : Int) :: spansOf f)) else none
  | some .failed => some none
  | _ => none
theorem tells_z (f : Sre.M) : tells (zT f) = tells f := rfl
theorem tells_of (t : Array Nat) {g : Array Nat} (hg : zA t = g) : tells (endOf t) = tells (endOf g) := by
  rw [← hg, endOf_z, tells_z]
theorem failed_of {f : Sre.M} (h : tells f = some none) : f.outcome = some .failed := by
  unfold tells at h
  split at h
  · split at h <;> cases h
  · assumption
  · cases h
theorem matched_of {f : Sre.M} {sp : List Int} (h : tells f = some (some sp)) : f.outcome = some .matched ∧ spansFine f = true ∧ (f.start : Int) :: (f.handed : Int) :: spansOf f = sp := by
  unfold tells at h
  split at h
  · rename_i ho
    split at h
    · rename_i hs
      exact ⟨ho, hs, by cases h; rfl⟩
    · cases h
  · cases h
  · cases h
theorem test1 : tells (endOf #[48, 48, 58, 48, 48]) = some (some [0, 5, -1, -1, 0, 2, 3, 5]) := by decide +kernel
theorem test2 : tells (endOf #[43, 45, 48, 48, 48, 48]) = some none := by decide +kernel
theorem test3 : tells (endOf #[45, 48, 48, 48, 48, 10]) = some (some [0, 5, 0, 1, 1, 3, 3, 5]) := by decide +kernel
end Mine
end
section
open PySem PySem.W PySem.Spec PySem.Calls PyProof.Rows
set_option Elab.async false
namespace Mine
set_option maxRecDepth 100000
set_option maxHeartbeats 8000000

theorem upper_low : ∀ c : Fin 97, Unicode.upperOf c.val = [c.val] := by decide +kernel
theorem single_flat (xs : Array Nat) : (xs.map fun c => #[c]).flatten = xs := by
  obtain ⟨l⟩ := xs
  simp
  induction l with
  | nil => rfl
  | cons c l ih => simp_all
theorem upper_same {t : Str} (h : ∀ c ∈ t.cps.toList, c < 97) : Txt.upper t = t := by
  unfold Txt.upper placed
  have e : (t.cps.mapIdx fun _ c => (Unicode.upperOf c).toArray) = t.cps.map fun c => #[c] := by
    refine Array.ext (by simp) ?_
    intro i h1 h2
    simp only [Array.getElem_mapIdx, Array.getElem_map]
    have h3 : i < t.cps.size := by simpa using h1
    have := upper_low ⟨t.cps[i], h _ (by simp)⟩
    rw [this]
  rw [e, single_flat]

theorem it2 : ∀ n : Fin 100, PySem.intText? ⟨#[48 + n.val / 10, 48 + n.val % 10]⟩ = some ((n.val : Nat) : Int) := by decide +kernel
theorem it1 : ∀ n : Fin 10, PySem.intText? ⟨#[48 + n.val]⟩ = some ((n.val : Nat) : Int) := by decide +kernel

/-- a text in its pieces -/
def piece (sg H : List Nat) (cl : Nat) (M : List Nat) (nl : Nat) : List Nat := sg ++ (H ++ (List.replicate cl 58 ++ (M ++ List.replicate nl 10)))
def textOf (sg H : List Nat) (cl : Nat) (M : List Nat) (nl : Nat) : Str := ⟨(piece sg H cl M nl).toArray⟩
def zs (n : Nat) : List Nat := List.replicate n 48
def spansAre (sl hl cl ml : Nat) : List Int :=
  [0, ((sl + hl + cl + ml : Nat) : Int)] ++ (if sl = 0 then [-1, -1] else [0, 1]) ++ [(sl : Int), ((sl + hl : Nat) : Int)] ++ (if ml = 0 then [-1, -1] else [((sl + hl + cl : Nat) : Int), ((sl + hl + cl + ml : Nat) : Int)])
theorem shapes : ∀ sg ∈ [[], [43], [45]], ∀ hl ∈ [1, 2], ∀ cl ∈ [0, 1], ∀ ml ∈ [0, 2], ∀ nl ∈ [0, 1],
    tells (endOf (piece sg (zs hl) cl (zs ml) nl).toArray) = some (some (spansAre sg.length hl cl ml)) := by decide +kernel

def Digits (l : List Nat) : Prop := ∀ c ∈ l, 48 ≤ c ∧ c ≤ 57
theorem dz_digits {l : List Nat} (h : Digits l) : l.map dz = zs l.length := by
  induction l with
  | nil => rfl
  | cons c l ih =>
    rw [List.map_cons, ih (fun x hx => h x (List.mem_cons_of_mem _ hx))]
    have hc := h c (List.mem_cons_self ..)
    have : dz c = 48 := by unfold dz; rw [if_pos hc]
    rw [this]; rfl
theorem zA_text {sg H M : List Nat} {cl nl : Nat} (hs : sg ∈ [[], [43], [45]]) (hH : Digits H) (hM : Digits M) : zA (piece sg H cl M nl).toArray = (piece sg (zs H.length) cl (zs M.length) nl).toArray := by
  unfold zA piece
  have e1 : sg.map dz = sg := by
    simp only [List.mem_cons, List.not_mem_nil, or_false] at hs
    rcases hs with rfl | rfl | rfl <;> rfl
  simp only [List.map_toArray, List.map_append, e1, dz_digits hH, dz_digits hM, List.map_replicate]
  rfl
theorem tells_text {sg H M : List Nat} {cl nl : Nat} (hs : sg ∈ [[], [43], [45]]) (hH : Digits H) (hM : Digits M) (hl : H.length ∈ [1, 2]) (hc : cl ∈ [0, 1]) (hm : M.length ∈ [0, 2]) (hn : nl ∈ [0, 1]) :
    tells (endOf (textOf sg H cl M nl).cps) = some (some (spansAre sg.length H.length cl M.length)) := by
  show tells (endOf (piece sg H cl M nl).toArray) = _
  rw [tells_of _ (zA_text hs hH hM)]
  exact shapes sg hs _ hl cl hc _ hm nl hn

theorem extract_mid (P X R : List Nat) : (P ++ (X ++ R)).toArray.extract P.length (P.length + X.length) = X.toArray := by
  simp
theorem gtext_mid {t : Str} {P X R : List Nat} {b e : Nat} (ht : t = ⟨(P ++ (X ++ R)).toArray⟩) (hb : b = P.length) (he : e = P.length + X.length) : gtext t (b : Int) (e : Int) = ⟨X.toArray⟩ := by
  subst ht hb he
  unfold gtext
  rw [Int.toNat_natCast, Int.toNat_natCast]
  show Str.mk ((P ++ (X ++ R)).toArray.extract P.length (P.length + X.length)) = _
  rw [extract_mid]
theorem gtext_H {sg H M : List Nat} {cl nl : Nat} : gtext (textOf sg H cl M nl) (sg.length : Int) ((sg.length + H.length : Nat) : Int) = ⟨H.toArray⟩ := gtext_mid rfl rfl rfl
theorem gtext_M {sg H M : List Nat} {cl nl : Nat} : gtext (textOf sg H cl M nl) ((sg.length + H.length + cl : Nat) : Int) ((sg.length + H.length + cl + M.length : Nat) : Int) = ⟨M.toArray⟩ :=
  gtext_mid (P := sg ++ H ++ List.replicate cl 58) (X := M) (R := List.replicate nl 10) (by unfold textOf piece; simp) (by simp; omega) (by simp; omega)
theorem gtext_S {sg H M : List Nat} {cl nl : Nat} : gtext (textOf sg H cl M nl) ((0 : Nat) : Int) ((sg.length : Nat) : Int) = ⟨sg.toArray⟩ :=
  gtext_mid (P := []) (X := sg) (R := H ++ (List.replicate cl 58 ++ (M ++ List.replicate nl 10))) rfl rfl (by simp)

theorem text_low {sg H M : List Nat} {cl nl : Nat} (hs : sg ∈ [[], [43], [45]]) (hH : Digits H) (hM : Digits M) : ∀ c ∈ (textOf sg H cl M nl).cps.toList, c < 97 := by
  intro c hc
  unfold textOf piece at hc
  simp only [List.mem_append, List.mem_replicate] at hc
  simp only [List.mem_cons, List.not_mem_nil, or_false] at hs
  rcases hc with h | h | ⟨_, h⟩ | h | ⟨_, h⟩
  · rcases hs with rfl | rfl | rfl <;> simp at h <;> omega
  · have := hH c h; omega
  · omega
  · have := hM c h; omega
  · omega
theorem noName_of {t : Str} {c : Nat} (h : c ∈ t.cps.toList) (hc : c < 65) : isName t = false := by
  have key : ∀ l : List Nat, (∀ x ∈ l, 65 ≤ x) → t ≠ ⟨l.toArray⟩ := by
    rintro l hl rfl
    have := hl c h
    omega
  unfold isName
  rw [decide_eq_false (key [71, 77, 84] (by decide)), decide_eq_false (key [85, 84, 67] (by decide)), decide_eq_false (key [85, 84] (by decide)), decide_eq_false (key [90] (by decide))]
  rfl
theorem text_noName {sg H M : List Nat} {cl nl : Nat} (hH : Digits H) (h0 : H ≠ []) : isName (textOf sg H cl M nl) = false := by
  cases H with
  | nil => exact absurd rfl h0
  | cons c l =>
    refine noName_of (c := c) ?_ (by have := hH c (List.mem_cons_self ..); omega)
    unfold textOf piece
    simp
theorem text_len {sg H M : List Nat} {cl nl : Nat} (hs : sg ∈ [[], [43], [45]]) (hl : H.length ∈ [1, 2]) (hc : cl ∈ [0, 1]) (hm : M.length ∈ [0, 2]) (hn : nl ∈ [0, 1]) : (textOf sg H cl M nl).length ≤ 7 := by
  unfold textOf piece Str.length
  simp only [List.size_toArray, List.length_append, List.length_replicate]
  simp only [List.mem_cons, List.not_mem_nil, or_false] at *
  rcases hs with rfl | rfl | rfl <;> simp <;> omega

def sgn (sg : List Nat) (x : Int) : Int := if sg = [45] then -x else x
theorem good_off {w : World} {sg H M : List Nat} {cl nl : Nat} {i2 i3 : Int} (hs : sg ∈ [[], [43], [45]]) (hH : Digits H) (hM : Digits M) (hl : H.length ∈ [1, 2]) (hc : cl ∈ [0, 1]) (hm : M.length ∈ [0, 2]) (hn : nl ∈ [0, 1])
    (h2 : PySem.intText? ⟨H.toArray⟩ = some i2) (h2b : 0 ≤ i2 ∧ i2 ≤ 99) (h3 : if M.length = 0 then i3 = 0 else PySem.intText? ⟨M.toArray⟩ = some i3 ∧ 0 ≤ i3 ∧ i3 ≤ 99) :
    OffClaim w (textOf sg H cl M nl) (some (sgn sg (3600 * i2 + 60 * i3))) := by
  have ht : (textOf sg H cl M nl).length ≤ 600 := Nat.le_trans (text_len hs hl hc hm hn) (by decide)
  have hname : isName (textOf sg H cl M nl) = false := text_noName hH (by rintro rfl; simp at hl)
  obtain ⟨k1, k2, k3⟩ := matched_of (tells_text (nl := nl) hs hH hM hl hc hm hn)
  have hi2 : PySem.intText? (gtext (textOf sg H cl M nl) (sg.length : Int) ((sg.length + H.length : Nat) : Int)) = some i2 := by rw [gtext_H]; exact h2
  have e : (Sre.forSearch gqCode (textOf sg H cl M nl).cps 3 0 (textOf sg H cl M nl).cps.size false).runFor 400 = endOf (textOf sg H cl M nl).cps := rfl
  have hsl : sg = [] ∨ sg = [43] ∨ sg = [45] := by simpa using hs
  have hml : M.length = 0 ∨ M.length = 2 := by simpa using hm
  unfold spansAre at k3
  rcases hml with hml | hml
  · rw [if_pos hml] at h3
    subst h3
    have z : (3600 * i2 + 60 * (0 : Int)) = 3600 * i2 := by omega
    rw [z]
    rcases hsl with rfl | rfl | rfl
    · rw [hml] at k3
      exact off_00 w _ ht hname _ 400 (by decide) e k1 k2 _ _ (-1) (-1) _ _ (-1) (-1) k3 (by decide) (by constructor <;> omega) (by decide) i2 hi2 h2b
    · rw [hml] at k3
      refine off_10 w _ ht hname _ 400 (by decide) e k1 k2 _ _ 0 1 _ _ (-1) (-1) k3 (by decide) (by constructor <;> omega) (by decide) i2 hi2 h2b _ ?_ ?_
      · intro h
        exact absurd h (by rw [show gtext (textOf [43] H cl M nl) 0 1 = ⟨#[43]⟩ from gtext_S]; decide +kernel)
      · intro _; rfl
    · rw [hml] at k3
      refine off_10 w _ ht hname _ 400 (by decide) e k1 k2 _ _ 0 1 _ _ (-1) (-1) k3 (by decide) (by constructor <;> omega) (by decide) i2 hi2 h2b _ ?_ ?_
      · intro _; rfl
      · intro h
        exact absurd h (by rw [show gtext (textOf [45] H cl M nl) 0 1 = ⟨#[45]⟩ from gtext_S]; decide +kernel)
  · rw [if_neg (by omega)] at h3
    obtain ⟨h3, h3b⟩ := h3
    have hi3 : PySem.intText? (gtext (textOf sg H cl M nl) ((sg.length + H.length + cl : Nat) : Int) ((sg.length + H.length + cl + M.length : Nat) : Int)) = some i3 := by rw [gtext_M]; exact h3
    have h3p : 1 ≤ (gtext (textOf sg H cl M nl) ((sg.length + H.length + cl : Nat) : Int) ((sg.length + H.length + cl + M.length : Nat) : Int)).length := by
      rw [gtext_M]; show 1 ≤ M.toArray.size; rw [List.size_toArray]; omega
    rw [if_neg (show ¬ M.length = 0 by omega)] at k3
    rcases hsl with rfl | rfl | rfl
    · exact off_01 w _ ht hname _ 400 (by decide) e k1 k2 _ _ (-1) (-1) _ _ _ _ k3 (by decide) (by constructor <;> omega) (by constructor <;> omega) i3 hi3 h3b h3p i2 hi2 h2b
    · refine off_11 w _ ht hname _ 400 (by decide) e k1 k2 _ _ 0 1 _ _ _ _ k3 (by decide) (by constructor <;> omega) (by constructor <;> omega) i3 hi3 h3b h3p i2 hi2 h2b _ ?_ ?_
      · intro h
        exact absurd h (by rw [show gtext (textOf [43] H cl M nl) 0 1 = ⟨#[43]⟩ from gtext_S]; decide +kernel)
      · intro _; rfl
    · refine off_11 w _ ht hname _ 400 (by decide) e k1 k2 _ _ 0 1 _ _ _ _ k3 (by decide) (by constructor <;> omega) (by constructor <;> omega) i3 hi3 h3b h3p i2 hi2 h2b _ ?_ ?_
      · intro _; rfl
      · intro h
        exact absurd h (by rw [show gtext (textOf [45] H cl M nl) 0 1 = ⟨#[45]⟩ from gtext_S]; decide +kernel)
end Mine
end
section
open PySem PySem.W PySem.Spec PySem.Calls PyProof.Rows
set_option Elab.async false
namespace Mine
set_option maxRecDepth 100000
set_option maxHeartbeats 8000000
theorem fill6 (w : World) : (gqHead.heap_39 w.params = gqHead.heap_39 w.params) ∧ PySem.Challenge.rw_gq5001_01 = PySem.Challenge.rw_gq5001_01 := by
  w_top off
  k_fill
  exact ⟨rfl, rfl⟩
def twoS (n : Int) : Str := ⟨#[48 + (n / 10).toNat, 48 + (n % 10).toNat]⟩
theorem two_tab : ∀ k : Fin 100, Txt.slice (Str.ofString "0" ++ Str.ofString (toString ((k.val : Nat) : Int))) (some (-2)) none = twoS ((k.val : Nat) : Int) := by decide +kernel
theorem two_eq {n : Int} (h0 : 0 ≤ n) (h1 : n ≤ 99) : Txt.slice (Str.ofString "0" ++ Str.ofString (toString n)) (some (-2)) none = twoS n := by
  obtain ⟨k, rfl⟩ := Int.eq_ofNat_of_zero_le h0
  exact two_tab ⟨k, by omega⟩
theorem two_claim {w : World} {n : Int} {tk : Tok} (h0 : 0 ≤ n) (h1 : n ≤ 99) :
  ∀ {p : Program} {loose : List Str} {mean : ExcName → Option Value} {mg mb : Str → Option Value} {news : List (Addr × Obj)}
    {dp un : Nat} {gd : Option (List Code)} {cn : Str} {cs : Scope} {a : Addr} {ccd : Value} {cl : List (Str × Addr)} {outer : List Env} {A₀ : Around} {base h₀ : Heap} {L : Addr} {m : Str → Option Value} {s : Shared} {Q E : Value → Shared → Prop},
    Below A₀ base outer h₀ → Fr h₀ L s.heap m → (gqHead.heap_39 w.params).In h₀ → News h₀ L s.heap news → Top p loose mean mg mb h₀ → cs.kind = .function →
    dp + 2 < recursionLimit → un + 10 < cLine →
    (∀ (t : Tok) (h' : Heap) (tk' : Nat), Fr h₀ L h' m → News h₀ L h' news → Q (.str (twoS n) t) { s with heap := h', toks := tk' }) →
      wpAny (model gqP w) (ktrTop dp un gd cn cs L a ccd cl outer) (call (.ref 124) [.int n tk]) Q E s := by
  intro p loose mean mg mb news dp un gd cn cs a ccd cl outer A₀ base h₀ L m s Q E B F X N TT hk hd hu hret
  refine wpAny_call ?_
  k_dflt cell_enter
  k_steps
  exact cb_retS hret (two_eq h0 h1) (by k_asm) (by k_asm)
end Mine
end
section
open PySem PySem.W PySem.Spec PySem.Calls PyProof.Rows
set_option Elab.async false
namespace Mine
set_option maxRecDepth 100000
set_option maxHeartbeats 8000000

def mask : List Str → (Str → Option Value) → (Str → Option Value) → Str → Option Value
  | [], _, m, y => m y
  | x :: r, u, m, y => if y = x then u y else mask r u m y
theorem mask_off {u m : Str → Option Value} {y : Str} : ∀ {xs : List Str}, y ∉ xs → mask xs u m y = m y
  | [], _ => rfl
  | x :: r, h => by
    unfold mask
    rw [if_neg (fun e => h (by rw [e]; exact List.mem_cons_self ..)), mask_off (fun e => h (List.mem_cons_of_mem _ e))]
theorem mask_on {u m : Str → Option Value} {y : Str} : ∀ {xs : List Str}, y ∈ xs → mask xs u m y = u y
  | x :: r, h => by
    unfold mask
    by_cases e : y = x
    · rw [if_pos e]
    · rw [if_neg e]
      exact mask_on ((List.mem_cons.mp h).resolve_left e)
theorem mask_self {xs : List Str} {m' m : Str → Option Value} (h : ∀ y, y ∉ xs → m' y = m y) : m' = mask xs m' m := by
  funext y
  by_cases hy : y ∈ xs
  · rw [mask_on hy]
  · rw [mask_off hy, h y hy]
theorem mask_mask {xs : List Str} {u m m' : Str → Option Value} (h : ∀ y, y ∉ xs → m' y = mask xs u m y) : m' = mask xs m' m := mask_self fun y hy => by rw [h y hy, mask_off hy]

theorem AllObj.mono {k k' : List (Addr × Obj) → Prop} (h : ∀ its, k its → k' its) : ∀ {ws : List (Addr × String)}, AllObj ws k → AllObj ws k'
  | [], x => h _ x
  | _ :: r, x => fun o ho => AllObj.mono (fun its hk => h _ hk) (x o ho)

section
variable {prog : Program} {w : World} {A : Around} {E : Value → Shared → Prop} {s : Shared} {env : Env} {h₀ : Heap} {target : Expr} {body : List Stmt} {Q : Flow → Shared → Prop}
theorem items_inv {ws : List (Addr × String)} {keep : List (Addr × Obj)} (Inv : Nat → (Str → Option Value) → List (Addr × Obj) → Prop) {all : List Value}
    (turn : ∀ i v m₁ n₁ h tk, all[i]? = some v → Inv i m₁ n₁ → Fr h₀ env.locals h m₁ → AllObj ws (fun its => News h₀ env.locals h (its ++ n₁) →
      wpAny (model prog w) A (assign target env v) (fun _ s₂ => wpAny (model prog w) A (execs body env) (UnrPostW h₀ env.locals { s with heap := h, toks := tk } its (fun m' n' => SubL keep n' ∧ Inv (i + 1) m' n') Q) E s₂) E { s with heap := h, toks := tk }))
    (done : ∀ m₁ n₁ h tk, Inv all.length m₁ n₁ → Fr h₀ env.locals h m₁ → News h₀ env.locals h n₁ → Q .next { s with heap := h, toks := tk }) :
    ∀ (k : Nat) (m : Str → Option Value) (news : List (Addr × Obj)), k ≤ all.length → Inv (all.length - k) m news → ItemsRest prog w A E h₀ env target body Q s ws keep ((all.drop (all.length - k)).map .val) m news
  | 0, m, news, _, hi => by
    rw [Nat.sub_zero] at hi ⊢
    rw [List.drop_length]
    exact fun h tk F N => done m news h tk hi F N
  | k + 1, m, news, hk, hi => by
    have hlt : all.length - (k + 1) < all.length := by omega
    rw [List.drop_eq_getElem_cons hlt]
    have e1 : all.length - (k + 1) + 1 = all.length - k := by omega
    intro v h tk hv F
    have hv' : v = all[all.length - (k + 1)] := hv
    subst hv'
    have t := turn (all.length - (k + 1)) (all[all.length - (k + 1)]) m news h tk (List.getElem?_eq_getElem hlt) hi F
    rw [e1] at t ⊢
    refine AllObj.mono (fun its hits N => ?_) t
    refine wpAny_mono (hits N) (fun _ s₂ h₂ => wpAny_mono h₂ (fun f s₃ h₃ => ?_) fun _ _ e => e) fun _ _ e => e
    have next : UnrEndW h₀ env.locals { s with heap := h, toks := tk } its (fun m' n' => SubL keep n' ∧ Inv (all.length - k) m' n') s₃ →
        UnrEndW h₀ env.locals { s with heap := h, toks := tk } its (fun m' n' => SubL keep n' ∧ ItemsRest prog w A E h₀ env target body Q s ws keep ((all.drop (all.length - k)).map .val) m' n') s₃ := by
      rintro ⟨h', tk', m', n', e, F', N', hoff, hsub, hi'⟩
      exact ⟨h', tk', m', n', e, F', N', hoff, hsub, items_inv Inv turn done k m' n' (by omega) hi'⟩
    cases f with
    | ret v => exact h₃
    | brk => exact h₃
    | cont => exact next h₃
    | next => exact next h₃
theorem items_go {ws : List (Addr × String)} {keep : List (Addr × Obj)} (Inv : Nat → (Str → Option Value) → List (Addr × Obj) → Prop) {all : List Value} {m : Str → Option Value} {news : List (Addr × Obj)}
    (start : Inv 0 m news)
    (turn : ∀ i v m₁ n₁ h tk, all[i]? = some v → Inv i m₁ n₁ → Fr h₀ env.locals h m₁ → AllObj ws (fun its => News h₀ env.locals h (its ++ n₁) →
      wpAny (model prog w) A (assign target env v) (fun _ s₂ => wpAny (model prog w) A (execs body env) (UnrPostW h₀ env.locals { s with heap := h, toks := tk } its (fun m' n' => SubL keep n' ∧ Inv (i + 1) m' n') Q) E s₂) E { s with heap := h, toks := tk }))
    (done : ∀ m₁ n₁ h tk, Inv all.length m₁ n₁ → Fr h₀ env.locals h m₁ → News h₀ env.locals h n₁ → Q .next { s with heap := h, toks := tk }) :
    ItemsRest prog w A E h₀ env target body Q s ws keep (all.map .val) m news := by
  have := items_inv (s := s) (Q := Q) (prog := prog) (w := w) (A := A) (E := E) (target := target) (body := body) (ws := ws) (keep := keep) Inv turn done all.length m news (Nat.le_refl _) (by rw [Nat.sub_self]; exact start)
  rw [Nat.sub_self, List.drop_zero] at this
  exact this

/-- texts that a list holds -/
def AllStr (P : Str → Prop) (vs : List Value) : Prop := ∀ v ∈ vs, ∃ x t, v = .str x t ∧ P x
theorem AllStr.push {P : Str → Prop} {vs : List Value} {x : Str} {t : Tok} (h : AllStr P vs) (hx : P x) : AllStr P (vs ++ [.str x t]) := by
  intro v hv
  rcases List.mem_append.mp hv with hv | hv
  · exact h v hv
  · exact ⟨x, t, List.mem_singleton.mp hv, hx⟩

/-- a list that a loop grows, at its place in the ledger -/
def Grown (P : Str → Prop) (X : Addr) (xs : List Str) (m₀ : Str → Option Value) (rest : List (Addr × Obj)) (len : Nat → Nat) (i : Nat) (m₁ : Str → Option Value) (n₁ : List (Addr × Obj)) : Prop :=
  ∃ u vs n, m₁ = mask xs u m₀ ∧ SubL ((X, listOf vs.toArray n) :: rest) n₁ ∧ vs.length = len i ∧ AllStr P vs

theorem subL_self (l : List (Addr × Obj)) : SubL l l := by
  have key : ∀ l l' : List (Addr × Obj), (∀ p ∈ l, p ∈ l') → SubL l l' := by
    intro l
    induction l with
    | nil => intro _ _; exact trivial
    | cons p r ih => intro l' h; exact ⟨h p (List.mem_cons_self ..), ih l' fun q hq => h q (List.mem_cons_of_mem _ hq)⟩
  exact key l l fun _ h => h
theorem subL_of {l l' : List (Addr × Obj)} (h : ∀ p ∈ l, p ∈ l') : SubL l l' := by
  induction l with
  | nil => exact trivial
  | cons p r ih => exact ⟨h p (List.mem_cons_self ..), ih fun q hq => h q (List.mem_cons_of_mem _ hq)⟩

/-- a loop over a made list or tuple that grows the list of texts at X by some texts a turn -/
theorem loop_grow {ax X : Addr} {lo : Obj} {all texts : List Value} {k n : Nat} {m₀ : Str → Option Value} {news rest : List (Addr × Obj)} (P : Str → Prop) (xs : List Str) (len : Nat → Nat)
    (hh : A.handled = none) (F : Fr h₀ env.locals s.heap m₀) (N : News h₀ env.locals s.heap news) (hm : (ax, lo) ∈ news)
    (hkind : (lo.cls = .type "list" ∨ lo.cls = .type "tuple")) (hd : lo.data = .seq all.toArray k)
    (hX : SubL ((X, listOf texts.toArray n) :: rest) news) (hax : (ax, lo) ∈ rest) (hlen : texts.length = len 0) (hP : AllStr P texts)
    (turn : ∀ i v u vs n' h tk I, all[i]? = some v → (∀ p ∈ (X, listOf texts.toArray n) :: rest, p.1 < I) → vs.length = len i → AllStr P vs → Fr h₀ env.locals h (mask xs u m₀) →
      ∀ itO : Obj, (itO.cls = .type "list_iterator" ∨ itO.cls = .type "tuple_iterator") → News h₀ env.locals h ((I, itO) :: (X, listOf vs.toArray n') :: rest) →
      wpAny (model prog w) A (assign target env v) (fun _ s₂ => wpAny (model prog w) A (execs body env) (UnrPostW h₀ env.locals { s with heap := h, toks := tk } [(I, itO)] (fun m' n₁ => SubL [(ax, lo)] n₁ ∧ Grown P X xs m₀ rest len (i + 1) m' n₁) Q) E s₂) E { s with heap := h, toks := tk })
    (done : ∀ u vs n' h tk, vs.length = len all.length → AllStr P vs → Fr h₀ env.locals h (mask xs u m₀) → News h₀ env.locals h ((X, listOf vs.toArray n') :: rest) → Q .next { s with heap := h, toks := tk }) :
    wpAny (model prog w) A (pyIter (.ref ax)) (fun it s₂ => TurnsAt prog w A h₀ env target body Q E it s₂) E s := by
  have N0 : News h₀ env.locals s.heap ((X, listOf texts.toArray n) :: rest) := fun p hp => N p (hX.mem p hp)
  have rest_of : ∀ (I : Addr) (cls : String) (hc : cls = "list_iterator" ∨ cls = "tuple_iterator"), (∀ p ∈ news, p.1 < I) → ItemsRest prog w A E h₀ env target body Q s [(I, cls)] [(ax, lo)] (all.map .val) m₀ news := by
    intro I cls hc hlt
    refine items_go (Grown P X xs m₀ rest len) ⟨m₀, texts, n, mask_self fun _ _ => rfl, hX, hlen, hP⟩ ?_ ?_
    · rintro i v m₁ n₁ h tk hv ⟨u, vs, n', rfl, hsub, hl, hp⟩ F₁
      refine AllObj.cons (fun o ho => AllObj.nil (fun N₁ => ?_))
      refine turn i v u vs n' h tk I hv (fun p hp => hlt p (hX.mem p hp)) hl hp F₁ o (by rcases hc with rfl | rfl; exact .inl ho; exact .inr ho) ?_
      intro p hp
      rcases List.mem_cons.mp hp with rfl | hp
      · exact N₁ _ (List.mem_append_left _ (List.mem_cons_self ..))
      · exact N₁ _ (List.mem_append_right _ (hsub.mem p hp))
    · rintro m₁ n₁ h tk ⟨u, vs, n', rfl, hsub, hl, hp⟩ F₁ N₁
      exact done u vs n' h tk hl hp F₁ fun p hp => N₁ p (hsub.mem p hp)
  rcases hkind with hc | hc
  · exact iter_listTurns hh F N hm hc hd fun I hI => rest_of I _ (.inl rfl) hI
  · exact iter_tupTurns hh F N hm hc hd fun I hI => rest_of I _ (.inr rfl) hI

theorem mem_two {α : Type} {p x y z : α} {r : List α} (h : p ∈ [x, y]) : p ∈ z :: x :: y :: r := by
  rcases List.mem_cons.mp h with rfl | h
  · exact List.mem_cons_of_mem _ (List.mem_cons_self ..)
  · rw [List.mem_singleton.mp h]
    exact List.mem_cons_of_mem _ (List.mem_cons_of_mem _ (List.mem_cons_self ..))
/-- an int name that a loop turns -/
def Summed (x : Str) (xs : List Str) (m₀ : Str → Option Value) (rest : List (Addr × Obj)) (val : Nat → Int) (i : Nat) (m₁ : Str → Option Value) (n₁ : List (Addr × Obj)) : Prop :=
  ∃ u t, m₁ = (fun y => if y = x then some (.int (val i) t) else mask xs u m₀ y) ∧ SubL rest n₁
theorem Summed.intro {x : Str} {xs : List Str} {m₀ m' : Str → Option Value} {rest n' : List (Addr × Obj)} {val : Nat → Int} {i : Nat} {c : Int} {t : Tok} (h : ∀ y, y ∉ x :: xs → m' y = m₀ y) (hx : m' x = some (.int c t)) (hc : c = val i) (hs : SubL rest n') : Summed x xs m₀ rest val i m' n' := by
  refine ⟨m', t, ?_, hs⟩
  funext y
  by_cases hy : y = x
  · rw [if_pos hy, hy, hx, hc]
  · rw [if_neg hy]
    by_cases hm : y ∈ xs
    · rw [mask_on hm]
    · rw [mask_off hm]
      exact h y (fun hh => (List.mem_cons.mp hh).elim hy hm)
theorem Grown.intro {P : Str → Prop} {X : Addr} {xs : List Str} {m₀ m' : Str → Option Value} {rest n' : List (Addr × Obj)} {len : Nat → Nat} {i : Nat} {vs : List Value} {n : Nat} (h : ∀ y, y ∉ xs → m' y = m₀ y) (hs : SubL ((X, listOf vs.toArray n) :: rest) n') (hl : vs.length = len i) (hp : AllStr P vs) : Grown P X xs m₀ rest len i m' n' :=
  ⟨m', vs, n, mask_self h, hs, hl, hp⟩
theorem loop_sum {ax : Addr} {lo : Obj} {all : List Value} {k : Nat} {m₀ : Str → Option Value} {news rest : List (Addr × Obj)} {c : Int} {t₀ : Tok} (x : Str) (xs : List Str) (val : Nat → Int)
    (hh : A.handled = none) (F : Fr h₀ env.locals s.heap m₀) (N : News h₀ env.locals s.heap news) (hm : (ax, lo) ∈ news)
    (hkind : (lo.cls = .type "list" ∨ lo.cls = .type "tuple")) (hd : lo.data = .seq all.toArray k)
    (hX : SubL rest news) (hx : m₀ x = some (.int c t₀)) (hc : c = val 0)
    (turn : ∀ i v u t h tk I, all[i]? = some v → (∀ p ∈ rest, p.1 < I) → Fr h₀ env.locals h (fun y => if y = x then some (.int (val i) t) else mask xs u m₀ y) →
      ∀ itO : Obj, (itO.cls = .type "list_iterator" ∨ itO.cls = .type "tuple_iterator") → News h₀ env.locals h ((I, itO) :: rest) →
      wpAny (model prog w) A (assign target env v) (fun _ s₂ => wpAny (model prog w) A (execs body env) (UnrPostW h₀ env.locals { s with heap := h, toks := tk } [(I, itO)] (fun m' n₁ => SubL [(ax, lo)] n₁ ∧ Summed x xs m₀ rest val (i + 1) m' n₁) Q) E s₂) E { s with heap := h, toks := tk })
    (done : ∀ u t h tk, Fr h₀ env.locals h (fun y => if y = x then some (.int (val all.length) t) else mask xs u m₀ y) → News h₀ env.locals h rest → Q .next { s with heap := h, toks := tk }) :
    wpAny (model prog w) A (pyIter (.ref ax)) (fun it s₂ => TurnsAt prog w A h₀ env target body Q E it s₂) E s := by
  have rest_of : ∀ (I : Addr) (cls : String) (hc : cls = "list_iterator" ∨ cls = "tuple_iterator"), (∀ p ∈ news, p.1 < I) → ItemsRest prog w A E h₀ env target body Q s [(I, cls)] [(ax, lo)] (all.map .val) m₀ news := by
    intro I cls hcl hlt
    refine items_go (Summed x xs m₀ rest val) ⟨m₀, t₀, ?_, hX⟩ ?_ ?_
    · funext y
      by_cases h : y = x
      · rw [if_pos h, h, hx, hc]
      · rw [if_neg h]
        exact congrFun (mask_self (xs := xs) (m' := m₀) (m := m₀) fun _ _ => rfl) y
    · rintro i v m₁ n₁ h tk hv ⟨u, t, rfl, hsub⟩ F₁
      refine AllObj.cons (fun o ho => AllObj.nil (fun N₁ => ?_))
      refine turn i v u t h tk I hv (fun p hp => hlt p (hX.mem p hp)) F₁ o (by rcases hcl with rfl | rfl; exact .inl ho; exact .inr ho) ?_
      intro p hp
      rcases List.mem_cons.mp hp with rfl | hp
      · exact N₁ _ (List.mem_append_left _ (List.mem_cons_self ..))
      · exact N₁ _ (List.mem_append_right _ (hsub.mem p hp))
    · rintro m₁ n₁ h tk ⟨u, t, rfl, hsub⟩ F₁ N₁
      exact done u t h tk F₁ fun p hp => N₁ p (hsub.mem p hp)
  rcases hkind with hcl | hcl
  · exact iter_listTurns hh F N hm hcl hd fun I hI => rest_of I _ (.inl rfl) hI
  · exact iter_tupTurns hh F N hm hcl hd fun I hI => rest_of I _ (.inr rfl) hI
end
theorem unr_end {h₀ h' : Heap} {L I : Addr} {s₁ : Shared} {tk : Nat} {m' : Str → Option Value} {itO : Obj} {rest : List (Addr × Obj)} {R : (Str → Option Value) → List (Addr × Obj) → Prop} (F : Fr h₀ L h' m') (N : News h₀ L h' ((I, itO) :: rest)) (hI : ∀ p ∈ rest, p.1 < I) (r : R m' rest) :
    UnrEndW h₀ L s₁ [(I, itO)] R { s₁ with heap := h', toks := tk } :=
  ⟨h', tk, m', rest, rfl, F, N, fun p hp q hq => by rw [List.mem_singleton.mp hq]; exact Nat.ne_of_lt (hI p hp), r⟩
theorem unr_end2 {h₀ h' : Heap} {L I : Addr} {s₁ : Shared} {tk : Nat} {m' : Str → Option Value} {itO : Obj} {rest all : List (Addr × Obj)} {R : (Str → Option Value) → List (Addr × Obj) → Prop} (F : Fr h₀ L h' m') (N : News h₀ L h' all) (hs : ∀ p ∈ (I, itO) :: rest, p ∈ all) (hI : ∀ p ∈ rest, p.1 < I) (r : R m' rest) :
    UnrEndW h₀ L s₁ [(I, itO)] R { s₁ with heap := h', toks := tk } := unr_end F (cb_drop N hs) hI r
theorem below_head {a I : Addr} {o o' : Obj} {rest : List (Addr × Obj)} (h : ∀ p ∈ (a, o) :: rest, p.1 < I) : ∀ p ∈ (a, o') :: rest, p.1 < I := fun p hp => by
  rcases List.mem_cons.mp hp with rfl | hp
  · exact h (a, o) (List.mem_cons_self ..)
  · exact h p (List.mem_cons_of_mem _ hp)
end Mine
end
section
open PySem PySem.W PySem.Spec PySem.Calls PyProof.Rows
set_option Elab.async false
namespace Mine
set_option maxRecDepth 100000
set_option maxHeartbeats 8000000
theorem fill7 (w : World) : (gqHead.heap_39 w.params = gqHead.heap_39 w.params) ∧ PySem.Challenge.rw_gq5001_01 = PySem.Challenge.rw_gq5001_01 := by
  w_top off
  k_fill
  exact ⟨rfl, rfl⟩
def pairObj (a b : Int) (ta tb : Tok) : Obj := { cls := .type "tuple", data := .seq #[.int a ta, .int b tb] }
def pairsOf (n : Int) : List (Int × Int) := (if n.fdiv 60 ≤ 99 then [(n.fdiv 60, n.fmod 60)] else []) ++ (if 60 ≤ n ∧ n.fmod 60 < 40 then [(n.fdiv 60 - 1, n.fmod 60 + 60)] else [])
def PairVals (vs : List Value) (ps : List (Int × Int)) (led : List (Addr × Obj)) : Prop :=
  vs.length = ps.length ∧ ∀ (i : Nat) (v : Value), vs[i]? = some v → ∃ T a b ta tb, v = .ref T ∧ ps[i]? = some (a, b) ∧ (T, pairObj a b ta tb) ∈ led
local macro_rules | `(tactic| walk_at "isTrue BoolOp") => `(tactic| (k_here; k_gentoks))
local macro_rules | `(tactic| walk_at "isTrue Compare") => `(tactic| (k_here; k_gentoks))
local macro_rules | `(tactic| walk_at "execs cons") => `(tactic| (k_here; k_gentoks))
theorem pairVals1 {T : Addr} {a b : Int} {ta tb : Tok} {led : List (Addr × Obj)} (h : (T, pairObj a b ta tb) ∈ led) : PairVals [.ref T] [(a, b)] led := by
  refine ⟨rfl, fun i v hv => ?_⟩
  match i, hv with
  | 0, hv => exact ⟨T, a, b, ta, tb, by cases hv; rfl, rfl, h⟩
theorem pairVals2 {T U : Addr} {a b c d : Int} {ta tb tc td : Tok} {led : List (Addr × Obj)} (h : (T, pairObj a b ta tb) ∈ led) (h' : (U, pairObj c d tc td) ∈ led) : PairVals [.ref T, .ref U] [(a, b), (c, d)] led := by
  refine ⟨rfl, fun i v hv => ?_⟩
  match i, hv with
  | 0, hv => exact ⟨T, a, b, ta, tb, by cases hv; rfl, rfl, h⟩
  | 1, hv => exact ⟨U, c, d, tc, td, by cases hv; rfl, rfl, h'⟩
theorem allLt_to {d : Addr} : ∀ {l : List (Addr × Obj)}, AllLt d l → ∀ p ∈ l, p.1 < d
  | [], _, _, h => nomatch h
  | _ :: _, x, p, h => by
    rcases List.mem_cons.mp h with rfl | h
    · exact x.1
    · exact allLt_to x.2 p h
theorem pairs_claim {w : World} {n : Int} {tk : Tok} (h0 : 0 ≤ n) (h1 : n < 6040) :
  ∀ {p : Program} {loose : List Str} {mean : ExcName → Option Value} {mg mb : Str → Option Value} {news : List (Addr × Obj)}
    {dp un : Nat} {gd : Option (List Code)} {cn : Str} {cs : Scope} {a : Addr} {ccd : Value} {cl : List (Str × Addr)} {outer : List Env} {A₀ : Around} {base h₀ : Heap} {L : Addr} {m : Str → Option Value} {s : Shared} {Q E : Value → Shared → Prop},
    Below A₀ base outer h₀ → Fr h₀ L s.heap m → (gqHead.heap_39 w.params).In h₀ → News h₀ L s.heap news → Top p loose mean mg mb h₀ → cs.kind = .function →
    dp + 2 < recursionLimit → un + 10 < cLine →
    (∀ (l T1 T2 : Addr) (vs : List Value) (k : Nat) (o1 o2 : Obj) (h' : Heap) (tk' : Nat), Fr h₀ L h' m → News h₀ L h' ((l, listOf vs.toArray k) :: (T1, o1) :: (T2, o2) :: news) → (∀ q ∈ news, q.1 < l ∧ q.1 < T1 ∧ q.1 < T2) → l < T1 ∧ l < T2 →
        PairVals vs (pairsOf n) [(T1, o1), (T2, o2)] → Q (.ref l) { s with heap := h', toks := tk' }) →
      wpAny (model gqP w) (ktrTop dp un gd cn cs L a ccd cl outer) (call (.ref 131) [.int n tk]) Q E s := by
  intro p loose mean mg mb news dp un gd cn cs a ccd cl outer A₀ base h₀ L m s Q E B F X N TT hk hd hu hret
  refine wpAny_call ?_
  k_dflt cell_enter
  k_steps
  · refine hret _ _ _ [.ref _, .ref _] _ _ _ _ _ (by k_asm) (cb_drop (by k_asm) (List.forall_mem_cons.mpr ⟨List.Mem.tail _ (List.Mem.tail _ (List.Mem.head _)), List.forall_mem_cons.mpr ⟨List.Mem.tail _ (List.Mem.head _), List.forall_mem_cons.mpr ⟨List.Mem.head _, fun q hq => List.Mem.tail _ (List.Mem.tail _ (List.Mem.tail _ hq))⟩⟩⟩)) (fun q hq => ?_) ?_ ?_
    · have h1 := ltN (‹∀ p ∈ news, p.1 < _› q hq)
      exact ⟨ltN (by omega), ltN (by omega), ltN (by omega)⟩
    · exact ⟨ltN (by omega), ltN (by omega)⟩
    · have e : pairsOf n = [(n.fdiv 60, n.fmod 60), (n.fdiv 60 - 1, n.fmod 60 + 60)] := by
        unfold pairsOf
        rw [if_pos (by assumption), if_pos ⟨by assumption, by assumption⟩]; rfl
      rw [e]
      exact pairVals2 (List.Mem.head _) (List.Mem.tail _ (List.Mem.head _))
  · refine hret _ _ _ [.ref _] _ _ _ _ _ (by k_asm) (cb_drop (by k_asm) (List.forall_mem_cons.mpr ⟨List.Mem.tail _ (List.Mem.head _), List.forall_mem_cons.mpr ⟨List.Mem.head _, List.forall_mem_cons.mpr ⟨List.Mem.head _, fun q hq => List.Mem.tail _ (List.Mem.tail _ hq)⟩⟩⟩)) (fun q hq => ?_) ?_ ?_
    · have h1 := ltN (‹∀ p ∈ news, p.1 < _› q hq)
      exact ⟨ltN (by omega), ltN (by omega), ltN (by omega)⟩
    · exact ⟨ltN (by omega), ltN (by omega)⟩
    · have e : pairsOf n = [(n.fdiv 60, n.fmod 60)] := by
        unfold pairsOf
        rw [if_pos (by assumption), if_neg (fun h => absurd h.2 (by assumption))]; rfl
      rw [e]
      exact pairVals1 (List.Mem.head _)
  · refine hret _ _ _ [.ref _] _ _ _ _ _ (by k_asm) (cb_drop (by k_asm) (List.forall_mem_cons.mpr ⟨List.Mem.tail _ (List.Mem.head _), List.forall_mem_cons.mpr ⟨List.Mem.head _, List.forall_mem_cons.mpr ⟨List.Mem.head _, fun q hq => List.Mem.tail _ (List.Mem.tail _ hq)⟩⟩⟩)) (fun q hq => ?_) ?_ ?_
    · have h1 := ltN (‹∀ p ∈ news, p.1 < _› q hq)
      exact ⟨ltN (by omega), ltN (by omega), ltN (by omega)⟩
    · exact ⟨ltN (by omega), ltN (by omega)⟩
    · have e : pairsOf n = [(n.fdiv 60, n.fmod 60)] := by
        unfold pairsOf
        rw [if_pos (by assumption), if_neg (fun h => absurd h.1 (by assumption))]; rfl
      rw [e]
      exact pairVals1 (List.Mem.head _)
  · refine hret _ _ _ [.ref _] _ _ _ _ _ (by k_asm) (cb_drop (by k_asm) (List.forall_mem_cons.mpr ⟨List.Mem.tail _ (List.Mem.head _), List.forall_mem_cons.mpr ⟨List.Mem.head _, List.forall_mem_cons.mpr ⟨List.Mem.head _, fun q hq => List.Mem.tail _ (List.Mem.tail _ hq)⟩⟩⟩)) (fun q hq => ?_) ?_ ?_
    · have h1 := ltN (‹∀ p ∈ news, p.1 < _› q hq)
      exact ⟨ltN (by omega), ltN (by omega), ltN (by omega)⟩
    · exact ⟨ltN (by omega), ltN (by omega)⟩
    · have d1 := PyProof.Rows.fdiv_fmod_facts n 60
      have e : pairsOf n = [(n.fdiv 60 - 1, n.fmod 60 + 60)] := by
        unfold pairsOf
        rw [if_neg (by assumption), if_pos ⟨by omega, by omega⟩]; rfl
      rw [e]
      exact pairVals1 (List.Mem.head _)
end Mine
end
section
open PySem PySem.W PySem.Spec PySem.Calls PyProof.Rows
set_option Elab.async false
namespace Mine
set_option maxRecDepth 100000
set_option maxHeartbeats 8000000
theorem fill8 (w : World) : (gqHead.heap_39 w.params = gqHead.heap_39 w.params) ∧ PySem.Challenge.rw_gq5001_01 = PySem.Challenge.rw_gq5001_01 := by
  w_top off
  k_fill
  exact ⟨rfl, rfl⟩
def c1 (p : Int × Int) : Int := (if p.1 < 10 then 2 else 1) * (if p.2 = 0 then 4 else 2)
def cntTo (ps : List (Int × Int)) (i : Nat) : Int := ((ps.take i).map c1).sum
theorem cntTo_succ {ps : List (Int × Int)} {i : Nat} {a b : Int} (h : ps[i]? = some (a, b)) : cntTo ps (i + 1) = cntTo ps i + c1 (a, b) := by
  unfold cntTo
  rw [List.take_add_one, h]
  simp
def countOf (n : Int) (neg : Bool) : Int := if n = 0 then cntTo (pairsOf n) (pairsOf n).length * 2 * 3 + 4 else cntTo (pairsOf n) (pairsOf n).length * 2 * (if neg then 1 else 2)
theorem cnt_bound {ps : List (Int × Int)} : ∀ i, 0 ≤ cntTo ps i ∧ cntTo ps i ≤ 8 * (ps.length : Int) := by
  have key : ∀ l : List (Int × Int), 0 ≤ (l.map c1).sum ∧ (l.map c1).sum ≤ 8 * (l.length : Int) := by
    intro l
    induction l with
    | nil => simp
    | cons p r ih =>
      have h : 0 ≤ c1 p ∧ c1 p ≤ 8 := by unfold c1; split <;> split <;> decide
      simp only [List.map_cons, List.sum_cons, List.length_cons]
      omega
  intro i
  have h := key (ps.take i)
  have h2 : (ps.take i).length ≤ ps.length := by rw [List.length_take]; exact Nat.min_le_right _ _
  unfold cntTo
  omega
section
variable {prog : Program} {w : World} {A : Around} {E : Value → Shared → Prop} {s : Shared} {env : Env} {h₀ : Heap} {target : Expr} {body : List Stmt} {Q : Flow → Shared → Prop}
theorem loop_pairs_sum {ax T1 T2 : Addr} {o1 o2 : Obj} {all : List Value} {ps : List (Int × Int)} {k : Nat} {m₀ : Str → Option Value} {rest : List (Addr × Obj)} {c : Int} {t₀ : Tok} (x : Str) (xs : List Str)
    (hPV : PairVals all ps [(T1, o1), (T2, o2)]) (hh : A.handled = none) (F : Fr h₀ env.locals s.heap m₀) (N : News h₀ env.locals s.heap ((ax, listOf all.toArray k) :: (T1, o1) :: (T2, o2) :: rest))
    (hx : m₀ x = some (.int c t₀)) (hc : c = 0)
    (turn : ∀ i T a b ta tb u t h tk I, ps[i]? = some (a, b) → 0 ≤ cntTo ps i ∧ cntTo ps i ≤ 8 * (ps.length : Int) → (∀ p ∈ (ax, listOf all.toArray k) :: (T1, o1) :: (T2, o2) :: rest, p.1 < I) → Fr h₀ env.locals h (fun y => if y = x then some (.int (cntTo ps i) t) else mask xs u m₀ y) →
      ∀ itO : Obj, (itO.cls = .type "list_iterator" ∨ itO.cls = .type "tuple_iterator") → News h₀ env.locals h ((I, itO) :: (ax, listOf all.toArray k) :: (T1, o1) :: (T2, o2) :: rest) → IsTup h T #[.int a ta, .int b tb] →
      wpAny (model prog w) A (assign target env (.ref T)) (fun _ s₂ => wpAny (model prog w) A (execs body env) (UnrPostW h₀ env.locals { s with heap := h, toks := tk } [(I, itO)] (fun m' n₁ => SubL [(ax, listOf all.toArray k)] n₁ ∧ Summed x xs m₀ ((ax, listOf all.toArray k) :: (T1, o1) :: (T2, o2) :: rest) (cntTo ps) (i + 1) m' n₁) Q) E s₂) E { s with heap := h, toks := tk })
    (done : ∀ u t h tk, 0 ≤ cntTo ps ps.length ∧ cntTo ps ps.length ≤ 8 * (ps.length : Int) → Fr h₀ env.locals h (fun y => if y = x then some (.int (cntTo ps ps.length) t) else mask xs u m₀ y) → News h₀ env.locals h ((ax, listOf all.toArray k) :: (T1, o1) :: (T2, o2) :: rest) → Q .next { s with heap := h, toks := tk }) :
    wpAny (model prog w) A (pyIter (.ref ax)) (fun it s₂ => TurnsAt prog w A h₀ env target body Q E it s₂) E s := by
  refine loop_sum (all := all) (lo := listOf all.toArray k) x xs (cntTo ps) hh F N (List.Mem.head _) (.inl rfl) rfl (subL_self _) hx hc ?_ ?_
  · intro i v u t h tk I hv hI F₁ itO hit N₁
    obtain ⟨T, a, b, ta, tb, rfl, hps, hmem⟩ := hPV.2 i v hv
    exact turn i T a b ta tb u t h tk I hps (cnt_bound i) hI F₁ itO hit N₁ (News.isTup N₁ (List.mem_cons_of_mem _ (mem_two hmem)))
  · intro u t h tk F₁ N₁
    rw [hPV.1] at F₁
    exact done u t h tk (cnt_bound _) F₁ N₁
end
local macro_rules | `(tactic| walk_at "isTrue BoolOp") => `(tactic| (k_here; k_gentoks))
local macro_rules | `(tactic| walk_at "isTrue Compare") => `(tactic| (k_here; k_gentoks))
local macro_rules | `(tactic| walk_at "execs cons") => `(tactic| (k_here; k_gentoks))
local macro_rules | `(tactic| walk_at "call ref") => `(tactic| (k_here; k_dflt (refine' pairs_claim ?k0 ?k01 ?k1 ?k2 ?k3 ?k4 ?k5 ?k6 ?k7 ?k8 ?_; (case k0 => assumption); (case k01 => assumption); (case k1 => k_asm); (case k2 => k_asm); (case k3 => k_asm); (case k4 => k_asm); (case k5 => k_asm); (case k6 => first | assumption | exact rfl); (case k7 => ktr_room); (case k8 => ktr_units); intro l9 T8 T9 vs9 k9 o8 o9 h9 tk9 F9 N9 lt9 lu9 hPV; (try dsimp only); (try k_fold))))
local macro_rules | `(tactic| walk_at "pyIter ref") => `(tactic| (k_here; k_dflt (refine' loop_pairs_sum (Str.ofString "count") [Str.ofString "hour", Str.ofString "minute"] ?kp ?hh ?F ?N ?hx ?hc ?_ ?_; (case kp => assumption); (case hh => exact rfl); (case F => k_asm); (case N => k_asm); (case hx => exact rfl); (case hc => exact rfl); (all_goals first
  | (intro i9 T9 a9 b9 ta9 tb9 u9 t9 h9 tk9 I9 hps9 hb9 hI9 F9 itO9 hit9 N9 hT9; (try dsimp only); (try k_fold))
  | (intro u9 t9 h9 tk9 hb9 F9 N9; (try dsimp only); (try k_fold))))))
local macro_rules | `(tactic| walk_at "exec For Tuple Call cons nil") => `(tactic| (k_here; (rename Fr _ _ _ _ => lF'); (with_unfolding_all refine' For_turns lF' ?_; k_whole)))
theorem count_claim {w : World} {n : Int} {neg : Bool} {tk : Tok} (h0 : 0 ≤ n) (h1 : n < 6040) :
  ∀ {p : Program} {loose : List Str} {mean : ExcName → Option Value} {mg mb : Str → Option Value} {news : List (Addr × Obj)}
    {dp un : Nat} {gd : Option (List Code)} {cn : Str} {cs : Scope} {a : Addr} {ccd : Value} {cl : List (Str × Addr)} {outer : List Env} {A₀ : Around} {base h₀ : Heap} {L : Addr} {m : Str → Option Value} {s : Shared} {Q E : Value → Shared → Prop},
    Below A₀ base outer h₀ → Fr h₀ L s.heap m → (gqHead.heap_39 w.params).In h₀ → News h₀ L s.heap news → Top p loose mean mg mb h₀ → cs.kind = .function →
    dp + 3 < recursionLimit → un + 15 < cLine →
    (∀ (t : Tok) (h' : Heap) (tk' : Nat), Fr h₀ L h' m → News h₀ L h' news → Q (.int (countOf n neg) t) { s with heap := h', toks := tk' }) →
      wpAny (model gqP w) (ktrTop dp un gd cn cs L a ccd cl outer) (call (.ref 145) [.int n tk, .bool neg]) Q E s := by
  intro p loose mean mg mb news dp un gd cn cs a ccd cl outer A₀ base h₀ L m s Q E B F X N TT hk hd hu hret
  refine wpAny_call ?_
  k_dflt cell_enter
  k_steps
  · exact unr_end (by k_asm) (by k_asm) (by assumption) ⟨⟨List.Mem.head _, trivial⟩, Summed.intro (by intro y hy; simp only [List.mem_cons, List.not_mem_nil, or_false, not_or] at hy; simp only [hy.1, hy.2.1, hy.2.2, if_false, mask]) rfl (by rw [cntTo_succ (by assumption)]; unfold c1; simp only [if_pos, if_neg, if_false, if_true, Bool.false_eq_true, *]; try omega) (subL_self _)⟩
  · exact unr_end (by k_asm) (by k_asm) (by assumption) ⟨⟨List.Mem.head _, trivial⟩, Summed.intro (by intro y hy; simp only [List.mem_cons, List.not_mem_nil, or_false, not_or] at hy; simp only [hy.1, hy.2.1, hy.2.2, if_false, mask]) rfl (by rw [cntTo_succ (by assumption)]; unfold c1; simp only [if_pos, if_neg, if_false, if_true, Bool.false_eq_true, *]; try omega) (subL_self _)⟩
  · exact unr_end (by k_asm) (by k_asm) (by assumption) ⟨⟨List.Mem.head _, trivial⟩, Summed.intro (by intro y hy; simp only [List.mem_cons, List.not_mem_nil, or_false, not_or] at hy; simp only [hy.1, hy.2.1, hy.2.2, if_false, mask]) rfl (by rw [cntTo_succ (by assumption)]; unfold c1; simp only [if_pos, if_neg, if_false, if_true, Bool.false_eq_true, *]; try omega) (subL_self _)⟩
  · exact unr_end (by k_asm) (by k_asm) (by assumption) ⟨⟨List.Mem.head _, trivial⟩, Summed.intro (by intro y hy; simp only [List.mem_cons, List.not_mem_nil, or_false, not_or] at hy; simp only [hy.1, hy.2.1, hy.2.2, if_false, mask]) rfl (by rw [cntTo_succ (by assumption)]; unfold c1; simp only [if_pos, if_neg, if_false, if_true, Bool.false_eq_true, *]; try omega) (subL_self _)⟩
  · exact cb_retI hret (by unfold countOf; simp only [if_pos, if_neg, if_false, if_true, Bool.false_eq_true, *]; try omega) (by k_asm) (cb_drop (by k_asm) (fun q hq => by repeat' (first | exact hq | refine List.mem_cons_of_mem _ ?_)))
  · exact cb_retI hret (by unfold countOf; simp only [if_pos, if_neg, if_false, if_true, Bool.false_eq_true, *]; try omega) (by k_asm) (cb_drop (by k_asm) (fun q hq => by repeat' (first | exact hq | refine List.mem_cons_of_mem _ ?_)))
  · exact cb_retI hret (by unfold countOf; simp only [if_pos, if_neg, if_false, if_true, Bool.false_eq_true, *]; try omega) (by k_asm) (cb_drop (by k_asm) (fun q hq => by repeat' (first | exact hq | refine List.mem_cons_of_mem _ ?_)))
end Mine
end
section
open PySem PySem.W PySem.Spec PySem.Calls PyProof.Rows
set_option Elab.async false
namespace Mine
set_option maxRecDepth 100000
set_option maxHeartbeats 8000000
theorem fill9 (w : World) : (gqHead.heap_39 w.params = gqHead.heap_39 w.params) ∧ PySem.Challenge.rw_gq5001_01 = PySem.Challenge.rw_gq5001_01 := by
  w_top off
  k_fill
  exact ⟨rfl, rfl⟩
def RH (a : Int) (x : Str) : Prop := x = twoS a ∨ (a < 10 ∧ x = Str.ofString (toString a))
def RT (b : Int) (x : Str) : Prop := x = twoS b ∨ x = Str.ofString ":" ++ twoS b ∨ (b = 0 ∧ (x = Str.ofString "" ∨ x = Str.ofString ":"))
def Clos (P RS : Str → Prop) (ps : List (Int × Int)) : Prop := ∀ a b, (a, b) ∈ ps → (0 ≤ a ∧ a ≤ 99) ∧ (0 ≤ b ∧ b ≤ 99) ∧ ∀ sg, RS sg → ∀ hd, RH a hd → ∀ tl, RT b tl → P (sg ++ hd ++ tl) ∧ P (sg ++ hd ++ tl ++ Str.ofString "\n")
theorem Clos.go {P RS : Str → Prop} {ps : List (Int × Int)} {a b : Int} {sg hd tl : Str} (h : Clos P RS ps) (hm : (a, b) ∈ ps) (h1 : RS sg) (h2 : RH a hd) (h3 : RT b tl) : P (sg ++ hd ++ tl) ∧ P (sg ++ hd ++ tl ++ Str.ofString "\n") := (h a b hm).2.2 sg h1 hd h2 tl h3
theorem below5 {X a b c d : Addr} {oa ob oc od : Obj} {news : List (Addr × Obj)} (h : a < X ∧ b < X ∧ c < X ∧ d < X ∧ AllLt X news) : ∀ q ∈ (a, oa) :: (b, ob) :: (c, oc) :: (d, od) :: news, q.1 < X := List.forall_mem_cons.mpr ⟨h.1, List.forall_mem_cons.mpr ⟨h.2.1, List.forall_mem_cons.mpr ⟨h.2.2.1, List.forall_mem_cons.mpr ⟨h.2.2.2.1, allLt_to h.2.2.2.2⟩⟩⟩⟩
def c2 (p : Int × Int) : Nat := (if p.1 < 10 then 2 else 1) * (if p.2 = 0 then 4 else 2)
def lenTo (ps : List (Int × Int)) (ns : Nat) (i : Nat) : Nat := ((ps.take i).map fun p => 2 * ns * c2 p).sum
theorem lenTo_succ {ps : List (Int × Int)} {ns i : Nat} {a b : Int} (h : ps[i]? = some (a, b)) : lenTo ps ns (i + 1) = lenTo ps ns i + 2 * ns * c2 (a, b) := by
  unfold lenTo
  rw [List.take_add_one, h]
  simp
theorem len_step {a a' b c i : Nat} (h : a = b + c * i) (h' : a' = a + c) : a' = b + c * (i + 1) := by
  rw [Nat.mul_succ]; omega
section
variable {prog : Program} {w : World} {A : Around} {E : Value → Shared → Prop} {s : Shared} {env : Env} {h₀ : Heap} {target : Expr} {body : List Stmt} {Q : Flow → Shared → Prop}
/-- an inner loop: c texts a turn -/
theorem loop_texts {ax X : Addr} {lo : Obj} {all texts : List Value} {k n : Nat} {m₀ : Str → Option Value} {news rest : List (Addr × Obj)} {P R : Str → Prop} (tx : Str) (xs : List Str) (c : Nat)
    (htx : m₀ tx = some (.ref X)) (hh : A.handled = none) (F : Fr h₀ env.locals s.heap m₀) (N : News h₀ env.locals s.heap news) (hm : (ax, lo) ∈ news)
    (hkind : (lo.cls = .type "list" ∨ lo.cls = .type "tuple")) (hd : lo.data = .seq all.toArray k) (hall : AllStr R all) (hRl : ∀ x, R x → x.length ≤ 20)
    (hX : SubL ((X, listOf texts.toArray n) :: rest) news) (hax : (ax, lo) ∈ rest) (hP : AllStr P texts)
    (turn : ∀ i x t u vs n' h tk I, i < all.length → R x → x.length ≤ 20 → (∀ p ∈ (X, listOf texts.toArray n) :: rest, p.1 < I) → vs.length = texts.length + c * i → AllStr P vs → Fr h₀ env.locals h (mask xs u m₀) →
      ∀ itO : Obj, (itO.cls = .type "list_iterator" ∨ itO.cls = .type "tuple_iterator") → News h₀ env.locals h ((I, itO) :: (X, listOf vs.toArray n') :: rest) →
      wpAny (model prog w) A (assign target env (.str x t)) (fun _ s₂ => wpAny (model prog w) A (execs body env) (UnrPostW h₀ env.locals { s with heap := h, toks := tk } [(I, itO)] (fun m' n₁ => SubL [(ax, lo)] n₁ ∧ Grown P X xs m₀ rest (fun i => texts.length + c * i) (i + 1) m' n₁) Q) E s₂) E { s with heap := h, toks := tk })
    (fin : ∀ u vs n' h tk, vs.length = texts.length + c * all.length → AllStr P vs → Fr h₀ env.locals h (mask xs u m₀) → News h₀ env.locals h ((X, listOf vs.toArray n') :: rest) → Q .next { s with heap := h, toks := tk }) :
    wpAny (model prog w) A (pyIter (.ref ax)) (fun it s₂ => TurnsAt prog w A h₀ env target body Q E it s₂) E s := by
  refine loop_grow P xs (fun i => texts.length + c * i) hh F N hm hkind hd hX hax (by simp) hP ?_ fin
  intro i v u vs n' h tk I hv hI hl hp F₁ itO hit N₁
  obtain ⟨x, t, rfl, hx⟩ := hall v (List.mem_of_getElem? hv)
  exact turn i x t u vs n' h tk I (List.getElem?_eq_some_iff.mp hv).1 hx (hRl x hx) hI hl hp F₁ itO hit N₁
theorem subL_erase {q : Addr × Obj} : ∀ {l : List (Addr × Obj)} {p : Nat}, l[p]? = some q → ∀ x ∈ q :: l.eraseIdx p, x ∈ l
  | [], p, h => by simp at h
  | a :: r, 0, h => by
    have e : a = q := by simpa using h
    subst e
    intro x hx
    exact hx
  | a :: r, p + 1, h => by
    have h' : r[p]? = some q := by simpa using h
    have ih := subL_erase h'
    intro x hx
    rcases List.mem_cons.mp hx with rfl | hx
    · exact List.mem_cons_of_mem _ (ih x (List.mem_cons_self ..))
    · have hx' : x ∈ a :: r.eraseIdx p := hx
      rcases List.mem_cons.mp hx' with rfl | hx'
      · exact List.mem_cons_self ..
      · exact List.mem_cons_of_mem _ (ih x (List.mem_cons_of_mem _ hx'))
theorem loop_tail {ax X : Addr} {lo : Obj} {all texts : List Value} {k n : Nat} {m₀ : Str → Option Value} {news : List (Addr × Obj)} {P R : Str → Prop} (tx : Str) (xs : List Str) (p : Nat)
    (htx : m₀ tx = some (.ref X)) (hh : A.handled = none) (F : Fr h₀ env.locals s.heap m₀) (N : News h₀ env.locals s.heap news) (hm : (ax, lo) ∈ news)
    (hkind : (lo.cls = .type "list" ∨ lo.cls = .type "tuple")) (hd : lo.data = .seq all.toArray k) (hall : AllStr R all) (hRl : ∀ x, R x → x.length ≤ 20)
    (hX : news[p]? = some (X, listOf texts.toArray n)) (hax : (ax, lo) ∈ news.eraseIdx p) (hP : AllStr P texts)
    (turn : ∀ i x t u vs n' h tk I, i < all.length → R x → x.length ≤ 20 → (∀ q ∈ (X, listOf texts.toArray n) :: news.eraseIdx p, q.1 < I) → vs.length = texts.length + 2 * i → AllStr P vs → Fr h₀ env.locals h (mask xs u m₀) →
      ∀ itO : Obj, (itO.cls = .type "list_iterator" ∨ itO.cls = .type "tuple_iterator") → News h₀ env.locals h ((I, itO) :: (X, listOf vs.toArray n') :: news.eraseIdx p) →
      wpAny (model prog w) A (assign target env (.str x t)) (fun _ s₂ => wpAny (model prog w) A (execs body env) (UnrPostW h₀ env.locals { s with heap := h, toks := tk } [(I, itO)] (fun m' n₁ => SubL [(ax, lo)] n₁ ∧ Grown P X xs m₀ (news.eraseIdx p) (fun i => texts.length + 2 * i) (i + 1) m' n₁) Q) E s₂) E { s with heap := h, toks := tk })
    (fin : ∀ u vs n' h tk, vs.length = texts.length + 2 * all.length → AllStr P vs → Fr h₀ env.locals h (mask xs u m₀) → News h₀ env.locals h ((X, listOf vs.toArray n') :: news.eraseIdx p) → Q .next { s with heap := h, toks := tk }) :
    wpAny (model prog w) A (pyIter (.ref ax)) (fun it s₂ => TurnsAt prog w A h₀ env target body Q E it s₂) E s :=
  loop_texts tx xs 2 htx hh F N hm hkind hd hall hRl (subL_of (subL_erase hX)) hax hP turn fin
theorem loop_head {ax X TL : Addr} {lo tlo : Obj} {all texts tall : List Value} {k n kt : Nat} {m₀ : Str → Option Value} {news : List (Addr × Obj)} {P R : Str → Prop} (tx tn : Str) (xs : List Str) (p : Nat)
    (htx : m₀ tx = some (.ref X)) (htn : m₀ tn = some (.ref TL)) (htm : (TL, tlo) ∈ news) (htd : tlo.data = .seq tall.toArray kt) (hh : A.handled = none) (F : Fr h₀ env.locals s.heap m₀) (N : News h₀ env.locals s.heap news) (hm : (ax, lo) ∈ news)
    (hkind : (lo.cls = .type "list" ∨ lo.cls = .type "tuple")) (hd : lo.data = .seq all.toArray k) (hall : AllStr R all) (hRl : ∀ x, R x → x.length ≤ 20)
    (hX : news[p]? = some (X, listOf texts.toArray n)) (hax : (ax, lo) ∈ news.eraseIdx p) (hP : AllStr P texts)
    (turn : ∀ i x t u vs n' h tk I, i < all.length → R x → x.length ≤ 20 → (∀ q ∈ (X, listOf texts.toArray n) :: news.eraseIdx p, q.1 < I) → vs.length = texts.length + (2 * tall.length) * i → AllStr P vs → Fr h₀ env.locals h (mask xs u m₀) →
      ∀ itO : Obj, (itO.cls = .type "list_iterator" ∨ itO.cls = .type "tuple_iterator") → News h₀ env.locals h ((I, itO) :: (X, listOf vs.toArray n') :: news.eraseIdx p) →
      wpAny (model prog w) A (assign target env (.str x t)) (fun _ s₂ => wpAny (model prog w) A (execs body env) (UnrPostW h₀ env.locals { s with heap := h, toks := tk } [(I, itO)] (fun m' n₁ => SubL [(ax, lo)] n₁ ∧ Grown P X xs m₀ (news.eraseIdx p) (fun i => texts.length + (2 * tall.length) * i) (i + 1) m' n₁) Q) E s₂) E { s with heap := h, toks := tk })
    (fin : ∀ u vs n' h tk, vs.length = texts.length + (2 * tall.length) * all.length → AllStr P vs → Fr h₀ env.locals h (mask xs u m₀) → News h₀ env.locals h ((X, listOf vs.toArray n') :: news.eraseIdx p) → Q .next { s with heap := h, toks := tk }) :
    wpAny (model prog w) A (pyIter (.ref ax)) (fun it s₂ => TurnsAt prog w A h₀ env target body Q E it s₂) E s :=
  loop_texts tx xs (2 * tall.length) htx hh F N hm hkind hd hall hRl (subL_of (subL_erase hX)) hax hP turn fin
theorem loop_sign {ax X TL HL : Addr} {lo tlo hlo : Obj} {all texts tall hals : List Value} {k n kt kh : Nat} {m₀ : Str → Option Value} {news : List (Addr × Obj)} {P R : Str → Prop} (tx tn hn : Str) (xs : List Str) (p : Nat)
    (htx : m₀ tx = some (.ref X)) (htn : m₀ tn = some (.ref TL)) (htm : (TL, tlo) ∈ news) (htd : tlo.data = .seq tall.toArray kt) (hhn : m₀ hn = some (.ref HL)) (hhm : (HL, hlo) ∈ news) (hhd : hlo.data = .seq hals.toArray kh)
    (hh : A.handled = none) (F : Fr h₀ env.locals s.heap m₀) (N : News h₀ env.locals s.heap news) (hm : (ax, lo) ∈ news)
    (hkind : (lo.cls = .type "list" ∨ lo.cls = .type "tuple")) (hd : lo.data = .seq all.toArray k) (hall : AllStr R all) (hRl : ∀ x, R x → x.length ≤ 20)
    (hX : news[p]? = some (X, listOf texts.toArray n)) (hax : (ax, lo) ∈ news.eraseIdx p) (hP : AllStr P texts)
    (turn : ∀ i x t u vs n' h tk I, i < all.length → R x → x.length ≤ 20 → (∀ q ∈ (X, listOf texts.toArray n) :: news.eraseIdx p, q.1 < I) → vs.length = texts.length + ((2 * tall.length) * hals.length) * i → AllStr P vs → Fr h₀ env.locals h (mask xs u m₀) →
      ∀ itO : Obj, (itO.cls = .type "list_iterator" ∨ itO.cls = .type "tuple_iterator") → News h₀ env.locals h ((I, itO) :: (X, listOf vs.toArray n') :: news.eraseIdx p) →
      wpAny (model prog w) A (assign target env (.str x t)) (fun _ s₂ => wpAny (model prog w) A (execs body env) (UnrPostW h₀ env.locals { s with heap := h, toks := tk } [(I, itO)] (fun m' n₁ => SubL [(ax, lo)] n₁ ∧ Grown P X xs m₀ (news.eraseIdx p) (fun i => texts.length + ((2 * tall.length) * hals.length) * i) (i + 1) m' n₁) Q) E s₂) E { s with heap := h, toks := tk })
    (fin : ∀ u vs n' h tk, vs.length = texts.length + ((2 * tall.length) * hals.length) * all.length → AllStr P vs → Fr h₀ env.locals h (mask xs u m₀) → News h₀ env.locals h ((X, listOf vs.toArray n') :: news.eraseIdx p) → Q .next { s with heap := h, toks := tk }) :
    wpAny (model prog w) A (pyIter (.ref ax)) (fun it s₂ => TurnsAt prog w A h₀ env target body Q E it s₂) E s :=
  loop_texts tx xs ((2 * tall.length) * hals.length) htx hh F N hm hkind hd hall hRl (subL_of (subL_erase hX)) hax hP turn fin
/-- the outer loop over the pairs -/
theorem loop_pairs_grow {ax T1 T2 X sA : Addr} {o1 o2 so : Obj} {all svs : List Value} {ps : List (Int × Int)} {k ks n : Nat} {m₀ : Str → Option Value} {rest : List (Addr × Obj)} {P RS : Str → Prop} (tx sx : Str) (xs : List Str)
    (hcl : Clos P RS ps) (hB : ∀ i, lenTo ps svs.length i ≤ 1000) (hPV : PairVals all ps [(T1, o1), (T2, o2)]) (htx : m₀ tx = some (.ref X)) (hsx : m₀ sx = some (.ref sA)) (hh : A.handled = none) (F : Fr h₀ env.locals s.heap m₀)
    (N : News h₀ env.locals s.heap ((X, listOf #[] n) :: (ax, listOf all.toArray k) :: (T1, o1) :: (T2, o2) :: (sA, so) :: rest)) (hsd : so.data = .seq svs.toArray ks)
    (turn : ∀ i T a b ta tb u vs n' h tk I, ps[i]? = some (a, b) → (a, b) ∈ ps → 0 ≤ a → a ≤ 99 → 0 ≤ b → b ≤ 99 → (∀ p ∈ (X, listOf #[] n) :: (ax, listOf all.toArray k) :: (T1, o1) :: (T2, o2) :: (sA, so) :: rest, p.1 < I) →
      vs.length = lenTo ps svs.length i → vs.length ≤ 1000 → AllStr P vs → Fr h₀ env.locals h (mask xs u m₀) →
      ∀ itO : Obj, (itO.cls = .type "list_iterator" ∨ itO.cls = .type "tuple_iterator") → News h₀ env.locals h ((I, itO) :: (X, listOf vs.toArray n') :: (ax, listOf all.toArray k) :: (T1, o1) :: (T2, o2) :: (sA, so) :: rest) → IsTup h T #[.int a ta, .int b tb] →
      wpAny (model prog w) A (assign target env (.ref T)) (fun _ s₂ => wpAny (model prog w) A (execs body env) (UnrPostW h₀ env.locals { s with heap := h, toks := tk } [(I, itO)] (fun m' n₁ => SubL [(ax, listOf all.toArray k)] n₁ ∧ Grown P X xs m₀ ((ax, listOf all.toArray k) :: (T1, o1) :: (T2, o2) :: (sA, so) :: rest) (lenTo ps svs.length) (i + 1) m' n₁) Q) E s₂) E { s with heap := h, toks := tk })
    (fin : ∀ u vs n' h tk, vs.length = lenTo ps svs.length ps.length → AllStr P vs → Fr h₀ env.locals h (mask xs u m₀) → News h₀ env.locals h ((X, listOf vs.toArray n') :: (ax, listOf all.toArray k) :: (T1, o1) :: (T2, o2) :: (sA, so) :: rest) → Q .next { s with heap := h, toks := tk }) :
    wpAny (model prog w) A (pyIter (.ref ax)) (fun it s₂ => TurnsAt prog w A h₀ env target body Q E it s₂) E s := by
  refine loop_grow (texts := []) (all := all) (lo := listOf all.toArray k) P xs (lenTo ps svs.length) hh F N (List.Mem.tail _ (List.Mem.head _)) (.inl rfl) rfl (subL_self _) (List.Mem.head _) (by simp [lenTo]) (fun v hv => nomatch hv) ?_ ?_
  · intro i v u vs n' h tk I hv hI hl hp F₁ itO hit N₁
    obtain ⟨T, a, b, ta, tb, rfl, hps, hmem⟩ := hPV.2 i v hv
    have hin := List.mem_of_getElem? hps
    have hc := hcl a b hin
    refine turn i T a b ta tb u vs n' h tk I hps hin hc.1.1 hc.1.2 hc.2.1.1 hc.2.1.2 hI hl (hl ▸ hB i) hp F₁ itO hit N₁ (News.isTup N₁ (List.mem_cons_of_mem _ (List.mem_cons_of_mem _ (mem_two hmem))))
  · intro u vs n' h tk hl hp F₁ N₁
    rw [hPV.1] at hl
    exact fin u vs n' h tk hl hp F₁ N₁
end
theorem toStr_len : ∀ k : Fin 10, (Str.ofString (toString ((k.val : Nat) : Int))).length ≤ 20 := by decide +kernel
theorem RH_len {a : Int} (h0 : 0 ≤ a) (h1 : a ≤ 99) : ∀ x, RH a x → x.length ≤ 20 := by
  rintro x (rfl | ⟨h, rfl⟩)
  · show 2 ≤ 20; decide
  · obtain ⟨k, rfl⟩ := Int.eq_ofNat_of_zero_le h0
    exact toStr_len ⟨k, by omega⟩
theorem RT_len {b : Int} : ∀ x, RT b x → x.length ≤ 20 := by
  rintro x (rfl | rfl | ⟨_, rfl | rfl⟩)
  · show 2 ≤ 20; decide
  · show (#[58] ++ #[48 + (b / 10).toNat, 48 + (b % 10).toNat]).size ≤ 20; simp
  · decide
  · decide
theorem allStr_H1 {a : Int} {t1 t2 : Tok} (h : a < 10) : AllStr (RH a) [.str (twoS a) t1, .str (Str.ofString (toString a)) t2] := by
  intro v hv
  simp only [List.mem_cons, List.not_mem_nil, or_false] at hv
  rcases hv with rfl | rfl
  · exact ⟨_, _, rfl, .inl rfl⟩
  · exact ⟨_, _, rfl, .inr ⟨h, rfl⟩⟩
theorem allStr_H2 {a : Int} {t1 : Tok} : AllStr (RH a) [.str (twoS a) t1] := by
  intro v hv
  simp only [List.mem_cons, List.not_mem_nil, or_false] at hv
  subst hv
  exact ⟨_, _, rfl, .inl rfl⟩
theorem allStr_T1 {b : Int} {t1 t2 t3 t4 : Tok} (h : b = 0) : AllStr (RT b) [.str (twoS b) t1, .str (Str.ofString ":" ++ twoS b) t2, .str (Str.ofString "") t3, .str (Str.ofString ":") t4] := by
  intro v hv
  simp only [List.mem_cons, List.not_mem_nil, or_false] at hv
  rcases hv with rfl | rfl | rfl | rfl
  · exact ⟨_, _, rfl, .inl rfl⟩
  · exact ⟨_, _, rfl, .inr (.inl rfl)⟩
  · exact ⟨_, _, rfl, .inr (.inr ⟨h, .inl rfl⟩)⟩
  · exact ⟨_, _, rfl, .inr (.inr ⟨h, .inr rfl⟩)⟩
theorem allStr_T2 {b : Int} {t1 t2 : Tok} : AllStr (RT b) [.str (twoS b) t1, .str (Str.ofString ":" ++ twoS b) t2] := by
  intro v hv
  simp only [List.mem_cons, List.not_mem_nil, or_false] at hv
  rcases hv with rfl | rfl
  · exact ⟨_, _, rfl, .inl rfl⟩
  · exact ⟨_, _, rfl, .inr (.inl rfl)⟩
local macro_rules | `(tactic| walk_at "isTrue BoolOp") => `(tactic| (k_here; k_gentoks))
local macro_rules | `(tactic| walk_at "isTrue Compare") => `(tactic| (k_here; k_gentoks))
local macro_rules | `(tactic| walk_at "execs cons") => `(tactic| (k_here; k_gentoks))
local macro_rules | `(tactic| walk_at "exec Assign") => `(tactic| (k_here; k_gentoks))
local macro_rules | `(tactic| walk_at "exec For") => `(tactic| (k_here; k_gentoks))
local macro_rules | `(tactic| walk_at "spliced") => `(tactic| (k_here; k_gentoks))
local macro_rules | `(tactic| walk_at "call ref") => `(tactic| (k_here; k_dflt (refine' two_claim ?k0 ?k01 ?k1 ?k2 ?k3 ?k4 ?k5 ?k6 ?k7 ?k8 ?_; (case k0 => assumption); (case k01 => assumption); (case k1 => k_asm); (case k2 => k_asm); (case k3 => k_asm); (case k4 => k_asm); (case k5 => k_asm); (case k6 => first | assumption | exact rfl); (case k7 => ktr_room); (case k8 => ktr_units); intro t9 h9 tk9 F9 N9; (try dsimp only); (try k_fold))))
local macro_rules | `(tactic| walk_at "exec For Tuple Name cons nil") => `(tactic| (k_here; (rename Fr _ _ _ _ => lF'); (with_unfolding_all refine' For_turns lF' ?_; k_whole)))
local macro_rules | `(tactic| walk_at "exec For Name Name cons nil") => `(tactic| (k_here; (rename Fr _ _ _ _ => lF'); (with_unfolding_all refine' For_turns lF' ?_; k_whole)))
local macro_rules | `(tactic| walk_at "pyIter ref") => `(tactic| (k_here; (with_reducible show wpAny _ _ (pyIter (Value.ref _)) (fun it s₂ => TurnsAt _ _ _ _ _ (Expr.Name (PySem.Str.ofString "tail") _) _ _ _ it s₂) _ _); k_dflt (first | (refine' loop_tail (Str.ofString "texts") [Str.ofString "tail"] 1 ?htx ?hh ?F ?N ?hm ?hk ?hd ?hal ?hRl ?hX ?hax ?hP ?_ ?_; (case F => k_asm); (case N => k_asm); (case htx => exact rfl); (case hh => exact rfl); (case hm => k_mem); (case hk => first | exact .inl rfl | exact .inr rfl); (case hd => exact rfl); (case hX => exact rfl); (case hax => (dsimp only [List.eraseIdx]; k_mem)); (case hP => assumption);  (case hal => first | exact allStr_T1 (by assumption) | exact allStr_T2); (case hRl => exact RT_len); (all_goals first | (intro i9 x9 t9 u9 vs9 n9 h9 tk9 I9 hi9 hR9 hz9 hI9 hl9 hp9 F9 itO9 hit9 N9; (try dsimp only [List.eraseIdx] at N9 hI9 ⊢); (have hJ9 := hI9); (try k_lt hJ9); (have hm9 := hl9); (try simp only [List.length_cons, List.length_nil] at hm9 hi9); (try k_fold)) | (intro u9 vs9 n9 h9 tk9 hl9 hp9 F9 N9; (try dsimp only [List.eraseIdx] at N9); (try dsimp only); (try k_fold)))))))
local macro_rules | `(tactic| walk_at "pyIter ref") => `(tactic| (k_here; (with_reducible show wpAny _ _ (pyIter (Value.ref _)) (fun it s₂ => TurnsAt _ _ _ _ _ (Expr.Name (PySem.Str.ofString "head") _) _ _ _ it s₂) _ _); k_dflt (first | (refine' loop_head (Str.ofString "texts") (Str.ofString "tails") [Str.ofString "head", Str.ofString "tail"] 1 ?htx ?htn ?htm ?htd ?hh ?F ?N ?hm ?hk ?hd ?hal ?hRl ?hX ?hax ?hP ?_ ?_; (case F => k_asm); (case N => k_asm); (case htx => exact rfl); (case hh => exact rfl); (case hm => k_mem); (case hk => first | exact .inl rfl | exact .inr rfl); (case hd => exact rfl); (case hX => exact rfl); (case hax => (dsimp only [List.eraseIdx]; k_mem)); (case hP => assumption); (case htn => exact rfl); (case htm => k_mem); (case htd => exact rfl); (case hal => first | exact allStr_H1 (by assumption) | exact allStr_H2); (case hRl => exact RH_len (by assumption) (by assumption)); (all_goals first | (intro i9 x9 t9 u9 vs9 n9 h9 tk9 I9 hi9 hR9 hz9 hI9 hl9 hp9 F9 itO9 hit9 N9; (try dsimp only [List.eraseIdx] at N9 hI9 ⊢); (have hJ9 := hI9); (try k_lt hJ9); (have hm9 := hl9); (try simp only [List.length_cons, List.length_nil] at hm9 hi9); (try k_fold)) | (intro u9 vs9 n9 h9 tk9 hl9 hp9 F9 N9; (try dsimp only [List.eraseIdx] at N9); (try dsimp only); (try k_fold)))))))
local macro_rules | `(tactic| walk_at "pyIter ref") => `(tactic| (k_here; (with_reducible show wpAny _ _ (pyIter (Value.ref _)) (fun it s₂ => TurnsAt _ _ _ _ _ (Expr.Name (PySem.Str.ofString "sign") _) _ _ _ it s₂) _ _); k_dflt (first | (refine' loop_sign (Str.ofString "texts") (Str.ofString "tails") (Str.ofString "hours") [Str.ofString "sign", Str.ofString "head", Str.ofString "tail"] 7 ?htx ?htn ?htm ?htd ?hhn ?hhm ?hhd ?hh ?F ?N ?hm ?hk ?hd ?hal ?hRl ?hX ?hax ?hP ?_ ?_; (case F => k_asm); (case N => k_asm); (case htx => exact rfl); (case hh => exact rfl); (case hm => k_mem); (case hk => first | exact .inl rfl | exact .inr rfl); (case hd => exact rfl); (case hX => exact rfl); (case hax => (dsimp only [List.eraseIdx]; k_mem)); (case hP => assumption); (case htn => exact rfl); (case htm => k_mem); (case htd => exact rfl); (case hhn => exact rfl); (case hhm => k_mem); (case hhd => exact rfl); (case hal => assumption); (case hRl => assumption); (all_goals first | (intro i9 x9 t9 u9 vs9 n9 h9 tk9 I9 hi9 hR9 hz9 hI9 hl9 hp9 F9 itO9 hit9 N9; (try dsimp only [List.eraseIdx] at N9 hI9 ⊢); (have hJ9 := hI9); (try k_lt hJ9); (have hm9 := hl9); (try simp only [List.length_cons, List.length_nil] at hm9 hi9); (try k_fold)) | (intro u9 vs9 n9 h9 tk9 hl9 hp9 F9 N9; (try dsimp only [List.eraseIdx] at N9); (try dsimp only); (try k_fold)))) | (refine' loop_sign (Str.ofString "texts") (Str.ofString "tails") (Str.ofString "hours") [Str.ofString "sign", Str.ofString "head", Str.ofString "tail"] 5 ?htx ?htn ?htm ?htd ?hhn ?hhm ?hhd ?hh ?F ?N ?hm ?hk ?hd ?hal ?hRl ?hX ?hax ?hP ?_ ?_; (case F => k_asm); (case N => k_asm); (case htx => exact rfl); (case hh => exact rfl); (case hm => k_mem); (case hk => first | exact .inl rfl | exact .inr rfl); (case hd => exact rfl); (case hX => exact rfl); (case hax => (dsimp only [List.eraseIdx]; k_mem)); (case hP => assumption); (case htn => exact rfl); (case htm => k_mem); (case htd => exact rfl); (case hhn => exact rfl); (case hhm => k_mem); (case hhd => exact rfl); (case hal => assumption); (case hRl => assumption); (all_goals first | (intro i9 x9 t9 u9 vs9 n9 h9 tk9 I9 hi9 hR9 hz9 hI9 hl9 hp9 F9 itO9 hit9 N9; (try dsimp only [List.eraseIdx] at N9 hI9 ⊢); (have hJ9 := hI9); (try k_lt hJ9); (have hm9 := hl9); (try simp only [List.length_cons, List.length_nil] at hm9 hi9); (try k_fold)) | (intro u9 vs9 n9 h9 tk9 hl9 hp9 F9 N9; (try dsimp only [List.eraseIdx] at N9); (try dsimp only); (try k_fold)))) | (refine' loop_sign (Str.ofString "texts") (Str.ofString "tails") (Str.ofString "hours") [Str.ofString "sign", Str.ofString "head", Str.ofString "tail"] 6 ?htx ?htn ?htm ?htd ?hhn ?hhm ?hhd ?hh ?F ?N ?hm ?hk ?hd ?hal ?hRl ?hX ?hax ?hP ?_ ?_; (case F => k_asm); (case N => k_asm); (case htx => exact rfl); (case hh => exact rfl); (case hm => k_mem); (case hk => first | exact .inl rfl | exact .inr rfl); (case hd => exact rfl); (case hX => exact rfl); (case hax => (dsimp only [List.eraseIdx]; k_mem)); (case hP => assumption); (case htn => exact rfl); (case htm => k_mem); (case htd => exact rfl); (case hhn => exact rfl); (case hhm => k_mem); (case hhd => exact rfl); (case hal => assumption); (case hRl => assumption); (all_goals first | (intro i9 x9 t9 u9 vs9 n9 h9 tk9 I9 hi9 hR9 hz9 hI9 hl9 hp9 F9 itO9 hit9 N9; (try dsimp only [List.eraseIdx] at N9 hI9 ⊢); (have hJ9 := hI9); (try k_lt hJ9); (have hm9 := hl9); (try simp only [List.length_cons, List.length_nil] at hm9 hi9); (try k_fold)) | (intro u9 vs9 n9 h9 tk9 hl9 hp9 F9 N9; (try dsimp only [List.eraseIdx] at N9); (try dsimp only); (try k_fold)))) | (refine' loop_sign (Str.ofString "texts") (Str.ofString "tails") (Str.ofString "hours") [Str.ofString "sign", Str.ofString "head", Str.ofString "tail"] 8 ?htx ?htn ?htm ?htd ?hhn ?hhm ?hhd ?hh ?F ?N ?hm ?hk ?hd ?hal ?hRl ?hX ?hax ?hP ?_ ?_; (case F => k_asm); (case N => k_asm); (case htx => exact rfl); (case hh => exact rfl); (case hm => k_mem); (case hk => first | exact .inl rfl | exact .inr rfl); (case hd => exact rfl); (case hX => exact rfl); (case hax => (dsimp only [List.eraseIdx]; k_mem)); (case hP => assumption); (case htn => exact rfl); (case htm => k_mem); (case htd => exact rfl); (case hhn => exact rfl); (case hhm => k_mem); (case hhd => exact rfl); (case hal => assumption); (case hRl => assumption); (all_goals first | (intro i9 x9 t9 u9 vs9 n9 h9 tk9 I9 hi9 hR9 hz9 hI9 hl9 hp9 F9 itO9 hit9 N9; (try dsimp only [List.eraseIdx] at N9 hI9 ⊢); (have hJ9 := hI9); (try k_lt hJ9); (have hm9 := hl9); (try simp only [List.length_cons, List.length_nil] at hm9 hi9); (try k_fold)) | (intro u9 vs9 n9 h9 tk9 hl9 hp9 F9 N9; (try dsimp only [List.eraseIdx] at N9); (try dsimp only); (try k_fold)))) | (refine' loop_sign (Str.ofString "texts") (Str.ofString "tails") (Str.ofString "hours") [Str.ofString "sign", Str.ofString "head", Str.ofString "tail"] 4 ?htx ?htn ?htm ?htd ?hhn ?hhm ?hhd ?hh ?F ?N ?hm ?hk ?hd ?hal ?hRl ?hX ?hax ?hP ?_ ?_; (case F => k_asm); (case N => k_asm); (case htx => exact rfl); (case hh => exact rfl); (case hm => k_mem); (case hk => first | exact .inl rfl | exact .inr rfl); (case hd => exact rfl); (case hX => exact rfl); (case hax => (dsimp only [List.eraseIdx]; k_mem)); (case hP => assumption); (case htn => exact rfl); (case htm => k_mem); (case htd => exact rfl); (case hhn => exact rfl); (case hhm => k_mem); (case hhd => exact rfl); (case hal => assumption); (case hRl => assumption); (all_goals first | (intro i9 x9 t9 u9 vs9 n9 h9 tk9 I9 hi9 hR9 hz9 hI9 hl9 hp9 F9 itO9 hit9 N9; (try dsimp only [List.eraseIdx] at N9 hI9 ⊢); (have hJ9 := hI9); (try k_lt hJ9); (have hm9 := hl9); (try simp only [List.length_cons, List.length_nil] at hm9 hi9); (try k_fold)) | (intro u9 vs9 n9 h9 tk9 hl9 hp9 F9 N9; (try dsimp only [List.eraseIdx] at N9); (try dsimp only); (try k_fold)))) | (refine' loop_sign (Str.ofString "texts") (Str.ofString "tails") (Str.ofString "hours") [Str.ofString "sign", Str.ofString "head", Str.ofString "tail"] 3 ?htx ?htn ?htm ?htd ?hhn ?hhm ?hhd ?hh ?F ?N ?hm ?hk ?hd ?hal ?hRl ?hX ?hax ?hP ?_ ?_; (case F => k_asm); (case N => k_asm); (case htx => exact rfl); (case hh => exact rfl); (case hm => k_mem); (case hk => first | exact .inl rfl | exact .inr rfl); (case hd => exact rfl); (case hX => exact rfl); (case hax => (dsimp only [List.eraseIdx]; k_mem)); (case hP => assumption); (case htn => exact rfl); (case htm => k_mem); (case htd => exact rfl); (case hhn => exact rfl); (case hhm => k_mem); (case hhd => exact rfl); (case hal => assumption); (case hRl => assumption); (all_goals first | (intro i9 x9 t9 u9 vs9 n9 h9 tk9 I9 hi9 hR9 hz9 hI9 hl9 hp9 F9 itO9 hit9 N9; (try dsimp only [List.eraseIdx] at N9 hI9 ⊢); (have hJ9 := hI9); (try k_lt hJ9); (have hm9 := hl9); (try simp only [List.length_cons, List.length_nil] at hm9 hi9); (try k_fold)) | (intro u9 vs9 n9 h9 tk9 hl9 hp9 F9 N9; (try dsimp only [List.eraseIdx] at N9); (try dsimp only); (try k_fold)))) | (refine' loop_sign (Str.ofString "texts") (Str.ofString "tails") (Str.ofString "hours") [Str.ofString "sign", Str.ofString "head", Str.ofString "tail"] 9 ?htx ?htn ?htm ?htd ?hhn ?hhm ?hhd ?hh ?F ?N ?hm ?hk ?hd ?hal ?hRl ?hX ?hax ?hP ?_ ?_; (case F => k_asm); (case N => k_asm); (case htx => exact rfl); (case hh => exact rfl); (case hm => k_mem); (case hk => first | exact .inl rfl | exact .inr rfl); (case hd => exact rfl); (case hX => exact rfl); (case hax => (dsimp only [List.eraseIdx]; k_mem)); (case hP => assumption); (case htn => exact rfl); (case htm => k_mem); (case htd => exact rfl); (case hhn => exact rfl); (case hhm => k_mem); (case hhd => exact rfl); (case hal => assumption); (case hRl => assumption); (all_goals first | (intro i9 x9 t9 u9 vs9 n9 h9 tk9 I9 hi9 hR9 hz9 hI9 hl9 hp9 F9 itO9 hit9 N9; (try dsimp only [List.eraseIdx] at N9 hI9 ⊢); (have hJ9 := hI9); (try k_lt hJ9); (have hm9 := hl9); (try simp only [List.length_cons, List.length_nil] at hm9 hi9); (try k_fold)) | (intro u9 vs9 n9 h9 tk9 hl9 hp9 F9 N9; (try dsimp only [List.eraseIdx] at N9); (try dsimp only); (try k_fold)))))))
local macro_rules | `(tactic| walk_at "pyIter ref") => `(tactic| (k_here; (with_reducible show wpAny _ _ (pyIter (Value.ref _)) (fun it s₂ => TurnsAt _ _ _ _ _ (Expr.Tuple _ _ _) _ _ _ it s₂) _ _); k_dflt (refine' loop_pairs_grow (Str.ofString "texts") (Str.ofString "signs") [Str.ofString "hour", Str.ofString "minute", Str.ofString "hours", Str.ofString "tails", Str.ofString "sign", Str.ofString "head", Str.ofString "tail"] ?hcl ?hB ?hPV ?htx ?hsx ?hh ?F ?N ?hsd ?_ ?_; (case F => k_asm); (case N => k_asm); (case hcl => assumption); (case hB => assumption); (case hPV => assumption); (case htx => exact rfl); (case hsx => exact rfl); (case hh => exact rfl); (case hsd => exact rfl); (all_goals first
  | (intro i9 T9 a9 b9 ta9 tb9 u9 vs9 n9 h9 tk9 I9 hps9 hin9 ha0 ha1 hb0 hb1 hI9 hl9 hq9 hp9 F9 itO9 hit9 N9 hT9; (have hJ9 := hI9); (try k_lt hJ9); (try dsimp only); (try k_fold))
  | (intro u9 vs9 n9 h9 tk9 hl9 hp9 F9 N9; (try dsimp only); (try k_fold))))))
local macro_rules | `(tactic| walk_at "call builtin:list.append") => `(tactic| (k_here; k_dflt (refine' append_K ?k1 ?k2 ?k3 ?_ ?z; (case k1 => k_asm); (case k2 => k_asm); (case k3 => k_upd); (case z => (simp only [Array.size_push, List.size_toArray]; rw [sizeLine_eq]; omega)); k_whole); intro h' F' N'; (try k_sweep)))
local macro_rules | `(tactic| walk_at "wend0") => `(tactic| (refine' unr_end2 ?f (by assumption) ?hs (below_head ?bh) ⟨?sub, Grown.intro ?nm (subL_self _) ?len ?all⟩; (case hs => (repeat' (first | (intro q hq; (repeat (first | (with_reducible exact hq) | (apply List.mem_cons_of_mem))); done) | refine List.forall_mem_cons.mpr ⟨by k_mem, ?_⟩))); (case bh => assumption); (case f => k_asm); (case sub => k_subL); (case nm => (intro y hy; simp only [List.mem_cons, List.not_mem_nil, or_false, not_or] at hy; simp only [mask, hy, if_false]))))
local macro_rules | `(tactic| walk_at "wend_tail") => `(tactic| ((with_reducible rename News _ _ _ _ => NN); simp only [List.push_toArray] at NN; walk_at "wend0"; (case len => (simp only [List.length_append, List.length_cons, List.length_nil]; omega)); (case all => exact AllStr.push (AllStr.push (by assumption) (Clos.go (by assumption) (by assumption) (by assumption) (by assumption) (by assumption)).1) (Clos.go (by assumption) (by assumption) (by assumption) (by assumption) (by assumption)).2)))
local macro_rules | `(tactic| walk_at "wend_step") => `(tactic| (walk_at "wend0"; (case len => exact len_step (by assumption) (by assumption)); (case all => assumption)))
local macro_rules | `(tactic| walk_at "wend_pairs") => `(tactic| (walk_at "wend0"; (case len => (rw [lenTo_succ (by assumption)]; unfold c2; simp only [if_pos, if_neg, if_false, if_true, List.length_cons, List.length_nil, *]; omega)); (case all => assumption)))
theorem written_claim {w : World} {lp T1 T2 sA : Addr} {o1 o2 : Obj} {pvs svs : List Value} {ps : List (Int × Int)} {k : Nat} {P RS : Str → Prop} {news : List (Addr × Obj)}
    (hcl : Clos P RS ps) (hPV : PairVals pvs ps [(T1, o1), (T2, o2)]) (hsv : AllStr RS svs) (hsl : ∀ x, RS x → x.length ≤ 20) (hs3 : svs.length ≤ 3) (hB : ∀ i, lenTo ps svs.length i ≤ 1000) (hap : lp < T1 ∧ lp < T2 ∧ sA < lp) :
  ∀ {p : Program} {loose : List Str} {mean : ExcName → Option Value} {mg mb : Str → Option Value}
    {dp un : Nat} {gd : Option (List Code)} {cn : Str} {cs : Scope} {a : Addr} {ccd : Value} {cl : List (Str × Addr)} {outer : List Env} {A₀ : Around} {base h₀ : Heap} {L : Addr} {m : Str → Option Value} {s : Shared} {Q E : Value → Shared → Prop},
    Below A₀ base outer h₀ → Fr h₀ L s.heap m → (gqHead.heap_39 w.params).In h₀ → News h₀ L s.heap ((lp, listOf pvs.toArray k) :: (T1, o1) :: (T2, o2) :: (sA, { cls := .type "tuple", data := .seq svs.toArray }) :: news) → Top p loose mean mg mb h₀ → cs.kind = .function →
    dp + 3 < recursionLimit → un + 15 < cLine →
    (∀ (X : Addr) (vs : List Value) (n : Nat) (h' : Heap) (tk' : Nat), Fr h₀ L h' m → News h₀ L h' ((X, listOf vs.toArray n) :: (lp, listOf pvs.toArray k) :: (T1, o1) :: (T2, o2) :: (sA, { cls := .type "tuple", data := .seq svs.toArray }) :: news) →
        (∀ q ∈ (lp, listOf pvs.toArray k) :: (T1, o1) :: (T2, o2) :: (sA, ({ cls := .type "tuple", data := .seq svs.toArray } : Obj)) :: news, q.1 < X) → vs.length = lenTo ps svs.length ps.length → AllStr P vs → Q (.ref X) { s with heap := h', toks := tk' }) →
      wpAny (model gqP w) (ktrTop dp un gd cn cs L a ccd cl outer) (call (.ref 138) [.ref lp, .ref sA]) Q E s := by
  intro p loose mean mg mb dp un gd cn cs a ccd cl outer A₀ base h₀ L m s Q E B F X N TT hk hd hu hret
  refine wpAny_call ?_
  k_dflt cell_enter
  k_steps
  · walk_at "wend_tail"
  · walk_at "wend_step"
  · walk_at "wend_step"
  · walk_at "wend_pairs"
  · walk_at "wend_tail"
  · walk_at "wend_step"
  · walk_at "wend_step"
  · walk_at "wend_pairs"
  · walk_at "wend_tail"
  · walk_at "wend_step"
  · walk_at "wend_step"
  · walk_at "wend_pairs"
  · walk_at "wend_tail"
  · walk_at "wend_step"
  · walk_at "wend_step"
  · walk_at "wend_pairs"
  · refine hret _ _ _ _ _ (by k_asm) (by k_asm) ?_ (by assumption) (by assumption)
    exact below5 (by assumption)
end Mine
end
section
open PySem PySem.W PySem.Spec PySem.Calls PyProof.Rows
set_option Elab.async false
namespace Mine
set_option maxRecDepth 100000
set_option maxHeartbeats 8000000

theorem none_of (w : World) {t : Str} (ht : t.length ≤ 600) (hl : ∀ c ∈ t.cps.toList, c < 97) (hn : isName t = false) (hz : tells (endOf t.cps) = some none) : OffClaim w t none ∧ StrClaim w t none := by
  have h1 : OffClaim w t none := off_none w t ht hn _ 400 (by decide) rfl (failed_of hz)
  exact ⟨h1, str_none w t ht (by rw [upper_same hl]; exact h1)⟩
theorem bads : ∀ pre ∈ [[32], [43, 45]], ∀ sg ∈ [[], [43], [45]], ∀ hl ∈ [1, 2], ∀ cl ∈ [0, 1], ∀ ml ∈ [0, 2], ∀ nl ∈ [0, 1],
    tells (endOf (pre ++ piece sg (zs hl) cl (zs ml) nl).toArray) = some none := by decide +kernel
theorem zA_bad {pre sg H M : List Nat} {cl nl : Nat} (hp : pre ∈ [[32], [43, 45]]) (hs : sg ∈ [[], [43], [45]]) (hH : Digits H) (hM : Digits M) : zA (pre ++ piece sg H cl M nl).toArray = (pre ++ piece sg (zs H.length) cl (zs M.length) nl).toArray := by
  have e0 : pre.map dz = pre := by
    simp only [List.mem_cons, List.not_mem_nil, or_false] at hp
    rcases hp with rfl | rfl <;> rfl
  have e1 : sg.map dz = sg := by
    simp only [List.mem_cons, List.not_mem_nil, or_false] at hs
    rcases hs with rfl | rfl | rfl <;> rfl
  unfold zA piece
  simp only [List.map_toArray, List.map_append, e0, e1, dz_digits hH, dz_digits hM, List.map_replicate]
  rfl
theorem bad_off (w : World) {pre sg H M : List Nat} {cl nl : Nat} (hp : pre ∈ [[32], [43, 45]]) (hs : sg ∈ [[], [43], [45]]) (hH : Digits H) (hM : Digits M) (hl : H.length ∈ [1, 2]) (hc : cl ∈ [0, 1]) (hm : M.length ∈ [0, 2]) (hn : nl ∈ [0, 1]) :
    OffClaim w ⟨(pre ++ piece sg H cl M nl).toArray⟩ none ∧ StrClaim w ⟨(pre ++ piece sg H cl M nl).toArray⟩ none := by
  have h7 := text_len (sg := sg) (H := H) (cl := cl) (M := M) (nl := nl) hs hl hc hm hn
  have h7' : (piece sg H cl M nl).length ≤ 7 := by
    have : (textOf sg H cl M nl).length = (piece sg H cl M nl).length := by unfold textOf Str.length; simp
    omega
  have hp2 : pre.length ≤ 2 ∧ ∀ c ∈ pre, c < 97 := by
    simp only [List.mem_cons, List.not_mem_nil, or_false] at hp
    rcases hp with rfl | rfl <;> decide
  refine none_of w ?_ ?_ ?_ ?_
  · show (pre ++ piece sg H cl M nl).toArray.size ≤ 600
    rw [List.size_toArray, List.length_append]; omega
  · intro c hc
    rcases List.mem_append.mp hc with h | h
    · exact hp2.2 c h
    · exact text_low (cl := cl) (nl := nl) hs hH hM c h
  · cases H with
    | nil => simp at hl
    | cons c l =>
      refine noName_of (c := c) ?_ (by have := hH c (List.mem_cons_self ..); omega)
      unfold piece
      simp
  · rw [show (⟨(pre ++ piece sg H cl M nl).toArray⟩ : Str).cps = (pre ++ piece sg H cl M nl).toArray from rfl, tells_of _ (zA_bad hp hs hH hM)]
    exact bads pre hp sg hs _ hl cl hc _ hm nl hn

/-- what a text that law writes does -/
structure Fine (w : World) (due : Int) (x : Str) : Prop where
  len : x.length ≤ 20
  off : OffClaim w x (some due)
  str : StrClaim w x (some (946684800 - due))
  blank : OffClaim w (Str.ofString " " ++ x) none ∧ StrClaim w (Str.ofString " " ++ x) none
  signs : OffClaim w (Str.ofString "+-" ++ x) none ∧ StrClaim w (Str.ofString "+-" ++ x) none
theorem str_app (a b : List Nat) : (⟨(a ++ b).toArray⟩ : Str) = (⟨a.toArray⟩ : Str) ++ ⟨b.toArray⟩ := by
  show (⟨(a ++ b).toArray⟩ : Str) = ⟨a.toArray ++ b.toArray⟩
  rw [List.append_toArray]
theorem fine_text {w : World} {sg H M : List Nat} {cl nl : Nat} {i2 i3 : Int} (hs : sg ∈ [[], [43], [45]]) (hH : Digits H) (hM : Digits M) (hl : H.length ∈ [1, 2]) (hc : cl ∈ [0, 1]) (hm : M.length ∈ [0, 2]) (hn : nl ∈ [0, 1])
    (h2 : PySem.intText? ⟨H.toArray⟩ = some i2) (h2b : 0 ≤ i2 ∧ i2 ≤ 99) (h3 : if M.length = 0 then i3 = 0 else PySem.intText? ⟨M.toArray⟩ = some i3 ∧ 0 ≤ i3 ∧ i3 ≤ 99) :
    Fine w (sgn sg (3600 * i2 + 60 * i3)) (textOf sg H cl M nl) := by
  have h7 := text_len (sg := sg) (H := H) (cl := cl) (M := M) (nl := nl) hs hl hc hm hn
  have ho := good_off (w := w) (cl := cl) (nl := nl) hs hH hM hl hc hm hn h2 h2b h3
  refine ⟨by omega, ho, str_some w _ (by omega) _ (by rw [upper_same (text_low hs hH hM)]; exact ho), ?_, ?_⟩
  · have := bad_off w (pre := [32]) (by decide) hs hH hM hl hc hm hn
    rw [str_app] at this
    exact this
  · have := bad_off w (pre := [43, 45]) (by decide) hs hH hM hl hc hm hn
    rw [str_app] at this
    exact this

def signTexts (n : Int) (neg : Bool) : List Str := if n = 0 then [Str.ofString "", Str.ofString "+", Str.ofString "-"] else if neg then [Str.ofString "-"] else [Str.ofString "", Str.ofString "+"]
def dueOf (n : Int) (neg : Bool) : Int := if neg then -60 * n else 60 * n
theorem sign_shape {n : Int} {neg : Bool} {x : Str} (h : x ∈ signTexts n neg) : ∃ sg ∈ [[], [43], [45]], x = ⟨sg.toArray⟩ ∧ sgn sg (60 * n) = dueOf n neg := by
  unfold signTexts at h
  unfold sgn dueOf
  split at h
  · subst_vars
    simp only [List.mem_cons, List.not_mem_nil, or_false] at h
    rcases h with rfl | rfl | rfl
    · exact ⟨[], by decide, by decide, by simp⟩
    · exact ⟨[43], by decide, by decide, by simp⟩
    · exact ⟨[45], by decide, by decide, by simp⟩
  · split at h
    · simp only [List.mem_cons, List.not_mem_nil, or_false] at h
      subst h
      refine ⟨[45], by decide, by decide, ?_⟩
      rw [if_pos rfl, if_pos (by assumption)]; omega
    · simp only [List.mem_cons, List.not_mem_nil, or_false] at h
      rcases h with rfl | rfl
      · refine ⟨[], by decide, by decide, ?_⟩
        rw [if_neg (by decide), if_neg (by assumption)]
      · refine ⟨[43], by decide, by decide, ?_⟩
        rw [if_neg (by decide), if_neg (by assumption)]
theorem two_int {a : Int} (h0 : 0 ≤ a) (h1 : a ≤ 99) : PySem.intText? ⟨[48 + (a / 10).toNat, 48 + (a % 10).toNat].toArray⟩ = some a := by
  obtain ⟨k, rfl⟩ := Int.eq_ofNat_of_zero_le h0
  have := it2 ⟨k, by omega⟩
  rw [show ((k : Int) / 10).toNat = k / 10 by omega, show ((k : Int) % 10).toNat = k % 10 by omega]
  exact this
theorem one_tab : ∀ k : Fin 10, Str.ofString (toString ((k.val : Nat) : Int)) = ⟨#[48 + k.val]⟩ := by decide +kernel
theorem head_shape {a : Int} {x : Str} (h0 : 0 ≤ a) (h1 : a ≤ 99) (h : RH a x) : ∃ H, x = ⟨H.toArray⟩ ∧ Digits H ∧ H.length ∈ [1, 2] ∧ PySem.intText? ⟨H.toArray⟩ = some a := by
  rcases h with rfl | ⟨h, rfl⟩
  · refine ⟨[48 + (a / 10).toNat, 48 + (a % 10).toNat], rfl, ?_, by simp, two_int h0 h1⟩
    intro c hc
    simp only [List.mem_cons, List.not_mem_nil, or_false] at hc
    rcases hc with rfl | rfl <;> omega
  · obtain ⟨k, rfl⟩ := Int.eq_ofNat_of_zero_le h0
    refine ⟨[48 + k], one_tab ⟨k, by omega⟩, ?_, by simp, it1 ⟨k, by omega⟩⟩
    intro c hc
    simp only [List.mem_cons, List.not_mem_nil, or_false] at hc
    omega
theorem tail_shape {b : Int} {x : Str} (h0 : 0 ≤ b) (h1 : b ≤ 99) (h : RT b x) : ∃ cl ∈ [0, 1], ∃ M, x = ⟨(List.replicate cl 58 ++ M).toArray⟩ ∧ Digits M ∧ M.length ∈ [0, 2] ∧ if M.length = 0 then b = 0 else PySem.intText? ⟨M.toArray⟩ = some b ∧ 0 ≤ b ∧ b ≤ 99 := by
  have hd : Digits [48 + (b / 10).toNat, 48 + (b % 10).toNat] := by
    intro c hc
    simp only [List.mem_cons, List.not_mem_nil, or_false] at hc
    rcases hc with rfl | rfl <;> omega
  rcases h with rfl | rfl | ⟨rfl, rfl | rfl⟩
  · exact ⟨0, by decide, [48 + (b / 10).toNat, 48 + (b % 10).toNat], rfl, hd, by simp, ⟨two_int h0 h1, h0, h1⟩⟩
  · exact ⟨1, by decide, [48 + (b / 10).toNat, 48 + (b % 10).toNat], str_app [58] [48 + (b / 10).toNat, 48 + (b % 10).toNat] ▸ rfl, hd, by simp, ⟨two_int h0 h1, h0, h1⟩⟩
  · exact ⟨0, by decide, [], by decide, fun _ h => (nomatch h), by simp, rfl⟩
  · exact ⟨1, by decide, [], by decide, fun _ h => (nomatch h), by simp, rfl⟩
theorem text_parts (sg H M : List Nat) (cl : Nat) : (⟨sg.toArray⟩ : Str) ++ ⟨H.toArray⟩ ++ ⟨(List.replicate cl 58 ++ M).toArray⟩ = textOf sg H cl M 0 := by
  rw [← str_app, ← str_app]
  unfold textOf piece
  simp
theorem text_parts1 (sg H M : List Nat) (cl : Nat) : (⟨sg.toArray⟩ : Str) ++ ⟨H.toArray⟩ ++ ⟨(List.replicate cl 58 ++ M).toArray⟩ ++ Str.ofString "\n" = textOf sg H cl M 1 := by
  rw [show Str.ofString "\n" = ⟨[10].toArray⟩ by decide, ← str_app, ← str_app, ← str_app]
  unfold textOf piece
  simp
theorem pairs_sum {n a b : Int} (h0 : 0 ≤ n) (h1 : n < 6040) (h : (a, b) ∈ pairsOf n) : (0 ≤ a ∧ a ≤ 99) ∧ (0 ≤ b ∧ b ≤ 99) ∧ 60 * a + b = n := by
  have d1 := PyProof.Rows.fdiv_fmod_facts n 60
  unfold pairsOf at h
  rcases List.mem_append.mp h with h | h
  · split at h
    · obtain ⟨rfl, rfl⟩ := Prod.mk.inj (List.mem_singleton.mp h)
      omega
    · exact nomatch h
  · split at h
    · obtain ⟨rfl, rfl⟩ := Prod.mk.inj (List.mem_singleton.mp h)
      omega
    · exact nomatch h
theorem clos_of (w : World) {n : Int} {neg : Bool} (h0 : 0 ≤ n) (h1 : n < 6040) : Clos (Fine w (dueOf n neg)) (fun x => x ∈ signTexts n neg) (pairsOf n) := by
  intro a b hab
  obtain ⟨ha, hb, hs⟩ := pairs_sum h0 h1 hab
  refine ⟨ha, hb, ?_⟩
  intro sg hsg hd hhd tl htl
  obtain ⟨sgl, hm, rfl, hdue⟩ := sign_shape hsg
  obtain ⟨H, rfl, hH, hHl, hHi⟩ := head_shape ha.1 ha.2 hhd
  obtain ⟨cl, hc, M, rfl, hM, hMl, hMi⟩ := tail_shape hb.1 hb.2 htl
  have e : dueOf n neg = sgn sgl (3600 * a + 60 * b) := by rw [← hdue]; congr 1; omega
  rw [e]
  constructor
  · rw [text_parts]; exact fine_text hm hH hM hHl hc hMl (by decide) hHi ha hMi
  · rw [text_parts1]; exact fine_text hm hH hM hHl hc hMl (by decide) hHi ha hMi
theorem sign_len {n : Int} {neg : Bool} : ∀ x, x ∈ signTexts n neg → x.length ≤ 20 := by
  intro x hx
  obtain ⟨sg, hm, rfl, _⟩ := sign_shape hx
  show sg.toArray.size ≤ 20
  simp only [List.mem_cons, List.not_mem_nil, or_false] at hm
  rcases hm with rfl | rfl | rfl <;> decide
theorem pairs_len (n : Int) : (pairsOf n).length ≤ 2 := by
  unfold pairsOf; split <;> split <;> simp
theorem lenTo_bound {ps : List (Int × Int)} {ns : Nat} (hp : ps.length ≤ 2) (hn : ns ≤ 3) : ∀ i, lenTo ps ns i ≤ 1000 := by
  have key : ∀ l : List (Int × Int), (l.map fun p => 2 * ns * c2 p).sum ≤ 48 * l.length := by
    intro l
    induction l with
    | nil => simp
    | cons p r ih =>
      have : c2 p ≤ 8 := by unfold c2; split <;> split <;> decide
      have h2 : 2 * ns * c2 p ≤ 6 * 8 := Nat.mul_le_mul (by omega) this
      simp only [List.map_cons, List.sum_cons, List.length_cons]
      omega
  intro i
  have := key (ps.take i)
  have h3 : (ps.take i).length ≤ ps.length := by rw [List.length_take]; omega
  unfold lenTo
  omega
theorem c12 (p : Int × Int) : c1 p = ((c2 p : Nat) : Int) := by
  unfold c1 c2
  split <;> split <;> rfl
theorem len_cnt (ps : List (Int × Int)) (ns i : Nat) : ((lenTo ps ns i : Nat) : Int) = cntTo ps i * 2 * ns := by
  have key : ∀ l : List (Int × Int), (((l.map fun p => 2 * ns * c2 p).sum : Nat) : Int) = (l.map c1).sum * 2 * ns := by
    intro l
    induction l with
    | nil => simp
    | cons p r ih =>
      simp only [List.map_cons, List.sum_cons, c12]
      rw [Int.natCast_add, ih, Int.add_mul, Int.add_mul]
      push_cast
      have : (2 * (ns : Int) * (c2 p : Int)) = (c2 p : Int) * 2 * ns := by rw [Int.mul_comm, Int.mul_assoc]
      omega
  exact key _
theorem count_ok {n : Int} {neg : Bool} : countOf n neg = ((lenTo (pairsOf n) (signTexts n neg).length (pairsOf n).length : Nat) : Int) + (if n = 0 then 4 else 0) := by
  rw [len_cnt]
  unfold countOf signTexts
  by_cases h : n = 0
  · rw [if_pos h, if_pos h, if_pos h]; rfl
  · rw [if_neg h, if_neg h, if_neg h]
    cases neg
    · simp
    · simp
theorem one_bad (w : World) {n : Int} (h0 : 0 ≤ n) : OffClaim w (Str.ofString "1:" ++ Str.ofString (toString (n.fmod 10))) none ∧ StrClaim w (Str.ofString "1:" ++ Str.ofString (toString (n.fmod 10))) none := by
  have d1 := PyProof.Rows.fdiv_fmod_facts n 10
  obtain ⟨k, hk⟩ := Int.eq_ofNat_of_zero_le (show 0 ≤ n.fmod 10 by omega)
  rw [hk]
  have e := one_tab ⟨k, by omega⟩
  have e' : Str.ofString "1:" ++ Str.ofString (toString ((k : Nat) : Int)) = ⟨#[49, 58, 48 + k]⟩ := by
    rw [show Str.ofString (toString ((k : Nat) : Int)) = ⟨#[48 + k]⟩ from e]; rfl
  rw [e']
  refine none_of w (by show 3 ≤ 600; decide) ?_ (noName_of (c := 49) (by simp) (by decide)) ?_
  · intro c hc
    simp only [List.mem_cons, List.not_mem_nil, or_false] at hc
    omega
  · have hz : zA #[49, 58, 48 + k] = #[48, 58, 48] := by
      have : dz (48 + k) = 48 := by unfold dz; rw [if_pos (by omega)]
      unfold zA
      simp only [List.map_toArray, List.map_cons, List.map_nil, this]
      rfl
    show tells (endOf #[49, 58, 48 + k]) = _
    rw [tells_of _ hz]
    decide +kernel
theorem hour_tab : ∀ k : Fin 101, (Str.ofString (toString (((k.val : Nat) : Int) + 100)) ++ Str.ofString ":00").length ≤ 20 ∧ zA (Str.ofString (toString (((k.val : Nat) : Int) + 100)) ++ Str.ofString ":00").cps = #[48, 48, 48, 58, 48, 48] ∧
    (∀ c ∈ (Str.ofString (toString (((k.val : Nat) : Int) + 100)) ++ Str.ofString ":00").cps.toList, c < 97) ∧ 58 ∈ (Str.ofString (toString (((k.val : Nat) : Int) + 100)) ++ Str.ofString ":00").cps.toList ∧ (Str.ofString (toString (((k.val : Nat) : Int) + 100))).length ≤ 20 := by decide +kernel
theorem hour_bad (w : World) {n : Int} (h0 : 0 ≤ n) (h1 : n < 6040) : OffClaim w (Str.ofString (toString (n.fdiv 60 + 100)) ++ Str.ofString ":00") none ∧ StrClaim w (Str.ofString (toString (n.fdiv 60 + 100)) ++ Str.ofString ":00") none := by
  have d1 := PyProof.Rows.fdiv_fmod_facts n 60
  obtain ⟨k, hk⟩ := Int.eq_ofNat_of_zero_le (show 0 ≤ n.fdiv 60 by omega)
  rw [hk]
  obtain ⟨a1, a2, a3, a4, _⟩ := hour_tab ⟨k, by omega⟩
  refine none_of w (by have := a1; dsimp only at this; omega) a3 (noName_of (c := 58) a4 (by decide)) ?_
  rw [tells_of _ a2]
  decide +kernel
theorem hour_len {n : Int} (h0 : 0 ≤ n) (h1 : n < 6040) : (Str.ofString (toString (n.fdiv 60 + 100))).length ≤ 20 := by
  have d1 := PyProof.Rows.fdiv_fmod_facts n 60
  obtain ⟨k, hk⟩ := Int.eq_ofNat_of_zero_le (show 0 ≤ n.fdiv 60 by omega)
  rw [hk]
  exact (hour_tab ⟨k, by omega⟩).2.2.2.2
theorem one_len {n : Int} (h0 : 0 ≤ n) : (Str.ofString (toString (n.fmod 10))).length ≤ 20 := by
  have d1 := PyProof.Rows.fdiv_fmod_facts n 10
  obtain ⟨k, hk⟩ := Int.eq_ofNat_of_zero_le (show 0 ≤ n.fmod 10 by omega)
  rw [hk]
  exact toStr_len ⟨k, by omega⟩
/-- the four names -/
def nameTexts : List Str := [⟨#[71, 77, 84]⟩, ⟨#[85, 84, 67]⟩, ⟨#[85, 84]⟩, ⟨#[90]⟩]
theorem names_up : ∀ x ∈ nameTexts, Txt.upper x = x ∧ isName x = true ∧ x.length ≤ 20 := by decide +kernel
theorem names_low : ∀ x ∈ nameTexts, Txt.upper (Txt.lower x) = x ∧ isName (Txt.lower x) = false ∧ (Txt.lower x).length ≤ 20 ∧ tells (endOf (Txt.lower x).cps) = some none := by decide +kernel
theorem name_off (w : World) {x : Str} (h : x ∈ nameTexts) : OffClaim w x (some 0) ∧ StrClaim w x (some 946684800) := by
  obtain ⟨h1, h2, h3⟩ := names_up x h
  have ho := off_name w x (by omega) h2
  exact ⟨ho, str_some w x (by omega) 0 (by rw [h1]; exact ho)⟩
theorem name_low (w : World) {x : Str} (h : x ∈ nameTexts) : OffClaim w (Txt.lower x) none ∧ StrClaim w (Txt.lower x) (some 946684800) := by
  obtain ⟨h1, h2, h3⟩ := names_up x h
  obtain ⟨k1, k2, k3, k4⟩ := names_low x h
  exact ⟨off_none w _ (by omega) k2 _ 400 (by decide) rfl (failed_of k4), str_some w _ (by omega) 0 (by rw [k1]; exact (name_off w h).1)⟩
end Mine
end
section
open PySem PySem.W PySem.Spec PySem.Calls PyProof.Rows
set_option Elab.async false
namespace Mine
set_option maxRecDepth 100000
set_option maxHeartbeats 8000000
theorem fill10 (w : World) : (gqHead.heap_39 w.params = gqHead.heap_39 w.params) ∧ PySem.Challenge.rw_gq5001_01 = PySem.Challenge.rw_gq5001_01 := by
  w_top off
  k_fill
  exact ⟨rfl, rfl⟩
theorem names_in {w : World} {h : Heap} (X : (gqHead.heap_39 w.params).In h) : ∃ n, h.get? 117 = some { cls := .type "tuple", data := .seq #[.str ⟨#[71, 77, 84]⟩ 617, .str ⟨#[85, 84, 67]⟩ 618, .str ⟨#[85, 84]⟩ 619, .str ⟨#[90]⟩ 620] n } := ⟨_, X 117 _ (by k_is)⟩
theorem list_names {prog : Program} {w : World} {A : Around} {E : Value → Shared → Prop} {s : Shared} {h₀ : Heap} {L : Addr} {m : Str → Option Value} {news : List (Addr × Obj)} {Q : Value → Shared → Prop} (F : Fr h₀ L s.heap m) (N : News h₀ L s.heap news) (X : (gqHead.heap_39 w.params).In h₀)
    (h : ∀ D c h', Fr h₀ L h' m → News h₀ L h' ((D, listOf #[.str ⟨#[71, 77, 84]⟩ 617, .str ⟨#[85, 84, 67]⟩ 618, .str ⟨#[85, 84]⟩ 619, .str ⟨#[90]⟩ 620] c) :: news) → (∀ q ∈ news, q.1 < D) → Q (.ref D) { s with heap := h' }) : wpAny (model prog w) A (call (.type "list") [.ref 117]) Q E s := by
  obtain ⟨n, hn⟩ := names_in (X.keeps F.keep)
  exact list_copyKT F N ⟨_, hn, rfl, n, rfl⟩ (fun D c h' F' N' l1 => h D c h' F' N' l1) (by show 4 ≤ sizeLine; rw [sizeLine_eq]; decide)
theorem add_news {prog : Program} {w : World} {A : Around} {E : Value → Shared → Prop} {s : Shared} {h₀ : Heap} {L a b : Addr} {m : Str → Option Value} {news : List (Addr × Obj)} {Q : Value → Shared → Prop} {v : Value} {r ws : List Value} {n n2 : Nat} (F : Fr h₀ L s.heap m) (N : News h₀ L s.heap news) (ha : (a, listOf (v :: r).toArray n) ∈ news) (hb : (b, listOf ws.toArray n2) ∈ news)
    (hz : (v :: r).length + ws.length ≤ sizeLine)
    (h : ∀ D h', Fr h₀ L h' m → News h₀ L h' ((D, listOf (v :: (r ++ ws)).toArray 0) :: news) → (∀ p ∈ news, p.1 < D) → Q (.ref D) { s with heap := h' }) : wpAny (model prog w) A (binaryOp .Add (.ref a) (.ref b)) Q E s :=
  add_lists F N (N.isList ha) (N.isList hb) (fun h' F' N' => h _ h' F' N' fun p hp => Heap.lt_size (N p hp).1) hz
theorem len_app {prog : Program} {w : World} {A : Around} {E : Value → Shared → Prop} {s : Shared} {h₀ : Heap} {L l : Addr} {news : List (Addr × Obj)} {Q : Value → Shared → Prop} {v a b c d : Value} {r : List Value} {n : Nat} (N : News h₀ L s.heap news) (hm : (l, listOf (v :: (r ++ [a, b, c, d])).toArray n) ∈ news) (hz : r.length ≤ 1000)
    (h : Q (.int (((r.length : Nat) : Int) + 5) (s.toks + 1)) { s with toks := s.toks + 1 + 1 }) : wpAny (model prog w) A (call (.builtin "len") [.ref l]) Q E s :=
  kun_lenL (N.isList hm) (by simp only [List.size_toArray, List.length_cons, List.length_append, List.length_nil]; omega) (by omega) h
theorem len_one {prog : Program} {w : World} {A : Around} {E : Value → Shared → Prop} {s : Shared} {h₀ : Heap} {L l : Addr} {news : List (Addr × Obj)} {Q : Value → Shared → Prop} {v : Value} {r : List Value} {n : Nat} (N : News h₀ L s.heap news) (hm : (l, listOf (v :: r).toArray n) ∈ news) (hz : r.length ≤ 1000)
    (h : Q (.int (((r.length : Nat) : Int) + 1) (s.toks + 1)) { s with toks := s.toks + 1 + 1 }) : wpAny (model prog w) A (call (.builtin "len") [.ref l]) Q E s :=
  kun_lenL (N.isList hm) (by simp only [List.size_toArray, List.length_cons]; omega) (by omega) h


theorem bd1 (x : Int) : 0 ≤ x.fmod 6040 ∧ x.fmod 6040 < 6040 := by
  have := PyProof.Rows.fdiv_fmod_facts x 6040
  omega
theorem bd2 (x : Int) : 0 ≤ 60 * x.fmod 101 ∧ 60 * x.fmod 101 < 6040 := by
  have := PyProof.Rows.fdiv_fmod_facts x 101
  omega
/-- what an expression that gives an int leaves -/
def IntPost (h₀ : Heap) (L : Addr) (m : Str → Option Value) (news : List (Addr × Obj)) (s : Shared) (v : Value) (s' : Shared) : Prop :=
  ∃ c t h tk, v = .int c t ∧ s' = { s with heap := h, toks := tk } ∧ Fr h₀ L h m ∧ News h₀ L h news
/-- what a loop that keeps the ledger leaves -/
def Kept (xs : List Str) (m₀ : Str → Option Value) (rest : List (Addr × Obj)) (m₁ : Str → Option Value) (n₁ : List (Addr × Obj)) : Prop := ∃ u, m₁ = mask xs u m₀ ∧ SubL rest n₁
theorem Kept.intro {xs : List Str} {m₀ m' : Str → Option Value} {rest n' : List (Addr × Obj)} (h : ∀ y, y ∉ xs → m' y = m₀ y) (hs : SubL rest n') : Kept xs m₀ rest m' n' := ⟨m', mask_self h, hs⟩
def Good (w : World) (d : Int) (x : Str) : Prop := x.length ≤ 20 ∧ OffClaim w x (some d) ∧ StrClaim w x (some (946684800 - d))
section
variable {prog : Program} {w : World} {A : Around} {E : Value → Shared → Prop} {s : Shared} {env : Env} {h₀ : Heap}
theorem join_int {e : Expr} {m : Str → Option Value} {news : List (Addr × Obj)} {Q : Value → Shared → Prop} (F : Fr h₀ env.locals s.heap m) (N : News h₀ env.locals s.heap news)
    (first : wpAny (model prog w) A (eval e env) (IntPost h₀ env.locals m news s) E s)
    (next : ∀ c t h tk, Fr h₀ env.locals h m → News h₀ env.locals h news → Q (.int c t) { s with heap := h, toks := tk }) : wpAny (model prog w) A (eval e env) Q E s := by
  refine wpAny_mono first ?_ fun _ _ e => e
  rintro v s' ⟨c, t, h, tk, rfl, rfl, F', N'⟩
  exact next c t h tk F' N'
variable {target : Expr} {body : List Stmt} {Q : Flow → Shared → Prop}
theorem loop_cases {ax T1 T2 : Addr} {n1 n2 : Int} {t1 t2 : Tok} {b1 b2 : Bool} {k k1 k2 : Nat} {m₀ : Str → Option Value} {news : List (Addr × Obj)} (xs : List Str)
    (h1 : 0 ≤ n1 ∧ n1 < 6040) (h2 : 0 ≤ n2 ∧ n2 < 6040) (hh : A.handled = none) (F : Fr h₀ env.locals s.heap m₀) (N : News h₀ env.locals s.heap news)
    (hm : (ax, listOf #[.ref T1, .ref T2] k) ∈ news) (hT1 : (T1, ({ cls := .type "tuple", data := .seq #[.int n1 t1, .bool b1] k1 } : Obj)) ∈ news) (hT2 : (T2, ({ cls := .type "tuple", data := .seq #[.int n2 t2, .bool b2] k2 } : Obj)) ∈ news)
    (turn : ∀ n tn neg T u h tk I, 0 ≤ n → n < 6040 → (∀ p ∈ [(ax, listOf #[.ref T1, .ref T2] k), (T1, ({ cls := .type "tuple", data := .seq #[.int n1 t1, .bool b1] k1 } : Obj)), (T2, ({ cls := .type "tuple", data := .seq #[.int n2 t2, .bool b2] k2 } : Obj))], p.1 < I) → Fr h₀ env.locals h (mask xs u m₀) →
      ∀ itO : Obj, (itO.cls = .type "list_iterator" ∨ itO.cls = .type "tuple_iterator") → News h₀ env.locals h ((I, itO) :: [(ax, listOf #[.ref T1, .ref T2] k), (T1, ({ cls := .type "tuple", data := .seq #[.int n1 t1, .bool b1] k1 } : Obj)), (T2, ({ cls := .type "tuple", data := .seq #[.int n2 t2, .bool b2] k2 } : Obj))]) → IsTup h T #[.int n tn, .bool neg] →
      wpAny (model prog w) A (assign target env (.ref T)) (fun _ s₂ => wpAny (model prog w) A (execs body env) (UnrPostW h₀ env.locals { s with heap := h, toks := tk } [(I, itO)] (fun m' n₁ => SubL [(ax, listOf #[.ref T1, .ref T2] k)] n₁ ∧ Kept xs m₀ [(ax, listOf #[.ref T1, .ref T2] k), (T1, ({ cls := .type "tuple", data := .seq #[.int n1 t1, .bool b1] k1 } : Obj)), (T2, ({ cls := .type "tuple", data := .seq #[.int n2 t2, .bool b2] k2 } : Obj))] m' n₁) Q) E s₂) E { s with heap := h, toks := tk })
    (done : ∀ u h tk, Fr h₀ env.locals h (mask xs u m₀) → News h₀ env.locals h [(ax, listOf #[.ref T1, .ref T2] k), (T1, ({ cls := .type "tuple", data := .seq #[.int n1 t1, .bool b1] k1 } : Obj)), (T2, ({ cls := .type "tuple", data := .seq #[.int n2 t2, .bool b2] k2 } : Obj))] → Q .next { s with heap := h, toks := tk }) :
    wpAny (model prog w) A (pyIter (.ref ax)) (fun it s₂ => TurnsAt prog w A h₀ env target body Q E it s₂) E s := by
  refine iter_listTurns hh F N hm rfl (show (listOf #[.ref T1, .ref T2] k).data = .seq [.ref T1, .ref T2].toArray k from rfl) fun I hI => ?_
  have hsub : ∀ p ∈ [(ax, listOf #[.ref T1, .ref T2] k), (T1, ({ cls := .type "tuple", data := .seq #[.int n1 t1, .bool b1] k1 } : Obj)), (T2, ({ cls := .type "tuple", data := .seq #[.int n2 t2, .bool b2] k2 } : Obj))], p ∈ news := by
    intro p hp
    simp only [List.mem_cons, List.not_mem_nil, or_false] at hp
    rcases hp with rfl | rfl | rfl
    · exact hm
    · exact hT1
    · exact hT2
  refine items_go (fun _ m₁ n₁ => Kept xs m₀ [(ax, listOf #[.ref T1, .ref T2] k), (T1, ({ cls := .type "tuple", data := .seq #[.int n1 t1, .bool b1] k1 } : Obj)), (T2, ({ cls := .type "tuple", data := .seq #[.int n2 t2, .bool b2] k2 } : Obj))] m₁ n₁) (Kept.intro (fun _ _ => rfl) (subL_of hsub)) ?_ ?_
  · rintro i v m₁ n₁ h tk hv ⟨u, rfl, hs⟩ F₁
    refine AllObj.cons (fun o ho => AllObj.nil (fun N₁ => ?_))
    have N₂ : News h₀ env.locals h ((I, o) :: [(ax, listOf #[.ref T1, .ref T2] k), (T1, ({ cls := .type "tuple", data := .seq #[.int n1 t1, .bool b1] k1 } : Obj)), (T2, ({ cls := .type "tuple", data := .seq #[.int n2 t2, .bool b2] k2 } : Obj))]) := by
      intro p hp
      rcases List.mem_cons.mp hp with rfl | hp
      · exact N₁ _ (List.mem_append_left _ (List.mem_cons_self ..))
      · exact N₁ _ (List.mem_append_right _ (hs.mem p hp))
    have hb : ∀ p ∈ [(ax, listOf #[.ref T1, .ref T2] k), (T1, ({ cls := .type "tuple", data := .seq #[.int n1 t1, .bool b1] k1 } : Obj)), (T2, ({ cls := .type "tuple", data := .seq #[.int n2 t2, .bool b2] k2 } : Obj))], p.1 < I := fun p hp => hI p (hsub p hp)
    match i, hv with
    | 0, hv => cases hv; exact turn n1 t1 b1 T1 u h tk I h1.1 h1.2 hb F₁ o (.inl ho) N₂ (News.isTup N₂ (List.Mem.tail _ (List.Mem.tail _ (List.Mem.head _))))
    | 1, hv => cases hv; exact turn n2 t2 b2 T2 u h tk I h2.1 h2.2 hb F₁ o (.inl ho) N₂ (News.isTup N₂ (List.Mem.tail _ (List.Mem.tail _ (List.Mem.tail _ (List.Mem.head _)))))
  · rintro m₁ n₁ h tk ⟨u, rfl, hs⟩ F₁ N₁
    exact done u h tk F₁ fun p hp => N₁ p (hs.mem p hp)
theorem loop_found {ax : Addr} {lo : Obj} {all : List Value} {k : Nat} {m₀ : Str → Option Value} {news : List (Addr × Obj)} {d : Int} {t₀ : Tok} (x : Str) (xs : List Str)
    (hh : A.handled = none) (F : Fr h₀ env.locals s.heap m₀) (N : News h₀ env.locals s.heap news) (hm : (ax, lo) ∈ news)
    (hkind : (lo.cls = .type "list" ∨ lo.cls = .type "tuple")) (hd : lo.data = .seq all.toArray k) (hall : AllStr (Good w d) all) (hx : m₀ x = some (.int 0 t₀))
    (turn : ∀ i y ty u t h tk I, y.length ≤ 20 → OffClaim w y (some d) → StrClaim w y (some (946684800 - d)) → (∀ p ∈ news, p.1 < I) → Fr h₀ env.locals h (fun z => if z = x then some (.int ((i : Nat) : Int) t) else mask xs u m₀ z) →
      ∀ itO : Obj, (itO.cls = .type "list_iterator" ∨ itO.cls = .type "tuple_iterator") → News h₀ env.locals h ((I, itO) :: news) →
      wpAny (model prog w) A (assign target env (.str y ty)) (fun _ s₂ => wpAny (model prog w) A (execs body env) (UnrPostW h₀ env.locals { s with heap := h, toks := tk } [(I, itO)] (fun m' n₁ => SubL [(ax, lo)] n₁ ∧ Summed x xs m₀ news (fun i => ((i : Nat) : Int)) (i + 1) m' n₁) Q) E s₂) E { s with heap := h, toks := tk })
    (done : ∀ u t h tk, Fr h₀ env.locals h (fun z => if z = x then some (.int ((all.length : Nat) : Int) t) else mask xs u m₀ z) → News h₀ env.locals h news → Q .next { s with heap := h, toks := tk }) :
    wpAny (model prog w) A (pyIter (.ref ax)) (fun it s₂ => TurnsAt prog w A h₀ env target body Q E it s₂) E s := by
  refine loop_sum (rest := news) x xs (fun i => ((i : Nat) : Int)) hh F N hm hkind hd (subL_self _) hx rfl ?_ done
  intro i v u t h tk I hv hI F₁ itO hit N₁
  obtain ⟨y, ty, rfl, h1, h2, h3⟩ := hall v (List.mem_of_getElem? hv)
  exact turn i y ty u t h tk I h1 h2 h3 hI F₁ itO hit N₁
end
theorem str_use {w : World} {t : Str} {o : Option Int} (C : StrClaim w t o) {p : Program} {loose : List Str} {mean : ExcName → Option Value} {mg mb : Str → Option Value} {tk1 tk2 tk3 tk : Tok} {news : List (Addr × Obj)}
    {dp un : Nat} {gd : Option (List Code)} {cn : Str} {cs : Scope} {a : Addr} {ccd : Value} {cl : List (Str × Addr)} {outer : List Env} {A₀ : Around} {base h₀ : Heap} {L : Addr} {m : Str → Option Value} {s : Shared} {Q E : Value → Shared → Prop}
    (B : Below A₀ base outer h₀) (F : Fr h₀ L s.heap m) (X : (gqHead.heap_39 w.params).In h₀) (N : News h₀ L s.heap news) (T : Top p loose mean mg mb h₀) (hk : cs.kind = .function)
    (hd : dp + 4 < recursionLimit) (hu : un + 20 < cLine)
    (hret : ∀ (v : Value) (h' : Heap) (tk' : Nat), OutIntNone o v → Fr h₀ L h' m → News h₀ L h' news → Q v { s with heap := h', toks := tk' }) :
      wpAny (model gqP w) (ktrTop dp un gd cn cs L a ccd cl outer) (call (.ref 116) [.str (Str.ofString "1") tk1, .str (Str.ofString "Jan") tk2, .str (Str.ofString "2000") tk3, .none, .none, .none, .str t tk]) Q E s :=
  C _ _ _ _ _ _ _ _ _ _ _ _ _ _ _ _ _ _ _ _ _ _ _ _ _ _ _ B F X N T hk hd hu hret
theorem signs0 {n : Int} {neg : Bool} {t1 t2 t3 : Tok} (h : n = 0) : AllStr (fun x => x ∈ signTexts n neg) [.str (Str.ofString "") t1, .str (Str.ofString "+") t2, .str (Str.ofString "-") t3] ∧ [Value.str (Str.ofString "") t1, .str (Str.ofString "+") t2, .str (Str.ofString "-") t3].length = (signTexts n neg).length := by
  unfold signTexts
  rw [if_pos h]
  refine ⟨?_, rfl⟩
  intro v hv
  simp only [List.mem_cons, List.not_mem_nil, or_false] at hv
  rcases hv with rfl | rfl | rfl <;> exact ⟨_, _, rfl, by simp⟩
theorem signs1 {n : Int} {neg : Bool} {t1 : Tok} (h : ¬ n = 0) (hn : neg = true) : AllStr (fun x => x ∈ signTexts n neg) [.str (Str.ofString "-") t1] ∧ [Value.str (Str.ofString "-") t1].length = (signTexts n neg).length := by
  unfold signTexts
  rw [if_neg h, if_pos hn]
  refine ⟨?_, rfl⟩
  intro v hv
  simp only [List.mem_cons, List.not_mem_nil, or_false] at hv
  subst hv
  exact ⟨_, _, rfl, by simp⟩
theorem signs2 {n : Int} {neg : Bool} {t1 t2 : Tok} (h : ¬ n = 0) (hn : neg = false) : AllStr (fun x => x ∈ signTexts n neg) [.str (Str.ofString "") t1, .str (Str.ofString "+") t2] ∧ [Value.str (Str.ofString "") t1, .str (Str.ofString "+") t2].length = (signTexts n neg).length := by
  unfold signTexts
  rw [if_neg h, if_neg (by rw [hn]; decide)]
  refine ⟨?_, rfl⟩
  intro v hv
  simp only [List.mem_cons, List.not_mem_nil, or_false] at hv
  rcases hv with rfl | rfl <;> exact ⟨_, _, rfl, by simp⟩
theorem signTexts_len (n : Int) (neg : Bool) : 1 ≤ (signTexts n neg).length ∧ (signTexts n neg).length ≤ 3 := by
  unfold signTexts
  split
  · decide
  · split <;> decide
theorem Fine.good {w : World} {d : Int} {x : Str} (h : Fine w d x) : Good w d x := ⟨h.len, h.off, h.str⟩
theorem hap_of {sA l T1 T2 : Addr} {o : Obj} {news : List (Addr × Obj)} (h : ∀ q ∈ (sA, o) :: news, q.1 < l ∧ q.1 < T1 ∧ q.1 < T2) (h2 : l < T1 ∧ l < T2) : l < T1 ∧ l < T2 ∧ sA < l := ⟨h2.1, h2.2, (h _ (List.mem_cons_self ..)).1⟩
theorem written_out {w : World} {n : Int} {neg : Bool} {vs svs : List Value} (h0 : 0 ≤ n) (h1 : n < 6040) (hP : AllStr (Fine w (dueOf n neg)) vs) (hl : vs.length = lenTo (pairsOf n) svs.length (pairsOf n).length) (hs : svs.length = (signTexts n neg).length) :
    ∃ x0 t0 vs', vs = .str x0 t0 :: vs' ∧ Fine w (dueOf n neg) x0 ∧ AllStr (Good w (dueOf n neg)) (.str x0 t0 :: vs') ∧ (neg = true → dueOf n neg = -60 * n) ∧ (neg = false → dueOf n neg = 60 * n) ∧
      (n = 0 → countOf n neg = ((vs'.length : Nat) : Int) + 5) ∧ (¬ n = 0 → countOf n neg = ((vs'.length : Nat) : Int) + 1) ∧ vs'.length ≤ 1000 ∧
      (OffClaim w (Str.ofString "1:" ++ Str.ofString (toString (n.fmod 10))) none ∧ StrClaim w (Str.ofString "1:" ++ Str.ofString (toString (n.fmod 10))) none) ∧ (OffClaim w (Str.ofString (toString (n.fdiv 60 + 100)) ++ Str.ofString ":00") none ∧ StrClaim w (Str.ofString (toString (n.fdiv 60 + 100)) ++ Str.ofString ":00") none) ∧
      (Str.ofString (toString (n.fmod 10))).length ≤ 20 ∧ (Str.ofString (toString (n.fdiv 60 + 100))).length ≤ 20 := by
  have hcount := count_ok (n := n) (neg := neg)
  rw [← hs, ← hl] at hcount
  have hpos : 0 < vs.length := by
    rw [hl, hs]
    have hns := signTexts_len n neg
    have d1 := PyProof.Rows.fdiv_fmod_facts n 60
    have : 0 < (pairsOf n).length := by
      unfold pairsOf
      by_cases hc : n.fdiv 60 ≤ 99
      · rw [if_pos hc]; simp
      · rw [if_neg hc, if_pos ⟨by omega, by omega⟩]; simp
    obtain ⟨p, r, hp⟩ : ∃ p r, pairsOf n = p :: r := by
      cases h : pairsOf n with
      | nil => rw [h] at this; exact absurd this (by decide)
      | cons p r => exact ⟨p, r, rfl⟩
    rw [hp]
    unfold lenTo
    rw [List.take_length, List.map_cons, List.sum_cons]
    have hc : 0 < c2 p := by unfold c2; split <;> split <;> decide
    have := Nat.mul_pos (show 0 < 2 * (signTexts n neg).length by omega) hc
    omega
  have hb : vs.length ≤ 1000 := by
    rw [hl, hs]
    exact lenTo_bound (pairs_len n) (signTexts_len n neg).2 _
  cases vs with
  | nil => exact absurd hpos (by decide)
  | cons v vs' =>
    obtain ⟨x0, t0, rfl, hf⟩ := hP v (List.mem_cons_self ..)
    simp only [List.length_cons] at hcount hb
    refine ⟨x0, t0, vs', rfl, hf, fun v hv => ?_, fun h => by rw [h]; rfl, fun h => by rw [h]; rfl, fun h => by rw [hcount, if_pos h]; omega, fun h => by rw [hcount, if_neg h]; omega, by omega, one_bad w h0, hour_bad w h0 h1, one_len h0, hour_len h0 h1⟩
    obtain ⟨x, t, rfl, hx⟩ := hP v hv
    exact ⟨x, t, rfl, hx.good⟩
theorem names_good {w : World} {n : Int} {neg : Bool} {vs : List Value} {t1 t2 t3 t4 : Tok} (h : n = 0) (hv : AllStr (Good w (dueOf n neg)) vs) : AllStr (Good w (dueOf n neg)) (vs ++ [.str ⟨#[71, 77, 84]⟩ t1, .str ⟨#[85, 84, 67]⟩ t2, .str ⟨#[85, 84]⟩ t3, .str ⟨#[90]⟩ t4]) := by
  have hd : dueOf n neg = 0 := by unfold dueOf; rw [h]; cases neg <;> rfl
  have key : ∀ x ∈ nameTexts, Good w (dueOf n neg) x := by
    intro x hx
    rw [hd]
    exact ⟨(names_up x hx).2.2, (name_off w hx).1, (name_off w hx).2⟩
  intro v hm
  rcases List.mem_append.mp hm with hm | hm
  · exact hv v hm
  · simp only [List.mem_cons, List.not_mem_nil, or_false] at hm
    rcases hm with rfl | rfl | rfl | rfl <;> exact ⟨_, _, rfl, key _ (by simp [nameTexts])⟩
theorem names_good' {w : World} {n : Int} {neg : Bool} {v : Value} {r : List Value} {t1 t2 t3 t4 : Tok} (h : n = 0) (hv : AllStr (Good w (dueOf n neg)) (v :: r)) : AllStr (Good w (dueOf n neg)) (v :: (r ++ [.str ⟨#[71, 77, 84]⟩ t1, .str ⟨#[85, 84, 67]⟩ t2, .str ⟨#[85, 84]⟩ t3, .str ⟨#[90]⟩ t4])) := names_good (vs := v :: r) h hv
theorem low_all (w : World) : ((OffClaim w (Txt.lower ⟨#[71, 77, 84]⟩) none ∧ StrClaim w (Txt.lower ⟨#[71, 77, 84]⟩) (some 946684800)) ∧ (OffClaim w (Txt.lower ⟨#[85, 84, 67]⟩) none ∧ StrClaim w (Txt.lower ⟨#[85, 84, 67]⟩) (some 946684800))) ∧
    ((OffClaim w (Txt.lower ⟨#[85, 84]⟩) none ∧ StrClaim w (Txt.lower ⟨#[85, 84]⟩) (some 946684800)) ∧ (OffClaim w (Txt.lower ⟨#[90]⟩) none ∧ StrClaim w (Txt.lower ⟨#[90]⟩) (some 946684800))) :=
  ⟨⟨name_low w (by simp [nameTexts]), name_low w (by simp [nameTexts])⟩, ⟨name_low w (by simp [nameTexts]), name_low w (by simp [nameTexts])⟩⟩
end Mine
end
section
open PySem PySem.W PySem.Spec PySem.Calls PyProof.Rows
set_option Elab.async false
namespace Mine
set_option maxRecDepth 100000
set_option maxHeartbeats 8000000
theorem fill11 (w : World) : (gqHead.heap_39 w.params = gqHead.heap_39 w.params) ∧ PySem.Challenge.rw_gq5001_01 = PySem.Challenge.rw_gq5001_01 := by
  w_top off
  k_fill
  exact ⟨rfl, rfl⟩
theorem names_look (w : World) : ∃ n, (gqHead.heap_39 w.params).lookup 117 = some { cls := .type "tuple", data := .seq [Value.str ⟨#[71, 77, 84]⟩ 617, .str ⟨#[85, 84, 67]⟩ 618, .str ⟨#[85, 84]⟩ 619, .str ⟨#[90]⟩ 620].toArray n } := ⟨_, by k_is⟩
section
variable {prog : Program} {w : World} {A : Around} {E : Value → Shared → Prop} {s : Shared} {env : Env} {h₀ : Heap} {target : Expr} {body : List Stmt} {Q : Flow → Shared → Prop}
/-- the loop over the four names: one turn, told by what the small letters do -/
theorem loop_names {m₀ : Str → Option Value} {news : List (Addr × Obj)} (xs : List Str)
    (hh : A.handled = none) (F : Fr h₀ env.locals s.heap m₀) (N : News h₀ env.locals s.heap news) (X : (gqHead.heap_39 w.params).In h₀)
    (turn : ∀ y ty u h tk I, y.length ≤ 20 → OffClaim w (Txt.lower y) none → StrClaim w (Txt.lower y) (some 946684800) → (∀ p ∈ news, p.1 < I) → Fr h₀ env.locals h (mask xs u m₀) →
      ∀ itO : Obj, (itO.cls = .type "list_iterator" ∨ itO.cls = .type "tuple_iterator") → News h₀ env.locals h ((I, itO) :: news) →
      wpAny (model prog w) A (assign target env (.str y ty)) (fun _ s₂ => wpAny (model prog w) A (execs body env) (UnrPostW h₀ env.locals { s with heap := h, toks := tk } [(I, itO)] (fun m' n₁ => SubL [] n₁ ∧ Kept xs m₀ news m' n₁) Q) E s₂) E { s with heap := h, toks := tk })
    (done : ∀ u h tk, Fr h₀ env.locals h (mask xs u m₀) → News h₀ env.locals h news → Q .next { s with heap := h, toks := tk }) :
    wpAny (model prog w) A (pyIter (.ref 117)) (fun it s₂ => TurnsAt prog w A h₀ env target body Q E it s₂) E s := by
  obtain ⟨n, hn⟩ := names_look w
  refine iter_tupK hh F N X hn rfl rfl (by decide) fun I hI => ?_
  refine items_go (fun _ m₁ n₁ => Kept xs m₀ news m₁ n₁) (Kept.intro (fun _ _ => rfl) (subL_self _)) ?_ ?_
  · rintro i v m₁ n₁ h tk hv ⟨u, rfl, hs⟩ F₁
    refine AllObj.cons (fun o ho => AllObj.nil (fun N₁ => ?_))
    have N₂ : News h₀ env.locals h ((I, o) :: news) := by
      intro p hp
      rcases List.mem_cons.mp hp with rfl | hp
      · exact N₁ _ (List.mem_append_left _ (List.mem_cons_self ..))
      · exact N₁ _ (List.mem_append_right _ (hs.mem p hp))
    have low := low_all w
    match i, hv with
    | 0, hv => cases hv; exact turn _ _ u h tk I (by decide +kernel) low.1.1.1 low.1.1.2 hI F₁ o (.inr ho) N₂
    | 1, hv => cases hv; exact turn _ _ u h tk I (by decide +kernel) low.1.2.1 low.1.2.2 hI F₁ o (.inr ho) N₂
    | 2, hv => cases hv; exact turn _ _ u h tk I (by decide +kernel) low.2.1.1 low.2.1.2 hI F₁ o (.inr ho) N₂
    | 3, hv => cases hv; exact turn _ _ u h tk I (by decide +kernel) low.2.2.1 low.2.2.2 hI F₁ o (.inr ho) N₂
  · rintro m₁ n₁ h tk ⟨u, rfl, hs⟩ F₁ N₁
    exact done u h tk F₁ fun p hp => N₁ p (hs.mem p hp)
end
theorem bad1 {d x : Int} (h2 : 946684800 - d ≠ 946684800 - x) (h : d = x) : False := h2 (by rw [h])
theorem bad2 {n x : Int} {neg : Bool} (h2 : dueOf n neg ≠ x) (h : dueOf n neg = x) : False := h2 h
theorem bad3 {r : List Value} {c : Int} (h2 : ((r.length + (0 + 1 + 1 + 1 + 1) + 1 : Nat) : Int) ≠ c) (h : c = ((r.length : Nat) : Int) + 5) : False := by omega
theorem bad4 {r : List Value} (h2 : ((r.length + (0 + 1 + 1 + 1 + 1) + 1 : Nat) : Int) ≠ ((r.length : Nat) : Int) + 5) : False := by omega
theorem bad5 {r : List Value} {c : Int} (h2 : ((r.length + 1 : Nat) : Int) ≠ c) (h : c = ((r.length : Nat) : Int) + 1) : False := by omega
theorem bad6 {r : List Value} (h2 : ((r.length + 1 : Nat) : Int) ≠ ((r.length : Nat) : Int) + 1) : False := by omega
theorem ite_eq0 {n : Int} {P Q : Prop} (h : n = 0) (x : P) : if (n == 0) = true then P else Q := by rw [if_pos (by rw [h]; rfl)]; exact x
theorem ite_ne0 {n : Int} {P Q : Prop} (h : n ≠ 0) (x : Q) : if (n == 0) = true then P else Q := by rw [if_neg (by simpa using h)]; exact x
theorem ite_tt {b : Bool} {P Q : Prop} (h : b = true) (x : P) : if b = true then P else Q := by rw [if_pos h]; exact x
theorem ite_ff {b : Bool} {P Q : Prop} (h : b = false) (x : Q) : if b = true then P else Q := by rw [if_neg (by rw [h]; decide)]; exact x
end Mine
end
section
open PySem PySem.W PySem.Spec PySem.Calls PyProof.Rows
set_option Elab.async false
namespace Mine
set_option maxRecDepth 100000
set_option maxHeartbeats 8000000
/-- what the expression for due leaves -/
def DuePost (h₀ : Heap) (L : Addr) (m : Str → Option Value) (news : List (Addr × Obj)) (s : Shared) (d : Int) (v : Value) (s' : Shared) : Prop :=
  ∃ t h tk, v = .int d t ∧ s' = { s with heap := h, toks := tk } ∧ Fr h₀ L h m ∧ News h₀ L h news
/-- what the expression for signs leaves -/
def SignsPost (h₀ : Heap) (L : Addr) (m : Str → Option Value) (news : List (Addr × Obj)) (s : Shared) (n : Int) (neg : Bool) (v : Value) (s' : Shared) : Prop :=
  ∃ T svs h tk, v = .ref T ∧ s' = { s with heap := h, toks := tk } ∧ Fr h₀ L h m ∧ News h₀ L h ((T, { cls := .type "tuple", data := .seq svs.toArray }) :: news) ∧ (∀ p ∈ news, p.1 < T) ∧ AllStr (fun x => x ∈ signTexts n neg) svs ∧ svs.length = (signTexts n neg).length
def BadText (w : World) (y : Str) : Prop := OffClaim w y none ∧ StrClaim w y none
theorem bad_texts {w : World} {a b c d : Str} {ta tb tc td : Tok} (a1 : OffClaim w a none) (a2 : StrClaim w a none) (b1 : OffClaim w b none) (b2 : StrClaim w b none) (c1 : OffClaim w c none) (c2 : StrClaim w c none) (d1 : OffClaim w d none) (d2 : StrClaim w d none) :
    AllStr (BadText w) [.str a ta, .str b tb, .str c tc, .str d td] := by
  intro v hv
  simp only [List.mem_cons, List.not_mem_nil, or_false] at hv
  rcases hv with rfl | rfl | rfl | rfl
  · exact ⟨_, _, rfl, a1, a2⟩
  · exact ⟨_, _, rfl, b1, b2⟩
  · exact ⟨_, _, rfl, c1, c2⟩
  · exact ⟨_, _, rfl, d1, d2⟩
section
variable {h₀ h : Heap} {L : Addr} {m : Str → Option Value} {news all : List (Addr × Obj)} {s : Shared} {n : Int} {neg : Bool} {t : Tok} {tk : Nat}
theorem due_neg (hn : neg = true) (F : Fr h₀ L h m) (N : News h₀ L h all) (hs : ∀ p ∈ news, p ∈ all) : DuePost h₀ L m news s (dueOf n neg) (.int (-60 * n) t) { s with heap := h, toks := tk } :=
  ⟨t, h, tk, by rw [hn]; rfl, rfl, F, cb_drop N hs⟩
theorem due_pos (hn : neg = false) (F : Fr h₀ L h m) (N : News h₀ L h all) (hs : ∀ p ∈ news, p ∈ all) : DuePost h₀ L m news s (dueOf n neg) (.int (60 * n) t) { s with heap := h, toks := tk } :=
  ⟨t, h, tk, by rw [hn]; rfl, rfl, F, cb_drop N hs⟩
theorem signs_end {T : Addr} {svs : List Value} (F : Fr h₀ L h m) (N : News h₀ L h ((T, { cls := .type "tuple", data := .seq svs.toArray }) :: news)) (hl : ∀ p ∈ news, p.1 < T) (hs : AllStr (fun x => x ∈ signTexts n neg) svs ∧ svs.length = (signTexts n neg).length) :
    SignsPost h₀ L m news s n neg (.ref T) { s with heap := h, toks := tk } :=
  ⟨T, svs, h, tk, rfl, rfl, F, N, hl, hs.1, hs.2⟩
end
section
variable {prog : Program} {w : World} {A : Around} {E : Value → Shared → Prop} {s : Shared} {env : Env} {h₀ : Heap}
theorem join_due {e : Expr} {m : Str → Option Value} {news : List (Addr × Obj)} {Q : Value → Shared → Prop} {n : Int} {neg : Bool} {T : Addr} {hx : Heap} {tn : Tok} (hT : IsTup hx T #[.int n tn, .bool neg]) (F : Fr h₀ env.locals s.heap m) (N : News h₀ env.locals s.heap news)
    (first : wpAny (model prog w) A (eval e env) (DuePost h₀ env.locals m news s (dueOf n neg)) E s)
    (next : ∀ t h tk, Fr h₀ env.locals h m → News h₀ env.locals h news → Q (.int (dueOf n neg) t) { s with heap := h, toks := tk }) : wpAny (model prog w) A (eval e env) Q E s := by
  refine wpAny_mono first ?_ fun _ _ e => e
  rintro v s' ⟨t, h, tk, rfl, rfl, F', N'⟩
  exact next t h tk F' N'
theorem join_signs {e : Expr} {m : Str → Option Value} {news : List (Addr × Obj)} {Q : Value → Shared → Prop} {n : Int} {neg : Bool} {T : Addr} {hx : Heap} {tn : Tok} (hT : IsTup hx T #[.int n tn, .bool neg]) (F : Fr h₀ env.locals s.heap m) (N : News h₀ env.locals s.heap news)
    (first : wpAny (model prog w) A (eval e env) (SignsPost h₀ env.locals m news s n neg) E s)
    (next : ∀ T svs h tk, Fr h₀ env.locals h m → News h₀ env.locals h ((T, { cls := .type "tuple", data := .seq svs.toArray }) :: news) → (∀ p ∈ news, p.1 < T) → AllStr (fun x => x ∈ signTexts n neg) svs → svs.length = (signTexts n neg).length → svs.length ≤ 3 → Q (.ref T) { s with heap := h, toks := tk }) : wpAny (model prog w) A (eval e env) Q E s := by
  refine wpAny_mono first ?_ fun _ _ e => e
  rintro v s' ⟨T, svs, h, tk, rfl, rfl, F', N', hl, hs, hn⟩
  exact next T svs h tk F' N' hl hs hn (by rw [hn]; exact (signTexts_len n neg).2)
variable {target : Expr} {body : List Stmt} {Q : Flow → Shared → Prop}
/-- a loop over made texts that must fail -/
theorem loop_bad {ax : Addr} {lo : Obj} {all : List Value} {k : Nat} {m₀ : Str → Option Value} {news : List (Addr × Obj)} (xs : List Str)
    (hh : A.handled = none) (F : Fr h₀ env.locals s.heap m₀) (N : News h₀ env.locals s.heap news) (hm : (ax, lo) ∈ news)
    (hc : lo.cls = .type "list") (hd : lo.data = .seq all.toArray k) (hall : AllStr (BadText w) all)
    (turn : ∀ y ty u h tk I, OffClaim w y none → StrClaim w y none → (∀ p ∈ news, p.1 < I) → Fr h₀ env.locals h (mask xs u m₀) →
      ∀ itO : Obj, (itO.cls = .type "list_iterator" ∨ itO.cls = .type "tuple_iterator") → News h₀ env.locals h ((I, itO) :: news) →
      wpAny (model prog w) A (assign target env (.str y ty)) (fun _ s₂ => wpAny (model prog w) A (execs body env) (UnrPostW h₀ env.locals { s with heap := h, toks := tk } [(I, itO)] (fun m' n₁ => SubL [(ax, lo)] n₁ ∧ Kept xs m₀ news m' n₁) Q) E s₂) E { s with heap := h, toks := tk })
    (done : ∀ u h tk, Fr h₀ env.locals h (mask xs u m₀) → News h₀ env.locals h news → Q .next { s with heap := h, toks := tk }) :
    wpAny (model prog w) A (pyIter (.ref ax)) (fun it s₂ => TurnsAt prog w A h₀ env target body Q E it s₂) E s := by
  refine iter_listTurns hh F N hm hc hd fun I hI => ?_
  refine items_go (fun _ m₁ n₁ => Kept xs m₀ news m₁ n₁) (Kept.intro (fun _ _ => rfl) (subL_self _)) ?_ ?_
  · rintro i v m₁ n₁ h tk hv ⟨u, rfl, hs⟩ F₁
    refine AllObj.cons (fun o ho => AllObj.nil (fun N₁ => ?_))
    obtain ⟨y, ty, rfl, h1, h2⟩ := hall v (List.mem_of_getElem? hv)
    refine turn y ty u h tk I h1 h2 hI F₁ o (.inl ho) ?_
    intro p hp
    rcases List.mem_cons.mp hp with rfl | hp
    · exact N₁ _ (List.mem_append_left _ (List.mem_cons_self ..))
    · exact N₁ _ (List.mem_append_right _ (hs.mem p hp))
  · rintro m₁ n₁ h tk ⟨u, rfl, hs⟩ F₁ N₁
    exact done u h tk F₁ fun p hp => N₁ p (hs.mem p hp)
end
theorem bad0 {d : Int} (h : d ≠ d) : False := h rfl
theorem bad7 {n : Int} {r : List Value} {c : Int} (h2 : ((r.length + (0 + 1 + 1 + 1 + 1) + 1 : Nat) : Int) ≠ c) (h : n = 0 → c = ((r.length : Nat) : Int) + 5) (h0 : n = 0) : False := by
  have := h h0
  omega
theorem bad8 {n : Int} {r : List Value} {c : Int} (h2 : ((r.length + 1 : Nat) : Int) ≠ c) (h : ¬ n = 0 → c = ((r.length : Nat) : Int) + 1) (h0 : ¬ n = 0) : False := by
  have := h h0
  omega
end Mine
end
section
open PySem PySem.W PySem.Spec PySem.Calls PyProof.Rows
set_option Elab.async false
namespace Mine
set_option maxRecDepth 100000
set_option maxHeartbeats 40000000
local macro_rules | `(tactic| walk_at "isTrue BoolOp") => `(tactic| (k_here; k_gentoks))
local macro_rules | `(tactic| walk_at "isTrue Compare") => `(tactic| (k_here; k_gentoks))
local macro_rules | `(tactic| walk_at "exec For") => `(tactic| (k_here; k_gentoks))
local macro_rules | `(tactic| walk_at "execs cons") => `(tactic| (k_here; k_gentoks))
local macro_rules | `(tactic| walk_at "exec Assign") => `(tactic| (k_here; k_gentoks))
local macro_rules | `(tactic| walk_at "spliced") => `(tactic| (k_here; k_gentoks))
local macro_rules | `(tactic| walk_at "testChain") => `(tactic| (k_here; k_gentoks))
local macro_rules | `(tactic| walk_at "eval IfExp") => `(tactic| (k_here; k_gentoks))
local macro_rules | `(tactic| walk_at "eval IfExp") => `(tactic| (k_here; (with_reducible show wpAny _ _ (eval (Expr.IfExp (Expr.Compare _ [CmpOp.NotEq] _ _) _ _ _) _) _ _ _); (fail_if_success (with_reducible show wpAny _ _ (eval _ _) (IntPost _ _ _ _ _) _ _)); k_dflt (refine' join_int ?F ?N ?_ ?_; (case F => k_asm); (case N => k_asm); (all_goals first | (intro c9 t9 h9 tk9 F9 N9; (try dsimp only); (try k_fold)) | skip))))
local macro_rules | `(tactic| walk_at "eval IfExp") => `(tactic| (k_here; (with_reducible show wpAny _ _ (eval (Expr.IfExp (Expr.Name _ _) (Expr.BinOp _ _ _ _) _ _) _) _ _ _); (fail_if_success (with_reducible show wpAny _ _ (eval _ _) (DuePost _ _ _ _ _ _) _ _)); k_dflt (refine' join_due ?hT ?F ?N ?_ ?_; (case hT => with_reducible assumption); (case F => k_asm); (case N => k_asm); (all_goals first | (intro t9 h9 tk9 F9 N9; (try dsimp only); (try k_fold)) | skip))))
local macro_rules | `(tactic| walk_at "eval IfExp") => `(tactic| (k_here; (with_reducible show wpAny _ _ (eval (Expr.IfExp (Expr.Compare _ [CmpOp.Eq] _ _) (Expr.Tuple _ _ _) _ _) _) _ _ _); (fail_if_success (with_reducible show wpAny _ _ (eval _ _) (SignsPost _ _ _ _ _ _ _) _ _)); k_dflt (refine' join_signs ?hT ?F ?N ?_ ?_; (case hT => with_reducible assumption); (case F => k_asm); (case N => k_asm); (all_goals first | (intro T9 svs9 h9 tk9 F9 N9 lT9 hsv9 hsl9 hs39; (try k_lt lT9); (try dsimp only); (try k_fold)) | skip))))
local macro_rules | `(tactic| walk_at "pyIter ref") => `(tactic| (k_here; (with_reducible show wpAny _ _ (pyIter (Value.ref _)) (fun it s₂ => TurnsAt _ _ _ _ _ (Expr.Tuple _ _ _) _ _ _ it s₂) _ _); k_dflt (refine' loop_cases [Str.ofString "minutes", Str.ofString "negative", Str.ofString "due", Str.ofString "signs", Str.ofString "right", Str.ofString "found", Str.ofString "text", Str.ofString "told", Str.ofString "hour", Str.ofString "name"] ?h1 ?h2 ?hh ?F ?N ?hm ?hT1 ?hT2 ?_ ?_; (case F => k_asm); (case N => k_asm); (case hh => exact rfl); (case hm => k_mem); (case hT1 => k_mem); (case hT2 => k_mem); (case h1 => exact bd1 _); (case h2 => exact bd2 _); (all_goals first
  | (intro n9 tn9 neg9 T9 u9 h9 tk9 I9 hn0 hn1 hI9 F9 itO9 hit9 N9 hT9; (have hJ9 := hI9); (try k_lt hJ9); (try dsimp only); (try k_fold))
  | (intro u9 h9 tk9 F9 N9; (try dsimp only); (try k_fold))))))
local macro_rules | `(tactic| walk_at "call ref") => `(tactic| (k_here; (with_reducible show wpAny _ _ (call (Value.ref 131) _) _ _ _); k_dflt (refine' pairs_claim ?k0 ?k01 ?k1 ?k2 ?k3 ?k4 ?k5 ?k6 ?k7 ?k8 ?_; (case k0 => assumption); (case k01 => assumption); (case k1 => k_asm); (case k2 => k_asm); (case k3 => k_asm); (case k4 => k_asm); (case k5 => k_asm); (case k6 => first | assumption | exact rfl); (case k7 => ktr_room); (case k8 => ktr_units); intro l9 T8 T9 vs9 k9 o8 o9 h9 tk9 F9 N9 lt9 lu9 hPV; (have hap9 := hap_of lt9 lu9); (try dsimp only); (try k_fold))))
local macro_rules | `(tactic| walk_at "law_written") => `(tactic| (k_dflt (refine' written_claim ?hcl ?hPV ?hsv ?hsl ?hs3 ?hB ?hap ?k1 ?k2 ?k3 ?k4 ?k5 ?k6 ?k7 ?k8 ?_; (case k4 => k_asm); (case k1 => k_asm); (case k2 => k_asm); (case k3 => k_asm); (case k5 => k_asm); (case hPV => assumption); (case hcl => exact clos_of ‹World› (neg := ‹Bool›) (by assumption) (by assumption)); (case hsl => exact sign_len); (case hsv => with_reducible assumption); (case hs3 => with_reducible assumption); (case hB => exact lenTo_bound (pairs_len _) (by with_reducible assumption)); (case hap => assumption); (case k6 => first | assumption | exact rfl); (case k7 => ktr_room); (case k8 => ktr_units); intro X9 vs9 k9 h9 tk9 F9 N9 lX9 hl9 hP9; (obtain ⟨x9, t9, r9, e9, hf9, hg9, hd9, hd8, hc9, hc8, hb9, hw1, hw2, hw3, hw4⟩ := written_out (by assumption) (by assumption) hP9 hl9 (by with_reducible assumption)); subst e9; clear hd9 hd8 hP9 hl9; (have hq1 := hf9.len); (have hq2 := hf9.blank.1); (have hq3 := hf9.blank.2); (have hq4 := hf9.signs.1); (have hq5 := hf9.signs.2); (obtain ⟨hw5, hw6⟩ := hw1); (obtain ⟨hw7, hw8⟩ := hw2); (try dsimp only); (try k_fold))))
local macro_rules | `(tactic| walk_at "call ref") => `(tactic| (k_here; (with_reducible show wpAny _ _ (call (Value.ref 138) _) _ _ _); (walk_at "law_written")))
local macro_rules | `(tactic| walk_at "call type:list") => `(tactic| (k_here; (with_reducible show wpAny _ _ (call (Value.type "list") [Value.ref 117]) _ _ _); k_dflt (refine' list_names ?F ?N ?X ?_; (case F => k_asm); (case N => k_asm); (case X => k_asm)); intro D' c' h' F' N' l1; (try k_lt l1); (try k_sweep)))
local macro_rules | `(tactic| walk_at "binaryOp Add ref ref") => `(tactic| (k_here; k_dflt (refine' add_news ?F ?N ?a ?b ?z ?_; (case F => k_asm); (case N => k_asm); (case a => k_mem); (case b => k_mem); (case z => (simp only [List.length_cons, List.length_nil]; rw [sizeLine_eq]; omega))); intro D' h' F' N' l1; (try k_lt l1); (try k_sweep)))
local macro_rules | `(tactic| walk_at "law_found") => `(tactic| (k_dflt (refine' loop_found (Str.ofString "found") [Str.ofString "text", Str.ofString "told"] ?hh ?F ?N ?hm ?hk ?hd ?hall ?hx ?_ ?_; (case F => k_asm); (case N => k_asm); (case hx => exact rfl); (case hh => exact rfl); (case hm => k_mem); (case hk => first | exact .inl rfl | exact .inr rfl); (case hd => exact rfl); (case hall => first | (with_reducible assumption) | (refine' names_good' ?q1 ?q2; (case q2 => (with_reducible assumption)); (case q1 => (with_reducible assumption)))); (all_goals first
  | (intro i9 y9 ty9 u9 t9 h9 tk9 I9 hy9 ho9 hs9 hI9 F9 itO9 hit9 N9; (have hJ9 := hI9); (try k_lt hJ9); (try dsimp only); (try k_fold))
  | (intro u9 t9 h9 tk9 F9 N9; (try simp only [List.length_append, List.length_cons, List.length_nil] at F9); (try dsimp only); (try k_fold))))))
local macro_rules | `(tactic| walk_at "pyIter ref") => `(tactic| (k_here; (with_reducible show wpAny _ _ (pyIter (Value.ref _)) (fun it s₂ => TurnsAt _ _ _ _ _ (Expr.Name _ _) _ _ _ it s₂) _ _); (walk_at "law_found")))
local macro_rules | `(tactic| walk_at "call ref") => `(tactic| (k_here; (with_reducible show wpAny _ _ (call (Value.ref 145) _) _ _ _); k_dflt (refine' count_claim ?k0 ?k01 ?k1 ?k2 ?k3 ?k4 ?k5 ?k6 ?k7 ?k8 ?_; (case k0 => assumption); (case k01 => assumption); (case k1 => k_asm); (case k2 => k_asm); (case k3 => k_asm); (case k4 => k_asm); (case k5 => k_asm); (case k6 => first | assumption | exact rfl); (case k7 => ktr_room); (case k8 => ktr_units); intro t9 h9 tk9 F9 N9; (try dsimp only); (try k_fold))))
local macro_rules | `(tactic| walk_at "call ref") => `(tactic| (k_here; (with_reducible show wpAny _ _ (call (Value.ref 95) _) _ _ _); k_dflt (refine' off_use ?kC ?k1 ?k2 ?k3 ?k4 ?k5 ?k6 ?k7 ?k8 ?_; (case k1 => k_asm); (case k2 => k_asm); (case k3 => k_asm); (case k4 => k_asm); (case kC => first | assumption | exact (low_all _).1.1.1 | exact (low_all _).1.2.1 | exact (low_all _).2.1.1 | exact (low_all _).2.2.1); (case k5 => k_asm); (case k6 => first | assumption | exact rfl); (case k7 => ktr_room); (case k8 => ktr_units); intro v9 h9 tk9 ho9 F9 N9; (try dsimp only [OutIntNone] at ho9); (first | (obtain ⟨t9, ho9⟩ := ho9; subst ho9) | subst ho9); (try dsimp only); (try k_fold))))
local macro_rules | `(tactic| walk_at "call ref") => `(tactic| (k_here; (with_reducible show wpAny _ _ (call (Value.ref 116) _) _ _ _); k_dflt (refine' str_use ?kC ?k1 ?k2 ?k3 ?k4 ?k5 ?k6 ?k7 ?k8 ?_; (case k1 => k_asm); (case k2 => k_asm); (case k3 => k_asm); (case k4 => k_asm); (case kC => first | assumption | exact (low_all _).1.1.2 | exact (low_all _).1.2.2 | exact (low_all _).2.1.2 | exact (low_all _).2.2.2); (case k5 => k_asm); (case k6 => first | assumption | exact rfl); (case k7 => ktr_room); (case k8 => ktr_units); intro v9 h9 tk9 ho9 F9 N9; (try dsimp only [OutIntNone] at ho9); (first | (obtain ⟨t9, ho9⟩ := ho9; subst ho9) | subst ho9); (try dsimp only); (try k_fold))))
local macro_rules | `(tactic| walk_at "exec For Name Name cons nil") => `(tactic| (k_here; (rename Fr _ _ _ _ => lF'); (with_unfolding_all refine' For_turns lF' ?_; k_whole)))
local macro_rules | `(tactic| walk_at "exec For Name List cons nil") => `(tactic| (k_here; (rename Fr _ _ _ _ => lF'); (with_unfolding_all refine' For_turns lF' ?_; k_whole)))
local macro_rules | `(tactic| walk_at "call builtin:len") => `(tactic| (k_here; k_dflt (first
  | (refine' len_app ?N ?m ?z ?_; (case N => k_asm); (case m => k_mem); (case z => assumption); k_whole)
  | (refine' len_one ?N ?m ?z ?_; (case N => k_asm); (case m => k_mem); (case z => assumption); k_whole))))
local macro_rules | `(tactic| walk_at "pyIter ref") => `(tactic| (k_here; (with_reducible show wpAny _ _ (pyIter (Value.ref 117)) (fun it s₂ => TurnsAt _ _ _ _ _ (Expr.Name _ _) _ _ _ it s₂) _ _); k_dflt (refine' loop_names [Str.ofString "name"] ?hh ?F ?N ?X ?_ ?_; (case F => k_asm); (case N => k_asm); (case X => k_asm); (case hh => exact rfl); (all_goals first
  | (intro y9 ty9 u9 h9 tk9 I9 hy9 ho9 hs9 hI9 F9 itO9 hit9 N9; (have hJ9 := hI9); (try k_lt hJ9); (try dsimp only); (try k_fold))
  | (intro u9 h9 tk9 F9 N9; (try dsimp only); (try k_fold))))))
local macro_rules | `(tactic| walk_at "pyIter ref") => `(tactic| (k_here; (with_reducible show wpAny _ _ (pyIter (Value.ref _)) (fun it s₂ => TurnsAt _ _ _ _ _ (Expr.Name _ _) _ _ _ it s₂) _ _); k_dflt (refine' loop_bad [Str.ofString "text"] ?hh ?F ?N ?hm ?hc ?hd ?hall ?_ ?_; (case F => k_asm); (case N => k_asm); (case hm => k_mem); (case hc => exact rfl); (case hd => exact rfl); (case hall => (refine bad_texts ?_ ?_ ?_ ?_ ?_ ?_ ?_ ?_ <;> with_reducible assumption)); (case hh => exact rfl); (all_goals first
  | (intro y9 ty9 u9 h9 tk9 I9 ho9 hs9 hI9 F9 itO9 hit9 N9; (have hJ9 := hI9); (try k_lt hJ9); (try dsimp only); (try k_fold))
  | (intro u9 h9 tk9 F9 N9; (try dsimp only); (try k_fold))))))
local macro_rules | `(tactic| walk_at "ite") => `(tactic| first
  | (with_reducible refine ite_eq0 ?_ ?_; (with_reducible assumption); skip)
  | (with_reducible refine ite_ne0 ?_ ?_; (with_reducible assumption); skip)
  | (with_reducible refine ite_tt ?_ ?_; (with_reducible assumption); skip)
  | (with_reducible refine ite_ff ?_ ?_; (with_reducible assumption); skip))
local macro_rules | `(tactic| walk_at "Kept") => `(tactic| refine Kept.intro ?_ ?_; (intro y hy; (simp only [List.mem_cons, List.not_mem_nil, or_false, not_or] at hy); (simp only [hy, if_false, mask])); first | exact subL_self _ | k_subL)
local macro_rules | `(tactic| walk_at "Summed") => `(tactic| refine Summed.intro ?_ rfl ?_ ?_; (intro y hy; (simp only [List.mem_cons, List.not_mem_nil, or_false, not_or] at hy); (simp only [hy, if_false, mask])); omega; first | exact subL_self _ | k_subL)
local macro_rules | `(tactic| walk_at "law_unr") => `(tactic| (refine' unr_end2 ?f (by with_reducible assumption) ?hs ?bh ⟨?sub, Kept.intro ?nm (subL_self _)⟩; (case f => with_reducible assumption); (case bh => with_reducible assumption); (case hs => (repeat' (first | (intro q hq; (repeat (first | (with_reducible exact hq) | (apply List.mem_cons_of_mem))); done) | refine List.forall_mem_cons.mpr ⟨by k_mem, ?_⟩))); (case sub => first | exact True.intro | k_subL); (case nm => (intro y hy; simp only [List.mem_cons, List.not_mem_nil, or_false, not_or] at hy; simp only [mask, hy, if_false]))))
local macro_rules | `(tactic| walk_at "law_end") => `(tactic| first
  | ((with_reducible show GoodW _ _ _ _ _ (Except.ok (Flow.ret (Value.bool false))) _); exfalso; first
    | exact bad0 (by with_reducible assumption)
    | exact bad7 (by with_reducible assumption) (by with_reducible assumption) (by with_reducible assumption)
    | exact bad4 (by with_reducible assumption)
    | exact bad8 (by with_reducible assumption) (by with_reducible assumption) (by with_reducible assumption)
    | exact bad6 (by with_reducible assumption))
  | ((with_reducible show GoodW _ _ _ _ _ (Except.ok (Flow.ret (Value.bool true))) _); refine goodW_bool (by with_reducible assumption) (by with_reducible assumption) (raisesW_false ?_) ?_; (· wrow_none_raised); (· wrow_post))
  | ((with_reducible show UnrEndW _ _ _ _ _ _); walk_at "law_unr")
  | ((with_reducible show DuePost _ _ _ _ _ _ _ _); first
    | exact due_neg (by with_reducible assumption) (by k_asm) (by k_asm) (fun q hq => by repeat' (first | exact hq | refine List.mem_cons_of_mem _ ?_))
    | exact due_pos (by with_reducible assumption) (by k_asm) (by k_asm) (fun q hq => by repeat' (first | exact hq | refine List.mem_cons_of_mem _ ?_)))
  | ((with_reducible show SignsPost _ _ _ _ _ _ _ _ _); first
    | exact signs_end (by k_asm) (by k_asm) (by simp only [List.forall_mem_cons, List.not_mem_nil, false_implies, implies_true, and_true]; omega) (signs0 (by with_reducible assumption))
    | exact signs_end (by k_asm) (by k_asm) (by simp only [List.forall_mem_cons, List.not_mem_nil, false_implies, implies_true, and_true]; omega) (signs1 (by with_reducible assumption) (by with_reducible assumption))
    | exact signs_end (by k_asm) (by k_asm) (by simp only [List.forall_mem_cons, List.not_mem_nil, false_implies, implies_true, and_true]; omega) (signs2 (by with_reducible assumption) (by with_reducible assumption)))
  | ((with_reducible show IntPost _ _ _ _ _ _ _); exact ⟨_, _, _, _, rfl, rfl, by k_asm, cb_drop (by k_asm) (fun q hq => by repeat' (first | exact hq | refine List.mem_cons_of_mem _ ?_))⟩)
  | ((with_reducible show GoodW _ _ _ _ _ (Except.error _) _); exfalso; (have hne : ‹List Int› ≠ [] := by simpa using ‹decide (_ = []) = false›); (have hle := List.length_pos_iff.mpr hne); omega))
local macro_rules | `(tactic| walk_at "law_steps") => `(tactic| repeat' (first | (k_unfold; (try dsimp only)) | (walk_at "law_end") | (k_end; wrow_close) | walk1 | (dsimp only; walk1) | (leave1; walk_say "STEP leave1"; try dsimp only) | fail "no step"))
theorem law1 : PySem.Challenge.rw_gq5001_01.Holds := gqHead (by
  w_top off
  k_go0
  all_goals try k_fold
  walk_at "law_steps")
end Mine
end
theorem PySem.Challenge.cw_gq5001_01_holds : PySem.Challenge.rw_gq5001_01.Holds := by
  exact Mine.law1
