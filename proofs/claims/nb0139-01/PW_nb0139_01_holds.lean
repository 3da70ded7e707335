import PyProof.Rows.All
import Wide.All
import OpenK.AllK
import Wide.FinOn
import Lean
import PySem.Challenge.RW_nb0139_01
set_option Elab.async false
section
theorem Mine.fresh_Top1 : True := by
  w_top off
  k_with_none
  exact trivial
open PySem PySem.W PyProof.Rows
set_option maxRecDepth 100000
set_option maxHeartbeats 8000000
namespace Mine
open_top hd for PySem.Challenge.rw_nb0139_01
end Mine

end
section
theorem Mine.fresh_Sre1 : True := by
  w_top off
  k_with_none
  exact trivial
open PySem PySem.W PyProof.Rows PySem.Calls PySem.Builtin PySem.Builtin.Re
set_option maxRecDepth 100000
namespace Mine

theorem slot_search : Slot "re.Pattern" "search" "re.Pattern.search" :=
  .of (owner := "re.Pattern") (n := "search") (by rw [typeLookup_type, builtinLookup_eq_fast]; kernel_rfl) (by decide +kernel) (by decide +kernel) (by decide +kernel)
    (by first | exact .inl (by decide +kernel) | exact .inr (by decide +kernel)) (by rw [isSubtype_type]; kernel_rfl)
theorem entry_search : entryFor table "re.Pattern.search" = some Builtin.«re.Pattern.search» := entryFor_of_tree (by kernel_rfl)
theorem args_search (a b : Value) : argsOk "re.Pattern.search" ⟨[a, b], []⟩ := by unfold argsOk; kernel_rfl
theorem type_search : typeOf (.builtin "re.Pattern.search") = pure (.type "method_descriptor") := by show builtinType _ = _; rw [builtinType_eq_fast]; kernel_rfl
theorem pa_pattern : PlainAttrs "re.Pattern" :=
  ⟨⟨"object.__getattribute__", by rw [typeLookup_type, builtinLookup_eq_fast]; kernel_rfl, by decide +kernel⟩, by rw [typeLookup_type, builtinLookup_eq_fast]; kernel_rfl⟩
theorem slot_group : Slot "re.Match" "group" "re.Match.group" :=
  .of (owner := "re.Match") (n := "group") (by rw [typeLookup_type, builtinLookup_eq_fast]; kernel_rfl) (by decide +kernel) (by decide +kernel) (by decide +kernel)
    (by first | exact .inl (by decide +kernel) | exact .inr (by decide +kernel)) (by rw [isSubtype_type]; kernel_rfl)
theorem entry_group : entryFor table "re.Match.group" = some Builtin.«re.Match.group» := entryFor_of_tree (by kernel_rfl)
theorem args_group (a b : Value) : argsOk "re.Match.group" ⟨[a, b], []⟩ := by unfold argsOk; kernel_rfl
theorem type_group : typeOf (.builtin "re.Match.group") = pure (.type "method_descriptor") := by show builtinType _ = _; rw [builtinType_eq_fast]; kernel_rfl
theorem pa_match : PlainAttrs "re.Match" :=
  ⟨⟨"object.__getattribute__", by rw [typeLookup_type, builtinLookup_eq_fast]; kernel_rfl, by decide +kernel⟩, by rw [typeLookup_type, builtinLookup_eq_fast]; kernel_rfl⟩
theorem match_no_bool : typeLookup (.type "re.Match") "__bool__" = pure none := by rw [typeLookup_type, builtinLookup_eq_fast]; kernel_rfl
theorem match_no_len : typeLookup (.type "re.Match") "__len__" = pure none := by rw [typeLookup_type, builtinLookup_eq_fast]; kernel_rfl

section
variable {prog : Program} {w : World} {A : Around} {E : Value → Shared → Prop} {s : Shared}
theorem call_slot {T : String} {name : Str} {id : String} {B : Builtin} {self : Value} {rest : List Value} {Q : Value → Shared → Prop} (slot : Slot T name id) (hT : s.TypeIs self T)
    (entry : entryFor table id = some B) (args : argsOk id ⟨self :: rest, []⟩)
    (h : wpAny (model prog w) A.in1 (B ⟨self :: rest, []⟩) (fun fin s' => ∃ v, fin = .done (.ret v) ∧ Q v s') E s) :
    wpAny (model prog w) A (call (.builtin id) (self :: rest)) Q E s := by
  refine wpAny_call (codeAny_call_builtin slot.plain entry (slot.check _ _ _ _ _ _ _ _ hT args ?_))
  exact wpAny_mono h (fun fin s' h' => by obtain ⟨v, rfl, hv⟩ := h'; exact hv) fun _ _ h' => h'
end

theorem runFor_done (n : Nat) (m : Sre.M) (h : m.outcome.isSome = true) : m.runFor n = m := by
  cases n with
  | zero => rfl
  | succ n => simp only [Sre.M.runFor, h, if_true]
theorem runFor_add (a b : Nat) : ∀ m : Sre.M, m.runFor (a + b) = (m.runFor a).runFor b := by
  induction a with
  | zero => intro m; simp [Sre.M.runFor]
  | succ a ih =>
    intro m
    rw [Nat.succ_add]
    by_cases h : m.outcome.isSome = true
    · rw [runFor_done _ m h, runFor_done _ m h, runFor_done _ m h]
    · simp only [Sre.M.runFor, h, if_false, Bool.false_eq_true]
      exact ih _
section
variable {M : Model} {A : Around} {E : Value → Shared → Prop} {s : Shared}
theorem wpAny_reDrive {Q : Sre.M → Shared → Prop} : ∀ (N turns : Nat) (m : Sre.M), N < turns → (m.runFor (4 * N)).outcome.isSome = true → Q (m.runFor (4 * N)) s →
    wpAny M A (reDrive turns m) Q E s := by
  intro N
  induction N with
  | zero =>
    intro turns m hl ho hq
    obtain ⟨t, rfl⟩ : ∃ t, turns = t + 1 := ⟨turns - 1, by omega⟩
    have ho' : m.outcome.isSome = true := ho
    rw [reDrive]
    simp only [reTurnSteps, runFor_done _ m ho', ho', if_true]
    exact wpAny_pure hq
  | succ N ih =>
    intro turns m hl ho hq
    obtain ⟨t, rfl⟩ : ∃ t, turns = t + 1 := ⟨turns - 1, by omega⟩
    have e : 4 * (N + 1) = 4 + 4 * N := by omega
    rw [e, runFor_add] at ho hq
    rw [reDrive]
    simp only [reTurnSteps]
    by_cases h : (m.runFor 4).outcome.isSome = true
    · rw [runFor_done _ _ h] at hq
      simp only [h, if_true]
      exact wpAny_pure hq
    · simp only [h, if_false, Bool.false_eq_true]
      exact wpAny_bind (wpAny_rule (ih t _ (by omega) ho hq))
theorem wpAny_forIn_skip {α : Type} {f : α → PUnit → Sem (ForInStep PUnit)} {Q : PUnit → Shared → Prop}
    (hf : ∀ a, ∀ Q' : ForInStep PUnit → Shared → Prop, Q' (.yield ⟨⟩) s → wpAny M A (f a ⟨⟩) Q' E s) (h : Q ⟨⟩ s) : ∀ l : List α, wpAny M A (forIn l ⟨⟩ f) Q E s := by
  intro l
  induction l with
  | nil => exact wpAny_pure h
  | cons a l ih =>
    rw [List.forIn_cons]
    exact wpAny_bind (hf a _ ih)
theorem wpAny_reRunToEnd {Q : Option Sre.M → Shared → Prop} (N : Nat) (m : Sre.M) (hN : N < 2 ^ 64)
    (h : match (m.runFor (4 * N)).outcome with | some .matched => Q (some (m.runFor (4 * N))) s | some .failed => Q none s | _ => False) :
    wpAny M A (reRunToEnd m) Q E s := by
  unfold reRunToEnd
  have ho : (m.runFor (4 * N)).outcome.isSome = true := by
    split at h
    · rename_i e; rw [e]; rfl
    · rename_i e; rw [e]; rfl
    · exact h.elim
  refine wpAny_bind (wpAny_reDrive N (2 ^ 64) m hN ho ?_)
  generalize m.runFor (4 * N) = m' at h ho
  refine wpAny_bind (wpAny_forIn_skip (fun a Q' hq => ?_) ?_ _)
  · refine wpAny_ite ?_
    split
    · exact wpAny_bind (wpAny_rule (wpAny_pure hq))
    · exact wpAny_pure hq
  · split at h
    · rename_i e; simp only [e]; exact wpAny_pure h
    · rename_i e; simp only [e]; exact wpAny_pure h
    · exact h.elim
end
end Mine

end
section
theorem Mine.fresh_Sre2 : True := by
  w_top off
  k_with_none
  exact trivial
open PySem PySem.W PyProof.Rows PySem.Calls PySem.Builtin PySem.Builtin.Re
set_option maxRecDepth 100000
namespace Mine

/-- the spans that a match object keeps -/
def spansOf (groups : Nat) (m : Sre.M) : List Value := (List.range groups).flatMap fun g =>
    match if ((2 * g + 1 : Nat) : Int) ≤ m.lastmark then (m.marks.getD (2 * g) none, m.marks.getD (2 * g + 1) none) else (none, none) with
    | (some b, some e) => [rawInt b, rawInt e]
    | _ => [rawInt (-1), rawInt (-1)]
def spansBad (groups : Nat) (m : Sre.M) : Bool := (List.range groups).any (fun g => match m.marks.getD (2 * g) none, m.marks.getD (2 * g + 1) none with | some b, some e => ((2 * g + 1 : Nat) : Int) ≤ m.lastmark && e < b | _, _ => false)
def tzRun (code : Array Nat) (x : Str) (N : Nat) : Sre.M := (Sre.forSearch code x.cps 3 0 x.cps.size false).runFor (4 * N)
def matchObj (string pattern : Value) (x : Str) (m : Sre.M) (T : Addr) : Obj := { cls := .type "re.Match", data := .fields #[string, pattern, rawInt 0, rawInt x.cps.size, rawInt m.lastindex, .ref T] }
def spansObj (m : Sre.M) : Obj := { cls := .type "tuple", data := .seq (rawInt m.start :: rawInt m.handed :: spansOf 3 m).toArray }

theorem spansOf_length (m : Sre.M) : (spansOf 3 m).length = 6 := by
  have e : ∀ g : Nat, (match if ((2 * g + 1 : Nat) : Int) ≤ m.lastmark then (m.marks.getD (2 * g) none, m.marks.getD (2 * g + 1) none) else (none, none) with
    | (some b, some e) => [rawInt b, rawInt e]
    | _ => [rawInt (-1), rawInt (-1)]).length = 2 := by
    intro g
    split <;> rfl
  unfold spansOf
  rw [List.length_flatMap]
  show ((List.map _ [0, 1, 2]).sum) = 6
  simp only [List.map_cons, List.map_nil, List.sum_cons, List.sum_nil]
  have e0 := e 0
  have e1 := e 1
  have e2 := e 2
  omega
section
variable {prog : Program} {w : World} {A : Around} {E : Value → Shared → Prop} {s : Shared}
theorem search_target {Q : ReTarget → Shared → Prop} {P C : Addr} {o oc : Obj} {fs cv : Array Value} {n : Nat} {x : Str} {u : Tok} (ho : s.heap.get? P = some o) (hd : o.data = .fields fs)
    (h5 : fs.getD 5 .none = .ref C) (h2 : reRawNat (fs.getD 2 .none) = 3) (h6 : reRawNat (fs.getD 6 .none) = 0) (hc : s.heap.get? C = some oc) (hcd : oc.data = .seq cv n)
    (hx : x.length ≤ sizeLine)
    (h : Q { pattern := .ref P, string := .str x u, code := (cv.map reRawOf).map (·.toNat), text := x.cps, kind := 0, groups := 3, pos := 0, lim := x.cps.size } s) :
    wpAny (model prog w) A (reTarget "re.Pattern.search" "search" ⟨[.ref P, .str x u], []⟩) Q E s := by
  unfold reTarget
  have hn : reNamed "re.Pattern.search" "search" ["string", "pos", "endpos"] 1 [.str x u] [] = pure [some (.str x u), none, none] := rfl
  dsimp only
  rw [hn]
  refine wpAny_bind (wpAny_pure ?_)
  refine wpAny_bind (wpAny_pure ?_)
  refine wpAny_bind (wpAny_pure ?_)
  refine wpAny_bind (wpAny_fieldsOf ho hd ?_)
  refine wpAny_bind (m := reTextOf (.str x u)) ?_
  unfold reTextOf
  refine wpAny_bind (wpAny_pure ?_)
  refine wpAny_pure ?_
  dsimp only
  rw [h6, h2, h5]
  simp only [reNoCollectionInside]
  refine wpAny_bind (m := reRawItems (.ref C)) ?_
  refine wpAny_bind (wpAny_seqItems hc hcd (wpAny_pure (wpAny_pure ?_)))
  have hx' : x.cps.size ≤ 2 ^ 24 := hx
  have e1 : min (0 : Int).toNat x.cps.size = 0 := by simp
  have e2 : min ((2 : Int) ^ 63 - 1).toNat x.cps.size = x.cps.size := by
    have : ((2 : Int) ^ 63 - 1).toNat = 2 ^ 63 - 1 := by decide
    rw [this]
    have : (2 : Nat) ^ 24 ≤ 2 ^ 63 - 1 := by decide
    omega
  rw [e1, e2]
  exact h
theorem search_rule {Q : Value → Shared → Prop} (N : Nat) (hN : N < 2 ^ 64) {P C : Addr} {o oc : Obj} {fs cv : Array Value} {n : Nat} {x : Str} {u : Tok} (ho : s.heap.get? P = some o) (hcl : o.cls = .type "re.Pattern") (hd : o.data = .fields fs)
    (h5 : fs.getD 5 .none = .ref C) (h2 : reRawNat (fs.getD 2 .none) = 3) (h6 : reRawNat (fs.getD 6 .none) = 0) (hc : s.heap.get? C = some oc) (hcd : oc.data = .seq cv n)
    (hx : x.length ≤ sizeLine) {code : Array Nat} (hcode : (cv.map reRawOf).map (·.toNat) = code)
    (h : match (tzRun code x N).outcome with
      | some .matched => spansBad 3 (tzRun code x N) = false ∧ Q (.ref (s.heap.objs.size + 1)) { s with heap := (s.heap.push (spansObj (tzRun code x N))).push (matchObj (.str x u) (.ref P) x (tzRun code x N) s.heap.objs.size) }
      | some .failed => Q .none s
      | _ => False) :
    wpAny (model prog w) A (call (.builtin "re.Pattern.search") [.ref P, .str x u]) Q E s := by
  refine call_slot slot_search ⟨o, ho, hcl⟩ entry_search (args_search _ _) ?_
  unfold Builtin.«re.Pattern.search»
  refine wpAny_bind (search_target ho hd h5 h2 h6 hc hcd hx ?_)
  unfold reAnswer
  rw [hcode]
  refine wpAny_bind (wpAny_reRunToEnd N _ hN ?_)
  change match (tzRun code x N).outcome with | some .matched => _ | some .failed => _ | _ => False
  revert h
  change _ → match (tzRun code x N).outcome with
    | some .matched => (fun (m? : Option Sre.M) s' => wpAny (model prog w) A.in1 (match m? with
      | some m => do ret (← reNewMatch (.ref P) (.str x u) 3 0 x.cps.size m)
      | none => ret .none) (fun fin s' => ∃ v, fin = .done (.ret v) ∧ Q v s') E s') (some (tzRun code x N)) s
    | some .failed => (fun (m? : Option Sre.M) s' => wpAny (model prog w) A.in1 (match m? with
      | some m => do ret (← reNewMatch (.ref P) (.str x u) 3 0 x.cps.size m)
      | none => ret .none) (fun fin s' => ∃ v, fin = .done (.ret v) ∧ Q v s') E s') none s
    | _ => False
  generalize tzRun code x N = m
  intro h
  split at h
  · obtain ⟨hb, hq⟩ := h
    dsimp only
    refine wpAny_bind ?_
    unfold reNewMatch
    refine wpAny_ite ?_
    refine ite_neg (fun hh => Bool.false_ne_true (hb.symm.trans hh)) ?_
    refine wpAny_bind (wpAny_newObj_type (T := "tuple") ?_ ?_)
    · refine wpAny_newObj_type (T := "re.Match") ?_ ?_
      · have e : (s.heap.push (spansObj m)).objs.size = s.heap.objs.size + 1 := by simp [Heap.push]
        refine wpAny_pure ⟨_, rfl, ?_⟩
        exact e ▸ hq
      · show (6 : Nat) ≤ sizeLine + 2
        decide
    · show (rawInt m.start :: rawInt m.handed :: spansOf 3 m).toArray.size ≤ sizeLine
      rw [List.size_toArray, List.length_cons, List.length_cons, spansOf_length]
      decide
  · exact wpAny_pure ⟨_, rfl, h⟩
  · exact h.elim
end
end Mine

end
section
theorem Mine.fresh_Sre3 : True := by
  w_top off
  k_with_none
  exact trivial
open PySem PySem.W PyProof.Rows PySem.Calls PySem.Builtin PySem.Builtin.Re
set_option maxRecDepth 100000
namespace Mine

def spanArr (m : Sre.M) : Array Int := (rawInt m.start :: rawInt m.handed :: spansOf 3 m).toArray.map reRawOf
@[irreducible] def grp (x : Str) (m : Sre.M) (g : Nat) : Option Str :=
  if (spanArr m).getD (2 * g) (-1) < 0 || (spanArr m).getD (2 * g + 1) (-1) < 0 then none
  else some ⟨x.cps.extract ((spanArr m).getD (2 * g) (-1)).toNat ((spanArr m).getD (2 * g + 1) (-1)).toNat⟩
theorem spanArr_size (m : Sre.M) : (spanArr m).size = 8 := by
  unfold spanArr
  rw [Array.size_map, List.size_toArray, List.length_cons, List.length_cons, spansOf_length]

section
variable {prog : Program} {w : World} {A : Around} {E : Value → Shared → Prop} {s : Shared}
theorem truthy_match {q : Addr} {o : Obj} {Q : Bool → Shared → Prop} (ho : s.heap.get? q = some o) (hc : o.cls = .type "re.Match") (h : Q true s) :
    wpAny (model prog w) A (truthy (.ref q)) Q E s := by
  have hT : s.TypeIs (.ref q) "re.Match" := ⟨o, ho, hc⟩
  unfold truthy
  refine wpAny_bind (wpAny_callSpecial?_none hT match_no_bool ?_)
  dsimp only
  refine wpAny_bind (wpAny_specialOf hT match_no_len ?_)
  exact wpAny_pure h
theorem getMethod_search {pl : Sem Bool} {P : Addr} {o : Obj} {Q : Value × List Value → Shared → Prop} (ho : s.heap.get? P = some o) (hc : o.cls = .type "re.Pattern") (hd : o.dict = none)
    (h : Q (.builtin "re.Pattern.search", [.ref P]) s) : wpAny (model prog w) A (getMethod (.ref P) "search" pl) Q E s :=
  getMethod_builtin ⟨o, ho, hc⟩ pa_pattern slot_search type_search (fun a e => by cases e; exact ⟨o, ho, hd⟩) h
theorem getMethod_group {pl : Sem Bool} {q : Addr} {o : Obj} {Q : Value × List Value → Shared → Prop} (ho : s.heap.get? q = some o) (hc : o.cls = .type "re.Match") (hd : o.dict = none)
    (h : Q (.builtin "re.Match.group", [.ref q]) s) : wpAny (model prog w) A (getMethod (.ref q) "group" pl) Q E s :=
  getMethod_builtin ⟨o, ho, hc⟩ pa_match slot_group type_group (fun a e => by cases e; exact ⟨o, ho, hd⟩) h

theorem group_rule {Q : Value → Shared → Prop} {q T : Addr} {x : Str} {u t : Tok} {P : Value} {m : Sre.M} {i : Int} (ho : s.heap.get? q = some (matchObj (.str x u) P x m T)) (hT : s.heap.get? T = some (spansObj m))
    (h0 : 0 ≤ i) (h3 : i ≤ 3) (hx : x.length ≤ sizeLine)
    (h : match grp x m i.toNat with | none => Q .none s | some y => Q (.str y s.toks) { s with toks := s.toks + 1 }) :
    wpAny (model prog w) A (call (.builtin "re.Match.group") [.ref q, .int i t]) Q E s := by
  refine call_slot slot_group ⟨_, ho, rfl⟩ entry_group (args_group _ _) ?_
  unfold Builtin.«re.Match.group»
  refine wpAny_bind (wpAny_pure ?_)
  try dsimp only
  refine wpAny_bind (m := reFound (.ref q)) ?_
  unfold reFound
  refine wpAny_bind (wpAny_fieldsOf ho rfl ?_)
  refine wpAny_bind (m := reRawItems (.ref T)) ?_
  refine wpAny_bind (wpAny_seqItems hT rfl (wpAny_pure (wpAny_pure ?_)))
  try dsimp only
  refine wpAny_bind (m := reGroupNumber _ _) ?_
  unfold reGroupNumber
  refine wpAny_bind (wpAny_pure ?_)
  refine wpAny_ite (ite_pos rfl ?_)
  refine wpAny_bind (m := asIndex (.int i t)) (wpAny_bind (wpAny_pure (wpAny_pure ?_)))
  have hs := spanArr_size m
  refine wpAny_ite (ite_neg ?_ ?_)
  · intro hh
    have hh' : (decide (i < 0) || decide (2 * i ≥ ((spanArr m).size : Int))) = true := hh
    rw [hs] at hh'
    simp only [Bool.or_eq_true, decide_eq_true_eq] at hh'
    omega
  refine wpAny_pure ?_
  refine wpAny_bind (m := reGroupText _ _ _) ?_
  unfold reGroupText
  dsimp only
  unfold grp at h
  by_cases hb : ((spanArr m).getD (2 * i.toNat) (-1) < 0 || (spanArr m).getD (2 * i.toNat + 1) (-1) < 0) = true
  · rw [if_pos hb] at h
    refine wpAny_ite (ite_pos hb ?_)
    exact wpAny_pure (wpAny_pure ⟨_, rfl, h⟩)
  · rw [if_neg hb] at h
    refine wpAny_ite (ite_neg hb ?_)
    refine wpAny_bind (m := reTextOf (.str x u)) ?_
    unfold reTextOf
    refine wpAny_bind (wpAny_pure (wpAny_pure ?_))
    refine wpAny_mkStr (wpAny_pure ⟨_, rfl, h⟩) ?_
    show (x.cps.extract _ _).size ≤ sizeLine
    rw [Array.size_extract]
    have : x.cps.size ≤ sizeLine := hx
    omega
end
end Mine

end
section
theorem Mine.fresh_Off2 : True := by
  w_top off
  k_with_none
  exact trivial
open PySem PySem.W PyProof.Rows PySem.Calls PySem.Builtin.Re
set_option maxRecDepth 100000
set_option maxHeartbeats 8000000
namespace Mine
def tzCode : Array Nat := #[14, 4, 0, 1, 6, 6, 0, 23, 14, 0, 1, 17, 0, 13, 6, 16, 45, 16, 43, 0, 17, 1, 18, 17, 2, 13, 4, 8, 0, 0, 24, 9, 0, 1, 13, 4, 8, 0, 0, 1, 17, 3, 24, 6, 0, 1, 16, 58, 1, 23, 17, 0, 1, 17, 4, 13, 4, 8, 0, 0, 13, 4, 8, 0, 0, 17, 5, 18, 6, 5, 1]
def inZones (x : Str) : Bool := x = Str.ofString "GMT" || x = Str.ofString "UTC" || x = Str.ofString "UT" || x = Str.ofString "Z"
@[irreducible] def tzM (x : Str) : Sre.M := tzRun tzCode x 50
def isMatched : Option Sre.Outcome → Bool
  | some .matched => true
  | _ => false
def isFailed : Option Sre.Outcome → Bool
  | some .failed => true
  | _ => false
def offNum (y : Str) : Option Int := if y.length ≤ 640 then (PySem.intText? y).bind fun k => if 0 ≤ k ∧ k < 1000 then some k else none else none
theorem offNum_some {y : Str} {k : Int} (h : offNum y = some k) : PySem.intText? y = some k ∧ y.length ≤ 640 ∧ 0 ≤ k ∧ k < 1000 := by
  unfold offNum at h
  split at h
  · rename_i hl
    cases hi : PySem.intText? y with
    | none => rw [hi] at h; cases h
    | some j =>
      rw [hi, Option.bind_some] at h
      split at h
      · rename_i hb; cases h; exact ⟨rfl, hl, hb⟩
      · cases h
  · cases h
/-- what the def tells of x: none where it is not shown here -/
def offVal0 (x : Str) : Option (Option Int) :=
  if inZones x then some (some 0)
  else if isFailed (tzM x).outcome then some none
  else if isMatched (tzM x).outcome && !spansBad 3 (tzM x) then
    match grp x (tzM x) 2 with
    | none => none
    | some y2 => match offNum y2 with
      | none => none
      | some h => (match grp x (tzM x) 3 with
          | none => some (3600 * h)
          | some y3 => if y3.length = 0 then none else (offNum y3).map fun k => 3600 * h + 60 * k).map fun o =>
            if grp x (tzM x) 1 = some (Str.ofString "-") then some (-o) else some o
  else none
/-- the same, of a text whose signs are signs -/
def offVal (x : Str) : Option (Option Int) := if PyData.strOk x then offVal0 x else none
theorem offVal_ok {x : Str} {r : Option Int} (h : offVal x = some r) : PyData.strOk x = true ∧ offVal0 x = some r := by
  unfold offVal at h
  split at h
  · exact ⟨by assumption, h⟩
  · cases h
end Mine

end
section
theorem Mine.fresh_Off3 : True := by
  w_top off
  k_with_none
  exact trivial
open PySem PySem.W PyProof.Rows PySem.Calls PySem.Builtin.Re
set_option maxRecDepth 100000
set_option maxHeartbeats 8000000
namespace Mine

theorem enter {prog : Program} {w : World} {A : Around} {s : Shared} {K : Frag} {p : Program} {loose : List Str} {mean : ExcName → Option Value} {mg mb : Str → Option Value} {R : Result → Shared → Prop}
    {name qual : Str} {params : Arguments} {body : List Stmt} {scope : Scope} {dV kV doc pm cdv ct oc : Value} {an od : Option Addr} {osl : Array (Option Value)} {f : Addr} {args : Args} {binds : List (Str × Value)}
    (X : K.In s.heap) (T : Top p loose mean mg mb s.heap)
    (ho : K.lookup f = some ⟨oc, od, .func (fnOf name qual params body scope dV kV doc pm an cdv ct), osl⟩) (hcd : codeIn K cdv qual = true) (hroom : A.depth < recursionLimit)
    (hbind : BindsTo s (fnOf name qual params body scope dV kV doc pm an cdv ct) args binds) (hloc : ∀ y ∈ binds, scope.names.lookup y.1 = some .local)
    (hcell : ∀ x ∈ scope.names, x.2 ≠ .cell)
    (h : ∀ h₁, Fr s.heap s.heap.objs.size h₁ (fun y => binds.reverse.lookup y) → News s.heap s.heap.objs.size h₁ [] →
      wpAny (model prog w) (A.deeper (envOf qual scope s.heap.objs.size f cdv)) (execs body (envOf qual scope s.heap.objs.size f cdv))
        (fun fl s' => R (.ok (.ret (match fl with | .ret v => v | _ => .none))) s')
        (fun e s' => wpAny (model prog w) (A.deeper (envOf qual scope s.heap.objs.size f cdv)) (leaving (envOf qual scope s.heap.objs.size f cdv) e) (fun _ s'' => R (.error e) s'') (fun e' s'' => R (.error e') s'') s')
        { s with heap := h₁, toks := s.toks + binds.length })
    (hco : scope.isCoroutine = false) (hgen : scope.isGenerator = false) (hk : scope.kind = .function) :
    codeAny (model prog w) A (.call (.ref f) args) R s :=
  codeAny_call_def (fd := fnOf name qual params body scope dV kV doc pm an cdv ct) (body := body) (binds := binds) hroom (X _ _ ho) rfl T.nolimit (codeRec_of X hcd) rfl hbind hcell hloc
    (fun h₁ hns hk₁ => h h₁ ⟨hns, hk₁, Nat.le_refl _⟩ News.nil) hco hgen hk

theorem tzRun_eq (x : Str) : tzRun tzCode x 50 = tzM x := by unfold tzM; rfl
section
variable {prog : Program} {w : World} {A : Around} {E : Value → Shared → Prop} {s : Shared} {h₀ : Heap} {L : Addr} {m : Str → Option Value} {news : List (Addr × Obj)} {K : Frag}
theorem search_K {Q : Value → Shared → Prop} {x : Str} {u : Tok} {P C : Addr} {o oc : Obj} {fs cv : Array Value} {n : Nat} (F : Fr h₀ L s.heap m) (N : News h₀ L s.heap news) (X : K.In h₀)
    (ho : K.lookup P = some o) (hc : K.lookup C = some oc) (hcl : o.cls = .type "re.Pattern") (hd : o.data = .fields fs)
    (h5 : fs.getD 5 .none = .ref C) (h2 : reRawNat (fs.getD 2 .none) = 3) (h6 : reRawNat (fs.getD 6 .none) = 0) (hcd : oc.data = .seq cv n) (hcode : (cv.map reRawOf).map (·.toNat) = tzCode)
    (hx : x.length ≤ sizeLine) (hok : isMatched (tzM x).outcome = true ∧ spansBad 3 (tzM x) = false)
    (h : ∀ T q h', Fr h₀ L h' m → News h₀ L h' ((q, matchObj (.str x u) (.ref P) x (tzM x) T) :: (T, spansObj (tzM x)) :: news) → Q (.ref q) { s with heap := h' }) :
    wpAny (model prog w) A (call (.builtin "re.Pattern.search") [.ref P, .str x u]) Q E s := by
  have hP := F.keep _ _ (X _ _ ho)
  have hC := F.keep _ _ (X _ _ hc)
  refine search_rule 50 (by decide) hP hcl hd h5 h2 h6 hC hcd hx hcode ?_
  rw [tzRun_eq]
  change match (tzM x).outcome with | some .matched => spansBad 3 (tzM x) = false ∧ _ | some .failed => _ | _ => False
  have e : (tzM x).outcome = some .matched := by
    have := hok.1
    unfold isMatched at this
    split at this
    · assumption
    · cases this
  rw [e]
  refine ⟨hok.2, ?_⟩
  have N1 := N.push F (spansObj (tzM x))
  have F1 := F.push (spansObj (tzM x))
  have N2 := N1.push F1 (matchObj (.str x u) (.ref P) x (tzM x) s.heap.objs.size)
  have F2 := F1.push (matchObj (.str x u) (.ref P) x (tzM x) s.heap.objs.size)
  have e2 : (s.heap.push (spansObj (tzM x))).objs.size = s.heap.objs.size + 1 := by simp [Heap.push]
  rw [e2] at N2
  exact h s.heap.objs.size (s.heap.objs.size + 1) _ F2 N2
theorem search_none_K {Q : Value → Shared → Prop} {x : Str} {u : Tok} {P C : Addr} {o oc : Obj} {fs cv : Array Value} {n : Nat} (F : Fr h₀ L s.heap m) (X : K.In h₀)
    (ho : K.lookup P = some o) (hc : K.lookup C = some oc) (hcl : o.cls = .type "re.Pattern") (hd : o.data = .fields fs)
    (h5 : fs.getD 5 .none = .ref C) (h2 : reRawNat (fs.getD 2 .none) = 3) (h6 : reRawNat (fs.getD 6 .none) = 0) (hcd : oc.data = .seq cv n) (hcode : (cv.map reRawOf).map (·.toNat) = tzCode)
    (hx : x.length ≤ sizeLine) (hok : isFailed (tzM x).outcome = true)
    (h : Q .none s) :
    wpAny (model prog w) A (call (.builtin "re.Pattern.search") [.ref P, .str x u]) Q E s := by
  have hP := F.keep _ _ (X _ _ ho)
  have hC := F.keep _ _ (X _ _ hc)
  refine search_rule 50 (by decide) hP hcl hd h5 h2 h6 hC hcd hx hcode ?_
  rw [tzRun_eq]
  change match (tzM x).outcome with | some .matched => spansBad 3 (tzM x) = false ∧ _ | some .failed => _ | _ => False
  have e : (tzM x).outcome = some .failed := by
    unfold isFailed at hok
    split at hok
    · assumption
    · cases hok
  rw [e]
  exact h
theorem getMethod_search_K {pl : Sem Bool} {P : Addr} {o : Obj} {Q : Value × List Value → Shared → Prop} (F : Fr h₀ L s.heap m) (X : K.In h₀) (ho : K.lookup P = some o) (hc : o.cls = .type "re.Pattern") (hd : o.dict = none)
    (h : Q (.builtin "re.Pattern.search", [.ref P]) s) : wpAny (model prog w) A (getMethod (.ref P) "search" pl) Q E s :=
  getMethod_search (F.keep _ _ (X _ _ ho)) hc hd h
theorem getMethod_group_K {pl : Sem Bool} {q T : Addr} {x : Str} {v P : Value} {M : Sre.M} {Q : Value × List Value → Shared → Prop} (N : News h₀ L s.heap news) (hm : (q, matchObj v P x M T) ∈ news)
    (h : Q (.builtin "re.Match.group", [.ref q]) s) : wpAny (model prog w) A (getMethod (.ref q) "group" pl) Q E s :=
  getMethod_group (N.get hm) rfl rfl h
theorem truthy_match_K {q T : Addr} {x : Str} {v P : Value} {M : Sre.M} {Q : Bool → Shared → Prop} (N : News h₀ L s.heap news) (hm : (q, matchObj v P x M T) ∈ news)
    (h : Q true s) : wpAny (model prog w) A (truthy (.ref q)) Q E s := truthy_match (N.get hm) rfl h
theorem group_some_K {Q : Value → Shared → Prop} {q T : Addr} {x y : Str} {u t : Tok} {P : Value} {M : Sre.M} {i : Int} (g : Nat) (N : News h₀ L s.heap news) (hm : (q, matchObj (.str x u) P x M T) ∈ news) (hT : (T, spansObj M) ∈ news)
    (hi : i = (g : Int)) (h3 : g ≤ 3) (hx : x.length ≤ sizeLine) (hg : grp x M g = some y) (h : Q (.str y s.toks) { s with toks := s.toks + 1 }) :
    wpAny (model prog w) A (call (.builtin "re.Match.group") [.ref q, .int i t]) Q E s := by
  subst hi
  refine group_rule (N.get hm) (N.get hT) (by omega) (by omega) hx ?_
  rw [Int.toNat_natCast, hg]; exact h
theorem group_none_K {Q : Value → Shared → Prop} {q T : Addr} {x : Str} {u t : Tok} {P : Value} {M : Sre.M} {i : Int} (g : Nat) (N : News h₀ L s.heap news) (hm : (q, matchObj (.str x u) P x M T) ∈ news) (hT : (T, spansObj M) ∈ news)
    (hi : i = (g : Int)) (h3 : g ≤ 3) (hx : x.length ≤ sizeLine) (hg : grp x M g = none) (h : Q .none s) :
    wpAny (model prog w) A (call (.builtin "re.Match.group") [.ref q, .int i t]) Q E s := by
  subst hi
  refine group_rule (N.get hm) (N.get hT) (by omega) (by omega) hx ?_
  rw [Int.toNat_natCast, hg]; exact h
end
section
variable {prog : Program} {w : World} {A : Around} {E : Value → Shared → Prop} {s : Shared} {h₀ : Heap} {L : Addr} {m : Str → Option Value} {news : List (Addr × Obj)}
theorem search_KK {Q : Value → Shared → Prop} {x : Str} {u : Tok} (F : Fr h₀ L s.heap m) (N : News h₀ L s.heap news) (X : (Mine.hd.heap_39 w.params).In h₀)
    (hx : x.length ≤ sizeLine) (hok : isMatched (tzM x).outcome = true ∧ spansBad 3 (tzM x) = false)
    (h : ∀ T q h', Fr h₀ L h' m → News h₀ L h' ((q, matchObj (.str x u) (.ref 37) x (tzM x) T) :: (T, spansObj (tzM x)) :: news) → Q (.ref q) { s with heap := h' }) :
    wpAny (model Challenge.rw_nb0139_01.row.prog w) A (call (.builtin "re.Pattern.search") [.ref 37, .str x u]) Q E s := by
  revert X; k_fill; intro X
  refine' search_K (C := 36) F N X ?o ?c ?a1 ?a2 ?a3 ?a4 ?a5 ?a6 ?code hx hok h
  (case o => k_is)
  (case c => k_is)
  (case a1 => exact rfl)
  (case a2 => exact rfl)
  (case a3 => exact rfl)
  (case a4 => exact rfl)
  (case a5 => exact rfl)
  (case a6 => exact rfl)
  (case code => decide +kernel)
theorem search_none_KK {Q : Value → Shared → Prop} {x : Str} {u : Tok} (F : Fr h₀ L s.heap m) (X : (Mine.hd.heap_39 w.params).In h₀)
    (hx : x.length ≤ sizeLine) (hok : isFailed (tzM x).outcome = true) (h : Q .none s) :
    wpAny (model Challenge.rw_nb0139_01.row.prog w) A (call (.builtin "re.Pattern.search") [.ref 37, .str x u]) Q E s := by
  revert X; k_fill; intro X
  refine' search_none_K (C := 36) F X ?o ?c ?a1 ?a2 ?a3 ?a4 ?a5 ?a6 ?code hx hok h
  (case o => k_is)
  (case c => k_is)
  (case a1 => exact rfl)
  (case a2 => exact rfl)
  (case a3 => exact rfl)
  (case a4 => exact rfl)
  (case a5 => exact rfl)
  (case a6 => exact rfl)
  (case code => decide +kernel)
theorem getMethod_search_KK {pl : Sem Bool} {Q : Value × List Value → Shared → Prop} (F : Fr h₀ L s.heap m) (X : (Mine.hd.heap_39 w.params).In h₀)
    (h : Q (.builtin "re.Pattern.search", [.ref 37]) s) : wpAny (model Challenge.rw_nb0139_01.row.prog w) A (getMethod (.ref 37) "search" pl) Q E s := by
  revert X; k_fill; intro X
  refine' getMethod_search_K F X ?o ?a ?b h
  (case o => k_is)
  (case a => exact rfl)
  (case b => exact rfl)
end
end Mine

end
section
theorem Mine.fresh_Off4 : True := by
  w_top off
  k_with_none
  exact trivial
open PySem PySem.W PyProof.Rows PySem.Calls PySem.Builtin.Re
set_option maxRecDepth 100000
set_option maxHeartbeats 8000000
namespace Mine
def IsOff (r : Option Int) (v : Value) : Prop := match r with | none => v = .none | some k => ∃ t, v = .int k t
abbrev Kept (h h' : Heap) : Prop := ∀ b o, h.get? b = some o → h'.get? b = some o

theorem inZones_eq (x : Str) : (decide (x = { cps := #[71, 77, 84] }) || (decide (x = { cps := #[85, 84, 67] }) || (decide (x = { cps := #[85, 84] }) || (decide (x = { cps := #[90] }) || false)))) = inZones x := by
  have e1 : Str.ofString "GMT" = { cps := #[71, 77, 84] } := by decide +kernel
  have e2 : Str.ofString "UTC" = { cps := #[85, 84, 67] } := by decide +kernel
  have e3 : Str.ofString "UT" = { cps := #[85, 84] } := by decide +kernel
  have e4 : Str.ofString "Z" = { cps := #[90] } := by decide +kernel
  unfold inZones
  rw [e1, e2, e3, e4]
  simp only [Bool.or_false, Bool.or_assoc]

theorem sign_neg {g : Option Str} {v : Str} {o : Int} {r : Option Int} (h1 : g = some v) (e : (v == Str.ofString "-") = true) (hro : (if g = some (Str.ofString "-") then some (-o) else some o) = r) : IsOff r (.int (-o) t) := by
  have : v = Str.ofString "-" := by simpa using e
  subst this
  rw [if_pos h1] at hro
  subst hro
  exact ⟨_, rfl⟩
theorem sign_pos {g : Option Str} {v : Str} {o : Int} {r : Option Int} (h1 : g = some v) (e : (v == Str.ofString "-") = false) (hro : (if g = some (Str.ofString "-") then some (-o) else some o) = r) : IsOff r (.int o t) := by
  have : v ≠ Str.ofString "-" := by simpa using e
  rw [if_neg (by rw [h1]; exact fun q => this (Option.some.inj q))] at hro
  subst hro
  exact ⟨_, rfl⟩
theorem sign_none {g : Option Str} {o : Int} {r : Option Int} (h1 : g = none) (hro : (if g = some (Str.ofString "-") then some (-o) else some o) = r) : IsOff r (.int o t) := by
  rw [if_neg (by rw [h1]; exact fun q => nomatch q)] at hro
  subst hro
  exact ⟨_, rfl⟩
theorem truthy_text {prog : Program} {w : World} {A : Around} {E : Value → Shared → Prop} {s : Shared} {x : Str} {t : Tok} {Q : Bool → Shared → Prop} (h0 : x.length ≠ 0) (hl : x.length ≤ 640)
    (h : Q true { s with toks := s.toks + 1 + 1 }) : wpAny (model prog w) A (truthy (.str x t)) Q E s := by
  refine P.truthy_str (by have : (2 : Int) ^ 63 = 9223372036854775808 := by decide
                          omega) ?_
  have e : ((x.length : Int) != 0) = true := by simp; omega
  rw [e]; exact h

theorem off_walk {w : World} {p : Program} {loose : List Str} {mean : ExcName → Option Value} {mg mb : Str → Option Value} {A : Around} {s : Shared} {x : Str} {u : Tok} {Q E : Value → Shared → Prop}
    (X : (Mine.hd.heap_39 w.params).In s.heap) (T : Top p loose mean mg mb s.heap) (hd : A.depth < recursionLimit) (hx : x.length ≤ 640)
    (r : Option Int) (hr : offVal x = some r)
    (ret : ∀ v h' tk', IsOff r v → Kept s.heap h' → Q v { s with heap := h', toks := tk' }) :
    wpAny (model Challenge.rw_nb0139_01.row.prog w) A (call (.ref 44) [.str x u]) Q E s := by
  revert X; k_fill; intro X
  have hx2 : x.length ≤ sizeLine := Nat.le_trans hx (by decide)
  replace hr := (offVal_ok hr).2
  refine wpAny_call ?_
  refine' enter X T ?k6 ?k7 hd ?k9 ?kB ?c5 ?_ ?c2 ?c3 ?c4
  (case k6 => k_is)
  (case k7 => k_is)
  (case k9 => exact BindsTo.of_eq rfl)
  (case c5 => decide)
  (case kB => exact locs rfl)
  (case c2 => exact rfl)
  (case c3 => exact rfl)
  (case c4 => exact rfl)
  intro h₁ F N
  dsimp only
  k_with_none
  k_with "getMethod ref" => ((with_reducible show wpAny _ _ (getMethod (Value.ref 37) (Str.ofString "search") _) _ _ _); refine getMethod_search_KK (by k_asm) (by k_asm) ?_)
  k_with "getMethod ref" => ((with_reducible show wpAny _ _ (getMethod _ (Str.ofString "group") _) _ _ _); k_dflt (refine' getMethod_group_K ?a ?b ?_; (case a => k_asm); (case b => k_mem)))
  k_with "truthy ref" => (refine' truthy_match_K ?a ?b ?_; (case a => k_asm); (case b => k_mem))
  k_with "truthy ref" => k_dflt (refine' truthy_match_K ?a ?b ?_; (case a => k_asm); (case b => k_mem))
  k_with "call builtin:re.Match.group" => ((with_reducible show wpAny _ _ (call _ [_, Value.int 2 _]) _ _ _); k_dflt (refine' group_some_K 2 ?a2 ?b2 ?c2 rfl (by decide) hx2 h2 ?_; (case a2 => k_asm); (case b2 => k_mem); (case c2 => k_mem)))
  k_with "call builtin:re.Match.group" => ((with_reducible show wpAny _ _ (call _ [_, Value.int 3 _]) _ _ _); k_dflt (
    first
    | (refine' group_none_K 3 ?a1 ?b1 ?c1 rfl (by decide) hx2 h3 ?_; (case a1 => k_asm); (case b1 => k_mem); (case c1 => k_mem))
    | (refine' group_some_K 3 ?a2 ?b2 ?c2 rfl (by decide) hx2 h3 ?_; (case a2 => k_asm); (case b2 => k_mem); (case c2 => k_mem))
    | cases h3 : grp x (tzM x) 3))
  k_with "call builtin:re.Match.group" => ((with_reducible show wpAny _ _ (call _ [_, Value.int 1 _]) _ _ _); k_dflt (
    first
    | (refine' group_none_K 1 ?a1 ?b1 ?c1 rfl (by decide) hx2 h1 ?_; (case a1 => k_asm); (case b1 => k_mem); (case c1 => k_mem))
    | (refine' group_some_K 1 ?a2 ?b2 ?c2 rfl (by decide) hx2 h1 ?_; (case a2 => k_asm); (case b2 => k_mem); (case c2 => k_mem))
    | cases h1 : grp x (tzM x) 1))
  k_with "call type:int" => (refine KIN.call_text (by assumption) (by assumption) ?_)
  k_steps
  · rename ((_ || _) = true) => hz
    rw [inZones_eq] at hz
    unfold offVal0 at hr
    rw [if_pos hz] at hr
    cases hr
    exact ret _ _ _ ⟨_, rfl⟩ (Fr.keep (by assumption))
  · rename ((_ || _) = false) => hz
    rw [inZones_eq] at hz
    unfold offVal0 at hr
    rw [hz, if_neg Bool.false_ne_true] at hr
    by_cases hf : isFailed (tzM x).outcome = true
    · rw [if_pos hf] at hr
      cases hr
      refine search_none_KK (by k_asm) (by k_asm) hx2 hf ?_
      k_steps
      exact ret _ _ _ rfl (Fr.keep (by assumption))
    · rw [if_neg hf] at hr
      split at hr
      · rename_i hm
        have hm' := Bool.and_eq_true_iff.mp hm
        have hb : spansBad 3 (tzM x) = false := by
          cases q : spansBad 3 (tzM x) with
          | false => rfl
          | true => rw [q] at hm'; cases hm'.2
        cases h2 : grp x (tzM x) 2 with
        | none => rw [h2] at hr; cases hr
        | some y2 =>
          rw [h2] at hr
          dsimp only at hr
          cases hn : offNum y2 with
          | none => rw [hn] at hr; cases hr
          | some hh =>
            rw [hn] at hr
            dsimp only at hr
            obtain ⟨hi, hl2, hp, hq⟩ := offNum_some hn
            refine search_KK (by k_asm) (by k_asm) (by k_asm) hx2 ⟨hm'.1, hb⟩ ?_
            intro T' q' h' F' N'
            obtain ⟨o, ho3, hro⟩ := Option.map_eq_some_iff.mp hr
            clear hr
            k_steps
            · rw [h3] at ho3; cases ho3
              exact ret _ _ _ (sign_none h1 hro) (Fr.keep (by assumption))
            · rw [h3] at ho3; cases ho3
              exact ret _ _ _ (sign_neg h1 (by assumption) hro) (Fr.keep (by assumption))
            · rw [h3] at ho3; cases ho3
              exact ret _ _ _ (sign_pos h1 (by assumption) hro) (Fr.keep (by assumption))
            · rename Str => y3
              rw [h3] at ho3
              dsimp only at ho3
              by_cases h0 : y3.length = 0
              · rw [if_pos h0] at ho3; cases ho3
              · rw [if_neg h0] at ho3
                cases hn3 : offNum y3 with
                | none => rw [hn3] at ho3; cases ho3
                | some kk =>
                  obtain ⟨hi3, hl3, hp3, hq3⟩ := offNum_some hn3
                  rw [hn3] at ho3
                  cases ho3
                  refine truthy_text h0 hl3 ?_
                  k_steps
                  · exact ret _ _ _ (sign_none h1 hro) (Fr.keep (by assumption))
                  · exact ret _ _ _ (sign_neg h1 (by assumption) hro) (Fr.keep (by assumption))
                  · exact ret _ _ _ (sign_pos h1 (by assumption) hro) (Fr.keep (by assumption))
      · cases hr
end Mine

end
section
theorem Mine.fresh_Bis1 : True := by
  w_top off
  k_with_none
  exact trivial
open PySem PySem.W PyProof.Rows PySem.Calls
set_option maxRecDepth 100000
set_option maxHeartbeats 8000000
namespace Mine
/-- a list's items are texts of known offsets -/
def KeysAre (vs : List Value) (ks : List Int) : Prop := vs.length = ks.length ∧ ∀ (i : Nat) (v : Value) (k : Int), vs[i]? = some v → ks[i]? = some k → ∃ (x : Str) (t : Tok), v = Value.str x t ∧ x.length ≤ 640 ∧ offVal x = some (some k)

def BisJ (l : Addr) (wish : Int) (N cnt : Nat) (k : Nat) (m : Str → Option Value) (_ : List (Addr × Obj)) : Prop :=
  ∃ lo hi t1 t2 t3, m (Str.ofString "lo") = some (Value.int lo t1) ∧ m (Str.ofString "hi") = some (Value.int hi t2) ∧ m (Str.ofString "a") = some (Value.ref l) ∧ m (Str.ofString "x") = some (Value.int wish t3) ∧ m (Str.ofString "key") = some (Value.ref 44) ∧
    0 ≤ lo ∧ lo ≤ cnt ∧ (cnt : Int) ≤ hi ∧ hi ≤ N ∧ (k : Int) = hi - lo
theorem keep_list {h₀ h : Heap} {L l : Addr} {m : Str → Option Value} {vs : List Value} (F : Fr h₀ L h m) (hl : h₀.IsList l vs.toArray) : h.IsList l vs.toArray := stays_list F.keep hl
theorem len_kept {prog : Program} {w : World} {A : Around} {E : Value → Shared → Prop} {s : Shared} {h₀ : Heap} {L l : Addr} {m : Str → Option Value} {vs : List Value} {Q : Value → Shared → Prop} (F : Fr h₀ L s.heap m) (hl : h₀.IsList l vs.toArray) (hn : vs.length < 1000)
    (h : Q (.int vs.length (s.toks + 1)) { s with toks := s.toks + 1 + 1 }) : wpAny (model prog w) A (call (.builtin "len") [.ref l]) Q E s :=
  call_len_list (keep_list F hl) (by rw [List.size_toArray]; have : (2 : Int) ^ 63 = 9223372036854775808 := by decide
                                     omega) (by rw [List.size_toArray]; exact h)
theorem item_kept {prog : Program} {w : World} {A : Around} {E : Value → Shared → Prop} {s : Shared} {h₀ : Heap} {L l : Addr} {m : Str → Option Value} {vs : List Value} {k : Int} {u : Tok} {v : Value} {value slice : PySem.Expr} {Q : Value → Shared → Prop} (F : Fr h₀ L s.heap m) (hl : h₀.IsList l vs.toArray) (hn : vs.length < 1000)
    (h0 : 0 ≤ k) (hv : vs[k.toNat]? = some v) (h : Q v s)
    (hs : subscripted slice false (.ref l) (.int k u) = operate [.ref l, .int k u] (getItem (.ref l) (.int k u)) := by with_unfolding_all rfl) :
    wpAny (model prog w) A (subscriptTail value slice (.ref l) (.int k u)) Q E s := by
  have hl' := keep_list F hl
  have : k.toNat < vs.length := by
    rcases Nat.lt_or_ge k.toNat vs.length with q | q
    · exact q
    · rw [List.getElem?_eq_none q] at hv; cases hv
  exact tail_any hl'.typeIs slot_list_getitem.lookup (wpAny_getItem_list hl' h0 (by have : (2 : Int) ^ 63 = 9223372036854775808 := by decide
                                                                                    omega) (by simpa using hv) h) hs
theorem Fr.kept {h₀ h h' : Heap} {L : Addr} {m : Str → Option Value} (F : Fr h₀ L h m) (k : Kept h h') : Fr h₀ L h' m := ⟨F.ns.keeps k, fun b o e => k b o (F.keep b o e), F.above⟩
theorem News.kept {h₀ h h' : Heap} {L : Addr} {news : List (Addr × Obj)} (N : News h₀ L h news) (k : Kept h h') : News h₀ L h' news := fun p hp => ⟨k _ _ (N p hp).1, (N p hp).2⟩
theorem off_call {w : World} {p : Program} {loose : List Str} {mean : ExcName → Option Value} {mg mb : Str → Option Value} {A : Around} {s : Shared} {h₀ : Heap} {L : Addr} {m : Str → Option Value} {news : List (Addr × Obj)} {x : Str} {u : Tok} {k : Int} {Q E : Value → Shared → Prop}
    (F : Fr h₀ L s.heap m) (N : News h₀ L s.heap news) (X : (Mine.hd.heap_39 w.params).In h₀) (T : Top p loose mean mg mb h₀) (hd : A.depth < recursionLimit) (hx : x.length ≤ 640) (hr : offVal x = some (some k))
    (ret : ∀ t h' tk', Fr h₀ L h' m → News h₀ L h' news → Q (.int k t) { s with heap := h', toks := tk' }) :
    wpAny (model Challenge.rw_nb0139_01.row.prog w) A (call (.ref 44) [.str x u]) Q E s :=
  off_walk (X.keeps F.keep) (T.keeps F.keep) hd hx (some k) hr fun _ h' tk' ho hk => by
    obtain ⟨t, rfl⟩ := ho
    exact ret t h' tk' (Fr.kept F hk) (News.kept N hk)
theorem mid_item {vs : List Value} {ks : List Int} {lo hi : Int} (hk : KeysAre vs ks) (b1 : 0 ≤ lo) (b4 : hi ≤ vs.length) (b : lo < hi) :
    lo ≤ (lo + hi).fdiv 2 ∧ (lo + hi).fdiv 2 < hi ∧ ∃ x t k, vs[((lo + hi).fdiv 2).toNat]? = some (Value.str x t) ∧ x.length ≤ 640 ∧ offVal x = some (some k) ∧ ks[((lo + hi).fdiv 2).toNat]? = some k := by
  have e : (lo + hi).fdiv 2 = (lo + hi) / 2 := Int.fdiv_eq_ediv_of_nonneg _ (by decide)
  rw [e]
  refine ⟨by omega, by omega, ?_⟩
  have hlt : ((lo + hi) / 2).toNat < vs.length := by omega
  have hlt' : ((lo + hi) / 2).toNat < ks.length := by rw [← hk.1]; exact hlt
  obtain ⟨x, t, hv, h1, h2⟩ := hk.2 _ _ _ (List.getElem?_eq_getElem hlt) (List.getElem?_eq_getElem hlt')
  exact ⟨x, t, _, by rw [List.getElem?_eq_getElem hlt, hv], h1, h2, List.getElem?_eq_getElem hlt'⟩
theorem bisR2 {w : World} {p : Program} {loose : List Str} {mean : ExcName → Option Value} {mg mb : Str → Option Value} {A : Around} {s : Shared} {l : Addr} {vs : List Value} {ks : List Int} {wish : Int} {u : Tok} {Q E : Value → Shared → Prop}
    (X : (Mine.hd.heap_39 w.params).In s.heap) (T : Top p loose mean mg mb s.heap) (hd : A.depth + 1 < recursionLimit) (hl : s.heap.IsList l vs.toArray) (hk : KeysAre vs ks) (hn : vs.length < 1000)
    (cnt : Nat) (hc : ∀ i k, ks[i]? = some k → (k ≤ wish ↔ i < cnt)) (hcn : cnt ≤ ks.length)
    (ret : ∀ t h' tk', Kept s.heap h' → Q (.int cnt t) { s with heap := h', toks := tk' }) :
    wpAny (model Challenge.rw_nb0139_01.row.prog w) A (call (.ref 62) [.ref l, .int wish u] [(Str.ofString "key", .ref 44)]) Q E s := by
  revert X; k_fill; intro X
  refine wpAny_call ?_
  refine' enter X T ?k6 ?k7 (by omega) ?k9 ?kB ?c5 ?_ ?c2 ?c3 ?c4
  (case k6 => k_is)
  (case k7 => k_is)
  (case k9 => first | exact BindsTo.of_eq rfl | exact binds_K (by k_in) rfl (by k_is) rfl rfl rfl)
  (case c5 => decide)
  (case kB => exact locs rfl)
  (case c2 => exact rfl)
  (case c3 => exact rfl)
  (case c4 => exact rfl)
  intro h₁ F N
  dsimp only
  k_with_none
  k_with "call builtin:len" => k_dflt (refine len_kept (by k_asm) hl hn ?_)
  k_with "exec While Compare cons nil" => k_dflt (refine While_inv (BisJ l wish vs.length cnt) (n₀ := vs.length) (by k_asm) (by k_asm) ⟨0, vs.length, _, _, _, rfl, rfl, rfl, rfl, rfl, by omega, by omega, by have := hk.1; omega, by omega, by omega⟩ ?_)
  k_steps
  rename BisJ _ _ _ _ _ _ _ => J
  obtain ⟨lo, hi, t1, t2, t3, m1, m2, m3, m4, m5, b1, b2, b3, b4, b5⟩ := J
  k_with "eval Name" => k_dflt (refine' ld ?k1 ?k2 ?_; (case k1 => k_asm); (case k2 => first | exact m1 | exact m2 | exact m3 | exact m4 | exact m5))
  k_steps
  · obtain ⟨c1, c2, x, t, k, hv, hx, hr, hkk⟩ := mid_item hk b1 b4 (by assumption)
    refine item_kept (by k_asm) hl hn (by omega) hv ?_
    k_with "call ref" => k_dflt (refine off_call (by k_asm) (by k_asm) (by k_asm) (by k_asm) (by show _ + 1 < recursionLimit; omega) hx hr ?_)
    k_steps
    · have := hc _ _ hkk
      rename Fr _ _ _ _ => F9
      rename News _ _ _ _ => N9
      exact WhileStep.intro (n' := ((lo + hi).fdiv 2 - lo).toNat) F9 N9 (by omega) ⟨lo, (lo + hi).fdiv 2, _, _, _, m1, rfl, m3, m4, m5, b1, b2, by omega, by omega, by omega⟩
    · have := hc _ _ hkk
      rename Fr _ _ _ _ => F9
      rename News _ _ _ _ => N9
      exact WhileStep.intro (n' := (hi - ((lo + hi).fdiv 2 + 1)).toNat) F9 N9 (by omega) ⟨(lo + hi).fdiv 2 + 1, hi, _, _, _, rfl, m2, m3, m4, m5, by omega, by omega, by omega, by omega, by omega⟩
  · have e : lo = cnt := by omega
    subst e
    exact ret _ _ _ (Fr.keep (by assumption))
theorem bisR4 {w : World} {p : Program} {loose : List Str} {mean : ExcName → Option Value} {mg mb : Str → Option Value} {A : Around} {s : Shared} {l : Addr} {vs : List Value} {ks : List Int} {wish : Int} {u : Tok} {u0 : Tok} {Q E : Value → Shared → Prop}
    (X : (Mine.hd.heap_39 w.params).In s.heap) (T : Top p loose mean mg mb s.heap) (hd : A.depth + 1 < recursionLimit) (hl : s.heap.IsList l vs.toArray) (hk : KeysAre vs ks) (hn : vs.length < 1000)
    (cnt : Nat) (hc : ∀ i k, ks[i]? = some k → (k ≤ wish ↔ i < cnt)) (hcn : cnt ≤ ks.length)
    (ret : ∀ t h' tk', Kept s.heap h' → Q (.int cnt t) { s with heap := h', toks := tk' }) :
    wpAny (model Challenge.rw_nb0139_01.row.prog w) A (call (.ref 62) [.ref l, .int wish u, .int 0 u0, .none] [(Str.ofString "key", .ref 44)]) Q E s := by
  revert X; k_fill; intro X
  refine wpAny_call ?_
  refine' enter X T ?k6 ?k7 (by omega) ?k9 ?kB ?c5 ?_ ?c2 ?c3 ?c4
  (case k6 => k_is)
  (case k7 => k_is)
  (case k9 => first | exact BindsTo.of_eq rfl | exact binds_K (by k_in) rfl (by k_is) rfl rfl rfl)
  (case c5 => decide)
  (case kB => exact locs rfl)
  (case c2 => exact rfl)
  (case c3 => exact rfl)
  (case c4 => exact rfl)
  intro h₁ F N
  dsimp only
  k_with_none
  k_with "call builtin:len" => k_dflt (refine len_kept (by k_asm) hl hn ?_)
  k_with "exec While Compare cons nil" => k_dflt (refine While_inv (BisJ l wish vs.length cnt) (n₀ := vs.length) (by k_asm) (by k_asm) ⟨0, vs.length, _, _, _, rfl, rfl, rfl, rfl, rfl, by omega, by omega, by have := hk.1; omega, by omega, by omega⟩ ?_)
  k_steps
  rename BisJ _ _ _ _ _ _ _ => J
  obtain ⟨lo, hi, t1, t2, t3, m1, m2, m3, m4, m5, b1, b2, b3, b4, b5⟩ := J
  k_with "eval Name" => k_dflt (refine' ld ?k1 ?k2 ?_; (case k1 => k_asm); (case k2 => first | exact m1 | exact m2 | exact m3 | exact m4 | exact m5))
  k_steps
  · obtain ⟨c1, c2, x, t, k, hv, hx, hr, hkk⟩ := mid_item hk b1 b4 (by assumption)
    refine item_kept (by k_asm) hl hn (by omega) hv ?_
    k_with "call ref" => k_dflt (refine off_call (by k_asm) (by k_asm) (by k_asm) (by k_asm) (by show _ + 1 < recursionLimit; omega) hx hr ?_)
    k_steps
    · have := hc _ _ hkk
      rename Fr _ _ _ _ => F9
      rename News _ _ _ _ => N9
      exact WhileStep.intro (n' := ((lo + hi).fdiv 2 - lo).toNat) F9 N9 (by omega) ⟨lo, (lo + hi).fdiv 2, _, _, _, m1, rfl, m3, m4, m5, b1, b2, by omega, by omega, by omega⟩
    · have := hc _ _ hkk
      rename Fr _ _ _ _ => F9
      rename News _ _ _ _ => N9
      exact WhileStep.intro (n' := (hi - ((lo + hi).fdiv 2 + 1)).toNat) F9 N9 (by omega) ⟨(lo + hi).fdiv 2 + 1, hi, _, _, _, rfl, m2, m3, m4, m5, by omega, by omega, by omega, by omega, by omega⟩
  · have e : lo = cnt := by omega
    subst e
    exact ret _ _ _ (Fr.keep (by assumption))
theorem bisL2 {w : World} {p : Program} {loose : List Str} {mean : ExcName → Option Value} {mg mb : Str → Option Value} {A : Around} {s : Shared} {l : Addr} {vs : List Value} {ks : List Int} {wish : Int} {u : Tok} {Q E : Value → Shared → Prop}
    (X : (Mine.hd.heap_39 w.params).In s.heap) (T : Top p loose mean mg mb s.heap) (hd : A.depth + 1 < recursionLimit) (hl : s.heap.IsList l vs.toArray) (hk : KeysAre vs ks) (hn : vs.length < 1000)
    (cnt : Nat) (hc : ∀ i k, ks[i]? = some k → (k < wish ↔ i < cnt)) (hcn : cnt ≤ ks.length)
    (ret : ∀ t h' tk', Kept s.heap h' → Q (.int cnt t) { s with heap := h', toks := tk' }) :
    wpAny (model Challenge.rw_nb0139_01.row.prog w) A (call (.ref 80) [.ref l, .int wish u] [(Str.ofString "key", .ref 44)]) Q E s := by
  revert X; k_fill; intro X
  refine wpAny_call ?_
  refine' enter X T ?k6 ?k7 (by omega) ?k9 ?kB ?c5 ?_ ?c2 ?c3 ?c4
  (case k6 => k_is)
  (case k7 => k_is)
  (case k9 => first | exact BindsTo.of_eq rfl | exact binds_K (by k_in) rfl (by k_is) rfl rfl rfl)
  (case c5 => decide)
  (case kB => exact locs rfl)
  (case c2 => exact rfl)
  (case c3 => exact rfl)
  (case c4 => exact rfl)
  intro h₁ F N
  dsimp only
  k_with_none
  k_with "call builtin:len" => k_dflt (refine len_kept (by k_asm) hl hn ?_)
  k_with "exec While Compare cons nil" => k_dflt (refine While_inv (BisJ l wish vs.length cnt) (n₀ := vs.length) (by k_asm) (by k_asm) ⟨0, vs.length, _, _, _, rfl, rfl, rfl, rfl, rfl, by omega, by omega, by have := hk.1; omega, by omega, by omega⟩ ?_)
  k_steps
  rename BisJ _ _ _ _ _ _ _ => J
  obtain ⟨lo, hi, t1, t2, t3, m1, m2, m3, m4, m5, b1, b2, b3, b4, b5⟩ := J
  k_with "eval Name" => k_dflt (refine' ld ?k1 ?k2 ?_; (case k1 => k_asm); (case k2 => first | exact m1 | exact m2 | exact m3 | exact m4 | exact m5))
  k_steps
  · obtain ⟨c1, c2, x, t, k, hv, hx, hr, hkk⟩ := mid_item hk b1 b4 (by assumption)
    refine item_kept (by k_asm) hl hn (by omega) hv ?_
    k_with "call ref" => k_dflt (refine off_call (by k_asm) (by k_asm) (by k_asm) (by k_asm) (by show _ + 1 < recursionLimit; omega) hx hr ?_)
    k_steps
    · have := hc _ _ hkk
      rename Fr _ _ _ _ => F9
      rename News _ _ _ _ => N9
      exact WhileStep.intro (n' := (hi - ((lo + hi).fdiv 2 + 1)).toNat) F9 N9 (by omega) ⟨(lo + hi).fdiv 2 + 1, hi, _, _, _, rfl, m2, m3, m4, m5, by omega, by omega, by omega, by omega, by omega⟩
    · have := hc _ _ hkk
      rename Fr _ _ _ _ => F9
      rename News _ _ _ _ => N9
      exact WhileStep.intro (n' := ((lo + hi).fdiv 2 - lo).toNat) F9 N9 (by omega) ⟨lo, (lo + hi).fdiv 2, _, _, _, m1, rfl, m3, m4, m5, b1, b2, by omega, by omega, by omega⟩
  · have e : lo = cnt := by omega
    subst e
    exact ret _ _ _ (Fr.keep (by assumption))
theorem bisL4 {w : World} {p : Program} {loose : List Str} {mean : ExcName → Option Value} {mg mb : Str → Option Value} {A : Around} {s : Shared} {l : Addr} {vs : List Value} {ks : List Int} {wish : Int} {u : Tok} {u0 : Tok} {Q E : Value → Shared → Prop}
    (X : (Mine.hd.heap_39 w.params).In s.heap) (T : Top p loose mean mg mb s.heap) (hd : A.depth + 1 < recursionLimit) (hl : s.heap.IsList l vs.toArray) (hk : KeysAre vs ks) (hn : vs.length < 1000)
    (cnt : Nat) (hc : ∀ i k, ks[i]? = some k → (k < wish ↔ i < cnt)) (hcn : cnt ≤ ks.length)
    (ret : ∀ t h' tk', Kept s.heap h' → Q (.int cnt t) { s with heap := h', toks := tk' }) :
    wpAny (model Challenge.rw_nb0139_01.row.prog w) A (call (.ref 80) [.ref l, .int wish u, .int 0 u0, .none] [(Str.ofString "key", .ref 44)]) Q E s := by
  revert X; k_fill; intro X
  refine wpAny_call ?_
  refine' enter X T ?k6 ?k7 (by omega) ?k9 ?kB ?c5 ?_ ?c2 ?c3 ?c4
  (case k6 => k_is)
  (case k7 => k_is)
  (case k9 => first | exact BindsTo.of_eq rfl | exact binds_K (by k_in) rfl (by k_is) rfl rfl rfl)
  (case c5 => decide)
  (case kB => exact locs rfl)
  (case c2 => exact rfl)
  (case c3 => exact rfl)
  (case c4 => exact rfl)
  intro h₁ F N
  dsimp only
  k_with_none
  k_with "call builtin:len" => k_dflt (refine len_kept (by k_asm) hl hn ?_)
  k_with "exec While Compare cons nil" => k_dflt (refine While_inv (BisJ l wish vs.length cnt) (n₀ := vs.length) (by k_asm) (by k_asm) ⟨0, vs.length, _, _, _, rfl, rfl, rfl, rfl, rfl, by omega, by omega, by have := hk.1; omega, by omega, by omega⟩ ?_)
  k_steps
  rename BisJ _ _ _ _ _ _ _ => J
  obtain ⟨lo, hi, t1, t2, t3, m1, m2, m3, m4, m5, b1, b2, b3, b4, b5⟩ := J
  k_with "eval Name" => k_dflt (refine' ld ?k1 ?k2 ?_; (case k1 => k_asm); (case k2 => first | exact m1 | exact m2 | exact m3 | exact m4 | exact m5))
  k_steps
  · obtain ⟨c1, c2, x, t, k, hv, hx, hr, hkk⟩ := mid_item hk b1 b4 (by assumption)
    refine item_kept (by k_asm) hl hn (by omega) hv ?_
    k_with "call ref" => k_dflt (refine off_call (by k_asm) (by k_asm) (by k_asm) (by k_asm) (by show _ + 1 < recursionLimit; omega) hx hr ?_)
    k_steps
    · have := hc _ _ hkk
      rename Fr _ _ _ _ => F9
      rename News _ _ _ _ => N9
      exact WhileStep.intro (n' := (hi - ((lo + hi).fdiv 2 + 1)).toNat) F9 N9 (by omega) ⟨(lo + hi).fdiv 2 + 1, hi, _, _, _, rfl, m2, m3, m4, m5, by omega, by omega, by omega, by omega, by omega⟩
    · have := hc _ _ hkk
      rename Fr _ _ _ _ => F9
      rename News _ _ _ _ => N9
      exact WhileStep.intro (n' := ((lo + hi).fdiv 2 - lo).toNat) F9 N9 (by omega) ⟨lo, (lo + hi).fdiv 2, _, _, _, m1, rfl, m3, m4, m5, b1, b2, by omega, by omega, by omega⟩
  · have e : lo = cnt := by omega
    subst e
    exact ret _ _ _ (Fr.keep (by assumption))
end Mine

end
section
theorem Mine.fresh_Says1 : True := by
  w_top off
  k_with_none
  exact trivial
open PySem PySem.W PyProof.Rows PySem.Calls
set_option maxRecDepth 100000
set_option maxHeartbeats 8000000
namespace Mine
theorem off_call_none {w : World} {p : Program} {loose : List Str} {mean : ExcName → Option Value} {mg mb : Str → Option Value} {A : Around} {s : Shared} {h₀ : Heap} {L : Addr} {m : Str → Option Value} {news : List (Addr × Obj)} {x : Str} {u : Tok} {Q E : Value → Shared → Prop}
    (F : Fr h₀ L s.heap m) (N : News h₀ L s.heap news) (X : (Mine.hd.heap_39 w.params).In h₀) (T : Top p loose mean mg mb h₀) (hd : A.depth < recursionLimit) (hx : x.length ≤ 640) (hr : offVal x = some none)
    (ret : ∀ h' tk', Fr h₀ L h' m → News h₀ L h' news → Q .none { s with heap := h', toks := tk' }) :
    wpAny (model Challenge.rw_nb0139_01.row.prog w) A (call (.ref 44) [.str x u]) Q E s :=
  off_walk (X.keeps F.keep) (T.keeps F.keep) hd hx none hr fun v h' tk' ho hk => by
    cases ho
    exact ret h' tk' (Fr.kept F hk) (News.kept N hk)

theorem says_walk {w : World} {p : Program} {loose : List Str} {mean : ExcName → Option Value} {mg mb : Str → Option Value} {A : Around} {s : Shared} {x : Str} {u : Tok} {r : Option Int} {sv : Value} {Q E : Value → Shared → Prop}
    (X : (Mine.hd.heap_39 w.params).In s.heap) (T : Top p loose mean mg mb s.heap) (hd : A.depth + 1 < recursionLimit) (hx : x.length ≤ 640) (hr : offVal x = some r) (hs : IsOff r sv)
    (ret : ∀ h' tk', Kept s.heap h' → Q (.bool true) { s with heap := h', toks := tk' }) :
    wpAny (model Challenge.rw_nb0139_01.row.prog w) A (call (.ref 101) [.str x u, sv]) Q E s := by
  revert X; k_fill; intro X
  refine wpAny_call ?_
  refine' enter X T ?k6 ?k7 (by omega) ?k9 ?kB ?c5 ?_ ?c2 ?c3 ?c4
  (case k6 => k_is)
  (case k7 => k_is)
  (case k9 => first | exact BindsTo.of_eq rfl | exact binds_K (by k_in) rfl (by k_is) rfl rfl rfl)
  (case c5 => decide)
  (case kB => exact locs rfl)
  (case c2 => exact rfl)
  (case c3 => exact rfl)
  (case c4 => exact rfl)
  intro h₁ F N
  dsimp only
  k_with_none
  cases r with
  | none =>
    cases hs
    k_with "call ref" => k_dflt (refine off_call_none (by k_asm) (by k_asm) (by k_asm) (by k_asm) (by show _ + 1 < recursionLimit; omega) hx hr ?_)
    k_steps
    exact ret _ _ (Fr.keep (by assumption))
  | some k =>
    obtain ⟨t, rfl⟩ := hs
    k_with "call ref" => k_dflt (refine off_call (by k_asm) (by k_asm) (by k_asm) (by k_asm) (by show _ + 1 < recursionLimit; omega) hx hr ?_)
    k_steps
    rw [show (k == k) = true from by simp]
    exact ret _ _ (Fr.keep (by assumption))
end Mine

end
section
theorem Mine.fresh_Tab1 : True := by
  w_top off
  k_with_none
  exact trivial
open PySem PySem.W PyProof.Rows PySem.Calls
set_option maxRecDepth 100000
namespace Mine
theorem tab_cut {l : List (List Nat × Option Int)} {P : List Nat × Option Int → Prop} (n : Nat) (h1 : ∀ p ∈ l.take n, P p) (h2 : ∀ p ∈ l.drop n, P p) : ∀ p ∈ l, P p := fun p hp => by
  rw [← List.take_append_drop n l] at hp
  rcases List.mem_append.mp hp with h | h
  · exact h1 p h
  · exact h2 p h
def offTab0 : List (List Nat × Option Int) := [([], none), ([90], some (0)), ([43, 49], some (3600)), ([43, 50], some (7200)), ([45, 49], some (-3600)), ([45, 50], some (-7200)), ([49, 58], some (3600)), ([50, 58], some (7200)), ([85, 84], some (0)), ([43, 48, 48], some (0)), ([43, 49, 58], some (3600)), ([43, 50, 58], some (7200)), ([45, 48, 48], some (0)), ([45, 49, 58], some (-3600)), ([45, 50, 58], some (-7200)), ([48, 49, 58], some (3600)), ([48, 50, 58], some (7200)), ([69, 83, 84], none), ([71, 77, 84], some (0)), ([85, 84, 67], some (0))]
theorem offTab0a : ∀ p ∈ (offTab0).take 5, offVal ⟨p.1.toArray⟩ = some p.2 := by decide +kernel
theorem offTab0b : ∀ p ∈ ((offTab0).drop 5).take 5, offVal ⟨p.1.toArray⟩ = some p.2 := by decide +kernel
theorem offTab0c : ∀ p ∈ (((offTab0).drop 5).drop 5).take 5, offVal ⟨p.1.toArray⟩ = some p.2 := by decide +kernel
theorem offTab0d : ∀ p ∈ (((offTab0).drop 5).drop 5).drop 5, offVal ⟨p.1.toArray⟩ = some p.2 := by decide +kernel
theorem offTab0_ok : ∀ p ∈ offTab0, offVal ⟨p.1.toArray⟩ = some p.2 := tab_cut 5 offTab0a (tab_cut 5 offTab0b (tab_cut 5 offTab0c offTab0d))
def offTab1 : List (List Nat × Option Int) := [([103, 109, 116], none), ([43, 48, 49, 53], some (900)), ([43, 48, 49, 58], some (3600)), ([43, 48, 50, 58], some (7200)), ([43, 48, 51, 48], some (1800)), ([43, 48, 52, 53], some (2700)), ([43, 49, 49, 53], some (4500)), ([43, 49, 51, 48], some (5400)), ([43, 49, 52, 53], some (6300)), ([43, 49, 58, 51], none), ([45, 48, 49, 53], some (-900)), ([45, 48, 49, 58], some (-3600)), ([45, 48, 50, 58], some (-7200)), ([45, 48, 51, 48], some (-1800)), ([45, 48, 52, 53], some (-2700)), ([45, 49, 49, 53], some (-4500)), ([45, 49, 51, 48], some (-5400)), ([45, 49, 52, 53], some (-6300)), ([48, 58, 49, 53], some (900)), ([48, 58, 51, 48], some (1800))]
theorem offTab1a : ∀ p ∈ (offTab1).take 5, offVal ⟨p.1.toArray⟩ = some p.2 := by decide +kernel
theorem offTab1b : ∀ p ∈ ((offTab1).drop 5).take 5, offVal ⟨p.1.toArray⟩ = some p.2 := by decide +kernel
theorem offTab1c : ∀ p ∈ (((offTab1).drop 5).drop 5).take 5, offVal ⟨p.1.toArray⟩ = some p.2 := by decide +kernel
theorem offTab1d : ∀ p ∈ (((offTab1).drop 5).drop 5).drop 5, offVal ⟨p.1.toArray⟩ = some p.2 := by decide +kernel
theorem offTab1_ok : ∀ p ∈ offTab1, offVal ⟨p.1.toArray⟩ = some p.2 := tab_cut 5 offTab1a (tab_cut 5 offTab1b (tab_cut 5 offTab1c offTab1d))
def offTab2 : List (List Nat × Option Int) := [([48, 58, 52, 53], some (2700)), ([49, 32, 51, 48], none), ([49, 58, 49, 53], some (4500)), ([49, 58, 51, 48], some (5400)), ([49, 58, 52, 53], some (6300)), ([43, 48, 48, 49, 53], some (900)), ([43, 48, 48, 51, 48], some (1800)), ([43, 48, 48, 52, 53], some (2700)), ([43, 48, 48, 54, 48], some (3600)), ([43, 48, 48, 55, 53], some (4500)), ([43, 48, 48, 57, 48], some (5400)), ([43, 48, 49, 48, 48], some (3600)), ([43, 48, 49, 49, 53], some (4500)), ([43, 48, 49, 51, 48], some (5400)), ([43, 48, 49, 52, 53], some (6300)), ([43, 48, 49, 54, 48], some (7200)), ([43, 48, 50, 48, 48], some (7200)), ([43, 48, 58, 49, 53], some (900)), ([43, 48, 58, 51, 48], some (1800)), ([43, 48, 58, 52, 53], some (2700))]
theorem offTab2a : ∀ p ∈ (offTab2).take 5, offVal ⟨p.1.toArray⟩ = some p.2 := by decide +kernel
theorem offTab2b : ∀ p ∈ ((offTab2).drop 5).take 5, offVal ⟨p.1.toArray⟩ = some p.2 := by decide +kernel
theorem offTab2c : ∀ p ∈ (((offTab2).drop 5).drop 5).take 5, offVal ⟨p.1.toArray⟩ = some p.2 := by decide +kernel
theorem offTab2d : ∀ p ∈ (((offTab2).drop 5).drop 5).drop 5, offVal ⟨p.1.toArray⟩ = some p.2 := by decide +kernel
theorem offTab2_ok : ∀ p ∈ offTab2, offVal ⟨p.1.toArray⟩ = some p.2 := tab_cut 5 offTab2a (tab_cut 5 offTab2b (tab_cut 5 offTab2c offTab2d))
def offTab3 : List (List Nat × Option Int) := [([43, 49, 58, 49, 53], some (4500)), ([43, 49, 58, 51, 48], some (5400)), ([43, 49, 58, 52, 53], some (6300)), ([45, 48, 48, 49, 53], some (-900)), ([45, 48, 48, 51, 48], some (-1800)), ([45, 48, 48, 52, 53], some (-2700)), ([45, 48, 48, 54, 48], some (-3600)), ([45, 48, 48, 55, 53], some (-4500)), ([45, 48, 48, 57, 48], some (-5400)), ([45, 48, 49, 48, 48], some (-3600)), ([45, 48, 49, 49, 53], some (-4500)), ([45, 48, 49, 51, 48], some (-5400)), ([45, 48, 49, 52, 53], some (-6300)), ([45, 48, 49, 54, 48], some (-7200)), ([45, 48, 50, 48, 48], some (-7200)), ([45, 48, 58, 49, 53], some (-900)), ([45, 48, 58, 51, 48], some (-1800)), ([45, 48, 58, 52, 53], some (-2700)), ([45, 49, 58, 49, 53], some (-4500)), ([45, 49, 58, 51, 48], some (-5400))]
theorem offTab3a : ∀ p ∈ (offTab3).take 5, offVal ⟨p.1.toArray⟩ = some p.2 := by decide +kernel
theorem offTab3b : ∀ p ∈ ((offTab3).drop 5).take 5, offVal ⟨p.1.toArray⟩ = some p.2 := by decide +kernel
theorem offTab3c : ∀ p ∈ (((offTab3).drop 5).drop 5).take 5, offVal ⟨p.1.toArray⟩ = some p.2 := by decide +kernel
theorem offTab3d : ∀ p ∈ (((offTab3).drop 5).drop 5).drop 5, offVal ⟨p.1.toArray⟩ = some p.2 := by decide +kernel
theorem offTab3_ok : ∀ p ∈ offTab3, offVal ⟨p.1.toArray⟩ = some p.2 := tab_cut 5 offTab3a (tab_cut 5 offTab3b (tab_cut 5 offTab3c offTab3d))
def offTab4 : List (List Nat × Option Int) := [([45, 49, 58, 52, 53], some (-6300)), ([48, 48, 58, 49, 53], some (900)), ([48, 48, 58, 51, 48], some (1800)), ([48, 48, 58, 52, 53], some (2700)), ([48, 49, 58, 49, 53], some (4500)), ([48, 49, 58, 51, 48], some (5400)), ([48, 49, 58, 52, 53], some (6300)), ([43, 48, 48, 58, 49, 53], some (900)), ([43, 48, 48, 58, 51, 48], some (1800)), ([43, 48, 48, 58, 52, 53], some (2700)), ([43, 48, 49, 58, 49, 53], some (4500)), ([43, 48, 49, 58, 51, 48], some (5400)), ([43, 48, 49, 58, 52, 53], some (6300)), ([45, 48, 48, 58, 49, 53], some (-900)), ([45, 48, 48, 58, 51, 48], some (-1800)), ([45, 48, 48, 58, 52, 53], some (-2700)), ([45, 48, 49, 58, 49, 53], some (-4500)), ([45, 48, 49, 58, 51, 48], some (-5400)), ([45, 48, 49, 58, 52, 53], some (-6300))]
theorem offTab4a : ∀ p ∈ (offTab4).take 5, offVal ⟨p.1.toArray⟩ = some p.2 := by decide +kernel
theorem offTab4b : ∀ p ∈ ((offTab4).drop 5).take 5, offVal ⟨p.1.toArray⟩ = some p.2 := by decide +kernel
theorem offTab4c : ∀ p ∈ (((offTab4).drop 5).drop 5).take 5, offVal ⟨p.1.toArray⟩ = some p.2 := by decide +kernel
theorem offTab4d : ∀ p ∈ (((offTab4).drop 5).drop 5).drop 5, offVal ⟨p.1.toArray⟩ = some p.2 := by decide +kernel
theorem offTab4_ok : ∀ p ∈ offTab4, offVal ⟨p.1.toArray⟩ = some p.2 := tab_cut 5 offTab4a (tab_cut 5 offTab4b (tab_cut 5 offTab4c offTab4d))
def offTab : List (List Nat × Option Int) := offTab0 ++ offTab1 ++ offTab2 ++ offTab3 ++ offTab4
theorem offTab_ok (p : List Nat × Option Int) (h : p ∈ offTab) : offVal ⟨p.1.toArray⟩ = some p.2 := by
  unfold offTab at h
  simp only [List.mem_append] at h
  rcases h with (((h | h) | h) | h) | h
  · exact offTab0_ok p h
  · exact offTab1_ok p h
  · exact offTab2_ok p h
  · exact offTab3_ok p h
  · exact offTab4_ok p h
/-- what the table tells of x -/
def offLook (x : Str) : Option (Option Int) := (offTab.find? fun p => p.1 == x.cps.toList).map (·.2)
theorem offLook_ok {x : Str} {r : Option Int} (h : offLook x = some r) : offVal x = some r ∧ x.length ≤ 10 := by
  unfold offLook at h
  obtain ⟨p, hp, rfl⟩ := Option.map_eq_some_iff.mp h
  have hm := List.mem_of_find?_eq_some hp
  have he : p.1 = x.cps.toList := by simpa using List.find?_some hp
  have := offTab_ok p hm
  rw [he] at this
  refine ⟨this, ?_⟩
  have hl : ∀ p ∈ offTab, p.1.length ≤ 10 := by decide +kernel
  have := hl p hm
  rw [he] at this
  exact this
end Mine

end
section
theorem Mine.fresh_Clk0 : True := by
  w_top off
  k_with_none
  exact trivial
open PySem PySem.W PyProof.Rows PySem.Calls
set_option maxRecDepth 100000
set_option maxHeartbeats 8000000
namespace Mine
@[irreducible] def tl3 (n : Int) : Str := Txt.slice (Str.ofString (toString n)) (some 1) none
@[irreducible] def clockOk (d q : Int) (c : Str) : Bool := q == 0 || (decide (c.length ≤ 100) && offLook (Str.ofString "-" ++ c) == some (some (-(900 * if q < 0 then -q else q))) && offLook (Str.ofString "+" ++ c) == some (some (900 * if q < 0 then -q else q)) &&
  (!(d == 1 || d == 3) || offLook c == some (some (900 * if q < 0 then -q else q))))
theorem all_q {P : Int → Prop} (h : ∀ q ∈ [(-8 : Int), -7, -6, -5, -4, -3, -2, -1, 0, 1, 2, 3, 4, 5, 6, 7, 8], P q) {q : Int} (q0 : -8 ≤ q) (q1 : q ≤ 8) : P q := by
  refine h q ?_
  simp only [List.mem_cons, List.not_mem_nil, or_false]
  omega
theorem tl3_length (n : Int) (h0 : 0 ≤ n) (h1 : n < 10 ^ 10) : (tl3 n).length ≤ 10 := by unfold tl3; exact Nat.le_trans (PyProof.Txt.length_slice_le _ _ _) (KT.len_num h0 h1)
theorem slice_tl3 {prog : Program} {w : World} {A : Around} {E : Value → Shared → Prop} {s : Shared} {value slice : PySem.Expr} {n : Int} {t : Tok} {h₀ : Heap} {L : Addr} {m : Str → Option Value} {news : List (Addr × Obj)} {Q : Value → Shared → Prop} {ui : Tok} (hF : Fr h₀ L s.heap m) (hN : News h₀ L s.heap news)
    (h0 : 0 ≤ n) (h1 : n < 10 ^ 10)
    (h : ∀ y h' t' k, y = tl3 n → y.length ≤ 10 → Fr h₀ L h' m → News h₀ L h' news → Q (.str y t') { s with heap := h', toks := k })
    (hs : subscripted slice false (.str (Str.ofString (toString n)) t) (.ref s.heap.objs.size) = operate [.ref s.heap.objs.size, .str (Str.ofString (toString n)) t] (getItem (.str (Str.ofString (toString n)) t) (.ref s.heap.objs.size)) := by with_unfolding_all rfl)
    (ht : ∀ r, letTemporaryGo value (.str (Str.ofString (toString n)) t) r = pure () := by intro _; with_unfolding_all rfl) :
    wpAny (model prog w) A (subscriptTail value slice (.str (Str.ofString (toString n)) t) (.ref s.heap.objs.size)) Q E { s with heap := s.heap.push { cls := .type "slice", data := .fields #[.int 1 ui, .none, .none] } } :=
  have e : tl3 n = Txt.slice (Str.ofString (toString n)) (some 1) none := by unfold tl3; rfl
  slice_strN_sn hF hN (fun h' t' k a b => h _ h' t' k e.symm (e ▸ tl3_length n h0 h1) a b) hs ht (Nat.le_trans (KT.len_num h0 h1) (by decide))
theorem hours_facts {q : Int} (q0 : -8 ≤ q) (q1 : q ≤ 8) : 0 ≤ (15 * if q < 0 then -q else q).fdiv 60 ∧ (15 * if q < 0 then -q else q).fdiv 60 ≤ 2 ∧ 0 ≤ (15 * if q < 0 then -q else q).fmod 60 ∧ (15 * if q < 0 then -q else q).fmod 60 < 60 :=
  all_q (P := fun q => 0 ≤ (15 * if q < 0 then -q else q).fdiv 60 ∧ (15 * if q < 0 then -q else q).fdiv 60 ≤ 2 ∧ 0 ≤ (15 * if q < 0 then -q else q).fmod 60 ∧ (15 * if q < 0 then -q else q).fmod 60 < 60) (by decide) q0 q1

theorem clk0 {q : Int} (q0 : -8 ≤ q) (q1 : q ≤ 8) : clockOk 0 q (tl3 (100 + (15 * if q < 0 then -q else q).fdiv 60) ++ tl3 (100 + (15 * if q < 0 then -q else q).fmod 60)) = true :=
  all_q (P := fun q => clockOk 0 q (tl3 (100 + (15 * if q < 0 then -q else q).fdiv 60) ++ tl3 (100 + (15 * if q < 0 then -q else q).fmod 60)) = true) (by decide +kernel) q0 q1
theorem clk0y {q : Int} {y1 y2 : Str} (q0 : -8 ≤ q) (q1 : q ≤ 8) (hy1 : y1 = tl3 (100 + (15 * if q < 0 then -q else q).fdiv 60)) (hy2 : y2 = tl3 (100 + (15 * if q < 0 then -q else q).fmod 60)) : clockOk 0 q (y1 ++ y2) = true := by
  subst hy1; subst hy2
  exact clk0 q0 q1
theorem clk1a {q : Int} (q0 : -8 ≤ q) (q1 : q ≤ 8) : (15 * if q < 0 then -q else q).fmod 60 = 0 → clockOk 1 q (Str.ofString (toString ((15 * if q < 0 then -q else q).fdiv 60)) ++ Str.ofString ":" ++ Str.ofString "") = true :=
  all_q (P := fun q => (15 * if q < 0 then -q else q).fmod 60 = 0 → clockOk 1 q (Str.ofString (toString ((15 * if q < 0 then -q else q).fdiv 60)) ++ Str.ofString ":" ++ Str.ofString "") = true) (by decide +kernel) q0 q1
theorem clk1b {q : Int} (q0 : -8 ≤ q) (q1 : q ≤ 8) : (15 * if q < 0 then -q else q).fmod 60 ≠ 0 → clockOk 1 q (Str.ofString (toString ((15 * if q < 0 then -q else q).fdiv 60)) ++ Str.ofString ":" ++ tl3 (100 + (15 * if q < 0 then -q else q).fmod 60)) = true :=
  all_q (P := fun q => (15 * if q < 0 then -q else q).fmod 60 ≠ 0 → clockOk 1 q (Str.ofString (toString ((15 * if q < 0 then -q else q).fdiv 60)) ++ Str.ofString ":" ++ tl3 (100 + (15 * if q < 0 then -q else q).fmod 60)) = true) (by decide +kernel) q0 q1
theorem clk1by {q : Int} {y2 : Str} (q0 : -8 ≤ q) (q1 : q ≤ 8) (hy2 : y2 = tl3 (100 + (15 * if q < 0 then -q else q).fmod 60)) : (15 * if q < 0 then -q else q).fmod 60 ≠ 0 → clockOk 1 q (Str.ofString (toString ((15 * if q < 0 then -q else q).fdiv 60)) ++ Str.ofString ":" ++ y2) = true := by
  subst hy2
  exact clk1b q0 q1
theorem clk2a {q : Int} (q0 : -8 ≤ q) (q1 : q ≤ 8) : (15 * if q < 0 then -q else q).fmod 60 = 0 → clockOk 2 q (Str.ofString (toString ((15 * if q < 0 then -q else q).fdiv 60)) ++ Str.ofString "") = true :=
  all_q (P := fun q => (15 * if q < 0 then -q else q).fmod 60 = 0 → clockOk 2 q (Str.ofString (toString ((15 * if q < 0 then -q else q).fdiv 60)) ++ Str.ofString "") = true) (by decide +kernel) q0 q1
theorem clk2b {q : Int} (q0 : -8 ≤ q) (q1 : q ≤ 8) : (15 * if q < 0 then -q else q).fmod 60 ≠ 0 → clockOk 2 q (Str.ofString (toString ((15 * if q < 0 then -q else q).fdiv 60)) ++ tl3 (100 + (15 * if q < 0 then -q else q).fmod 60)) = true :=
  all_q (P := fun q => (15 * if q < 0 then -q else q).fmod 60 ≠ 0 → clockOk 2 q (Str.ofString (toString ((15 * if q < 0 then -q else q).fdiv 60)) ++ tl3 (100 + (15 * if q < 0 then -q else q).fmod 60)) = true) (by decide +kernel) q0 q1
theorem clk2by {q : Int} {y2 : Str} (q0 : -8 ≤ q) (q1 : q ≤ 8) (hy2 : y2 = tl3 (100 + (15 * if q < 0 then -q else q).fmod 60)) : (15 * if q < 0 then -q else q).fmod 60 ≠ 0 → clockOk 2 q (Str.ofString (toString ((15 * if q < 0 then -q else q).fdiv 60)) ++ y2) = true := by
  subst hy2
  exact clk2b q0 q1
theorem clk3a {q : Int} (q0 : -8 ≤ q) (q1 : q ≤ 8) : (15 * if q < 0 then -q else q).fmod 60 = 0 → clockOk 3 q (tl3 (100 + (15 * if q < 0 then -q else q).fdiv 60) ++ Str.ofString ":" ++ Str.ofString "") = true :=
  all_q (P := fun q => (15 * if q < 0 then -q else q).fmod 60 = 0 → clockOk 3 q (tl3 (100 + (15 * if q < 0 then -q else q).fdiv 60) ++ Str.ofString ":" ++ Str.ofString "") = true) (by decide +kernel) q0 q1
theorem clk3ay {q : Int} {y1 : Str} (q0 : -8 ≤ q) (q1 : q ≤ 8) (hy1 : y1 = tl3 (100 + (15 * if q < 0 then -q else q).fdiv 60)) : (15 * if q < 0 then -q else q).fmod 60 = 0 → clockOk 3 q (y1 ++ Str.ofString ":" ++ Str.ofString "") = true := by
  subst hy1
  exact clk3a q0 q1
theorem clk3b {q : Int} (q0 : -8 ≤ q) (q1 : q ≤ 8) : (15 * if q < 0 then -q else q).fmod 60 ≠ 0 → clockOk 3 q (tl3 (100 + (15 * if q < 0 then -q else q).fdiv 60) ++ Str.ofString ":" ++ tl3 (100 + (15 * if q < 0 then -q else q).fmod 60)) = true :=
  all_q (P := fun q => (15 * if q < 0 then -q else q).fmod 60 ≠ 0 → clockOk 3 q (tl3 (100 + (15 * if q < 0 then -q else q).fdiv 60) ++ Str.ofString ":" ++ tl3 (100 + (15 * if q < 0 then -q else q).fmod 60)) = true) (by decide +kernel) q0 q1
theorem clk3by {q : Int} {y1 y2 : Str} (q0 : -8 ≤ q) (q1 : q ≤ 8) (hy1 : y1 = tl3 (100 + (15 * if q < 0 then -q else q).fdiv 60)) (hy2 : y2 = tl3 (100 + (15 * if q < 0 then -q else q).fmod 60)) : (15 * if q < 0 then -q else q).fmod 60 ≠ 0 → clockOk 3 q (y1 ++ Str.ofString ":" ++ y2) = true := by
  subst hy1; subst hy2
  exact clk3b q0 q1
theorem clk4a {q : Int} (q0 : -8 ≤ q) (q1 : q ≤ 8) : 0 < (15 * if q < 0 then -q else q).fdiv 60 → (15 * if q < 0 then -q else q).fmod 60 < 40 → clockOk 4 q (tl3 (100 + ((15 * if q < 0 then -q else q).fdiv 60 - 1)) ++ tl3 (100 + ((15 * if q < 0 then -q else q).fmod 60 + 60))) = true :=
  all_q (P := fun q => 0 < (15 * if q < 0 then -q else q).fdiv 60 → (15 * if q < 0 then -q else q).fmod 60 < 40 → clockOk 4 q (tl3 (100 + ((15 * if q < 0 then -q else q).fdiv 60 - 1)) ++ tl3 (100 + ((15 * if q < 0 then -q else q).fmod 60 + 60))) = true) (by decide +kernel) q0 q1
theorem clk4ay {q : Int} {y1 y2 : Str} (q0 : -8 ≤ q) (q1 : q ≤ 8) (hy1 : y1 = tl3 (100 + ((15 * if q < 0 then -q else q).fdiv 60 - 1))) (hy2 : y2 = tl3 (100 + ((15 * if q < 0 then -q else q).fmod 60 + 60))) : 0 < (15 * if q < 0 then -q else q).fdiv 60 → (15 * if q < 0 then -q else q).fmod 60 < 40 → clockOk 4 q (y1 ++ y2) = true := by
  subst hy1; subst hy2
  exact clk4a q0 q1
theorem clk4b {q : Int} (q0 : -8 ≤ q) (q1 : q ≤ 8) : clockOk 4 q (tl3 (100 + (15 * if q < 0 then -q else q).fdiv 60) ++ tl3 (100 + (15 * if q < 0 then -q else q).fmod 60)) = true :=
  all_q (P := fun q => clockOk 4 q (tl3 (100 + (15 * if q < 0 then -q else q).fdiv 60) ++ tl3 (100 + (15 * if q < 0 then -q else q).fmod 60)) = true) (by decide +kernel) q0 q1
theorem clk4by {q : Int} {y1 y2 : Str} (q0 : -8 ≤ q) (q1 : q ≤ 8) (hy1 : y1 = tl3 (100 + (15 * if q < 0 then -q else q).fdiv 60)) (hy2 : y2 = tl3 (100 + (15 * if q < 0 then -q else q).fmod 60)) : clockOk 4 q (y1 ++ y2) = true := by
  subst hy1; subst hy2
  exact clk4b q0 q1
end Mine

end
section
theorem Mine.fresh_Clk1 : True := by
  w_top off
  k_with_none
  exact trivial
open PySem PySem.W PyProof.Rows PySem.Calls
set_option maxRecDepth 100000
set_option maxHeartbeats 8000000
namespace Mine
local macro_rules | `(tactic| walk_at "binaryOp Add str str") => `(tactic| (k_here; k_dflt (refine add_str ?_ (by (try simp only [Str.length_append]); rw [sizeLine_eq]; omega))))
local macro_rules | `(tactic| walk_at "subscriptTail Call") => `(tactic| (k_here; (with_reducible show wpAny _ _ (subscriptTail _ (PySem.Expr.Slice _ _ _ _) (Value.str (Str.ofString (toString _)) _) (Value.ref _)) _ _ _); k_dflt (refine slice_tl3 (by k_asm) (by k_asm) (by omega) (by omega) ?_)))
theorem clock_walk {w : World} {p : Program} {loose : List Str} {mean : ExcName → Option Value} {mg mb : Str → Option Value} {A : Around} {s : Shared} {d q : Int} {u u' : Tok} {Q E : Value → Shared → Prop}
    (X : (Mine.hd.heap_39 w.params).In s.heap) (T : Top p loose mean mg mb s.heap) (hd : A.depth < recursionLimit) (hA : A.handled = none) (d0 : 0 ≤ d) (d1 : d ≤ 4) (q0 : -8 ≤ q) (q1 : q ≤ 8)
    (ret : ∀ c t h' tk', clockOk d q c = true → Kept s.heap h' → Q (.str c t) { s with heap := h', toks := tk' }) :
    wpAny (model Challenge.rw_nb0139_01.row.prog w) A (call (.ref 87) [.int d u, .int q u']) Q E s := by
  revert X; k_fill; intro X
  refine wpAny_call ?_
  refine' enter X T ?k6 ?k7 (by omega) ?k9 ?kB ?c5 ?_ ?c2 ?c3 ?c4
  (case k6 => k_is)
  (case k7 => k_is)
  (case k9 => first | exact BindsTo.of_eq rfl | exact binds_K (by k_in) rfl (by k_is) rfl rfl rfl)
  (case c5 => decide)
  (case kB => exact locs rfl)
  (case c2 => exact rfl)
  (case c3 => exact rfl)
  (case c4 => exact rfl)
  intro h₁ F N
  dsimp only
  k_with_none
  k_with "unpackItems" => k_dflt (refine' unpackItemsN_ ?k1 ?k2 ?k3 hA ?k5 ?_; (case k1 => k_asm); (case k2 => k_asm); (case k3 => exact News.isTup (by k_asm) (by k_mem)); (case k5 => exact rfl); intro h' F' N'; (try k_sweep))
  k_with "assign Tuple" => k_dflt (refine' unpackN_ ?k1 ?k2 ?k3 ?k4 ?k5 ?k6 ?_; (case k1 => k_asm); (case k2 => k_asm); (case k3 => exact News.isTup (by k_asm) (by k_mem)); (case k4 => exact hA); (case k5 => exact rfl); (case k6 => exact rfl); intro h' F' N'; (try k_sweep))
  k_with "subscriptTail Name Slice str ref" => k_dflt (refine slice_tl3 (by k_asm) (by k_asm) (by omega) (by omega) ?_)
  obtain ⟨hH0, hH1, hM0, hM1⟩ := hours_facts q0 q1
  have hl1 := KT.len_num (n := (15 * if q < 0 then -q else q).fdiv 60) hH0 (by omega)
  have hl2 : (Str.ofString ":").length = 1 := by decide +kernel
  have hl3 : (Str.ofString "").length = 0 := by decide +kernel
  k_with "binaryOp Add str str" => k_dflt (refine add_str ?_ (by (try simp only [Str.length_append]); rw [sizeLine_eq]; omega))
  rcases (show d = 0 ∨ d = 1 ∨ d = 2 ∨ d = 3 ∨ d = 4 by omega) with hdd | hdd | hdd | hdd | hdd
  · subst hdd
    repeat' (first | (k_unfold; (try dsimp only)) | walk1 | (dsimp only; walk1))
    all_goals (dsimp only; refine ret _ _ _ _ ?cl (Fr.keep (by assumption)); (case cl => first | exact clk0y q0 q1 (by assumption) (by assumption)))
  · subst hdd
    repeat' (first | (k_unfold; (try dsimp only)) | walk1 | (dsimp only; walk1))
    all_goals (dsimp only; refine ret _ _ _ _ ?cl (Fr.keep (by assumption)); (case cl => first | exact clk1a q0 q1 (by assumption) | exact clk1by q0 q1 (by assumption) (by assumption)))
  · subst hdd
    repeat' (first | (k_unfold; (try dsimp only)) | walk1 | (dsimp only; walk1))
    all_goals (dsimp only; refine ret _ _ _ _ ?cl (Fr.keep (by assumption)); (case cl => first | exact clk2a q0 q1 (by assumption) | exact clk2by q0 q1 (by assumption) (by assumption)))
  · subst hdd
    repeat' (first | (k_unfold; (try dsimp only)) | walk1 | (dsimp only; walk1))
    all_goals (dsimp only; refine ret _ _ _ _ ?cl (Fr.keep (by assumption)); (case cl => first | exact clk3ay q0 q1 (by assumption) (by assumption) | exact clk3by q0 q1 (by assumption) (by assumption) (by assumption)))
  · subst hdd
    repeat' (first | (k_unfold; (try dsimp only)) | walk1 | (dsimp only; walk1))
    all_goals (dsimp only; refine ret _ _ _ _ ?cl (Fr.keep (by assumption)); (case cl => first | exact clk4ay q0 q1 (by assumption) (by assumption) (by assumption) (by assumption) | exact clk4by q0 q1 (by assumption) (by assumption)))
end Mine

end
section
theorem Mine.fresh_Zone1 : True := by
  w_top off
  k_with_none
  exact trivial
open PySem PySem.W PyProof.Rows PySem.Calls
set_option maxRecDepth 100000
set_option maxHeartbeats 8000000
namespace Mine
theorem clock_call {w : World} {p : Program} {loose : List Str} {mean : ExcName → Option Value} {mg mb : Str → Option Value} {A : Around} {s : Shared} {h₀ : Heap} {L : Addr} {m : Str → Option Value} {news : List (Addr × Obj)} {d q : Int} {u u' : Tok} {Q E : Value → Shared → Prop}
    (F : Fr h₀ L s.heap m) (N : News h₀ L s.heap news) (X : (Mine.hd.heap_39 w.params).In h₀) (T : Top p loose mean mg mb h₀) (hd : A.depth < recursionLimit) (hA : A.handled = none) (d0 : 0 ≤ d) (d1 : d ≤ 4) (q0 : -8 ≤ q) (q1 : q ≤ 8) (hq : q ≠ 0)
    (ret : ∀ c t h' tk', clockOk d q c = true → c.length ≤ 100 → Fr h₀ L h' m → News h₀ L h' news → Q (.str c t) { s with heap := h', toks := tk' }) :
    wpAny (model Challenge.rw_nb0139_01.row.prog w) A (call (.ref 87) [.int d u, .int q u']) Q E s :=
  clock_walk (X.keeps F.keep) (T.keeps F.keep) hd hA d0 d1 q0 q1 fun c t h' tk' hc hk => ret c t h' tk' hc (by
    have hc' := hc
    unfold clockOk at hc'
    rw [show (q == 0) = false from by simpa using hq, Bool.false_or] at hc'
    simp only [Bool.and_eq_true, decide_eq_true_eq] at hc'
    exact hc'.1.1.1) (Fr.kept F hk) (News.kept N hk)

/-- a zone's three parts -/
structure ZoneOk (r : Option Int) (sv a b : Value) : Prop where
  sec : IsOff r sv
  txt : ∃ x t, a = Value.str x t ∧ x.length ≤ 640 ∧ offVal x = some r
  trn : ∃ y t, b = Value.str y t ∧ y.length ≤ 640 ∧ offVal y = some (r.map (fun k => -k))
abbrev tupObj (vs : Array Value) : Obj := { cls := .type "tuple", data := .seq vs }

theorem clockOk_parts {d q : Int} {c : Str} (h : clockOk d q c = true) (hq : q ≠ 0) : c.length ≤ 100 ∧ offVal (Str.ofString "-" ++ c) = some (some (-(900 * if q < 0 then -q else q))) ∧ offVal (Str.ofString "+" ++ c) = some (some (900 * if q < 0 then -q else q)) ∧
    ((d = 1 ∨ d = 3) → offVal c = some (some (900 * if q < 0 then -q else q))) := by
  unfold clockOk at h
  rw [show (q == 0) = false from by simpa using hq, Bool.false_or] at h
  simp only [Bool.and_eq_true, Bool.or_eq_true, Bool.not_eq_true', decide_eq_true_eq, beq_iff_eq] at h
  obtain ⟨⟨⟨h1, h2⟩, h3⟩, h4⟩ := h
  refine ⟨h1, (offLook_ok h2).1, (offLook_ok h3).1, fun hd => ?_⟩
  rcases h4 with h4 | h4
  · rcases hd with rfl | rfl <;> simp at h4
  · exact (offLook_ok h4).1
theorem zone_lit {r : Option Int} {sv : Value} {x y : Str} {t u : Tok} (hs : IsOff r sv) (hx : offLook x = some r) (hy : offLook y = some (r.map fun k => -k)) : ZoneOk r sv (.str x t) (.str y u) :=
  ⟨hs, ⟨x, t, rfl, Nat.le_trans (offLook_ok hx).2 (by decide), (offLook_ok hx).1⟩, ⟨y, u, rfl, Nat.le_trans (offLook_ok hy).2 (by decide), (offLook_ok hy).1⟩⟩
theorem zone_neg {d q : Int} {c : Str} {t u v : Tok} (h : clockOk d q c = true) (hq : q < 0) : ZoneOk (some (900 * q)) (.int (900 * q) v) (.str (Str.ofString "-" ++ c) t) (.str (Str.ofString "+" ++ c) u) := by
  obtain ⟨h1, h2, h3, _⟩ := clockOk_parts h (by omega)
  rw [if_pos hq] at h2 h3
  have e1 : (Str.ofString "-").length = 1 := by decide +kernel
  have e2 : (Str.ofString "+").length = 1 := by decide +kernel
  refine ⟨⟨_, rfl⟩, ⟨_, _, rfl, by rw [Str.length_append]; omega, ?_⟩, ⟨_, _, rfl, by rw [Str.length_append]; omega, ?_⟩⟩
  · rw [h2, show -(900 * -q) = 900 * q from by omega]
  · rw [h3, show 900 * -q = -(900 * q) from by omega]; rfl
theorem zone_pos {d q : Int} {c : Str} {t u v : Tok} (h : clockOk d q c = true) (hq : ¬ q < 0) (hz : q ≠ 0) : ZoneOk (some (900 * q)) (.int (900 * q) v) (.str (Str.ofString "+" ++ c) t) (.str (Str.ofString "-" ++ c) u) := by
  obtain ⟨h1, h2, h3, _⟩ := clockOk_parts h hz
  rw [if_neg hq] at h2 h3
  have e1 : (Str.ofString "-").length = 1 := by decide +kernel
  have e2 : (Str.ofString "+").length = 1 := by decide +kernel
  exact ⟨⟨_, rfl⟩, ⟨_, _, rfl, by rw [Str.length_append]; omega, h3⟩, ⟨_, _, rfl, by rw [Str.length_append]; omega, h2⟩⟩
theorem zone_bare {d q : Int} {c : Str} {t u v : Tok} (h : clockOk d q c = true) (hq : ¬ q < 0) (hz : q ≠ 0) (hd : ([1, 3].any fun x => x == d) = true) : ZoneOk (some (900 * q)) (.int (900 * q) v) (.str c t) (.str (Str.ofString "-" ++ c) u) := by
  obtain ⟨h1, h2, _, h4⟩ := clockOk_parts h hz
  rw [if_neg hq] at h2 h4
  have e1 : (Str.ofString "-").length = 1 := by decide +kernel
  have hd' : d = 1 ∨ d = 3 := by
    simp only [List.any_cons, List.any_nil, Bool.or_false, Bool.or_eq_true, beq_iff_eq] at hd
    omega
  exact ⟨⟨_, rfl⟩, ⟨_, _, rfl, by omega, h4 hd'⟩, ⟨_, _, rfl, by rw [Str.length_append]; omega, h2⟩⟩
local macro_rules | `(tactic| walk_at "binaryOp Add str str") => `(tactic| (k_here; k_dflt (refine add_str ?_ (by (try simp only [Str.length_append]); rw [sizeLine_eq]; omega))))
theorem zone_walk {w : World} {p : Program} {loose : List Str} {mean : ExcName → Option Value} {mg mb : Str → Option Value} {A : Around} {s : Shared} {n : Int} {u : Tok} {Q E : Value → Shared → Prop}
    (X : (Mine.hd.heap_39 w.params).In s.heap) (T : Top p loose mean mg mb s.heap) (hd : A.depth + 1 < recursionLimit) (hA : A.handled = none)
    (ret : ∀ z r sv a b h' tk', ZoneOk r sv a b → Kept s.heap h' → h'.get? z = some (tupObj #[sv, a, b]) → s.heap.get? z = none → Q (.ref z) { s with heap := h', toks := tk' }) :
    wpAny (model Challenge.rw_nb0139_01.row.prog w) A (call (.ref 94) [.int n u]) Q E s := by
  revert X; k_fill; intro X
  refine wpAny_call ?_
  refine' enter X T ?k6 ?k7 (by omega) ?k9 ?kB ?c5 ?_ ?c2 ?c3 ?c4
  (case k6 => k_is)
  (case k7 => k_is)
  (case k9 => first | exact BindsTo.of_eq rfl | exact binds_K (by k_in) rfl (by k_is) rfl rfl rfl)
  (case c5 => decide)
  (case kB => exact locs rfl)
  (case c2 => exact rfl)
  (case c3 => exact rfl)
  (case c4 => exact rfl)
  intro h₁ F N
  dsimp only
  have hm6 : 0 ≤ n.fmod 6 ∧ n.fmod 6 < 6 := ⟨Int.fmod_nonneg_of_pos _ (by decide), Int.fmod_lt_of_pos _ (by decide)⟩
  have hm17 : 0 ≤ (n.fdiv 6).fmod 17 ∧ (n.fdiv 6).fmod 17 < 17 := ⟨Int.fmod_nonneg_of_pos _ (by decide), Int.fmod_lt_of_pos _ (by decide)⟩
  k_with_none
  k_with "call ref" => k_dflt (refine clock_call (by k_asm) (by k_asm) (by k_asm) (by k_asm) (by show _ + 1 < recursionLimit; omega) hA (by omega) (by omega) (by omega) (by omega) (by assumption) ?_)
  have hl1 : (Str.ofString "-").length = 1 := by decide +kernel
  have hl2 : (Str.ofString "+").length = 1 := by decide +kernel
  repeat' (first | (k_unfold; (try dsimp only)) | walk1 | (dsimp only; walk1))
  all_goals (rename News _ _ _ _ => N9; rename Fr _ _ _ _ => F9)
  all_goals first
    | exact ret _ none _ _ _ _ _ (zone_lit rfl (by decide +kernel) (by decide +kernel)) F9.keep (N9.get (.head _)) (N9.fresh (.head _))
    | exact ret _ (some 0) _ _ _ _ _ (zone_lit ⟨_, rfl⟩ (by decide +kernel) (by decide +kernel)) F9.keep (N9.get (.head _)) (N9.fresh (.head _))
    | exact ret _ _ _ _ _ _ _ (zone_neg (by assumption) (by assumption)) F9.keep (N9.get (.head _)) (N9.fresh (.head _))
    | exact ret _ _ _ _ _ _ _ (zone_bare (by assumption) (by assumption) (by assumption) (by assumption)) F9.keep (N9.get (.head _)) (N9.fresh (.head _))
    | exact ret _ _ _ _ _ _ _ (zone_pos (by assumption) (by assumption) (by assumption)) F9.keep (N9.get (.head _)) (N9.fresh (.head _))
end Mine

end
section
theorem Mine.fresh_Ins1 : True := by
  w_top off
  k_with_none
  exact trivial
open PySem PySem.W PyProof.Rows PySem.Calls
set_option maxRecDepth 100000
set_option maxHeartbeats 8000000
namespace Mine
abbrev KeptBut (l : Addr) (h h' : Heap) : Prop := ∀ b o, b ≠ l → h.get? b = some o → h'.get? b = some o

/-- entering a def that may change the list at l -/
theorem enter_own {prog : Program} {w : World} {A : Around} {s : Shared} {K : Frag} {p : Program} {loose : List Str} {mean : ExcName → Option Value} {mg mb : Str → Option Value} {R : Result → Shared → Prop}
    {name qual : Str} {params : Arguments} {body : List Stmt} {scope : Scope} {dV kV doc pm cdv ct oc : Value} {an od : Option Addr} {osl : Array (Option Value)} {f : Addr} {args : Args} {binds : List (Str × Value)} {g₀ : Heap} {l : Addr} {ol : Obj}
    (X : K.In g₀) (T : Top p loose mean mg mb g₀) (kp : Kept g₀ s.heap) (hf : g₀.get? l = none) (hl : s.heap.get? l = some ol)
    (ho : K.lookup f = some ⟨oc, od, .func (fnOf name qual params body scope dV kV doc pm an cdv ct), osl⟩) (hcd : codeIn K cdv qual = true) (hroom : A.depth < recursionLimit)
    (hbind : BindsTo s (fnOf name qual params body scope dV kV doc pm an cdv ct) args binds) (hloc : ∀ y ∈ binds, scope.names.lookup y.1 = some .local)
    (hcell : ∀ x ∈ scope.names, x.2 ≠ .cell)
    (h : ∀ g h₁, K.In g → Top p loose mean mg mb g → (∀ b o, b ≠ l → s.heap.get? b = some o → g.get? b = some o) → Fr g s.heap.objs.size h₁ (fun y => binds.reverse.lookup y) → News g s.heap.objs.size h₁ [(l, ol)] →
      wpAny (model prog w) (A.deeper (envOf qual scope s.heap.objs.size f cdv)) (execs body (envOf qual scope s.heap.objs.size f cdv))
        (fun fl s' => R (.ok (.ret (match fl with | .ret v => v | _ => .none))) s')
        (fun e s' => wpAny (model prog w) (A.deeper (envOf qual scope s.heap.objs.size f cdv)) (leaving (envOf qual scope s.heap.objs.size f cdv) e) (fun _ s'' => R (.error e) s'') (fun e' s'' => R (.error e') s'') s')
        { s with heap := h₁, toks := s.toks + binds.length })
    (hco : scope.isCoroutine = false) (hgen : scope.isGenerator = false) (hk : scope.kind = .function) :
    codeAny (model prog w) A (.call (.ref f) args) R s := by
  have st : Kept g₀ (hideAll s.heap [l]) := fun b o e => hideAll_get _ (kp b o e) (fun hm => by
    rcases List.mem_cons.mp hm with q | q
    · rw [q, hf] at e; cases e
    · nomatch q)
  refine codeAny_call_def (fd := fnOf name qual params body scope dV kV doc pm an cdv ct) (body := body) (binds := binds) hroom (kp _ _ (X _ _ ho)) rfl (T.keeps kp).nolimit (codeRec_of (X.keeps kp) hcd) rfl hbind hcell hloc
    (fun h₁ hns hk₁ => ?_) hco hgen hk
  refine h (hideAll s.heap [l]) h₁ (X.keeps st) (T.keeps st) (fun b o n e => hideAll_get _ e (by simpa using n)) ⟨hns, fun b o e => hk₁ b o (of_hideAll _ e), Nat.le_of_eq (hideAll_size _ _)⟩ ?_
  intro q hq
  rcases List.mem_cons.mp hq with rfl | hq
  · exact ⟨hk₁ _ _ hl, Nat.ne_of_lt (Heap.lt_size hl), hideAll_none _ (.head _)⟩
  · nomatch hq

theorem kept_own {g h' s : Heap} {L l : Addr} {m : Str → Option Value} (F : Fr g L h' m) (hg : ∀ b o, b ≠ l → s.get? b = some o → g.get? b = some o) : KeptBut l s h' := fun b o n e => F.keep b o (hg b o n e)

theorem bisR4_call {w : World} {p : Program} {loose : List Str} {mean : ExcName → Option Value} {mg mb : Str → Option Value} {A : Around} {s : Shared} {h₀ : Heap} {L : Addr} {m : Str → Option Value} {news : List (Addr × Obj)} {l : Addr} {vs : List Value} {n : Nat} {ks : List Int} {wish : Int} {u u0 : Tok} {Q E : Value → Shared → Prop}
    (F : Fr h₀ L s.heap m) (N : News h₀ L s.heap news) (X : (Mine.hd.heap_39 w.params).In h₀) (T : Top p loose mean mg mb h₀) (hd : A.depth + 1 < recursionLimit) (hl : (l, listOf vs.toArray n) ∈ news) (hk : KeysAre vs ks) (hn : vs.length < 1000)
    (cnt : Nat) (hc : ∀ i k, ks[i]? = some k → (k ≤ wish ↔ i < cnt)) (hcn : cnt ≤ ks.length)
    (ret : ∀ t h' tk', Fr h₀ L h' m → News h₀ L h' news → Q (.int cnt t) { s with heap := h', toks := tk' }) :
    wpAny (model Challenge.rw_nb0139_01.row.prog w) A (call (.ref 62) [.ref l, .int wish u, .int 0 u0, .none] [(Str.ofString "key", .ref 44)]) Q E s :=
  bisR4 (X.keeps F.keep) (T.keeps F.keep) hd ⟨_, N.get hl, rfl, _, rfl⟩ hk hn cnt hc hcn fun t h' tk' hkp => ret t h' tk' (Fr.kept F hkp) (News.kept N hkp)
theorem bisL4_call {w : World} {p : Program} {loose : List Str} {mean : ExcName → Option Value} {mg mb : Str → Option Value} {A : Around} {s : Shared} {h₀ : Heap} {L : Addr} {m : Str → Option Value} {news : List (Addr × Obj)} {l : Addr} {vs : List Value} {n : Nat} {ks : List Int} {wish : Int} {u u0 : Tok} {Q E : Value → Shared → Prop}
    (F : Fr h₀ L s.heap m) (N : News h₀ L s.heap news) (X : (Mine.hd.heap_39 w.params).In h₀) (T : Top p loose mean mg mb h₀) (hd : A.depth + 1 < recursionLimit) (hl : (l, listOf vs.toArray n) ∈ news) (hk : KeysAre vs ks) (hn : vs.length < 1000)
    (cnt : Nat) (hc : ∀ i k, ks[i]? = some k → (k < wish ↔ i < cnt)) (hcn : cnt ≤ ks.length)
    (ret : ∀ t h' tk', Fr h₀ L h' m → News h₀ L h' news → Q (.int cnt t) { s with heap := h', toks := tk' }) :
    wpAny (model Challenge.rw_nb0139_01.row.prog w) A (call (.ref 80) [.ref l, .int wish u, .int 0 u0, .none] [(Str.ofString "key", .ref 44)]) Q E s :=
  bisL4 (X.keeps F.keep) (T.keeps F.keep) hd ⟨_, N.get hl, rfl, _, rfl⟩ hk hn cnt hc hcn fun t h' tk' hkp => ret t h' tk' (Fr.kept F hkp) (News.kept N hkp)

def insAt (vs : List Value) (c : Nat) (v : Value) : List Value := vs.take c ++ v :: vs.drop c

theorem insert_here {prog : Program} {w : World} {A : Around} {E : Value → Shared → Prop} {s : Shared} {g : Heap} {L l : Addr} {m : Str → Option Value} {vs : List Value} {n cnt : Nat} {t : Tok} {v : Value} {Q : Value → Shared → Prop} (F : Fr g L s.heap m) (N : News g L s.heap [(l, listOf vs.toArray n)]) (hn : vs.length < 1000) (hcn : cnt ≤ vs.length)
    (h : ∀ h', Fr g L h' m → News g L h' [(l, listOf (insAt vs cnt v).toArray (n + 1))] → Q .none { s with heap := h' }) : wpAny (model prog w) A (call (.builtin "list.insert") [.ref l, .int cnt t, v]) Q E s := by
  refine kl_insert F N (its := vs.toArray) (l := insAt vs cnt v) ?_ ?_ (Upd.head (fun _ h => nomatch h)) ?_ h
  · unfold Builtin.List.listFitsIndex
    simp only [Bool.and_eq_true, decide_eq_true_eq]
    have e : (2 : Int) ^ 63 = 9223372036854775808 := by decide
    omega
  · unfold kl_ins insAt
    rw [if_neg (by omega), Int.toNat_natCast]
    simp only [Nat.min_eq_left hcn]
  · show vs.length ≤ sizeLine
    rw [sizeLine_eq]
    omega
theorem insR_walk {w : World} {p : Program} {loose : List Str} {mean : ExcName → Option Value} {mg mb : Str → Option Value} {A : Around} {s : Shared} {g₀ : Heap} {l : Addr} {vs : List Value} {n : Nat} {ks : List Int} {x : Str} {k : Int} {u : Tok} {Q E : Value → Shared → Prop}
    (X : (Mine.hd.heap_39 w.params).In g₀) (T : Top p loose mean mg mb g₀) (kp : Kept g₀ s.heap) (hf : g₀.get? l = none) (hl : s.heap.get? l = some (listOf vs.toArray n)) (hd : A.depth + 2 < recursionLimit) (hk : KeysAre vs ks) (hn : vs.length < 1000)
    (hx : x.length ≤ 640) (hr : offVal x = some (some k)) (cnt : Nat) (hc : ∀ i j, ks[i]? = some j → (j ≤ k ↔ i < cnt)) (hcn : cnt ≤ ks.length)
    (ret : ∀ h' tk', KeptBut l s.heap h' → h'.get? l = some (listOf (insAt vs cnt (.str x u)).toArray (n + 1)) → Q .none { s with heap := h', toks := tk' }) :
    wpAny (model Challenge.rw_nb0139_01.row.prog w) A (call (.ref 53) [.ref l, .str x u] [(Str.ofString "key", .ref 44)]) Q E s := by
  revert X; k_fill; intro X
  refine wpAny_call ?_
  refine' enter_own X T kp hf hl ?k6 ?k7 (by omega) ?k9 ?kB ?c5 ?_ ?c2 ?c3 ?c4
  (case k6 => k_is)
  (case k7 => k_is)
  (case k9 => first | exact BindsTo.of_eq rfl | exact binds_K (X.keeps kp) rfl (by k_is) rfl rfl rfl)
  (case c5 => decide)
  (case kB => exact locs rfl)
  (case c2 => exact rfl)
  (case c3 => exact rfl)
  (case c4 => exact rfl)
  clear X T kp
  intro g h₁ X T hg F N
  dsimp only
  k_with_none
  k_with "call ref" => k_dflt (first
    | refine off_call (by k_asm) (by k_asm) (by k_asm) (by k_asm) (by show _ + 1 < recursionLimit; omega) hx hr ?_
    | refine bisR4_call (by k_asm) (by k_asm) (by k_asm) (by k_asm) (by show _ + 1 + 1 < recursionLimit; omega) (.head _) hk hn cnt hc hcn ?_)
  k_steps
  refine insert_here (by k_asm) (by k_asm) hn (by rw [hk.1]; exact hcn) ?_
  k_steps
  rename News _ _ _ _ => N9
  rename Fr _ _ _ _ => F9
  exact ret _ _ (kept_own F9 hg) (N9.get (.head _))
theorem insL_walk {w : World} {p : Program} {loose : List Str} {mean : ExcName → Option Value} {mg mb : Str → Option Value} {A : Around} {s : Shared} {g₀ : Heap} {l : Addr} {vs : List Value} {n : Nat} {ks : List Int} {x : Str} {k : Int} {u : Tok} {Q E : Value → Shared → Prop}
    (X : (Mine.hd.heap_39 w.params).In g₀) (T : Top p loose mean mg mb g₀) (kp : Kept g₀ s.heap) (hf : g₀.get? l = none) (hl : s.heap.get? l = some (listOf vs.toArray n)) (hd : A.depth + 2 < recursionLimit) (hk : KeysAre vs ks) (hn : vs.length < 1000)
    (hx : x.length ≤ 640) (hr : offVal x = some (some k)) (cnt : Nat) (hc : ∀ i j, ks[i]? = some j → (j < k ↔ i < cnt)) (hcn : cnt ≤ ks.length)
    (ret : ∀ h' tk', KeptBut l s.heap h' → h'.get? l = some (listOf (insAt vs cnt (.str x u)).toArray (n + 1)) → Q .none { s with heap := h', toks := tk' }) :
    wpAny (model Challenge.rw_nb0139_01.row.prog w) A (call (.ref 71) [.ref l, .str x u] [(Str.ofString "key", .ref 44)]) Q E s := by
  revert X; k_fill; intro X
  refine wpAny_call ?_
  refine' enter_own X T kp hf hl ?k6 ?k7 (by omega) ?k9 ?kB ?c5 ?_ ?c2 ?c3 ?c4
  (case k6 => k_is)
  (case k7 => k_is)
  (case k9 => first | exact BindsTo.of_eq rfl | exact binds_K (X.keeps kp) rfl (by k_is) rfl rfl rfl)
  (case c5 => decide)
  (case kB => exact locs rfl)
  (case c2 => exact rfl)
  (case c3 => exact rfl)
  (case c4 => exact rfl)
  clear X T kp
  intro g h₁ X T hg F N
  dsimp only
  k_with_none
  k_with "call ref" => k_dflt (first
    | refine off_call (by k_asm) (by k_asm) (by k_asm) (by k_asm) (by show _ + 1 < recursionLimit; omega) hx hr ?_
    | refine bisL4_call (by k_asm) (by k_asm) (by k_asm) (by k_asm) (by show _ + 1 + 1 < recursionLimit; omega) (.head _) hk hn cnt hc hcn ?_)
  k_steps
  refine insert_here (by k_asm) (by k_asm) hn (by rw [hk.1]; exact hcn) ?_
  k_steps
  rename News _ _ _ _ => N9
  rename Fr _ _ _ _ => F9
  exact ret _ _ (kept_own F9 hg) (N9.get (.head _))
end Mine

end
section
theorem Mine.fresh_Ref0 : True := by
  w_top off
  k_with_none
  exact trivial
open PySem PySem.W PyProof.Rows PySem.Calls PySem.Builtin
set_option maxRecDepth 100000
namespace Mine
theorem slot_none_lt : Slot "NoneType" (cmpInfo .Lt).2.1 "NoneType.__lt__" :=
  .of (owner := "NoneType") (n := "__lt__") (by rw [typeLookup_type, builtinLookup_eq_fast]; kernel_rfl) (by decide +kernel) (by decide +kernel) (by decide +kernel)
    (by first | exact .inl (by decide +kernel) | exact .inr (by decide +kernel)) (by rw [isSubtype_type]; kernel_rfl)
theorem slot_none_gt : Slot "NoneType" (cmpInfo .Lt).2.2 "NoneType.__gt__" :=
  .of (owner := "NoneType") (n := "__gt__") (by rw [typeLookup_type, builtinLookup_eq_fast]; kernel_rfl) (by decide +kernel) (by decide +kernel) (by decide +kernel)
    (by first | exact .inl (by decide +kernel) | exact .inr (by decide +kernel)) (by rw [isSubtype_type]; kernel_rfl)
theorem entry_none_lt : entryFor table "NoneType.__lt__" = some Builtin.«NoneType.__lt__» := entryFor_of_tree (by kernel_rfl)
theorem entry_none_gt : entryFor table "NoneType.__gt__" = some Builtin.«NoneType.__gt__» := entryFor_of_tree (by kernel_rfl)
theorem sub_int_none : isSubtype (.type "int") (.type "NoneType") = pure false := by rw [isSubtype_type]; kernel_rfl
theorem sub_none_int : isSubtype (.type "NoneType") (.type "int") = pure false := by rw [isSubtype_type]; kernel_rfl
theorem args_none_lt (a b : Value) : argsOk "NoneType.__lt__" ⟨[a, b], []⟩ := by unfold argsOk; kernel_rfl
theorem args_none_gt (a b : Value) : argsOk "NoneType.__gt__" ⟨[a, b], []⟩ := by unfold argsOk; kernel_rfl
theorem args_int_gt' (a b : Value) : argsOk "int.__gt__" ⟨[a, b], []⟩ := by unfold argsOk; kernel_rfl
theorem args_int_lt' (a b : Value) : argsOk "int.__lt__" ⟨[a, b], []⟩ := by unfold argsOk; kernel_rfl
theorem entry_int_gt' : entryFor table "int.__gt__" = some Builtin.«int.__gt__» := entryFor_of_tree (by kernel_rfl)
section
variable {prog : Program} {w : World} {A : Around} {E : Value → Shared → Prop} {s : Shared}
theorem lt_none_int {k : Int} {t : Tok} {Q : Value → Shared → Prop} (hh : A.handled = none)
    (h : ∀ h' tk e, Heap.NewExc s.heap h' e "TypeError" → E (.ref e) { s with heap := h', toks := tk }) :
    wpAny (model prog w) A (compareOp .Lt .none (.int k t)) Q E s := by
  show wpAny _ _ (richCompare .Lt .none (.int k t)) Q E s
  refine wpAny_richCompare_lt_declined hh (fun s' => rfl) (fun s' => typeIs_int s' k t) (by decide) sub_int_none slot_none_lt PySem.F.slot_int_gt (by decide) (by decide) ?_
  refine wpAny_call_entry slot_none_lt rfl entry_none_lt ?_ (args_none_lt _ _)
  refine wpAny_bind (wpAny_pure (wpAny_pure ⟨_, rfl, rfl, ?_⟩))
  refine wpAny_call_entry PySem.F.slot_int_gt (typeIs_int s k t) entry_int_gt' ?_ (args_int_gt' _ _)
  exact (show wpAny _ _ (do rule "int.binary.not-an-int"; ret .notImplemented) _ _ s from wpAny_bind (wpAny_rule (wpAny_pure ⟨_, rfl, rfl, h⟩)))
theorem lt_int_none {k : Int} {t : Tok} {Q : Value → Shared → Prop} (hh : A.handled = none)
    (h : ∀ h' tk e, Heap.NewExc s.heap h' e "TypeError" → E (.ref e) { s with heap := h', toks := tk }) :
    wpAny (model prog w) A (compareOp .Lt (.int k t) .none) Q E s := by
  show wpAny _ _ (richCompare .Lt (.int k t) .none) Q E s
  refine wpAny_richCompare_lt_declined hh (fun s' => typeIs_int s' k t) (fun s' => rfl) (by decide) sub_none_int slot_int_lt slot_none_gt (by decide) (by decide) ?_
  refine wpAny_call_entry slot_int_lt (typeIs_int s k t) entry_int_lt ?_ (args_int_lt' _ _)
  refine (show wpAny _ _ (do rule "int.binary.not-an-int"; ret .notImplemented) _ _ s from wpAny_bind (wpAny_rule (wpAny_pure ⟨_, rfl, rfl, ?_⟩)))
  refine wpAny_call_entry slot_none_gt rfl entry_none_gt ?_ (args_none_gt _ _)
  exact wpAny_bind (wpAny_pure (wpAny_pure ⟨_, rfl, rfl, h⟩))
end
end Mine

end
section
theorem Mine.fresh_Ref1 : True := by
  w_top off
  k_with_none
  exact trivial
open PySem PySem.W PyProof.Rows PySem.Calls
set_option maxRecDepth 100000
set_option maxHeartbeats 8000000
namespace Mine
/-- entering a def over a given base heap -/
theorem enter_at {prog : Program} {w : World} {A : Around} {s : Shared} {K : Frag} {p : Program} {loose : List Str} {mean : ExcName → Option Value} {mg mb : Str → Option Value} {R : Result → Shared → Prop}
    {name qual : Str} {params : Arguments} {body : List Stmt} {scope : Scope} {dV kV doc pm cdv ct oc : Value} {an od : Option Addr} {osl : Array (Option Value)} {f : Addr} {args : Args} {binds : List (Str × Value)} {G : Heap} {news : List (Addr × Obj)}
    (X : K.In G) (T : Top p loose mean mg mb G) (kG : Kept G s.heap) (hsz : G.objs.size ≤ s.heap.objs.size) (hN : ∀ q ∈ news, s.heap.get? q.1 = some q.2 ∧ G.get? q.1 = none)
    (ho : K.lookup f = some ⟨oc, od, .func (fnOf name qual params body scope dV kV doc pm an cdv ct), osl⟩) (hcd : codeIn K cdv qual = true) (hroom : A.depth < recursionLimit)
    (hbind : BindsTo s (fnOf name qual params body scope dV kV doc pm an cdv ct) args binds) (hloc : ∀ y ∈ binds, scope.names.lookup y.1 = some .local)
    (hcell : ∀ x ∈ scope.names, x.2 ≠ .cell)
    (h : ∀ h₁, Fr G s.heap.objs.size h₁ (fun y => binds.reverse.lookup y) → News G s.heap.objs.size h₁ news →
      wpAny (model prog w) (A.deeper (envOf qual scope s.heap.objs.size f cdv)) (execs body (envOf qual scope s.heap.objs.size f cdv))
        (fun fl s' => R (.ok (.ret (match fl with | .ret v => v | _ => .none))) s')
        (fun e s' => wpAny (model prog w) (A.deeper (envOf qual scope s.heap.objs.size f cdv)) (leaving (envOf qual scope s.heap.objs.size f cdv) e) (fun _ s'' => R (.error e) s'') (fun e' s'' => R (.error e') s'') s')
        { s with heap := h₁, toks := s.toks + binds.length })
    (hco : scope.isCoroutine = false) (hgen : scope.isGenerator = false) (hk : scope.kind = .function) :
    codeAny (model prog w) A (.call (.ref f) args) R s :=
  codeAny_call_def (fd := fnOf name qual params body scope dV kV doc pm an cdv ct) (body := body) (binds := binds) hroom (kG _ _ (X _ _ ho)) rfl (T.keeps kG).nolimit (codeRec_of (X.keeps kG) hcd) rfl hbind hcell hloc
    (fun h₁ hns hk₁ => h h₁ ⟨hns, fun b o e => hk₁ b o (kG b o e), hsz⟩ fun q hq => ⟨hk₁ _ _ (hN q hq).1, Nat.ne_of_lt (Heap.lt_size (hN q hq).1), (hN q hq).2⟩) hco hgen hk
/-- the heap that a callee stands on: all but the ledger -/
theorem ground_below {A : Around} {base g h : Heap} {outer : List Env} {L a : Addr} {m : Str → Option Value} {news : List (Addr × Obj)} {name : Str} {scope : Scope} {cd : Value}
    (B : Below A base outer g) (F : Fr g L h m) (N : News g L h news) (hk : scope.kind = .function) :
    ∃ G, Fr g L G m ∧ Kept g G ∧ Kept G h ∧ G.objs.size ≤ h.objs.size ∧ (∀ q ∈ news, h.get? q.1 = some q.2 ∧ G.get? q.1 = none) ∧ Below (A.deeper (envOf name scope L a cd)) base (envOf name scope L a cd :: outer) G := by
  obtain ⟨oL, es, ep, hLg, hLd, hN, hNs, st, B₂⟩ := kts_enter (s := { heap := h }) (A := A.deeper (envOf name scope L a cd)) (cn := name) (cs := scope) (a := a) (ccd := cd) B F N (Around.frames_deeper B.stack) hk
  exact ⟨_, ⟨hN _ hLg, st, F.above⟩, st, fun b o e => of_hideAll _ e, Nat.le_of_eq (hideAll_size _ _), fun q hq => ⟨(N q hq).1, hideAll_none _ (List.mem_map_of_mem hq)⟩, B₂⟩
theorem first_item {vs : List Value} {ks : List Int} (hk : KeysAre vs ks) (hne : 0 < vs.length) (c : Int) (hc : c = (0 + (vs.length : Int)).fdiv 2) : 0 ≤ c ∧ ∃ x t k, vs[c.toNat]? = some (Value.str x t) ∧ x.length ≤ 640 ∧ offVal x = some (some k) := by
  subst hc
  obtain ⟨c1, c2, x, t, k, hv, hx, hr, _⟩ := mid_item (lo := 0) (hi := vs.length) hk (by omega) (by omega) (by omega)
  exact ⟨c1, x, t, k, hv, hx, hr⟩
theorem bisR_refused {w : World} {p : Program} {loose : List Str} {mean : ExcName → Option Value} {mg mb : Str → Option Value} {A : Around} {s : Shared} {base G : Heap} {fr : List Env} {news : List (Addr × Obj)} {l : Addr} {vs : List Value} {ks : List Int} {u0 : Tok} {Q E : Value → Shared → Prop}
    (B : Below A base fr G) (X : (Mine.hd.heap_39 w.params).In G) (T : Top p loose mean mg mb G) (kG : Kept G s.heap) (hsz : G.objs.size ≤ s.heap.objs.size) (hN : ∀ q ∈ news, s.heap.get? q.1 = some q.2 ∧ G.get? q.1 = none) (hA : A.handled = none)
    (hl : G.IsList l vs.toArray) (hk : KeysAre vs ks) (hn : vs.length < 1000) (hne : 0 < vs.length) (hd : A.depth + 1 < recursionLimit)
    (exc : ∀ e h' tk', RaisedSN base G fr e (.type "TypeError") news h' → G.UpToSlots h' → E (.ref e) { s with heap := h', toks := tk' }) :
    wpAny (model Challenge.rw_nb0139_01.row.prog w) A (call (.ref 62) [.ref l, .none, .int 0 u0, .none] [(Str.ofString "key", .ref 44)]) Q E s := by
  revert X; k_fill; intro X
  refine wpAny_call ?_
  refine' enter_at X T kG hsz hN ?k6 ?k7 (by omega) ?k9 ?kB ?c5 ?_ ?c2 ?c3 ?c4
  (case k6 => k_is)
  (case k7 => k_is)
  (case k9 => first | exact BindsTo.of_eq rfl | exact binds_K (X.keeps kG) rfl (by k_is) rfl rfl rfl)
  (case c5 => decide)
  (case kB => exact locs rfl)
  (case c2 => exact rfl)
  (case c3 => exact rfl)
  (case c4 => exact rfl)
  intro h₁ F N
  dsimp only
  k_with_none
  k_with "call builtin:len" => k_dflt (refine len_kept (by k_asm) hl hn ?_)
  k_with "exec While Compare cons nil" => k_dflt (refine While_inv (fun _ m news' => news' = news ∧ m (Str.ofString "lo") = some (Value.int 0 u0) ∧ (∃ t2, m (Str.ofString "hi") = some (Value.int vs.length t2)) ∧ m (Str.ofString "a") = some (Value.ref l) ∧ m (Str.ofString "x") = some Value.none ∧ m (Str.ofString "key") = some (Value.ref 44)) (n₀ := 0) (by k_asm) (by k_asm) ⟨rfl, rfl, ⟨_, rfl⟩, rfl, rfl, rfl⟩ ?_)
  k_steps
  rename _ ∧ _ => J
  obtain ⟨rfl, m1, ⟨t2, m2⟩, m3, m4, m5⟩ := J
  k_with "eval Name" => k_dflt (refine' ld ?k1 ?k2 ?_; (case k1 => k_asm); (case k2 => first | exact m1 | exact m2 | exact m3 | exact m4 | exact m5))
  k_steps
  · obtain ⟨c1, x, t, k, hv, hx, hr⟩ := first_item hk hne _ rfl
    refine item_kept (by k_asm) hl hn c1 hv ?_
    k_with "call ref" => k_dflt (refine off_call (by k_asm) (by k_asm) (by k_asm) (by k_asm) (by show _ + 1 < recursionLimit; omega) hx hr ?_)
    k_steps
    refine lt_none_int hA ?_
    intro h' tk e hx
    rename Fr _ _ _ _ => F9
    rename News _ _ _ _ => N9
    exact leave_newS B hx F9 N9 fun h'' R _ hu => exc _ _ _ R hu
theorem bisL_refused {w : World} {p : Program} {loose : List Str} {mean : ExcName → Option Value} {mg mb : Str → Option Value} {A : Around} {s : Shared} {base G : Heap} {fr : List Env} {news : List (Addr × Obj)} {l : Addr} {vs : List Value} {ks : List Int} {u0 : Tok} {Q E : Value → Shared → Prop}
    (B : Below A base fr G) (X : (Mine.hd.heap_39 w.params).In G) (T : Top p loose mean mg mb G) (kG : Kept G s.heap) (hsz : G.objs.size ≤ s.heap.objs.size) (hN : ∀ q ∈ news, s.heap.get? q.1 = some q.2 ∧ G.get? q.1 = none) (hA : A.handled = none)
    (hl : G.IsList l vs.toArray) (hk : KeysAre vs ks) (hn : vs.length < 1000) (hne : 0 < vs.length) (hd : A.depth + 1 < recursionLimit)
    (exc : ∀ e h' tk', RaisedSN base G fr e (.type "TypeError") news h' → G.UpToSlots h' → E (.ref e) { s with heap := h', toks := tk' }) :
    wpAny (model Challenge.rw_nb0139_01.row.prog w) A (call (.ref 80) [.ref l, .none, .int 0 u0, .none] [(Str.ofString "key", .ref 44)]) Q E s := by
  revert X; k_fill; intro X
  refine wpAny_call ?_
  refine' enter_at X T kG hsz hN ?k6 ?k7 (by omega) ?k9 ?kB ?c5 ?_ ?c2 ?c3 ?c4
  (case k6 => k_is)
  (case k7 => k_is)
  (case k9 => first | exact BindsTo.of_eq rfl | exact binds_K (X.keeps kG) rfl (by k_is) rfl rfl rfl)
  (case c5 => decide)
  (case kB => exact locs rfl)
  (case c2 => exact rfl)
  (case c3 => exact rfl)
  (case c4 => exact rfl)
  intro h₁ F N
  dsimp only
  k_with_none
  k_with "call builtin:len" => k_dflt (refine len_kept (by k_asm) hl hn ?_)
  k_with "exec While Compare cons nil" => k_dflt (refine While_inv (fun _ m news' => news' = news ∧ m (Str.ofString "lo") = some (Value.int 0 u0) ∧ (∃ t2, m (Str.ofString "hi") = some (Value.int vs.length t2)) ∧ m (Str.ofString "a") = some (Value.ref l) ∧ m (Str.ofString "x") = some Value.none ∧ m (Str.ofString "key") = some (Value.ref 44)) (n₀ := 0) (by k_asm) (by k_asm) ⟨rfl, rfl, ⟨_, rfl⟩, rfl, rfl, rfl⟩ ?_)
  k_steps
  rename _ ∧ _ => J
  obtain ⟨rfl, m1, ⟨t2, m2⟩, m3, m4, m5⟩ := J
  k_with "eval Name" => k_dflt (refine' ld ?k1 ?k2 ?_; (case k1 => k_asm); (case k2 => first | exact m1 | exact m2 | exact m3 | exact m4 | exact m5))
  k_steps
  · obtain ⟨c1, x, t, k, hv, hx, hr⟩ := first_item hk hne _ rfl
    refine item_kept (by k_asm) hl hn c1 hv ?_
    k_with "call ref" => k_dflt (refine off_call (by k_asm) (by k_asm) (by k_asm) (by k_asm) (by show _ + 1 < recursionLimit; omega) hx hr ?_)
    k_steps
    refine lt_int_none hA ?_
    intro h' tk e hx
    rename Fr _ _ _ _ => F9
    rename News _ _ _ _ => N9
    exact leave_newS B hx F9 N9 fun h'' R _ hu => exc _ _ _ R hu
theorem bisR_refused_call {w : World} {p : Program} {loose : List Str} {mean : ExcName → Option Value} {mg mb : Str → Option Value} {A : Around} {s : Shared} {base G : Heap} {fr : List Env} {news : List (Addr × Obj)} {l : Addr} {vs : List Value} {ks : List Int} {u0 : Tok} {Q E : Value → Shared → Prop}
    {L a : Addr} {m : Str → Option Value} {name : Str} {scope : Scope} {cd : Value}
    (B : Below A base fr G) (X : (Mine.hd.heap_39 w.params).In G) (T : Top p loose mean mg mb G) (F : Fr G L s.heap m) (N : News G L s.heap news) (hA : A.handled = none)
    (hl : G.IsList l vs.toArray) (hk : KeysAre vs ks) (hn : vs.length < 1000) (hne : 0 < vs.length) (hd : A.depth + 2 < recursionLimit) (hsk : scope.kind = .function)
    (exc : ∀ e h' tk', RaisedSN base G fr e (.type "TypeError") news h' → G.UpToSlots h' → E (.ref e) { s with heap := h', toks := tk' }) :
    wpAny (model Challenge.rw_nb0139_01.row.prog w) (A.deeper (envOf name scope L a cd)) (call (.ref 62) [.ref l, .none, .int 0 u0, .none] [(Str.ofString "key", .ref 44)]) Q
      (fun e s' => wpAny (model Challenge.rw_nb0139_01.row.prog w) (A.deeper (envOf name scope L a cd)) (leaving (envOf name scope L a cd) e) (fun _ s'' => E e s'') (fun e' s'' => E e' s'') s') s := by
  obtain ⟨G₂, F₂, k1, k2, hz, hN2, B2⟩ := ground_below (name := name) (scope := scope) (a := a) (cd := cd) B F N hsk
  refine bisR_refused B2 (X.keeps k1) (T.keeps k1) k2 hz hN2 hA (stays_list k1 hl) hk hn hne (by show A.depth + 1 + 1 < recursionLimit; omega) ?_
  intro e h' tk' R hu
  exact leave_onSN B F₂ R hu fun h'' R' _ hu' => exc _ _ _ R' hu'
theorem bisL_refused_call {w : World} {p : Program} {loose : List Str} {mean : ExcName → Option Value} {mg mb : Str → Option Value} {A : Around} {s : Shared} {base G : Heap} {fr : List Env} {news : List (Addr × Obj)} {l : Addr} {vs : List Value} {ks : List Int} {u0 : Tok} {Q E : Value → Shared → Prop}
    {L a : Addr} {m : Str → Option Value} {name : Str} {scope : Scope} {cd : Value}
    (B : Below A base fr G) (X : (Mine.hd.heap_39 w.params).In G) (T : Top p loose mean mg mb G) (F : Fr G L s.heap m) (N : News G L s.heap news) (hA : A.handled = none)
    (hl : G.IsList l vs.toArray) (hk : KeysAre vs ks) (hn : vs.length < 1000) (hne : 0 < vs.length) (hd : A.depth + 2 < recursionLimit) (hsk : scope.kind = .function)
    (exc : ∀ e h' tk', RaisedSN base G fr e (.type "TypeError") news h' → G.UpToSlots h' → E (.ref e) { s with heap := h', toks := tk' }) :
    wpAny (model Challenge.rw_nb0139_01.row.prog w) (A.deeper (envOf name scope L a cd)) (call (.ref 80) [.ref l, .none, .int 0 u0, .none] [(Str.ofString "key", .ref 44)]) Q
      (fun e s' => wpAny (model Challenge.rw_nb0139_01.row.prog w) (A.deeper (envOf name scope L a cd)) (leaving (envOf name scope L a cd) e) (fun _ s'' => E e s'') (fun e' s'' => E e' s'') s') s := by
  obtain ⟨G₂, F₂, k1, k2, hz, hN2, B2⟩ := ground_below (name := name) (scope := scope) (a := a) (cd := cd) B F N hsk
  refine bisL_refused B2 (X.keeps k1) (T.keeps k1) k2 hz hN2 hA (stays_list k1 hl) hk hn hne (by show A.depth + 1 + 1 < recursionLimit; omega) ?_
  intro e h' tk' R hu
  exact leave_onSN B F₂ R hu fun h'' R' _ hu' => exc _ _ _ R' hu'
theorem insR_refused {w : World} {p : Program} {loose : List Str} {mean : ExcName → Option Value} {mg mb : Str → Option Value} {A : Around} {s : Shared} {base G : Heap} {fr : List Env} {news : List (Addr × Obj)} {l : Addr} {vs : List Value} {ks : List Int} {x : Str} {u : Tok} {Q E : Value → Shared → Prop}
    (B : Below A base fr G) (X : (Mine.hd.heap_39 w.params).In G) (T : Top p loose mean mg mb G) (kG : Kept G s.heap) (hsz : G.objs.size ≤ s.heap.objs.size) (hN : ∀ q ∈ news, s.heap.get? q.1 = some q.2 ∧ G.get? q.1 = none) (hA : A.handled = none)
    (hl : G.IsList l vs.toArray) (hk : KeysAre vs ks) (hn : vs.length < 1000) (hne : 0 < vs.length) (hd : A.depth + 2 < recursionLimit) (hx : x.length ≤ 640) (hr : offVal x = some none)
    (exc : ∀ e h' tk', RaisedSN base G fr e (.type "TypeError") news h' → G.UpToSlots h' → E (.ref e) { s with heap := h', toks := tk' }) :
    wpAny (model Challenge.rw_nb0139_01.row.prog w) A (call (.ref 53) [.ref l, .str x u] [(Str.ofString "key", .ref 44)]) Q E s := by
  revert X; k_fill; intro X
  refine wpAny_call ?_
  refine' enter_at X T kG hsz hN ?k6 ?k7 (by omega) ?k9 ?kB ?c5 ?_ ?c2 ?c3 ?c4
  (case k6 => k_is)
  (case k7 => k_is)
  (case k9 => first | exact BindsTo.of_eq rfl | exact binds_K (X.keeps kG) rfl (by k_is) rfl rfl rfl)
  (case c5 => decide)
  (case kB => exact locs rfl)
  (case c2 => exact rfl)
  (case c3 => exact rfl)
  (case c4 => exact rfl)
  intro h₁ F N
  dsimp only
  k_with_none
  k_with "call ref" => k_dflt (refine off_call_none (by k_asm) (by k_asm) (by k_asm) (by k_asm) (by show _ + 1 < recursionLimit; omega) hx hr ?_)
  k_steps
  rename Fr _ _ _ _ => F9
  rename News _ _ _ _ => N9
  exact bisR_refused_call B X T F9 N9 hA hl hk hn hne hd rfl exc
theorem insL_refused {w : World} {p : Program} {loose : List Str} {mean : ExcName → Option Value} {mg mb : Str → Option Value} {A : Around} {s : Shared} {base G : Heap} {fr : List Env} {news : List (Addr × Obj)} {l : Addr} {vs : List Value} {ks : List Int} {x : Str} {u : Tok} {Q E : Value → Shared → Prop}
    (B : Below A base fr G) (X : (Mine.hd.heap_39 w.params).In G) (T : Top p loose mean mg mb G) (kG : Kept G s.heap) (hsz : G.objs.size ≤ s.heap.objs.size) (hN : ∀ q ∈ news, s.heap.get? q.1 = some q.2 ∧ G.get? q.1 = none) (hA : A.handled = none)
    (hl : G.IsList l vs.toArray) (hk : KeysAre vs ks) (hn : vs.length < 1000) (hne : 0 < vs.length) (hd : A.depth + 2 < recursionLimit) (hx : x.length ≤ 640) (hr : offVal x = some none)
    (exc : ∀ e h' tk', RaisedSN base G fr e (.type "TypeError") news h' → G.UpToSlots h' → E (.ref e) { s with heap := h', toks := tk' }) :
    wpAny (model Challenge.rw_nb0139_01.row.prog w) A (call (.ref 71) [.ref l, .str x u] [(Str.ofString "key", .ref 44)]) Q E s := by
  revert X; k_fill; intro X
  refine wpAny_call ?_
  refine' enter_at X T kG hsz hN ?k6 ?k7 (by omega) ?k9 ?kB ?c5 ?_ ?c2 ?c3 ?c4
  (case k6 => k_is)
  (case k7 => k_is)
  (case k9 => first | exact BindsTo.of_eq rfl | exact binds_K (X.keeps kG) rfl (by k_is) rfl rfl rfl)
  (case c5 => decide)
  (case kB => exact locs rfl)
  (case c2 => exact rfl)
  (case c3 => exact rfl)
  (case c4 => exact rfl)
  intro h₁ F N
  dsimp only
  k_with_none
  k_with "call ref" => k_dflt (refine off_call_none (by k_asm) (by k_asm) (by k_asm) (by k_asm) (by show _ + 1 < recursionLimit; omega) hx hr ?_)
  k_steps
  rename Fr _ _ _ _ => F9
  rename News _ _ _ _ => N9
  exact bisL_refused_call B X T F9 N9 hA hl hk hn hne hd rfl exc
end Mine

end
section
theorem Mine.fresh_Put1 : True := by
  w_top off
  k_with_none
  exact trivial
open PySem PySem.W PyProof.Rows PySem.Calls
set_option maxRecDepth 100000
set_option maxHeartbeats 8000000
namespace Mine
theorem news_two {g h h' : Heap} {L l D : Addr} {oD ol ol' : Obj} (N : News g L h [(D, oD), (l, ol)]) (hne : D ≠ l) (k : KeptBut l h h') (hl : h'.get? l = some ol') : News g L h' [(D, oD), (l, ol')] := by
  intro q hq
  rcases List.mem_cons.mp hq with rfl | hq
  · exact ⟨k _ _ hne (N _ (.head _)).1, (N _ (.head _)).2⟩
  · rcases List.mem_cons.mp hq with rfl | hq
    · exact ⟨hl, (N _ (.tail _ (.head _))).2⟩
    · nomatch hq
theorem fr_but {g h h' : Heap} {L l : Addr} {m : Str → Option Value} (F : Fr g L h m) (hL : l ≠ L) (hg : g.get? l = none) (k : KeptBut l h h') : Fr g L h' m := by
  obtain ⟨oL, es, ep, e, r⟩ := F.ns
  refine ⟨⟨oL, es, ep, k L oL (fun q => hL q.symm) e, r⟩, fun b o q => k b o (fun z => by rw [z, hg] at q; cases q) (F.keep b o q), F.above⟩
theorem insR_call {w : World} {p : Program} {loose : List Str} {mean : ExcName → Option Value} {mg mb : Str → Option Value} {A : Around} {s : Shared} {g : Heap} {L l D : Addr} {m : Str → Option Value} {oD : Obj} {vs : List Value} {n : Nat} {ks : List Int} {x : Str} {k : Int} {u : Tok} {Q E : Value → Shared → Prop}
    (F : Fr g L s.heap m) (N : News g L s.heap [(D, oD), (l, listOf vs.toArray n)]) (hne : l < D) (X : (Mine.hd.heap_39 w.params).In g) (T : Top p loose mean mg mb g) (hd : A.depth + 2 < recursionLimit) (hk : KeysAre vs ks) (hn : vs.length < 1000)
    (hx : x.length ≤ 640) (hr : offVal x = some (some k)) (cnt : Nat) (hc : ∀ i j, ks[i]? = some j → (j ≤ k ↔ i < cnt)) (hcn : cnt ≤ ks.length)
    (ret : ∀ h' tk', Fr g L h' m → News g L h' [(D, oD), (l, listOf (insAt vs cnt (.str x u)).toArray (n + 1))] → Q .none { s with heap := h', toks := tk' }) :
    wpAny (model Challenge.rw_nb0139_01.row.prog w) A (call (.ref 53) [.ref l, .str x u] [(Str.ofString "key", .ref 44)]) Q E s :=
  insR_walk X T F.keep (N.fresh (.tail _ (.head _))) (N.get (.tail _ (.head _))) hd hk hn hx hr cnt hc hcn fun h' tk' kb hl => ret h' tk' (fr_but F (N _ (.tail _ (.head _))).2.1 (N.fresh (.tail _ (.head _))) kb) (news_two N (Nat.ne_of_gt hne) kb hl)
theorem insL_call {w : World} {p : Program} {loose : List Str} {mean : ExcName → Option Value} {mg mb : Str → Option Value} {A : Around} {s : Shared} {g : Heap} {L l D : Addr} {m : Str → Option Value} {oD : Obj} {vs : List Value} {n : Nat} {ks : List Int} {x : Str} {k : Int} {u : Tok} {Q E : Value → Shared → Prop}
    (F : Fr g L s.heap m) (N : News g L s.heap [(D, oD), (l, listOf vs.toArray n)]) (hne : l < D) (X : (Mine.hd.heap_39 w.params).In g) (T : Top p loose mean mg mb g) (hd : A.depth + 2 < recursionLimit) (hk : KeysAre vs ks) (hn : vs.length < 1000)
    (hx : x.length ≤ 640) (hr : offVal x = some (some k)) (cnt : Nat) (hc : ∀ i j, ks[i]? = some j → (j < k ↔ i < cnt)) (hcn : cnt ≤ ks.length)
    (ret : ∀ h' tk', Fr g L h' m → News g L h' [(D, oD), (l, listOf (insAt vs cnt (.str x u)).toArray (n + 1))] → Q .none { s with heap := h', toks := tk' }) :
    wpAny (model Challenge.rw_nb0139_01.row.prog w) A (call (.ref 71) [.ref l, .str x u] [(Str.ofString "key", .ref 44)]) Q E s :=
  insL_walk X T F.keep (N.fresh (.tail _ (.head _))) (N.get (.tail _ (.head _))) hd hk hn hx hr cnt hc hcn fun h' tk' kb hl => ret h' tk' (fr_but F (N _ (.tail _ (.head _))).2.1 (N.fresh (.tail _ (.head _))) kb) (news_two N (Nat.ne_of_gt hne) kb hl)

theorem es_canLayAll0 : ∀ xs : List Str, (∀ x ∈ xs, PyData.strOk x = true) → PyData.canLayAll0 (xs.map PyData.str) = true
  | [], _ => rfl
  | x :: r, h => by simp [PyData.canLayAll0, PyData.canLay0, es_canLayAll0 r fun y hy => h y (.tail _ hy), h x (.head _)]
theorem es_depthAll : ∀ xs : List Str, PyData.depthAll (xs.map PyData.str) = 0
  | [] => rfl
  | _ :: r => by simp [PyData.depthAll, PyData.depth, es_depthAll r]
theorem es_shaped (xs : List Str) (h : ∀ x ∈ xs, PyData.strOk x = true) : SeqAt.shaped (.list (xs.map PyData.str)) = true := by
  simp [SeqAt.shaped, PyData.canLay0, PyData.depth, es_canLayAll0 xs h, es_depthAll]
theorem es_sameAll : ∀ ns ms : List Str, PySem.Spec.sameAll (ns.map PyData.str) (ms.map PyData.str) = decide (ns = ms)
  | [], [] => by simp [PySem.Spec.sameAll]
  | [], _ :: _ => by simp [PySem.Spec.sameAll]
  | _ :: _, [] => by simp [PySem.Spec.sameAll]
  | a :: r, b :: t => by
    simp only [List.map_cons, PySem.Spec.sameAll, PySem.Spec.same, es_sameAll r t]
    by_cases h : a = b <;> by_cases h' : r = t <;> simp [h, h']
theorem es_same (ns ms : List Str) : PySem.Spec.same (.list (ns.map PyData.str)) (.list (ms.map PyData.str)) = decide (ns = ms) := by
  simp only [PySem.Spec.same]; exact es_sameAll ns ms
def StrsAre (vs : List Value) (xs : List Str) : Prop := CarriedAll vs (xs.map PyData.str) ∧ ∀ x ∈ xs, PyData.strOk x = true
section
variable {prog : Program} {w : World} {A : Around} {E : Value → Shared → Prop} {s : Shared} {a b : Addr} {xs ys : List Value} {ns ms : List Str} {Q : Value → Shared → Prop}
theorem eq_strs (ha : s.heap.IsList a xs.toArray) (hb : s.heap.IsList b ys.toArray) (hi : StrsAre xs ns) (hj : StrsAre ys ms) (hu : A.units + 64 < cLine) (h : Q (.bool (decide (ns = ms))) s) :
    wpAny (model prog w) A (compareOp .Eq (.ref a) (.ref b)) Q E s :=
  eq_dataH_same (reads_newData ha hi.1) (reads_newData hb hj.1) (es_shaped _ hi.2) (es_shaped _ hj.2) hu (SeqAt.noMix_of_shape (.list .str) rfl _ _ (list_map_has fun _ => rfl) (list_map_has fun _ => rfl)) (by rw [es_same]; exact h)
theorem ne_strs (ha : s.heap.IsList a xs.toArray) (hb : s.heap.IsList b ys.toArray) (hi : StrsAre xs ns) (hj : StrsAre ys ms) (hu : A.units + 64 < cLine) (h : Q (.bool (!decide (ns = ms))) s) :
    wpAny (model prog w) A (compareOp .NotEq (.ref a) (.ref b)) Q E s :=
  ne_dataH_same (reads_newData ha hi.1) (reads_newData hb hj.1) (es_shaped _ hi.2) (es_shaped _ hj.2) hu (SeqAt.noMix_of_shape (.list .str) rfl _ _ (list_map_has fun _ => rfl) (list_map_has fun _ => rfl)) (by rw [es_same]; exact h)
end
theorem strs_of_keys : ∀ {vs : List Value} {ks : List Int}, KeysAre vs ks → ∃ xs, StrsAre vs xs
  | [], _, _ => ⟨[], .nil, fun _ h => nomatch h⟩
  | v :: vs, [], h => by cases h.1
  | v :: vs, k :: ks, h => by
    obtain ⟨xs, hx, hx2⟩ := strs_of_keys (vs := vs) (ks := ks) ⟨by have := h.1; simpa using this, fun i v' k' h1 h2 => h.2 (i + 1) v' k' h1 h2⟩
    obtain ⟨x, t, rfl, _, ho⟩ := h.2 0 v k rfl rfl
    refine ⟨x :: xs, .cons (.str _ _) hx, fun y hy => ?_⟩
    rcases List.mem_cons.mp hy with rfl | hy
    · exact (offVal_ok ho).1
    · exact hx2 y hy
theorem putR_walk {w : World} {p : Program} {loose : List Str} {mean : ExcName → Option Value} {mg mb : Str → Option Value} {A : Around} {s : Shared} {g₀ : Heap} {l : Addr} {vs : List Value} {n : Nat} {ks : List Int} {x : Str} {k : Int} {u : Tok} {Q E : Value → Shared → Prop}
    (X : (Mine.hd.heap_39 w.params).In g₀) (T : Top p loose mean mg mb g₀) (kp : Kept g₀ s.heap) (hf : g₀.get? l = none) (hl : s.heap.get? l = some (listOf vs.toArray n)) (hd : A.depth + 3 < recursionLimit) (hA : A.handled = none) (hk : KeysAre vs ks) (hn : vs.length < 1000)
    (hx : x.length ≤ 640) (hr : offVal x = some (some k)) (cnt : Nat) (hc : ∀ i j, ks[i]? = some j → (j ≤ k ↔ i < cnt)) (hcn : cnt ≤ ks.length)
    (ret : ∀ t h' tk', KeptBut l s.heap h' → h'.get? l = some (listOf (insAt vs cnt (.str x u)).toArray (n + 1)) → Q (.str (Str.ofString "put") t) { s with heap := h', toks := tk' }) :
    wpAny (model Challenge.rw_nb0139_01.row.prog w) A (call (.ref 108) [.ref l, .str x u, .bool false]) Q E s := by
  revert X; k_fill; intro X
  refine wpAny_call ?_
  refine' enter_own X T kp hf hl ?k6 ?k7 (by omega) ?k9 ?kB ?c5 ?_ ?c2 ?c3 ?c4
  (case k6 => k_is)
  (case k7 => k_is)
  (case k9 => first | exact BindsTo.of_eq rfl | exact binds_K (X.keeps kp) rfl (by k_is) rfl rfl rfl)
  (case c5 => decide)
  (case kB => exact locs rfl)
  (case c2 => exact rfl)
  (case c3 => exact rfl)
  (case c4 => exact rfl)
  clear X T kp
  intro g h₁ X T hg F N
  dsimp only
  k_with_none
  k_with "call ref" => k_dflt (refine insR_call (by k_asm) (by k_asm) (by assumption) (by k_asm) (by k_asm) (by show _ + 1 + 2 < recursionLimit; omega) hk hn hx hr cnt hc hcn ?_)
  k_steps
  rename News _ _ _ _ => N9
  rename Fr _ _ _ _ => F9
  exact ret _ _ _ (kept_own F9 hg) (N9.get (.tail _ (.head _)))
theorem putL_walk {w : World} {p : Program} {loose : List Str} {mean : ExcName → Option Value} {mg mb : Str → Option Value} {A : Around} {s : Shared} {g₀ : Heap} {l : Addr} {vs : List Value} {n : Nat} {ks : List Int} {x : Str} {k : Int} {u : Tok} {Q E : Value → Shared → Prop}
    (X : (Mine.hd.heap_39 w.params).In g₀) (T : Top p loose mean mg mb g₀) (kp : Kept g₀ s.heap) (hf : g₀.get? l = none) (hl : s.heap.get? l = some (listOf vs.toArray n)) (hd : A.depth + 3 < recursionLimit) (hA : A.handled = none) (hk : KeysAre vs ks) (hn : vs.length < 1000)
    (hx : x.length ≤ 640) (hr : offVal x = some (some k)) (cnt : Nat) (hc : ∀ i j, ks[i]? = some j → (j < k ↔ i < cnt)) (hcn : cnt ≤ ks.length)
    (ret : ∀ t h' tk', KeptBut l s.heap h' → h'.get? l = some (listOf (insAt vs cnt (.str x u)).toArray (n + 1)) → Q (.str (Str.ofString "put") t) { s with heap := h', toks := tk' }) :
    wpAny (model Challenge.rw_nb0139_01.row.prog w) A (call (.ref 108) [.ref l, .str x u, .bool true]) Q E s := by
  revert X; k_fill; intro X
  refine wpAny_call ?_
  refine' enter_own X T kp hf hl ?k6 ?k7 (by omega) ?k9 ?kB ?c5 ?_ ?c2 ?c3 ?c4
  (case k6 => k_is)
  (case k7 => k_is)
  (case k9 => first | exact BindsTo.of_eq rfl | exact binds_K (X.keeps kp) rfl (by k_is) rfl rfl rfl)
  (case c5 => decide)
  (case kB => exact locs rfl)
  (case c2 => exact rfl)
  (case c3 => exact rfl)
  (case c4 => exact rfl)
  clear X T kp
  intro g h₁ X T hg F N
  dsimp only
  k_with_none
  k_with "call ref" => k_dflt (refine insL_call (by k_asm) (by k_asm) (by assumption) (by k_asm) (by k_asm) (by show _ + 1 + 2 < recursionLimit; omega) hk hn hx hr cnt hc hcn ?_)
  k_steps
  rename News _ _ _ _ => N9
  rename Fr _ _ _ _ => F9
  exact ret _ _ _ (kept_own F9 hg) (N9.get (.tail _ (.head _)))
end Mine

end
section
theorem Mine.fresh_Put2 : True := by
  w_top off
  k_with_none
  exact trivial
open PySem PySem.W PyProof.Rows PySem.Calls
set_option maxRecDepth 100000
set_option maxHeartbeats 8000000
namespace Mine
theorem insR_refused_in {w : World} {p : Program} {loose : List Str} {mean : ExcName → Option Value} {mg mb : Str → Option Value} {A : Around} {s : Shared} {base G : Heap} {fr : List Env} {news : List (Addr × Obj)} {l : Addr} {vs : List Value} {ks : List Int} {x : Str} {u : Tok} {Q E : Value → Shared → Prop}
    {L a : Addr} {m : Str → Option Value} {name : Str} {scope : Scope} {cd : Value}
    (B : Below A base fr G) (X : (Mine.hd.heap_39 w.params).In G) (T : Top p loose mean mg mb G) (F : Fr G L s.heap m) (N : News G L s.heap news) (hA : A.handled = none)
    (hl : G.IsList l vs.toArray) (hk : KeysAre vs ks) (hn : vs.length < 1000) (hne : 0 < vs.length) (hd : A.depth + 3 < recursionLimit) (hsk : scope.kind = .function) (hx : x.length ≤ 640) (hr : offVal x = some none)
    (exc : ∀ G₂ e h' tk', Fr G L G₂ m → RaisedSN base G₂ (envOf name scope L a cd :: fr) e (.type "TypeError") news h' → G₂.UpToSlots h' → E (.ref e) { s with heap := h', toks := tk' }) :
    wpAny (model Challenge.rw_nb0139_01.row.prog w) (A.deeper (envOf name scope L a cd)) (call (.ref 53) [.ref l, .str x u] [(Str.ofString "key", .ref 44)]) Q E s := by
  obtain ⟨G₂, F₂, k1, k2, hz, hN2, B2⟩ := ground_below (name := name) (scope := scope) (a := a) (cd := cd) B F N hsk
  refine insR_refused B2 (X.keeps k1) (T.keeps k1) k2 hz hN2 hA (stays_list k1 hl) hk hn hne (by show A.depth + 1 + 2 < recursionLimit; omega) hx hr ?_
  intro e h' tk' R hu
  exact exc G₂ e h' tk' F₂ R hu
theorem insL_refused_in {w : World} {p : Program} {loose : List Str} {mean : ExcName → Option Value} {mg mb : Str → Option Value} {A : Around} {s : Shared} {base G : Heap} {fr : List Env} {news : List (Addr × Obj)} {l : Addr} {vs : List Value} {ks : List Int} {x : Str} {u : Tok} {Q E : Value → Shared → Prop}
    {L a : Addr} {m : Str → Option Value} {name : Str} {scope : Scope} {cd : Value}
    (B : Below A base fr G) (X : (Mine.hd.heap_39 w.params).In G) (T : Top p loose mean mg mb G) (F : Fr G L s.heap m) (N : News G L s.heap news) (hA : A.handled = none)
    (hl : G.IsList l vs.toArray) (hk : KeysAre vs ks) (hn : vs.length < 1000) (hne : 0 < vs.length) (hd : A.depth + 3 < recursionLimit) (hsk : scope.kind = .function) (hx : x.length ≤ 640) (hr : offVal x = some none)
    (exc : ∀ G₂ e h' tk', Fr G L G₂ m → RaisedSN base G₂ (envOf name scope L a cd :: fr) e (.type "TypeError") news h' → G₂.UpToSlots h' → E (.ref e) { s with heap := h', toks := tk' }) :
    wpAny (model Challenge.rw_nb0139_01.row.prog w) (A.deeper (envOf name scope L a cd)) (call (.ref 71) [.ref l, .str x u] [(Str.ofString "key", .ref 44)]) Q E s := by
  obtain ⟨G₂, F₂, k1, k2, hz, hN2, B2⟩ := ground_below (name := name) (scope := scope) (a := a) (cd := cd) B F N hsk
  refine insL_refused B2 (X.keeps k1) (T.keeps k1) k2 hz hN2 hA (stays_list k1 hl) hk hn hne (by show A.depth + 1 + 2 < recursionLimit; omega) hx hr ?_
  intro e h' tk' R hu
  exact exc G₂ e h' tk' F₂ R hu
theorem turned_list {fs : List Addr} {g g' : Heap} {l : Addr} {vs : List Value} (D : KtsDicts fs g) (T : KtsTurn fs g g') (hl : g.IsList l vs.toArray) : g'.IsList l vs.toArray := by
  obtain ⟨o, ho, hc, n, hd⟩ := hl
  refine ⟨o, T.other l o ho (fun hm => ?_), hc, n, hd⟩
  obtain ⟨o', es, n', ho', hd'⟩ := D l hm
  rw [ho] at ho'
  cases ho'
  rw [hd] at hd'
  cases hd'
theorem putR_refused {w : World} {p : Program} {loose : List Str} {mean : ExcName → Option Value} {mg mb : Str → Option Value} {A : Around} {s : Shared} {base : Heap} {fr : List Env} {l : Addr} {vs : List Value} {ks : List Int} {x : Str} {u : Tok} {Q E : Value → Shared → Prop}
    (B : Below A base fr s.heap) (XB : (Mine.hd.heap_39 w.params).In base) (TB : Top p loose mean mg mb base) (D : KtsDicts (fr.filterMap (·.frame)) s.heap) (hA : A.handled = none) (hu : A.units + 200 < cLine)
    (hl : s.heap.IsList l vs.toArray) (hk : KeysAre vs ks) (hn : vs.length < 1000) (hne : 0 < vs.length) (hd : A.depth + 3 < recursionLimit) (hx : x.length ≤ 640) (hr : offVal x = some none)
    (ret : ∀ t h' tk' g', KtsTurn (fr.filterMap (·.frame)) s.heap g' → Kept g' h' → Q (.str (Str.ofString "refused") t) { s with heap := h', toks := tk' }) :
    wpAny (model Challenge.rw_nb0139_01.row.prog w) A (call (.ref 108) [.ref l, .str x u, .bool false]) Q E s := by
  revert XB; k_fill; intro XB
  have X := XB.keeps B.stays
  have T := TB.keeps B.stays
  refine wpAny_call ?_
  refine' enter_at (news := []) X T (fun b o e => e) (Nat.le_refl _) (fun _ h => nomatch h) ?k6 ?k7 (by omega) ?k9 ?kB ?c5 ?_ ?c2 ?c3 ?c4
  (case k6 => k_is)
  (case k7 => k_is)
  (case k9 => first | exact BindsTo.of_eq rfl | exact binds_K X rfl (by k_is) rfl rfl rfl)
  (case c5 => decide)
  (case kB => exact locs rfl)
  (case c2 => exact rfl)
  (case c3 => exact rfl)
  (case c4 => exact rfl)
  intro h₁ F N
  dsimp only
  k_with_none
  repeat' (first | (k_unfold; (try dsimp only)) | walk1 | (dsimp only; walk1))
  rename Fr _ _ _ _ => F9
  rename News _ _ _ _ => N9
  refine insR_refused_in B X T F9 N9 hA hl hk hn hne hd rfl hx hr ?_
  intro G₂ e h₂ tk₂ F₂ R₂ hu₂
  refine' caught_SN0 (T' := "TypeError") R₂ F₂ B hu₂ XB TB D KtsTurn.refl ?ex PyProof.Rows.Boot.«TypeError» (by decide) PySem.F.isExc_TypeError PySem.F.notTuple_TypeError ?hs ?_
  (case ex => k_is)
  (case hs => rw [isSubtype_type]; kernel_rfl)
  clear F9 N9 F₂ R₂ hu₂ X T
  intro h' g' T' F' N' K' X' P' D'
  repeat' (first | (k_unfold; (try dsimp only)) | walk1 | (dsimp only; walk1))
  obtain ⟨xs, hxs⟩ := strs_of_keys hk
  refine eq_strs (stays_list F'.keep (turned_list D T' hl)) ⟨_, N'.get (.head _), rfl, _, rfl⟩ hxs hxs (by show A.units + 3 + 64 < cLine; omega) ?_
  rw [decide_eq_true (rfl : xs = xs)]
  repeat' (first | (k_unfold; (try dsimp only)) | walk1 | (dsimp only; walk1))
  exact ret _ _ _ _ T' (Fr.keep (by assumption))
theorem putL_refused {w : World} {p : Program} {loose : List Str} {mean : ExcName → Option Value} {mg mb : Str → Option Value} {A : Around} {s : Shared} {base : Heap} {fr : List Env} {l : Addr} {vs : List Value} {ks : List Int} {x : Str} {u : Tok} {Q E : Value → Shared → Prop}
    (B : Below A base fr s.heap) (XB : (Mine.hd.heap_39 w.params).In base) (TB : Top p loose mean mg mb base) (D : KtsDicts (fr.filterMap (·.frame)) s.heap) (hA : A.handled = none) (hu : A.units + 200 < cLine)
    (hl : s.heap.IsList l vs.toArray) (hk : KeysAre vs ks) (hn : vs.length < 1000) (hne : 0 < vs.length) (hd : A.depth + 3 < recursionLimit) (hx : x.length ≤ 640) (hr : offVal x = some none)
    (ret : ∀ t h' tk' g', KtsTurn (fr.filterMap (·.frame)) s.heap g' → Kept g' h' → Q (.str (Str.ofString "refused") t) { s with heap := h', toks := tk' }) :
    wpAny (model Challenge.rw_nb0139_01.row.prog w) A (call (.ref 108) [.ref l, .str x u, .bool true]) Q E s := by
  revert XB; k_fill; intro XB
  have X := XB.keeps B.stays
  have T := TB.keeps B.stays
  refine wpAny_call ?_
  refine' enter_at (news := []) X T (fun b o e => e) (Nat.le_refl _) (fun _ h => nomatch h) ?k6 ?k7 (by omega) ?k9 ?kB ?c5 ?_ ?c2 ?c3 ?c4
  (case k6 => k_is)
  (case k7 => k_is)
  (case k9 => first | exact BindsTo.of_eq rfl | exact binds_K X rfl (by k_is) rfl rfl rfl)
  (case c5 => decide)
  (case kB => exact locs rfl)
  (case c2 => exact rfl)
  (case c3 => exact rfl)
  (case c4 => exact rfl)
  intro h₁ F N
  dsimp only
  k_with_none
  repeat' (first | (k_unfold; (try dsimp only)) | walk1 | (dsimp only; walk1))
  rename Fr _ _ _ _ => F9
  rename News _ _ _ _ => N9
  refine insL_refused_in B X T F9 N9 hA hl hk hn hne hd rfl hx hr ?_
  intro G₂ e h₂ tk₂ F₂ R₂ hu₂
  refine' caught_SN0 (T' := "TypeError") R₂ F₂ B hu₂ XB TB D KtsTurn.refl ?ex PyProof.Rows.Boot.«TypeError» (by decide) PySem.F.isExc_TypeError PySem.F.notTuple_TypeError ?hs ?_
  (case ex => k_is)
  (case hs => rw [isSubtype_type]; kernel_rfl)
  clear F9 N9 F₂ R₂ hu₂ X T
  intro h' g' T' F' N' K' X' P' D'
  repeat' (first | (k_unfold; (try dsimp only)) | walk1 | (dsimp only; walk1))
  obtain ⟨xs, hxs⟩ := strs_of_keys hk
  refine eq_strs (stays_list F'.keep (turned_list D T' hl)) ⟨_, N'.get (.head _), rfl, _, rfl⟩ hxs hxs (by show A.units + 3 + 64 < cLine; omega) ?_
  rw [decide_eq_true (rfl : xs = xs)]
  repeat' (first | (k_unfold; (try dsimp only)) | walk1 | (dsimp only; walk1))
  exact ret _ _ _ _ T' (Fr.keep (by assumption))
end Mine

end
section
theorem Mine.fresh_Sort1 : True := by
  w_top off
  k_with_none
  exact trivial
open PySem PySem.W PyProof.Rows
namespace Mine
/-- a sorting tree run over a known order -/
def Runs {α : Type} (lt : Nat → Nat → Bool) (n : Nat) : KasT α → (α → Prop) → Prop
  | .ret a, P => P a
  | .ask i j k, P => i < n ∧ j < n ∧ i ≠ j ∧ Runs lt n (k (lt i j)) P
theorem Runs.bind {α β : Type} {lt : Nat → Nat → Bool} {n : Nat} {f : α → KasT β} {P : β → Prop} : ∀ {t : KasT α}, Runs lt n t (fun a => Runs lt n (f a) P) → Runs lt n (t.bind f) P
  | .ret _, h => h
  | .ask _ _ k, h => ⟨h.1, h.2.1, h.2.2.1, Runs.bind (t := k (lt _ _)) h.2.2.2⟩
theorem Runs.mono {α : Type} {lt : Nat → Nat → Bool} {n : Nat} {P P' : α → Prop} : ∀ {t : KasT α}, Runs lt n t P → (∀ a, P a → P' a) → Runs lt n t P'
  | .ret _, h, q => q _ h
  | .ask _ _ k, h, q => ⟨h.1, h.2.1, h.2.2.1, Runs.mono (t := k (lt _ _)) h.2.2.2 q⟩
theorem kasWp_of_runs {α : Type} {cmp : Nat → Nat → (Bool → Shared → Prop) → Shared → Prop} {lt : Nat → Nat → Bool} {n : Nat} {Inv : Shared → Prop} {P : α → Prop} {Q : α → Shared → Prop}
    (hcmp : ∀ i j C s, i < n → j < n → i ≠ j → Inv s → (∀ s', Inv s' → C (lt i j) s') → cmp i j C s) (hQ : ∀ a s', P a → Inv s' → Q a s') :
    ∀ (t : KasT α) (s : Shared), Runs lt n t P → Inv s → t.kasWp cmp Q s
  | .ret a, s, h, i => hQ a s h i
  | .ask i j k, s, h, hi => hcmp i j _ s h.1 h.2.1 h.2.2.1 hi fun s' hi' => kasWp_of_runs hcmp hQ (k (lt i j)) s' h.2.2.2 hi'

structure Ok (n : Nat) (p : Array Nat) : Prop where
  size : p.size = n
  perm : p.toList.Perm (List.range n)
theorem Ok.lt {n : Nat} {p : Array Nat} (h : Ok n p) {i : Nat} (hi : i < n) : p.getD i 0 < n := by
  have hi' : i < p.size := by rw [h.size]; exact hi
  have e : p.getD i 0 = p[i] := by simp [Array.getD, hi']
  rw [e]
  have : p[i] ∈ p.toList := by simp
  exact List.mem_range.mp (h.perm.mem_iff.mp this)
theorem Ok.ne {n : Nat} {p : Array Nat} (h : Ok n p) {i j : Nat} (hi : i < n) (hj : j < n) (hne : i ≠ j) : p.getD i 0 ≠ p.getD j 0 := by
  have hi' : i < p.toList.length := by rw [Array.length_toList, h.size]; exact hi
  have hj' : j < p.toList.length := by rw [Array.length_toList, h.size]; exact hj
  have nd : p.toList.Nodup := h.perm.nodup_iff.mpr List.nodup_range
  intro e
  have e1 : p.getD i 0 = p.toList[i] := by simp [Array.getD, h.size, hi]
  have e2 : p.getD j 0 = p.toList[j] := by simp [Array.getD, h.size, hj]
  rw [e1, e2] at e
  have pw := List.pairwise_iff_getElem.mp nd
  rcases Nat.lt_or_gt_of_ne hne with q | q
  · exact pw i j hi' hj' q e
  · exact pw j i hj' hi' q e.symm
theorem Ok.of_perm {n : Nat} {p q : Array Nat} (h : Ok n p) (hq : q.Perm p) : Ok n q := ⟨by rw [hq.size_eq]; exact h.size, hq.toList.trans h.perm⟩
theorem Ok.range (n : Nat) : Ok n (List.toArray (List.range n)) := ⟨by simp, by simp⟩

section
variable {n : Nat} {r : Nat → Int}
abbrev At (r : Nat → Int) (p : Array Nat) (i : Nat) : Int := r (p.getD i 0)
def Inc (r : Nat → Int) (p : Array Nat) (k : Nat) : Prop := ∀ i j, i < j → j < k → At r p i < At r p j
theorem at_ne (hr : ∀ i j, i < n → j < n → r i = r j → i = j) {p : Array Nat} (h : Ok n p) {i j : Nat} (hi : i < n) (hj : j < n) (hne : i ≠ j) : At r p i ≠ At r p j := fun e => h.ne hi hj hne (hr _ _ (h.lt hi) (h.lt hj) e)

theorem asc_runs (hr : ∀ i j, i < n → j < n → r i = r j → i = j) {p : Array Nat} (h : Ok n p) : ∀ (f m : Nat), 1 ≤ m → m + f = n → Inc r p m →
    Runs (fun i j => decide (r i < r j)) n (kas_asc p f m) (fun m' => Inc r p m' ∧ m ≤ m' ∧ m' ≤ n ∧ (m' < n → At r p m' < At r p (m' - 1)))
  | 0, m, h1, hm, hi => ⟨hi, Nat.le_refl _, by omega, fun q => absurd q (by omega)⟩
  | f + 1, m, h1, hm, hi => by
    refine ⟨h.lt (by omega), h.lt (by omega), h.ne (by omega) (by omega) (by omega), ?_⟩
    dsimp only
    by_cases hc : At r p m < At r p (m - 1)
    · rw [if_pos (decide_eq_true hc)]
      exact ⟨hi, Nat.le_refl _, by omega, fun _ => hc⟩
    · rw [if_neg (fun q => hc (of_decide_eq_true q))]
      have hne := at_ne hr h (i := m) (j := m - 1) (by omega) (by omega) (by omega)
      refine Runs.mono (asc_runs hr h f (m + 1) (by omega) (by omega) ?_) fun m' q => ⟨q.1, by omega, q.2.2⟩
      intro i j hij hj
      by_cases e : j = m
      · subst e
        by_cases e2 : i = j - 1
        · subst e2; omega
        · have := hi i (j - 1) (by omega) (by omega)
          omega
      · exact hi i j hij (by omega)
def Dec (r : Nat → Int) (p : Array Nat) (k : Nat) : Prop := ∀ i j, i < j → j < k → At r p j < At r p i
theorem desc_runs (hr : ∀ i j, i < n → j < n → r i = r j → i = j) {p : Array Nat} (h : Ok n p) : ∀ (f m : Nat), 1 ≤ m → m + f = n → Dec r p m →
    Runs (fun i j => decide (r i < r j)) n (kas_desc f p m 0) (fun x => x.1 = p ∧ x.2.2 = 0 ∧ Dec r p x.2.1 ∧ m ≤ x.2.1 ∧ x.2.1 ≤ n)
  | 0, m, h1, hm, hi => ⟨rfl, rfl, hi, Nat.le_refl _, by show m ≤ n; omega⟩
  | f + 1, m, h1, hm, hi => by
    refine ⟨h.lt (by omega), h.lt (by omega), h.ne (by omega) (by omega) (by omega), ?_⟩
    dsimp only
    have hne := at_ne hr h (i := m) (j := m - 1) (by omega) (by omega) (by omega)
    by_cases hc : At r p m < At r p (m - 1)
    · rw [if_pos (decide_eq_true hc), if_neg (by omega)]
      refine Runs.mono (desc_runs hr h f (m + 1) (by omega) (by omega) ?_) fun x q => ⟨q.1, q.2.1, q.2.2.1, by omega, q.2.2.2.2⟩
      intro i j hij hj
      by_cases e : j = m
      · subst e
        by_cases e2 : i = j - 1
        · subst e2; exact hc
        · have := hi i (j - 1) (by omega) (by omega)
          omega
      · exact hi i j hij (by omega)
    · rw [if_neg (fun q => hc (of_decide_eq_true q))]
      refine ⟨h.lt (by omega), h.lt (by omega), h.ne (by omega) (by omega) (by omega), ?_⟩
      dsimp only
      rw [if_pos (decide_eq_true (show At r p (m - 1) < At r p m by omega))]
      exact ⟨rfl, rfl, hi, Nat.le_refl _, by show m ≤ n; omega⟩
theorem at_rev {p : Array Nat} (h : Ok n p) {k i : Nat} (hk : k ≤ n) : At r (kas_rev p 0 k) i = if i < k then At r p (k - 1 - i) else At r p i := by
  have e := getElem?_mirror_all (xs := p) (i := 0) (j := k) (by rw [h.size]; exact hk) i
  unfold kas_rev At
  rw [Array.getD_eq_getD_getElem?, e]
  by_cases q : i < k
  · rw [if_pos ⟨Nat.zero_le _, q⟩, if_pos q, Nat.zero_add, ← Array.getD_eq_getD_getElem?]
  · rw [if_neg (by omega), if_neg q, ← Array.getD_eq_getD_getElem?]
theorem Ok.rev {p : Array Nat} (h : Ok n p) (k : Nat) : Ok n (kas_rev p 0 k) := h.of_perm (mirror_perm _ _ _ _)
theorem tail3_runs (hr : ∀ i j, i < n → j < n → r i = r j → i = j) {p : Array Nat} (h : Ok n p) {k : Nat} (h1 : 1 ≤ k) (hk : k ≤ n) (hd : Dec r p k) :
    Runs (fun i j => decide (r i < r j)) n (kas_tail3 k n p) (fun x => Ok n x.2 ∧ Inc r x.2 x.1 ∧ 1 ≤ x.1 ∧ x.1 ≤ n) := by
  refine Runs.bind ?_
  have hi : Inc r (kas_rev p 0 k) k := by
    intro i j hij hj
    rw [at_rev h hk, at_rev h hk, if_pos (by omega), if_pos hj]
    exact hd _ _ (by omega) (by omega)
  refine Runs.mono (asc_runs hr (h.rev k) (n - k) k h1 (by omega) hi) fun m q => ?_
  exact ⟨h.rev k, q.1, by show 1 ≤ m; omega, q.2.2.1⟩
theorem count_runs (hr : ∀ i j, i < n → j < n → r i = r j → i = j) {p : Array Nat} (h : Ok n p) (h2 : 2 ≤ n) :
    Runs (fun i j => decide (r i < r j)) n (kas_count n p) (fun x => Ok n x.2 ∧ Inc r x.2 x.1 ∧ 1 ≤ x.1 ∧ x.1 ≤ n) := by
  refine Runs.bind ?_
  refine Runs.mono (asc_runs hr h (n - 1) 1 (Nat.le_refl _) (by omega) (fun i j a b => by omega)) fun m q => ?_
  obtain ⟨hi, hm1, hmn, hlt⟩ := q
  by_cases e : m = n
  · rw [if_pos (by simpa using e)]
    exact ⟨h, hi, hm1, hmn⟩
  · rw [if_neg (by simpa using e)]
    by_cases g : m > 1
    · rw [if_pos g]
      refine ⟨h.lt (by omega), h.lt (by omega), h.ne (by omega) (by omega) (by omega), ?_⟩
      dsimp only
      rw [if_pos (decide_eq_true (hi 0 (m - 1) (by omega) (by omega)))]
      exact ⟨h, hi, hm1, hmn⟩
    · rw [if_neg g]
      have e1 : m = 1 := by omega
      subst e1
      refine Runs.bind ?_
      have hd : Dec r p 2 := by
        intro i j hij hj
        have : i = 0 := by omega
        have : j = 1 := by omega
        subst i j
        exact hlt (by omega)
      refine Runs.mono (desc_runs hr h (n - 2) 2 (by omega) (by omega) hd) fun x q => ?_
      obtain ⟨p', m', q'⟩ := x
      obtain ⟨rfl, rfl, hd', hm', hn'⟩ := q
      dsimp only
      rw [if_neg (by omega)]
      exact tail3_runs hr h (by dsimp only at hm'; omega) hn' hd'
theorem place_runs {p : Array Nat} (h : Ok n p) {k : Nat} (hk : k < n) (hi : Inc r p k) : ∀ (f l q : Nat), q - l ≤ f → l ≤ q → q ≤ k → (∀ i, i < l → ¬ At r p k < At r p i) → (∀ i, q ≤ i → i < k → At r p k < At r p i) →
    Runs (fun i j => decide (r i < r j)) n (kas_place p k f l q) (fun x => x ≤ k ∧ (∀ i, i < x → ¬ At r p k < At r p i) ∧ ∀ i, x ≤ i → i < k → At r p k < At r p i)
  | 0, l, q, hf, hl, hq, a, b => ⟨by omega, a, fun i h1 h2 => b i (by omega) h2⟩
  | f + 1, l, q, hf, hl, hq, a, b => by
    unfold kas_place
    by_cases e : l ≥ q
    · rw [if_pos e]
      exact ⟨by omega, a, fun i h1 h2 => b i (by omega) h2⟩
    · rw [if_neg e]
      refine ⟨h.lt (by omega), h.lt (by omega), h.ne (by omega) (by omega) (by omega), ?_⟩
      dsimp only
      by_cases hc : At r p k < At r p ((l + q) / 2)
      · rw [if_pos (decide_eq_true hc)]
        refine place_runs h hk hi f l ((l + q) / 2) (by omega) (by omega) (by omega) a fun i h1 h2 => ?_
        by_cases e2 : i = (l + q) / 2
        · subst e2; exact hc
        · have := hi ((l + q) / 2) i (by omega) h2
          omega
      · rw [if_neg (fun z => hc (of_decide_eq_true z))]
        refine place_runs h hk hi f ((l + q) / 2 + 1) q (by omega) (by omega) (by omega) (fun i h1 => ?_) b
        by_cases e2 : i = (l + q) / 2
        · subst e2; exact hc
        · have := hi i ((l + q) / 2) (by omega) (by omega)
          omega
theorem at_bubble {p : Array Nat} (h : Ok n p) {k l i : Nat} (hk : k < n) (hl : l ≤ k) : At r (bubble p k (k - l)) i = if i = l then At r p k else if l < i ∧ i ≤ k then At r p (i - 1) else At r p i := by
  have e := getElem?_bubble (xs := p) (src := k) (by rw [h.size]; exact hk) (k - l) (by omega) i
  have el : k - (k - l) = l := by omega
  rw [el] at e
  unfold At
  rw [Array.getD_eq_getD_getElem?, e]
  by_cases q : i = l
  · rw [if_pos q, if_pos q, ← Array.getD_eq_getD_getElem?]
  · rw [if_neg q, if_neg q]
    by_cases q2 : l < i ∧ i ≤ k
    · rw [if_pos q2, if_pos q2, ← Array.getD_eq_getD_getElem?]
    · rw [if_neg q2, if_neg q2, ← Array.getD_eq_getD_getElem?]
theorem bin_runs (hr : ∀ i j, i < n → j < n → r i = r j → i = j) : ∀ (f : Nat) {p : Array Nat} (k : Nat), Ok n p → k + f = n → Inc r p k →
    Runs (fun i j => decide (r i < r j)) n (kas_bin f p k) (fun x => Ok n x ∧ Inc r x n)
  | 0, p, k, h, hk, hi => ⟨h, by have : k = n := by omega
                                 exact this ▸ hi⟩
  | f + 1, p, k, h, hk, hi => by
    refine Runs.bind (Runs.mono (place_runs h (by omega) hi k 0 k (by omega) (Nat.zero_le _) (Nat.le_refl _) (fun i q => by omega) (fun i a b => by omega)) fun l q => ?_)
    obtain ⟨hl, ha, hb⟩ := q
    refine bin_runs hr f (k + 1) (h.of_perm (bubble_perm _ _ _)) (by omega) ?_
    intro i j hij hj
    rw [at_bubble h (by omega) hl, at_bubble h (by omega) hl]
    have nk : ∀ i, i < k → At r p i ≠ At r p k := fun i hik => at_ne hr h (by omega) (by omega) (by omega)
    by_cases e1 : i = l
    · rw [if_pos e1, if_neg (by omega), if_pos (by omega)]
      exact hb (j - 1) (by omega) (by omega)
    · rw [if_neg e1]
      by_cases e2 : l < i ∧ i ≤ k
      · rw [if_pos e2, if_neg (by omega), if_pos (by omega)]
        exact hi _ _ (by omega) (by omega)
      · rw [if_neg e2]
        by_cases e3 : j = l
        · rw [if_pos e3]
          have := ha i (by omega)
          have := nk i (by omega)
          omega
        · rw [if_neg e3]
          by_cases e4 : l < j ∧ j ≤ k
          · rw [if_pos e4]
            by_cases e5 : i = j - 1
            · omega
            · exact hi _ _ (by omega) (by omega)
          · rw [if_neg e4]
            exact hi _ _ hij (by omega)
theorem sort_runs (hr : ∀ i j, i < n → j < n → r i = r j → i = j) (h2 : 2 ≤ n) : Runs (fun i j => decide (r i < r j)) n (kas_sort n) (fun p => Ok n p ∧ Inc r p n) := by
  refine Runs.bind (Runs.mono (count_runs hr (Ok.range n) h2) fun x q => ?_)
  obtain ⟨h, hi, h1, hn⟩ := q
  by_cases e : x.1 < n
  · rw [if_pos e]
    have em : max x.1 1 = x.1 := by omega
    rw [em]
    exact bin_runs hr _ _ h (by omega) hi
  · rw [if_neg e]
    have em : x.1 = n := by omega
    exact ⟨h, em ▸ hi⟩
end
end Mine

end
section
theorem Mine.fresh_Pure1 : True := by
  w_top off
  k_with_none
  exact trivial
namespace Mine
theorem cnt_of {q : Int → Bool} (mono : ∀ a b, a ≤ b → q b = true → q a = true) : ∀ {S : List Int}, S.Pairwise (· ≤ ·) → ∀ i k, S[i]? = some k → (q k = true ↔ i < (S.filter q).length)
  | [], _, i, k, h => by simp at h
  | x :: S, hp, i, k, h => by
    have hp' := List.pairwise_cons.mp hp
    cases hx : q x with
    | true =>
      rw [List.filter_cons_of_pos hx, List.length_cons]
      cases i with
      | zero => simp at h; subst h; simp [hx]
      | succ i =>
        rw [List.getElem?_cons_succ] at h
        rw [cnt_of mono hp'.2 i k h]; omega
    | false =>
      have hall : ∀ y ∈ S, q y = false := fun y hy => by
        cases hq : q y with
        | false => rfl
        | true => rw [mono x y (hp'.1 y hy) hq] at hx; cases hx
      rw [List.filter_cons_of_neg (by rw [hx]; decide), List.filter_eq_nil_iff.mpr (fun y hy => by rw [hall y hy]; decide), List.length_nil]
      have : q k = false := by
        cases i with
        | zero => simp at h; subst h; exact hx
        | succ i => rw [List.getElem?_cons_succ] at h; exact hall k (List.mem_of_getElem? h)
      rw [this]; simp
theorem cnt_lt {S : List Int} (hS : S.Pairwise (· ≤ ·)) (wish : Int) (i : Nat) (k : Int) (h : S[i]? = some k) : k < wish ↔ i < (S.filter fun k => decide (k < wish)).length := by
  rw [← cnt_of (q := fun k => decide (k < wish)) (fun a b hab hb => by simp only [decide_eq_true_eq] at *; omega) hS i k h]; simp
theorem cnt_le {S : List Int} (hS : S.Pairwise (· ≤ ·)) (wish : Int) (i : Nat) (k : Int) (h : S[i]? = some k) : k ≤ wish ↔ i < (S.filter fun k => decide (k ≤ wish)).length := by
  rw [← cnt_of (q := fun k => decide (k ≤ wish)) (fun a b hab hb => by simp only [decide_eq_true_eq] at *; omega) hS i k h]; simp
theorem rev_at {S : List Int} {i : Nat} {k : Int} (h : (S.reverse.map fun k => -k)[i]? = some k) : i < S.length ∧ S[S.length - 1 - i]? = some (-k) := by
  rw [List.getElem?_map] at h
  have hi : i < S.length := by
    cases e : S.reverse[i]? with
    | none => rw [e] at h; cases h
    | some v => have := (List.getElem?_eq_some_iff.mp e).1; simpa using this
  refine ⟨hi, ?_⟩
  rw [List.getElem?_reverse hi] at h
  cases e : S[S.length - 1 - i]? with
  | none => rw [e] at h; cases h
  | some v => rw [e] at h; simp at h; subst h; simp
theorem cnt_rev_le {S : List Int} (hS : S.Pairwise (· ≤ ·)) (wish : Int) (i : Nat) (k : Int) (h : (S.reverse.map fun k => -k)[i]? = some k) : k ≤ -wish ↔ i < S.length - (S.filter fun k => decide (k < wish)).length := by
  obtain ⟨hi, e⟩ := rev_at h
  have := cnt_lt hS wish _ _ e
  have := List.length_filter_le (fun k => decide (k < wish)) S
  omega
theorem cnt_rev_lt {S : List Int} (hS : S.Pairwise (· ≤ ·)) (wish : Int) (i : Nat) (k : Int) (h : (S.reverse.map fun k => -k)[i]? = some k) : k < -wish ↔ i < S.length - (S.filter fun k => decide (k ≤ wish)).length := by
  obtain ⟨hi, e⟩ := rev_at h
  have := cnt_le hS wish _ _ e
  have := List.length_filter_le (fun k => decide (k ≤ wish)) S
  omega
end Mine

end
section
theorem Mine.fresh_Found0 : True := by
  w_top off
  k_with_none
  exact trivial
open PySem PySem.W PyProof.Rows PySem.Calls
set_option maxRecDepth 100000
set_option maxHeartbeats 8000000
namespace Mine
/-- entering a def with cells, over the whole heap -/
theorem enter_cells {prog : Program} {w : World} {A : Around} {s : Shared} {K : Frag} {p : Program} {loose : List Str} {mean : ExcName → Option Value} {mg mb : Str → Option Value} {R : Result → Shared → Prop}
    {name qual : Str} {params : Arguments} {body : List Stmt} {scope : Scope} {dV kV doc pm cdv ct oc : Value} {an od : Option Addr} {osl : Array (Option Value)} {f : Addr} {args : Args} {binds : List (Str × Value)}
    (X : K.In s.heap) (T : Top p loose mean mg mb s.heap)
    (ho : K.lookup f = some ⟨oc, od, .func (fnOf name qual params body scope dV kV doc pm an cdv ct), osl⟩) (hcd : codeIn K cdv qual = true) (hroom : A.depth < recursionLimit)
    (hbind : BindsTo s (fnOf name qual params body scope dV kV doc pm an cdv ct) args binds) (hkind : (binds.all fun y => scope.names.lookup y.1 == some .local || scope.names.lookup y.1 == some .cell) = true)
    (hnd : ((cellsFrom 0 scope.names []).map (·.1)).Nodup)
    (h : ∀ h₁ tk cells, Fr s.heap s.heap.objs.size h₁ (bindL (envOfC qual scope s.heap.objs.size f cdv).kindOf binds fun _ => none) → News s.heap s.heap.objs.size h₁ cells →
      CellsAre (bindC (envOfC qual scope s.heap.objs.size f cdv).kindOf binds fun _ => none) (cellsFrom (s.heap.objs.size + 1) scope.names []) cells →
      wpAny (model prog w) (A.deeper (envOfC qual scope s.heap.objs.size f cdv)) (execs body (envOfC qual scope s.heap.objs.size f cdv))
        (fun fl s' => R (.ok (.ret (match fl with | .ret v => v | _ => .none))) s')
        (fun e s' => wpAny (model prog w) (A.deeper (envOfC qual scope s.heap.objs.size f cdv)) (leaving (envOfC qual scope s.heap.objs.size f cdv) e) (fun _ s'' => R (.error e) s'') (fun e' s'' => R (.error e') s'') s')
        { s with heap := h₁, toks := tk })
    (hco : scope.isCoroutine = false) (hgen : scope.isGenerator = false) (hk : scope.kind = .function) :
    codeAny (model prog w) A (.call (.ref f) args) R s := by
  refine codeAny_call_function hroom (X _ _ ho) rfl hco hgen rfl (codeRec_of X hcd) (hbind _ _ _ _ ?_)
  refine wpAny_newFunctionEnv_cells hk (kindsX hkind _) fun env' he s' x => ?_
  subst he
  refine ⟨T.nolimit.keeps x.toInCall.keep, codeAny_func ?_⟩
  obtain ⟨h₁, tk, rfl, _⟩ := x.done
  have hk₁ := x.toInCall.keep
  obtain ⟨cells, NC, Y⟩ := Cl.news (h₀ := s.heap) (Nat.le_refl _) fun n c hm => ⟨x.cell n c (lookup_of_mem_nodup (cellsFrom_names scope.names 0 (s.heap.objs.size + 1) [] [] rfl ▸ hnd) hm), x.above n c hm⟩
  exact h h₁ tk cells ⟨x.toInCall.ns, fun b o e => hk₁ b o e, Nat.le_refl _⟩ NC Y
/-- an order's entries: each a tuple that begins with its seconds -/
def SecsAre (h : Heap) (vs : List Value) (S : List Int) : Prop := vs.length = S.length ∧ ∀ (i : Nat) (v : Value) (k : Int), vs[i]? = some v → S[i]? = some k → ∃ (a : Addr) (t : Tok) (x1 x2 x3 : Value), v = Value.ref a ∧ h.get? a = some (tupObj #[Value.int k t, x1, x2, x3])
theorem count_rest {prog : Program} {w : World} {A : Around} {h₀ : Heap} {L : Addr} {m : Str → Option Value} {env : Env} {ct elt : PySem.Expr} {x : Str} {scope : Scope} {cl : List (Str × Addr)} {s : Shared} {S' : List (Addr × Obj) → Prop} {Fin : List Value → List (Addr × Obj) → Prop} {news : List (Addr × Obj)}
    (q : Int → Bool) {vo : List Value} {S : List Int} (hlen : vo.length = S.length) (hS' : S' news)
    (test : ∀ (i : Nat) (v : Value) (k : Int) (I : Addr) (oI : Obj) (C : Addr) (oC : Obj) (D : Addr) (ys : List Value) (m₂ : Str → Option Value) (h : Heap) (tk : Nat) (E' : Value → Shared → Prop), vo[i]? = some v → S[i]? = some k → LCg.NsObj oC m₂ → m₂ x = some v → Fr h₀ L h m → News h₀ L h ((I, oI) :: (C, oC) :: (D, LCg.lst ys) :: news) →
      wpAny (model prog w) A (isTrue ct (compEnvC scope cl C env) (eval ct (compEnvC scope cl C env))) (fun ok s' => ok = q k ∧ ∃ tk', s' = { s with heap := h, toks := tk' }) E' { s with heap := h, toks := tk })
    (elem : ∀ (v : Value) (I : Addr) (oI : Obj) (C : Addr) (oC : Obj) (D : Addr) (ys : List Value) (m₂ : Str → Option Value) (h : Heap) (tk : Nat) (E' : Value → Shared → Prop), LCg.NsObj oC m₂ → m₂ x = some v → Fr h₀ L h m → News h₀ L h ((I, oI) :: (C, oC) :: (D, LCg.lst ys) :: news) →
      wpAny (model prog w) A (eval elt (compEnvC scope cl C env)) (fun y s' => y = v ∧ ∃ tk', s' = { s with heap := h, toks := tk' }) E' { s with heap := h, toks := tk })
    (fin : ∀ ys, ys.length = (S.filter q).length → Fin ys news) :
    LCt.CompRestT prog w A h₀ L m env ct elt x scope cl s S' (fun i v => vo.toArray[i]? = some v) Fin vo.toArray.size 0 [] news := by
  have go : ∀ k i ys, i + k = vo.length → ys.length = ((S.take i).filter q).length → LCt.CompRestT prog w A h₀ L m env ct elt x scope cl s S' (fun i v => vo.toArray[i]? = some v) Fin k i ys news := by
    intro k
    induction k with
    | zero =>
      intro i ys hi hy
      refine LCt.CompRestT.zero (fin ys ?_)
      rw [hy, List.take_of_length_le (by omega)]
    | succ k ih =>
      intro i ys hi hy
      refine LCt.CompRestT.succ ?_
      intro v I oI C oC D m₂ h tk E' hv hC hx F N off ne
      have hv' : vo[i]? = some v := by simpa using hv
      have hlt : i < S.length := by omega
      have hs : S[i]? = some S[i] := List.getElem?_eq_getElem hlt
      have et : S.take (i + 1) = S.take i ++ [S[i]] := by rw [List.take_add_one, hs]; rfl
      refine wpAny_mono (test i v S[i] I oI C oC D ys m₂ h tk E' hv' hs hC hx F N) (fun ok s' hok => ?_) fun _ _ e => e
      obtain ⟨rfl, tk', rfl⟩ := hok
      by_cases hq : q S[i] = true
      · rw [if_pos hq]
        refine wpAny_mono (elem v I oI C oC D ys m₂ h tk' E' hC hx F N) (fun y s' hy' => ?_) fun _ _ e => e
        obtain ⟨rfl, tk'', rfl⟩ := hy'
        refine ⟨h, tk'', news, rfl, F, N, off, hS', ih (i + 1) _ (by omega) ?_⟩
        rw [et, List.filter_append, List.length_append, List.length_append, hy]
        simp [hq]
      · rw [if_neg hq]
        refine ⟨h, tk', news, rfl, F, N, off, hS', ih (i + 1) _ (by omega) ?_⟩
        rw [et, List.filter_append, List.length_append, hy]
        simp [hq]
  have e : vo.toArray.size = vo.length := by simp
  rw [e]
  exact go vo.length 0 [] (by omega) (by simp)
theorem len_small {ys : List Value} (hn : ys.length < 1000) : ((ys.toArray.size : Nat) : Int) < 2 ^ 63 := by
  rw [List.size_toArray]
  have : (2 : Int) ^ 63 = 9223372036854775808 := by decide
  omega
theorem len_made {prog : Program} {w : World} {A : Around} {E : Value → Shared → Prop} {s : Shared} {h₀ : Heap} {L D : Addr} {ys : List Value} {c : Nat} {news : List (Addr × Obj)} {Q : Value → Shared → Prop} (N : News h₀ L s.heap news) (hm : (D, (({ cls := .type "list", data := .seq ys.toArray c }) : Obj)) ∈ news) (hn : ys.length < 1000)
    (h : Q (.int ys.length (s.toks + 1)) { s with toks := s.toks + 1 + 1 }) : wpAny (model prog w) A (call (.builtin "len") [.ref D]) Q E s :=
  call_len_list ⟨_, N.get hm, rfl, _, rfl⟩ (by rw [List.size_toArray]; have : (2 : Int) ^ 63 = 9223372036854775808 := by decide
                                               omega) (by rw [List.size_toArray]; exact h)
theorem tup_at {h : Heap} {a : Addr} {items : Array Value} (e : h.get? a = some (tupObj items)) : IsTup h a items := ⟨_, e, rfl, _, rfl⟩

theorem bisR_call {w : World} {p : Program} {loose : List Str} {mean : ExcName → Option Value} {mg mb : Str → Option Value} {A : Around} {s : Shared} {h₀ : Heap} {L : Addr} {m : Str → Option Value} {news : List (Addr × Obj)} {l : Addr} {vs : List Value} {ks : List Int} {wish : Int} {u : Tok} {Q E : Value → Shared → Prop}
    (F : Fr h₀ L s.heap m) (N : News h₀ L s.heap news) (X : (Mine.hd.heap_39 w.params).In h₀) (T : Top p loose mean mg mb h₀) (hd : A.depth + 1 < recursionLimit) (hl : h₀.IsList l vs.toArray) (hk : KeysAre vs ks) (hn : vs.length < 1000)
    (cnt : Nat) (hc : ∀ i k, ks[i]? = some k → (k ≤ wish ↔ i < cnt)) (hcn : cnt ≤ ks.length)
    (ret : ∀ t h' tk', Fr h₀ L h' m → News h₀ L h' news → Q (.int cnt t) { s with heap := h', toks := tk' }) :
    wpAny (model Challenge.rw_nb0139_01.row.prog w) A (call (.ref 62) [.ref l, .int wish u] [(Str.ofString "key", .ref 44)]) Q E s :=
  bisR2 (X.keeps F.keep) (T.keeps F.keep) hd (hl.imp fun _ ⟨a, b⟩ => ⟨F.keep _ _ a, b⟩) hk hn cnt hc hcn fun t h' tk' hk' => ret t h' tk' (Fr.kept F hk') (News.kept N hk')
theorem bisL_call {w : World} {p : Program} {loose : List Str} {mean : ExcName → Option Value} {mg mb : Str → Option Value} {A : Around} {s : Shared} {h₀ : Heap} {L : Addr} {m : Str → Option Value} {news : List (Addr × Obj)} {l : Addr} {vs : List Value} {ks : List Int} {wish : Int} {u : Tok} {Q E : Value → Shared → Prop}
    (F : Fr h₀ L s.heap m) (N : News h₀ L s.heap news) (X : (Mine.hd.heap_39 w.params).In h₀) (T : Top p loose mean mg mb h₀) (hd : A.depth + 1 < recursionLimit) (hl : h₀.IsList l vs.toArray) (hk : KeysAre vs ks) (hn : vs.length < 1000)
    (cnt : Nat) (hc : ∀ i k, ks[i]? = some k → (k < wish ↔ i < cnt)) (hcn : cnt ≤ ks.length)
    (ret : ∀ t h' tk', Fr h₀ L h' m → News h₀ L h' news → Q (.int cnt t) { s with heap := h', toks := tk' }) :
    wpAny (model Challenge.rw_nb0139_01.row.prog w) A (call (.ref 80) [.ref l, .int wish u] [(Str.ofString "key", .ref 44)]) Q E s :=
  bisL2 (X.keeps F.keep) (T.keeps F.keep) hd (hl.imp fun _ ⟨a, b⟩ => ⟨F.keep _ _ a, b⟩) hk hn cnt hc hcn fun t h' tk' hk' => ret t h' tk' (Fr.kept F hk') (News.kept N hk')
theorem len_base {prog : Program} {w : World} {A : Around} {E : Value → Shared → Prop} {s : Shared} {h₀ : Heap} {L : Addr} {m : Str → Option Value} {D : Addr} {ys : List Value} {Q : Value → Shared → Prop} (F : Fr h₀ L s.heap m) (hm : h₀.IsList D ys.toArray) (hn : ys.length < 1000)
    (h : Q (.int ys.length (s.toks + 1)) { s with toks := s.toks + 1 + 1 }) : wpAny (model prog w) A (call (.builtin "len") [.ref D]) Q E s :=
  call_len_list (hm.imp fun _ ⟨a, b⟩ => ⟨F.keep _ _ a, b⟩) (len_small hn) (by rw [List.size_toArray]; exact h)
theorem found_walk {w : World} {p : Program} {loose : List Str} {mean : ExcName → Option Value} {mg mb : Str → Option Value} {A : Around} {s : Shared} {lr lm lo : Addr} {vr vm vo : List Value} {S : List Int} {wish : Int} {u : Tok} {Q E : Value → Shared → Prop}
    (X : (Mine.hd.heap_39 w.params).In s.heap) (T : Top p loose mean mg mb s.heap) (hA : A.handled = none) (hd : A.depth + 2 < recursionLimit)
    (hlr : s.heap.IsList lr vr.toArray) (hlm : s.heap.IsList lm vm.toArray) (hlo : s.heap.IsList lo vo.toArray) (hso : SecsAre s.heap vo S)
    (hkr : KeysAre vr S) (hkm : KeysAre vm (S.reverse.map fun k => -k)) (hn : S.length < 900) (hS : S.Pairwise (· ≤ ·))
    (ret : ∀ h' tk', Kept s.heap h' → Q (.bool true) { s with heap := h', toks := tk' }) :
    wpAny (model Challenge.rw_nb0139_01.row.prog w) A (call (.ref 113) [.ref lr, .ref lm, .ref lo, .int wish u]) Q E s := by
  revert X; k_fill; intro X
  refine wpAny_call ?_
  refine' enter_cells X T ?k6 ?k7 (by omega) ?k9 ?kB ?kD ?_ ?c2 ?c3 ?c4
  (case k6 => k_is)
  (case k7 => k_is)
  (case k9 => exact BindsTo.of_eq rfl)
  (case kB => exact rfl)
  (case kD => decide +kernel)
  (case c2 => exact rfl)
  (case c3 => exact rfl)
  (case c4 => exact rfl)
  intro h₁ tk cells F N Y
  k_cells Y
  dsimp only
  k_with_none
  repeat' (first | (k_unfold; (try dsimp only)) | walk1 | (dsimp only; walk1))
  refine LCt.ListComp_T (F₀ := by k_asm) (by with_unfolding_all rfl) (by decide) (by rfl) (by decide) (by rfl) ?_
  walk1
  refine LCt.CompSrcT.base hA (by k_asm) (by k_asm) hlo (by show vo.toArray.size ≤ sizeLine; rw [List.size_toArray, hso.1, sizeLine_eq]; omega) ?_
  intro g
  refine count_rest (fun k => decide (k < wish)) hso.1 (.inl hlo) ?test ?elem ?_
  case test =>
    intro i v k I oI C oC D ys m₂ h tk E' hv hk hC hx F N
    obtain ⟨a, t, x1, x2, x3, rfl, ha⟩ := hso.2 i v k hv hk
    k_with "subscriptTail" => k_dflt (refine' item_tupleT (tup_at (F.keep _ _ ha)) ?ta ?tb ?tc ?td ?_; (case ta => decide); (case tb => decide); (case tc => rfl); (case td => rfl))
    repeat' (first | (k_unfold; (try dsimp only)) | walk1 | (dsimp only; walk1))
  case elem =>
    intro v I oI C oC D ys m₂ h tk E' hC hx F N
    repeat' (first | (k_unfold; (try dsimp only)) | walk1 | (dsimp only; walk1))
  intro ys hys
  k_with_none
  have hle := List.length_filter_le (fun k => decide (k < wish)) S
  k_with "call builtin:len" => k_dflt (refine len_made (by k_asm) (.head _) (by omega) ?_)
  repeat' (first | (k_unfold; (try dsimp only)) | walk1 | (dsimp only; walk1))
  k_with_none
  refine LCt.ListComp_T (F₀ := by k_asm) (by with_unfolding_all rfl) (by decide) (by rfl) (by decide) (by rfl) ?_
  walk1
  refine LCt.CompSrcT.base hA (by k_asm) (by k_asm) hlo (by show vo.toArray.size ≤ sizeLine; rw [List.size_toArray, hso.1, sizeLine_eq]; omega) ?_
  intro g
  refine count_rest (fun k => decide (k ≤ wish)) hso.1 (.inl hlo) ?test ?elem ?_
  case test =>
    intro i v k I oI C oC D ys m₂ h tk E' hv hk hC hx F N
    obtain ⟨a, t, x1, x2, x3, rfl, ha⟩ := hso.2 i v k hv hk
    k_with "subscriptTail" => k_dflt (refine' item_tupleT (tup_at (F.keep _ _ ha)) ?ta ?tb ?tc ?td ?_; (case ta => decide); (case tb => decide); (case tc => rfl); (case td => rfl))
    repeat' (first | (k_unfold; (try dsimp only)) | walk1 | (dsimp only; walk1))
  case elem =>
    intro v I oI C oC D ys m₂ h tk E' hC hx F N
    repeat' (first | (k_unfold; (try dsimp only)) | walk1 | (dsimp only; walk1))
  intro ys2 hys2
  k_with_none
  have hle2 := List.length_filter_le (fun k => decide (k ≤ wish)) S
  k_with "call builtin:len" => k_dflt (first | refine len_made (by k_asm) (.head _) (by omega) ?_ | refine len_base (by k_asm) hlo (by rw [hso.1]; omega) ?_)
  k_with "call ref" => k_dflt (first
    | refine bisL_call (by k_asm) (by k_asm) X T (by show _ + 1 + 1 < recursionLimit; omega) hlr hkr (by rw [hkr.1]; omega) _ (cnt_lt hS wish) hle ?_
    | refine bisR_call (by k_asm) (by k_asm) X T (by show _ + 1 + 1 < recursionLimit; omega) hlr hkr (by rw [hkr.1]; omega) _ (cnt_le hS wish) hle2 ?_
    | refine bisR_call (by k_asm) (by k_asm) X T (by show _ + 1 + 1 < recursionLimit; omega) hlm hkm (by rw [hkm.1]; simp; omega) _ (cnt_rev_le hS wish) (by simp) ?_
    | refine bisL_call (by k_asm) (by k_asm) X T (by show _ + 1 + 1 < recursionLimit; omega) hlm hkm (by rw [hkm.1]; simp; omega) _ (cnt_rev_lt hS wish) (by simp) ?_)
  repeat' (first | (k_unfold; (try dsimp only)) | walk1 | (dsimp only; walk1))
  all_goals (have hlo1 := hso.1)
  all_goals first
    | (exfalso; omega)
    | (rw [show ((((S.length - (S.filter fun k => decide (k ≤ wish)).length : Nat)) : Int) == (vo.length : Int) - (ys2.length : Int)) = true from by rw [beq_iff_eq]; omega]
       exact ret _ _ (Fr.keep (by assumption)))
end Mine

end
section
theorem Mine.fresh_Law1 : True := by
  w_top off
  k_with_none
  exact trivial
open PySem PySem.W PyProof.Rows PySem.Calls
set_option maxRecDepth 100000
set_option maxHeartbeats 8000000
namespace Mine
/-- the zones: each a reference to a tuple in the ledger -/
def ZonesAre (zs : List Value) (news : List (Addr × Obj)) : Prop :=
  ∀ (i : Nat) (v : Value), zs[i]? = some v → ∃ z r sv a b, v = Value.ref z ∧ ZoneOk r sv a b ∧ (z, tupObj #[sv, a, b]) ∈ news
theorem ZonesAre.snoc {zs : List Value} {news : List (Addr × Obj)} (h : ZonesAre zs news) {z : Addr} {r : Option Int} {sv a b : Value} (hz : ZoneOk r sv a b) :
    ZonesAre (zs ++ [Value.ref z]) ((z, tupObj #[sv, a, b]) :: news) := by
  intro i v hv
  by_cases hi : i < zs.length
  · rw [List.getElem?_append_left hi] at hv
    obtain ⟨z', r', sv', a', b', e, ok, hm⟩ := h i v hv
    exact ⟨z', r', sv', a', b', e, ok, List.mem_cons_of_mem _ hm⟩
  · rw [List.getElem?_append_right (by omega)] at hv
    have h0 : i - zs.length = 0 := by
      by_cases h1 : i - zs.length = 0
      · exact h1
      · rw [List.getElem?_eq_none (by simp; omega)] at hv; cases hv
    rw [h0] at hv
    cases hv
    exact ⟨z, r, sv, a, b, rfl, hz, .head _⟩
theorem zones_rest {prog : Program} {w : World} {A : Around} {h₀ : Heap} {L : Addr} {m : Str → Option Value} {env : Env} {elt : PySem.Expr} {x : Str} {scope : Scope} {cl : List (Str × Addr)} {s : Shared} {ax : Addr} {its : List Value} {Fin : List Value → List (Addr × Obj) → Prop} {news : List (Addr × Obj)}
    (hS' : LCg.SrcAt h₀ ax its.toArray news) (hI : ∀ v ∈ its, ∃ n t, v = Value.int n t)
    (elem : ∀ (n : Int) (t : Tok) (C : Addr) (oC : Obj) (m₂ : Str → Option Value) (h : Heap) (tk : Nat) (nw : List (Addr × Obj)) (E' : Value → Shared → Prop), LCg.NsObj oC m₂ → m₂ x = some (.int n t) → Fr h₀ L h m → News h₀ L h ((C, oC) :: nw) →
      wpAny (model prog w) A (eval elt (compEnvC scope cl C env)) (fun y s' => ∃ z r sv a b h' tk', y = Value.ref z ∧ s' = { s with heap := h', toks := tk' } ∧ ZoneOk r sv a b ∧ Kept h h' ∧ h'.get? z = some (tupObj #[sv, a, b]) ∧ h.get? z = none) E' { s with heap := h, toks := tk })
    (fin : ∀ zs zn, zs.length = its.length → ZonesAre zs zn → (∀ p ∈ zn, ∃ vs, p.2 = tupObj vs) → Fin zs (zn ++ news)) :
    LCg.CompRest prog w A h₀ L m env elt x scope cl s (LCg.SrcAt h₀ ax its.toArray) (fun i v => its.toArray[i]? = some v) Fin its.toArray.size 0 [] news := by
  have go : ∀ k i ys zn, i + k = its.length → ys.length = i → ZonesAre ys zn → (∀ p ∈ zn, ∃ vs, p.2 = tupObj vs) → LCg.CompRest prog w A h₀ L m env elt x scope cl s (LCg.SrcAt h₀ ax its.toArray) (fun i v => its.toArray[i]? = some v) Fin k i ys (zn ++ news) := by
    intro k
    induction k with
    | zero =>
      intro i ys zn hi hy hz ht
      exact LCg.CompRest.zero (fin ys zn (by omega) hz ht)
    | succ k ih =>
      intro i ys zn hi hy hz ht
      refine LCg.CompRest.succ ?_
      intro v I oI C oC D m₂ h tk E' hv hC hx F N off ne
      have hv' : its[i]? = some v := by simpa using hv
      obtain ⟨n, t, rfl⟩ := hI v (List.mem_of_getElem? hv')
      refine wpAny_mono (elem n t C oC m₂ h tk ((I, oI) :: (D, LCg.lst ys) :: (zn ++ news)) E' hC hx F (fun p hp => N p ?_)) (fun y s' hy' => ?_) fun _ _ e => e
      · rcases List.mem_cons.mp hp with rfl | hp
        · exact .tail _ (.head _)
        · rcases List.mem_cons.mp hp with rfl | hp
          · exact .head _
          · exact .tail _ (.tail _ hp)
      · obtain ⟨z, r, sv, a, b, h', tk', rfl, rfl, ok, hk, hz', hz0⟩ := hy'
        have F' := Fr.kept F hk
        have N' := News.kept N hk
        have ne' : ∀ c o, h.get? c = some o → z ≠ c := fun c o e q => by rw [q, e] at hz0; cases hz0
        have hzL : z ≠ L := by
          obtain ⟨o, _, _, e, _⟩ := F.ns
          exact ne' _ _ e
        have hz00 : h₀.get? z = none := by
          cases e : h₀.get? z with
          | none => rfl
          | some o => rw [F.keep _ _ e] at hz0; cases hz0
        refine ⟨h', tk', (z, tupObj #[sv, a, b]) :: (zn ++ news), rfl, F', ?_, ⟨⟨ne' _ _ (N _ (.head _)).1, ne' _ _ (N _ (.tail _ (.head _))).1, ne' _ _ (N _ (.tail _ (.tail _ (.head _)))).1⟩, off⟩, ?_, ?_⟩
        · intro p hp
          rcases List.mem_cons.mp hp with rfl | hp
          · exact N' _ (.head _)
          · rcases List.mem_cons.mp hp with rfl | hp
            · exact N' _ (.tail _ (.head _))
            · rcases List.mem_cons.mp hp with rfl | hp
              · exact N' _ (.tail _ (.tail _ (.head _)))
              · rcases List.mem_cons.mp hp with rfl | hp
                · exact ⟨hz', hzL, hz00⟩
                · exact N' _ (.tail _ (.tail _ (.tail _ hp)))
        · rcases hS' with hl | ⟨o, hm, r⟩
          · exact .inl hl
          · exact .inr ⟨o, .tail _ (List.mem_append_right _ hm), r⟩
        · exact ih (i + 1) (ys ++ [Value.ref z]) ((z, tupObj #[sv, a, b]) :: zn) (by omega) (by simp [hy]) (hz.snoc ok) (fun p hp => by
            rcases List.mem_cons.mp hp with rfl | hp
            · exact ⟨_, rfl⟩
            · exact ht p hp)
  have e : its.toArray.size = its.length := by simp
  rw [e]
  exact go its.length 0 [] [] (by omega) rfl (fun i v hv => by simp at hv) (fun p hp => nomatch hp)
/-- a range loop whose ledger may grow -/
def GrowEnd (h₀ : Heap) (L : Addr) (I : Addr) (J : (Str → Option Value) → List (Addr × Obj) → Prop) (own : List (Addr × Obj)) (s₁ s₂ : Shared) : Prop :=
  ∃ h' tk m' nx, s₂ = { s₁ with heap := h', toks := tk } ∧ Fr h₀ L h' m' ∧ News h₀ L h' (nx ++ own) ∧ (∀ p ∈ nx, p.1 ≠ I) ∧ J m' nx
def GrowPost (h₀ : Heap) (L : Addr) (I : Addr) (J : (Str → Option Value) → List (Addr × Obj) → Prop) (own : List (Addr × Obj)) (s₁ : Shared) (Q : Flow → Shared → Prop) (f : Flow) (s₂ : Shared) : Prop :=
  match f with
  | .ret v => Q (.ret v) s₂
  | .brk => Q .next s₂
  | _ => GrowEnd h₀ L I J own s₁ s₂
theorem range_grow {prog : Program} {w : World} {A : Around} {E : Value → Shared → Prop} {s : Shared} {env : Env} {h₀ : Heap} {x : Str} {body : List Stmt} {Q : Flow → Shared → Prop}
    {r : Addr} {b₀ : Int} {t₀ u₀ v₀ : Tok} {n : Nat} {m₀ : Str → Option Value} {news : List (Addr × Obj)} (J : Nat → (Str → Option Value) → List (Addr × Obj) → Prop)
    (hh : A.handled = none) (hr : IsRange s.heap r 0 b₀ 1 t₀ u₀ v₀) (hsmall : Builtin.Range.small 0 b₀ 1 = true) (hn : Builtin.Range.rangeSize 0 b₀ 1 = (n : Int)) (F : Fr h₀ env.locals s.heap m₀) (N : News h₀ env.locals s.heap news) (hj : J 0 m₀ news)
    (turn : ∀ (i : Nat) t m₁ nx h tk own I, i < n → (∀ p ∈ own, p.1 = I) → (∀ p ∈ nx, p.1 ≠ I) → (∃ o, (I, o) ∈ own) → J i m₁ nx → Fr h₀ env.locals h (fun y => if y = x then some (.int (i : Int) t) else m₁ y) → News h₀ env.locals h (nx ++ own) →
      wpAny (model prog w) A (execs body env) (GrowPost h₀ env.locals I (J (i + 1)) own { s with heap := h, toks := tk } Q) E { s with heap := h, toks := tk })
    (done : ∀ m₁ nx h tk, J n m₁ nx → Fr h₀ env.locals h m₁ → News h₀ env.locals h nx → Q .next { s with heap := h, toks := tk }) :
    wpAny (model prog w) A (pyIter (.ref r)) (fun it s₂ => LoopAtV prog w A h₀ env x body Q E it s₂) E s := by
  refine wpAny_pyIter_range hr hsmall ?_
  have W : Walks prog w A s.heap.objs.size [s.heap.objs.size] [s.heap.objs.size] n (fun i v => i < n ∧ ∃ t, v = .int (0 + i * 1) t)
      (fun i h => IsRangeIter h s.heap.objs.size (0 + (i : Nat) * 1) ((n : Int) - (i : Nat)) 1) := (Walks.range hh _ 0 1 n).bound
  refine ⟨s.heap.objs.size, [s.heap.objs.size], [s.heap.objs.size], n, _, _, m₀, news, J, rfl, W, ?_, ?_, ?_, (by show IsRangeIter _ _ _ _ _; rw [hn]; simpa using Heap.get?_push_size _ rfl), F.push _, (fun p hp => ⟨Heap.get?_push_of_some _ (N p hp).1, (N p hp).2⟩), hj, ?_, ?_⟩
  · intro hm
    exact absurd F.ns.lt ((List.mem_singleton.mp hm) ▸ Nat.lt_irrefl _)
  · intro b hb
    rw [List.mem_singleton.mp hb]
    exact next_is_new F
  · intro p hp hI
    exact absurd (Heap.lt_size (N p hp).1) ((List.mem_singleton.mp hI) ▸ Nat.lt_irrefl _)
  · rintro i v m₁ news₁ s₁ own ⟨hh', tk', rfl⟩ hin ⟨_, t, rfl⟩ hJ hoff hown _ hfull st F₁ N₁
    simp only [Int.mul_one, Int.zero_add] at F₁
    refine wpAny_mono (turn i t m₁ news₁ hh' tk' own s.heap.objs.size hin (fun p hp => List.mem_singleton.mp (hown p hp)) (fun p hp q => hoff p hp (List.mem_singleton.mpr q)) ⟨_, hfull _ (.head _) (next_is_new F) _ st⟩ hJ F₁ (fun p hp => N₁ p ((List.mem_append.mp hp).elim (fun h => List.mem_append.mpr (.inr h)) fun h => List.mem_append.mpr (.inl h)))) (fun f s₂ p => ?_) fun _ _ e => e
    have fin : GrowEnd h₀ env.locals s.heap.objs.size (J (i + 1)) own { s with heap := hh', toks := tk' } s₂ → LoopStepU h₀ env.locals [s.heap.objs.size] own (J (i + 1)) { s with heap := hh', toks := tk' } .next s₂ := by
      rintro ⟨h', tk, m', nx, e, F', N', hne, hm⟩
      exact ⟨rfl, h', tk, m', nx, e, F', fun p hp => N' p ((List.mem_append.mp hp).elim (fun q => List.mem_append.mpr (.inr q)) fun q => List.mem_append.mpr (.inl q)), fun p hp hq => hne p hp (List.mem_singleton.mp hq), hm⟩
    cases f with
    | ret v => exact .ret p
    | brk => exact .brk p
    | next => exact .next (fin p)
    | cont => exact .cont (fin p)
  · rintro h' tk m' news' F' N' _ hJ
    exact done m' news' h' tk hJ F' N'
end Mine

end
section
theorem Mine.fresh_Ent1 : True := by
  w_top off
  k_with_none
  exact trivial
open PySem PySem.W PyProof.Rows PySem.Calls
set_option maxRecDepth 100000
namespace Mine
/-- what the law knows of one zone that went in -/
structure Ent where
  sec : Int
  ord : Int
  x : Str
  y : Str
structure EntOk (e : Ent) : Prop where
  x0 : e.x.length ≤ 640
  x1 : offVal e.x = some (some e.sec)
  y0 : e.y.length ≤ 640
  y1 : offVal e.y = some (some (-e.sec))
def Before (a b : Ent) : Prop := a.sec < b.sec ∨ (a.sec = b.sec ∧ a.ord < b.ord)
def entAt (es : List Ent) (c : Nat) (e : Ent) : List Ent := es.take c ++ e :: es.drop c
theorem mem_take {α : Type} {es : List α} {c : Nat} {a : α} (h : a ∈ es.take c) : ∃ j, j < c ∧ es[j]? = some a := by
  obtain ⟨j, hj⟩ := List.getElem?_of_mem h
  rw [List.getElem?_take] at hj
  by_cases q : j < c
  · rw [if_pos q] at hj; exact ⟨j, q, hj⟩
  · rw [if_neg q] at hj; cases hj
theorem mem_drop {α : Type} {es : List α} {c : Nat} {a : α} (h : a ∈ es.drop c) : ∃ j, c ≤ j ∧ es[j]? = some a := by
  obtain ⟨j, hj⟩ := List.getElem?_of_mem h
  rw [List.getElem?_drop] at hj
  exact ⟨c + j, by omega, hj⟩
theorem ins_sorted {es : List Ent} {e : Ent} {c : Nat} (h1 : ∀ a ∈ es.take c, Before a e) (h2 : ∀ b ∈ es.drop c, Before e b) (hs : es.Pairwise Before) : (entAt es c e).Pairwise Before := by
  unfold entAt
  rw [← List.take_append_drop c es] at hs
  obtain ⟨p1, p2, p3⟩ := List.pairwise_append.mp hs
  refine List.pairwise_append.mpr ⟨p1, List.pairwise_cons.mpr ⟨h2, p2⟩, fun a ha b hb => ?_⟩
  rcases List.mem_cons.mp hb with rfl | hb
  · exact h1 a ha
  · exact p3 a ha b hb
theorem secs_sorted {es : List Ent} (hs : es.Pairwise Before) : (es.map Ent.sec).Pairwise (· ≤ ·) := by
  rw [List.pairwise_map]
  exact hs.imp fun h => by rcases h with h | h <;> omega
theorem sec_at {es : List Ent} {j : Nat} {a : Ent} (h : es[j]? = some a) : (es.map Ent.sec)[j]? = some a.sec := by rw [List.getElem?_map, h]; rfl
def cntR (es : List Ent) (k : Int) : Nat := ((es.map Ent.sec).filter fun s => decide (s ≤ k)).length
def cntL (es : List Ent) (k : Int) : Nat := ((es.map Ent.sec).filter fun s => decide (s < k)).length
theorem cntR_le {es : List Ent} {k : Int} : cntR es k ≤ es.length := by
  have := List.length_filter_le (fun s => decide (s ≤ k)) (es.map Ent.sec)
  rw [List.length_map] at this; exact this
theorem cntL_le {es : List Ent} {k : Int} : cntL es k ≤ es.length := by
  have := List.length_filter_le (fun s => decide (s < k)) (es.map Ent.sec)
  rw [List.length_map] at this; exact this
theorem insR_sorted {es : List Ent} {e : Ent} (hs : es.Pairwise Before) (ho : ∀ a ∈ es, a.ord < e.ord) : (entAt es (cntR es e.sec) e).Pairwise Before := by
  refine ins_sorted (fun a ha => ?_) (fun b hb => ?_) hs
  · obtain ⟨j, hj, q⟩ := mem_take ha
    have h1 := (cnt_le (secs_sorted hs) e.sec j a.sec (sec_at q)).mpr hj
    have h2 := ho a (List.mem_of_getElem? q)
    unfold Before; omega
  · obtain ⟨j, hj, q⟩ := mem_drop hb
    have h1 := mt (cnt_le (secs_sorted hs) e.sec j b.sec (sec_at q)).mp (by show ¬ j < cntR es e.sec; omega)
    unfold Before; omega
theorem insL_sorted {es : List Ent} {e : Ent} (hs : es.Pairwise Before) (ho : ∀ a ∈ es, e.ord < a.ord) : (entAt es (cntL es e.sec) e).Pairwise Before := by
  refine ins_sorted (fun a ha => ?_) (fun b hb => ?_) hs
  · obtain ⟨j, hj, q⟩ := mem_take ha
    have h1 := (cnt_lt (secs_sorted hs) e.sec j a.sec (sec_at q)).mpr hj
    unfold Before; omega
  · obtain ⟨j, hj, q⟩ := mem_drop hb
    have h1 := mt (cnt_lt (secs_sorted hs) e.sec j b.sec (sec_at q)).mp (by show ¬ j < cntL es e.sec; omega)
    have h2 := ho b (List.mem_of_getElem? q)
    unfold Before; omega
theorem ins_perm {es ks : List Ent} {e : Ent} {c : Nat} (h : ks.Perm es) : (ks ++ [e]).Perm (entAt es c e) := by
  have h1 : (ks ++ [e]).Perm (e :: ks) := List.perm_append_comm
  have h2 : (e :: es).Perm (entAt es c e) := by
    unfold entAt
    have h3 := (List.perm_middle (a := e) (l₁ := es.take c) (l₂ := es.drop c)).symm
    rwa [List.take_append_drop] at h3
  exact h1.trans ((h.cons e).trans h2)
theorem ent_reverse {es : List Ent} {c : Nat} {e : Ent} (hc : c ≤ es.length) : (entAt es c e).reverse = entAt es.reverse (es.length - c) e := by
  unfold entAt
  rw [List.take_reverse, List.drop_reverse, List.reverse_append, List.reverse_cons, List.append_assoc]
  have : es.length - (es.length - c) = c := by omega
  rw [this]; rfl
theorem ent_map {β : Type} (f : Ent → β) (es : List Ent) (c : Nat) (e : Ent) : (entAt es c e).map f = (es.map f).take c ++ f e :: (es.map f).drop c := by
  unfold entAt
  rw [List.map_append, List.map_cons, List.map_take, List.map_drop]
theorem ent_mem {es : List Ent} {c : Nat} {e a : Ent} (h : a ∈ entAt es c e) : a = e ∨ a ∈ es := by
  unfold entAt at h
  rcases List.mem_append.mp h with h | h
  · exact .inr (List.mem_of_mem_take h)
  · rcases List.mem_cons.mp h with h | h
    · exact .inl h
    · exact .inr (List.mem_of_mem_drop h)
theorem ent_len {es : List Ent} {c : Nat} {e : Ent} : (entAt es c e).length = es.length + 1 := by
  unfold entAt
  rw [List.length_append, List.length_cons, List.length_take, List.length_drop]; omega
/-- a list of these texts -/
def TextsAre (vs : List Value) (xs : List Str) : Prop := vs.length = xs.length ∧ ∀ (i : Nat) (v : Value) (x : Str), vs[i]? = some v → xs[i]? = some x → ∃ t, v = Value.str x t
theorem TextsAre.ins {vs : List Value} {xs : List Str} (h : TextsAre vs xs) (c : Nat) (x : Str) (u : Tok) (hc : c ≤ xs.length) : TextsAre (insAt vs c (.str x u)) (xs.take c ++ x :: xs.drop c) := by
  have hl := h.1
  refine ⟨?_, fun i v y hv hy => ?_⟩
  · unfold insAt
    rw [List.length_append, List.length_append, List.length_cons, List.length_cons, List.length_take, List.length_take, List.length_drop, List.length_drop]; omega
  · unfold insAt at hv
    have e1 : (vs.take c).length = c := by rw [List.length_take]; omega
    have e2 : (xs.take c).length = c := by rw [List.length_take]; omega
    by_cases q : i < c
    · rw [List.getElem?_append_left (by omega), List.getElem?_take, if_pos q] at hv hy
      exact h.2 i v y hv hy
    · rw [List.getElem?_append_right (by omega)] at hv hy
      rw [e1] at hv; rw [e2] at hy
      cases hd : i - c with
      | zero => rw [hd] at hv hy; cases hv; cases hy; exact ⟨u, rfl⟩
      | succ j =>
        rw [hd, List.getElem?_cons_succ, List.getElem?_drop] at hv hy
        exact h.2 _ v y hv hy
theorem keys_row {vr : List Value} {es : List Ent} (h : TextsAre vr (es.map Ent.x)) (ok : ∀ e ∈ es, EntOk e) : KeysAre vr (es.map Ent.sec) := by
  refine ⟨by rw [h.1, List.length_map, List.length_map], fun i v k hv hk => ?_⟩
  rw [List.getElem?_map] at hk
  cases q : es[i]? with
  | none => rw [q] at hk; cases hk
  | some e =>
    rw [q] at hk; cases hk
    obtain ⟨t, rfl⟩ := h.2 i v e.x hv (by rw [List.getElem?_map, q]; rfl)
    have o := ok e (List.mem_of_getElem? q)
    exact ⟨e.x, t, rfl, o.x0, o.x1⟩
theorem keys_mir {vm : List Value} {es : List Ent} (h : TextsAre vm (es.reverse.map Ent.y)) (ok : ∀ e ∈ es, EntOk e) : KeysAre vm ((es.map Ent.sec).reverse.map fun k => -k) := by
  refine ⟨by rw [h.1]; simp, fun i v k hv hk => ?_⟩
  rw [← List.map_reverse, List.map_map, List.getElem?_map] at hk
  cases q : es.reverse[i]? with
  | none => rw [q] at hk; cases hk
  | some e =>
    rw [q] at hk; cases hk
    obtain ⟨t, rfl⟩ := h.2 i v e.y hv (by rw [List.getElem?_map, q]; rfl)
    have o := ok e (List.mem_reverse.mp (List.mem_of_getElem? q))
    exact ⟨e.y, t, rfl, o.y0, o.y1⟩
theorem row_ins {vr : List Value} {es : List Ent} (h : TextsAre vr (es.map Ent.x)) (c : Nat) (e : Ent) (u : Tok) (hc : c ≤ es.length) : TextsAre (insAt vr c (.str e.x u)) ((entAt es c e).map Ent.x) := by
  rw [ent_map]
  exact h.ins c e.x u (by rw [List.length_map]; exact hc)
theorem mir_ins {vm : List Value} {es : List Ent} (h : TextsAre vm (es.reverse.map Ent.y)) (c : Nat) (e : Ent) (u : Tok) (hc : c ≤ es.length) : TextsAre (insAt vm (es.length - c) (.str e.y u)) ((entAt es c e).reverse.map Ent.y) := by
  rw [ent_reverse hc, ent_map]
  exact h.ins (es.length - c) e.y u (by rw [List.length_map, List.length_reverse]; omega)
theorem texts_strs : ∀ {vs : List Value} {xs : List Str}, TextsAre vs xs → (∀ x ∈ xs, PyData.strOk x = true) → StrsAre vs xs
  | [], [], _, _ => ⟨.nil, fun _ h => nomatch h⟩
  | [], _ :: _, h, _ => by cases h.1
  | _ :: _, [], h, _ => by cases h.1
  | v :: vs, x :: xs, h, ok => by
    obtain ⟨hx, hx2⟩ := texts_strs (vs := vs) (xs := xs) ⟨by have := h.1; simpa using this, fun i v' k' h1 h2 => h.2 (i + 1) v' k' h1 h2⟩ (fun y hy => ok y (.tail _ hy))
    obtain ⟨t, rfl⟩ := h.2 0 v x rfl rfl
    refine ⟨.cons (.str _ _) hx, ok⟩
end Mine

end
section
theorem Mine.fresh_PutFr : True := by
  w_top off
  k_with_none
  exact trivial
open PySem PySem.W PyProof.Rows PySem.Calls
set_option maxRecDepth 100000
set_option maxHeartbeats 8000000
namespace Mine
theorem updF_mem {l : Addr} {o : Obj} {nw : List (Addr × Obj)} {g : Obj → List (Addr × Obj)} (U : UpdF l o nw g) : (l, o) ∈ nw := by
  obtain ⟨pre, post, e, _⟩ := U.split
  rw [e]; exact List.mem_append_right _ (.head _)
theorem news_putb {h₀ h h' : Heap} {L l : Addr} {o o' : Obj} {nw : List (Addr × Obj)} {g : Obj → List (Addr × Obj)} (N : News h₀ L h nw) (U : UpdF l o nw g) (k : KeptBut l h h') (e : h'.get? l = some o') : News h₀ L h' (g o') := by
  have hl := N _ (updF_mem U)
  obtain ⟨pre, post, e0, eg, x1, x2⟩ := U.split
  rw [eg]
  subst e0
  intro p hp
  rcases List.mem_append.mp hp with hp | hp
  · have z := N p (List.mem_append_left _ hp)
    exact ⟨k _ _ (x1 p hp) z.1, z.2⟩
  · rcases List.mem_cons.mp hp with rfl | hp
    · exact ⟨e, hl.2⟩
    · have z := N p (List.mem_append_right _ (.tail _ hp))
      exact ⟨k _ _ (x2 p hp) z.1, z.2⟩
theorem fr_putb {h₀ h h' : Heap} {L l : Addr} {o : Obj} {m : Str → Option Value} {nw : List (Addr × Obj)} (F : Fr h₀ L h m) (N : News h₀ L h nw) (hm : (l, o) ∈ nw) (k : KeptBut l h h') : Fr h₀ L h' m := by
  have hl := N _ hm
  refine ⟨F.ns.at' fun o e => k L o (Ne.symm hl.2.1) e, fun b o e => k b o (fun q => ?_) (F.keep b o e), F.above⟩
  rw [q, hl.2.2] at e; cases e
theorem Below.pushC {A : Around} {base h₀ h : Heap} {outer : List Env} {L a : Addr} {m : Str → Option Value} {name : Str} {scope : Scope} {cd : Value}
    (K : Below A base outer h₀) (F : Fr h₀ L h m) (hk : scope.kind = .function) : Below (A.deeper (envOfC name scope L a cd)) base (envOfC name scope L a cd :: outer) h := by
  have hnew : base.get? L = none := by
    cases hq : base.get? L with
    | none => rfl
    | some o => exact absurd (Nat.lt_of_lt_of_le (Heap.lt_size (K.stays L o hq)) F.above) (Nat.lt_irrefl _)
  refine ⟨Around.frames_deeper K.stack, fun b o e => F.keep b o (K.stays b o e), ?_⟩
  exact .cons (by show scope.kind ≠ .module; rw [hk]; decide) rfl F.ns hnew (K.frames.of_keeps fun b o e _ => ⟨o, F.keep b o e, rfl⟩)
theorem dicts_one {h : Heap} {L : Addr} {m : Str → Option Value} (hn : h.Ns L m) : KtsDicts [L] h := fun b hb => by
  rw [List.mem_singleton.mp hb]
  obtain ⟨o, es, ep, e, hd, _⟩ := hn
  exact ⟨o, es, ep, e, hd⟩
theorem turn_fr {h₀ h g h' : Heap} {L : Addr} {m : Str → Option Value} (F : Fr h₀ L h m) (t : KtsTurn [L] h g) (k : Kept g h') : Fr h₀ L h' m := by
  obtain ⟨o, es, ep, e, hd, r⟩ := F.ns
  obtain ⟨sl, e2⟩ := t.frame L o e (.head _)
  refine ⟨⟨_, es, ep, k _ _ e2, hd, r⟩, fun b ob eb => k _ _ (t.other b ob (F.keep b ob eb) fun hb => ?_), F.above⟩
  rw [List.mem_singleton.mp hb] at eb
  exact absurd (Heap.lt_size eb) (Nat.not_lt.mpr F.above)
theorem turn_news {h₀ h g h' : Heap} {L : Addr} {nw : List (Addr × Obj)} (N : News h₀ L h nw) (t : KtsTurn [L] h g) (k : Kept g h') : News h₀ L h' nw := fun p hp =>
  ⟨k _ _ (t.other p.1 p.2 (N p hp).1 fun hb => (N p hp).2.1 (List.mem_singleton.mp hb)), (N p hp).2⟩
theorem says_fr {w : World} {p : Program} {loose : List Str} {mean : ExcName → Option Value} {mg mb : Str → Option Value} {A : Around} {s : Shared} {h₀ : Heap} {L : Addr} {m : Str → Option Value} {nw : List (Addr × Obj)} {x : Str} {u : Tok} {r : Option Int} {sv : Value} {Q E : Value → Shared → Prop}
    (F : Fr h₀ L s.heap m) (N : News h₀ L s.heap nw) (X : (Mine.hd.heap_39 w.params).In h₀) (T : Top p loose mean mg mb h₀) (hd : A.depth + 1 < recursionLimit) (hx : x.length ≤ 640) (hr : offVal x = some r) (hs : IsOff r sv)
    (ret : ∀ h' tk', Fr h₀ L h' m → News h₀ L h' nw → Q (.bool true) { s with heap := h', toks := tk' }) :
    wpAny (model Challenge.rw_nb0139_01.row.prog w) A (call (.ref 101) [.str x u, sv]) Q E s :=
  says_walk (X.keeps F.keep) (T.keeps F.keep) hd hx hr hs fun h' tk' k => ret h' tk' (Fr.kept F k) (News.kept N k)
theorem putR_fr {w : World} {p : Program} {loose : List Str} {mean : ExcName → Option Value} {mg mb : Str → Option Value} {A : Around} {s : Shared} {h₀ : Heap} {L : Addr} {m : Str → Option Value} {nw : List (Addr × Obj)} {g : Obj → List (Addr × Obj)} {l : Addr} {vs : List Value} {n : Nat} {ks : List Int} {x : Str} {k : Int} {u : Tok} {Q E : Value → Shared → Prop}
    (F : Fr h₀ L s.heap m) (N : News h₀ L s.heap nw) (U : UpdF l (listOf vs.toArray n) nw g) (X : (Mine.hd.heap_39 w.params).In h₀) (T : Top p loose mean mg mb h₀) (hd : A.depth + 3 < recursionLimit) (hA : A.handled = none) (hk : KeysAre vs ks) (hn : vs.length < 1000)
    (hx : x.length ≤ 640) (hr : offVal x = some (some k)) (cnt : Nat) (hc : ∀ i j, ks[i]? = some j → (j ≤ k ↔ i < cnt)) (hcn : cnt ≤ ks.length)
    (ret : ∀ t h' tk', Fr h₀ L h' m → News h₀ L h' (g (listOf (insAt vs cnt (.str x u)).toArray (n + 1))) → Q (.str (Str.ofString "put") t) { s with heap := h', toks := tk' }) :
    wpAny (model Challenge.rw_nb0139_01.row.prog w) A (call (.ref 108) [.ref l, .str x u, .bool false]) Q E s :=
  putR_walk X T F.keep (N.fresh (updF_mem U)) (N.get (updF_mem U)) hd hA hk hn hx hr cnt hc hcn fun t h' tk' kb e => ret t h' tk' (fr_putb F N (updF_mem U) kb) (news_putb N U kb e)
theorem putR_no {a : Addr} {name : Str} {scope : Scope} {cd : Value} {w : World} {p : Program} {loose : List Str} {mean : ExcName → Option Value} {mg mb : Str → Option Value} {A : Around} {s : Shared} {h₀ : Heap} {L : Addr} {m : Str → Option Value} {nw : List (Addr × Obj)} {l : Addr} {vs : List Value} {n : Nat} {ks : List Int} {x : Str} {u : Tok} {Q E : Value → Shared → Prop}
    (B : Below A h₀ [] h₀) (F : Fr h₀ L s.heap m) (N : News h₀ L s.heap nw) (hm : (l, listOf vs.toArray n) ∈ nw) (X : (Mine.hd.heap_39 w.params).In h₀) (T : Top p loose mean mg mb h₀) (hsk : scope.kind = .function) (hd : A.depth + 4 < recursionLimit) (hA : (A.deeper (envOfC name scope L a cd)).handled = none) (hu : (A.deeper (envOfC name scope L a cd)).units + 200 < cLine) (hk : KeysAre vs ks) (hn : vs.length < 1000) (hne : 0 < vs.length)
    (hx : x.length ≤ 640) (hr : offVal x = some none)
    (ret : ∀ t h' tk', Fr h₀ L h' m → News h₀ L h' nw → Q (.str (Str.ofString "refused") t) { s with heap := h', toks := tk' }) :
    wpAny (model Challenge.rw_nb0139_01.row.prog w) (A.deeper (envOfC name scope L a cd)) (call (.ref 108) [.ref l, .str x u, .bool false]) Q E s :=
  putR_refused (Below.pushC B F hsk) X T (dicts_one F.ns) hA hu ⟨_, N.get hm, rfl, _, rfl⟩ hk hn hne (by show A.depth + 1 + 3 < recursionLimit; omega) hx hr fun t h' tk' g' tn k => ret t h' tk' (turn_fr F tn k) (turn_news N tn k)
theorem putL_fr {w : World} {p : Program} {loose : List Str} {mean : ExcName → Option Value} {mg mb : Str → Option Value} {A : Around} {s : Shared} {h₀ : Heap} {L : Addr} {m : Str → Option Value} {nw : List (Addr × Obj)} {g : Obj → List (Addr × Obj)} {l : Addr} {vs : List Value} {n : Nat} {ks : List Int} {x : Str} {k : Int} {u : Tok} {Q E : Value → Shared → Prop}
    (F : Fr h₀ L s.heap m) (N : News h₀ L s.heap nw) (U : UpdF l (listOf vs.toArray n) nw g) (X : (Mine.hd.heap_39 w.params).In h₀) (T : Top p loose mean mg mb h₀) (hd : A.depth + 3 < recursionLimit) (hA : A.handled = none) (hk : KeysAre vs ks) (hn : vs.length < 1000)
    (hx : x.length ≤ 640) (hr : offVal x = some (some k)) (cnt : Nat) (hc : ∀ i j, ks[i]? = some j → (j < k ↔ i < cnt)) (hcn : cnt ≤ ks.length)
    (ret : ∀ t h' tk', Fr h₀ L h' m → News h₀ L h' (g (listOf (insAt vs cnt (.str x u)).toArray (n + 1))) → Q (.str (Str.ofString "put") t) { s with heap := h', toks := tk' }) :
    wpAny (model Challenge.rw_nb0139_01.row.prog w) A (call (.ref 108) [.ref l, .str x u, .bool true]) Q E s :=
  putL_walk X T F.keep (N.fresh (updF_mem U)) (N.get (updF_mem U)) hd hA hk hn hx hr cnt hc hcn fun t h' tk' kb e => ret t h' tk' (fr_putb F N (updF_mem U) kb) (news_putb N U kb e)
theorem putL_no {a : Addr} {name : Str} {scope : Scope} {cd : Value} {w : World} {p : Program} {loose : List Str} {mean : ExcName → Option Value} {mg mb : Str → Option Value} {A : Around} {s : Shared} {h₀ : Heap} {L : Addr} {m : Str → Option Value} {nw : List (Addr × Obj)} {l : Addr} {vs : List Value} {n : Nat} {ks : List Int} {x : Str} {u : Tok} {Q E : Value → Shared → Prop}
    (B : Below A h₀ [] h₀) (F : Fr h₀ L s.heap m) (N : News h₀ L s.heap nw) (hm : (l, listOf vs.toArray n) ∈ nw) (X : (Mine.hd.heap_39 w.params).In h₀) (T : Top p loose mean mg mb h₀) (hsk : scope.kind = .function) (hd : A.depth + 4 < recursionLimit) (hA : (A.deeper (envOfC name scope L a cd)).handled = none) (hu : (A.deeper (envOfC name scope L a cd)).units + 200 < cLine) (hk : KeysAre vs ks) (hn : vs.length < 1000) (hne : 0 < vs.length)
    (hx : x.length ≤ 640) (hr : offVal x = some none)
    (ret : ∀ t h' tk', Fr h₀ L h' m → News h₀ L h' nw → Q (.str (Str.ofString "refused") t) { s with heap := h', toks := tk' }) :
    wpAny (model Challenge.rw_nb0139_01.row.prog w) (A.deeper (envOfC name scope L a cd)) (call (.ref 108) [.ref l, .str x u, .bool true]) Q E s :=
  putL_refused (Below.pushC B F hsk) X T (dicts_one F.ns) hA hu ⟨_, N.get hm, rfl, _, rfl⟩ hk hn hne (by show A.depth + 1 + 3 < recursionLimit; omega) hx hr fun t h' tk' g' tn k => ret t h' tk' (turn_fr F tn k) (turn_news N tn k)
end Mine

end
section
theorem Mine.fresh_Inv1 : True := by
  w_top off
  k_with_none
  exact trivial
open PySem PySem.W PyProof.Rows PySem.Calls
set_option maxRecDepth 100000
set_option maxHeartbeats 8000000
namespace Mine
def KnownAre (vk : List Value) (ks : List Ent) (rest : List (Addr × Obj)) : Prop :=
  vk.length = ks.length ∧ ∀ (j : Nat) (v : Value) (e : Ent), vk[j]? = some v → ks[j]? = some e → ∃ a t1 t2 t3 t4, v = Value.ref a ∧ (a, tupObj #[.int e.sec t1, .int e.ord t2, .str e.x t3, .str e.y t4]) ∈ rest
structure EntsOk (i : Nat) (es ks : List Ent) : Prop where
  ok : ∀ e ∈ es, EntOk e
  srt : es.Pairwise Before
  ord : ∀ e ∈ es, -(i : Int) ≤ e.ord ∧ e.ord ≤ i
  perm : ks.Perm es
  len : es.length ≤ i + 1
  pos : 0 < es.length
def LawJ (sc : Value) (lk lm lr D aO aM aR : Addr) (cO oM oR : Obj) (zs : List Value) (i : Nat) (m : Str → Option Value) (nx : List (Addr × Obj)) : Prop :=
  ∃ (vk vm vr : List Value) (nk nm nr : Nat) (rest : List (Addr × Obj)) (es ks : List Ent),
    nx = (lk, listOf vk.toArray nk) :: (lm, listOf vm.toArray nm) :: (lr, listOf vr.toArray nr) :: (D, LCg.lst zs) :: (aO, cO) :: (aM, oM) :: (aR, oR) :: rest ∧
    m (Str.ofString "zones") = some (.ref D) ∧ m (Str.ofString "known") = some (.ref lk) ∧ m (Str.ofString "script") = some sc ∧
    (∀ p ∈ rest, ∃ vs, p.2 = tupObj vs) ∧ ZonesAre zs rest ∧ KnownAre vk ks rest ∧ TextsAre vr (es.map Ent.x) ∧ TextsAre vm (es.reverse.map Ent.y) ∧ EntsOk i es ks
theorem KnownAre.snoc {vk : List Value} {ks : List Ent} {rest : List (Addr × Obj)} (h : KnownAre vk ks rest) {a : Addr} {e : Ent} {t1 t2 t3 t4 : Tok} : KnownAre (vk ++ [Value.ref a]) (ks ++ [e]) ((a, tupObj #[.int e.sec t1, .int e.ord t2, .str e.x t3, .str e.y t4]) :: rest) := by
  have hl := h.1
  refine ⟨by rw [List.length_append, List.length_append, hl]; rfl, fun j v e' hv he => ?_⟩
  by_cases q : j < vk.length
  · rw [List.getElem?_append_left (by omega)] at hv he
    obtain ⟨b, u1, u2, u3, u4, e0, hm⟩ := h.2 j v e' hv he
    exact ⟨b, u1, u2, u3, u4, e0, .tail _ hm⟩
  · rw [List.getElem?_append_right (by omega)] at hv he
    rw [hl] at hv
    cases hd : j - ks.length with
    | zero => rw [hd] at hv he; cases hv; cases he; exact ⟨a, t1, t2, t3, t4, rfl, .head _⟩
    | succ k => rw [hd] at hv; simp at hv
theorem ZonesAre.more {zs : List Value} {nw : List (Addr × Obj)} (h : ZonesAre zs nw) (q : Addr × Obj) : ZonesAre zs (q :: nw) := fun i v hv => by
  obtain ⟨z, r, sv, a, b, e, ok, hm⟩ := h i v hv
  exact ⟨z, r, sv, a, b, e, ok, .tail _ hm⟩
theorem EntsOk.same {i : Nat} {es ks : List Ent} (h : EntsOk i es ks) : EntsOk (i + 1) es ks :=
  ⟨h.ok, h.srt, fun e he => by have := h.ord e he; omega, h.perm, by have := h.len; omega, h.pos⟩
theorem EntsOk.putR {i : Nat} {es ks : List Ent} (h : EntsOk i es ks) {e : Ent} (ok : EntOk e) (ho : e.ord = (i : Int) + 1) : EntsOk (i + 1) (entAt es (cntR es e.sec) e) (ks ++ [e]) :=
  ⟨fun a ha => by rcases ent_mem ha with rfl | ha; exact ok; exact h.ok a ha, insR_sorted h.srt (fun a ha => by have := h.ord a ha; omega),
   fun a ha => by rcases ent_mem ha with rfl | ha
                  · omega
                  · have := h.ord a ha; omega, ins_perm h.perm, by rw [ent_len]; have := h.len; omega, by rw [ent_len]; omega⟩
theorem EntsOk.putL {i : Nat} {es ks : List Ent} (h : EntsOk i es ks) {e : Ent} (ok : EntOk e) (ho : e.ord = -(i : Int) - 1) : EntsOk (i + 1) (entAt es (cntL es e.sec) e) (ks ++ [e]) :=
  ⟨fun a ha => by rcases ent_mem ha with rfl | ha; exact ok; exact h.ok a ha, insL_sorted h.srt (fun a ha => by have := h.ord a ha; omega),
   fun a ha => by rcases ent_mem ha with rfl | ha
                  · omega
                  · have := h.ord a ha; omega, ins_perm h.perm, by rw [ent_len]; have := h.len; omega, by rw [ent_len]; omega⟩
def zEnt : Ent := ⟨0, 0, Str.ofString "Z", Str.ofString "Z"⟩
theorem law_ledger {h₀ h : Heap} {L : Addr} {a b c d e f g k : Addr × Obj} {zn : List (Addr × Obj)} (N : News h₀ L h (a :: b :: c :: d :: e :: f :: g :: k :: zn)) : News h₀ L h (a :: c :: d :: e :: f :: g :: k :: b :: zn) := by
  intro p hp
  refine N p ?_
  simp only [List.mem_cons] at hp ⊢
  rcases hp with h | h | h | h | h | h | h | h | h <;> simp [h]
theorem item_led {prog : Program} {w : World} {A : Around} {E : Value → Shared → Prop} {s : Shared} {h₀ : Heap} {L l : Addr} {nw : List (Addr × Obj)} {vs : List Value} {n : Nat} {k : Int} {u : Tok} {v : Value} {value slice : PySem.Expr} {Q : Value → Shared → Prop} (N : News h₀ L s.heap nw) (hm : (l, listOf vs.toArray n) ∈ nw) (hn : vs.length < 1000)
    (h0 : 0 ≤ k) (hv : vs[k.toNat]? = some v) (h : Q v s)
    (hs : subscripted slice false (.ref l) (.int k u) = operate [.ref l, .int k u] (getItem (.ref l) (.int k u)) := by with_unfolding_all rfl) :
    wpAny (model prog w) A (subscriptTail value slice (.ref l) (.int k u)) Q E s := by
  have hl' : s.heap.IsList l vs.toArray := ⟨_, N.get hm, rfl, _, rfl⟩
  have : k.toNat < vs.length := by
    rcases Nat.lt_or_ge k.toNat vs.length with q | q
    · exact q
    · rw [List.getElem?_eq_none q] at hv; cases hv
  exact tail_any hl'.typeIs slot_list_getitem.lookup (wpAny_getItem_list hl' h0 (by have : (2 : Int) ^ 63 = 9223372036854775808 := by decide
                                                                                    omega) (by simpa using hv) h) hs
theorem z_ok : EntOk zEnt := by
  have h : offLook (Str.ofString "Z") = some (some 0) := by decide
  have h1 := offLook_ok h
  exact ⟨Nat.le_trans h1.2 (by decide), h1.1, Nat.le_trans h1.2 (by decide), h1.1⟩
theorem z_ents : EntsOk 0 [zEnt] [zEnt] :=
  ⟨fun e he => by rw [List.mem_singleton.mp he]; exact z_ok, List.pairwise_singleton _ _, fun e he => by rw [List.mem_singleton.mp he]; decide, .refl _, by decide, by decide⟩
theorem z_texts {t : Tok} : TextsAre [Value.str (Str.ofString "Z") t] [Str.ofString "Z"] := ⟨rfl, fun i v x hv hx => by
  cases i with
  | zero => cases hv; cases hx; exact ⟨t, rfl⟩
  | succ i => simp at hv⟩
theorem z_known {a : Addr} {t1 t2 t3 t4 : Tok} {zn : List (Addr × Obj)} : KnownAre [Value.ref a] [zEnt] ((a, tupObj #[.int 0 t1, .int 0 t2, .str (Str.ofString "Z") t3, .str (Str.ofString "Z") t4]) :: zn) := ⟨rfl, fun i v x hv hx => by
  cases i with
  | zero => cases hv; cases hx; exact ⟨a, t1, t2, t3, t4, rfl, .head _⟩
  | succ i => simp at hv⟩
theorem law_units {name : Str} {scope : Scope} {L a : Addr} {cd : Value} : (callerA.deeper (envOfC name scope L a cd)).units + 200 < cLine := by
  rw [units_deeper]
  decide
theorem flag_put {w : World} {A : Around} {s : Shared} {l : Addr} {x : Str} {u : Tok} {b b' : Bool} {Q E : Value → Shared → Prop} (hb : b = b') (h : wpAny (model Challenge.rw_nb0139_01.row.prog w) A (call (.ref 108) [.ref l, .str x u, .bool b']) Q E s) :
    wpAny (model Challenge.rw_nb0139_01.row.prog w) A (call (.ref 108) [.ref l, .str x u, .bool b]) Q E s := hb ▸ h
theorem parity (i : Nat) : (((i : Int).fmod 2 == 1) = false ∧ ((i : Int).fmod 2 == 0) = true) ∨ (((i : Int).fmod 2 == 1) = true ∧ ((i : Int).fmod 2 == 0) = false) := by
  rw [Int.fmod_eq_emod_of_nonneg _ (by decide)]
  rcases (show (i : Int) % 2 = 0 ∨ (i : Int) % 2 = 1 by omega) with h | h <;> rw [h] <;> decide
theorem mirL_cnt {es : List Ent} (hs : es.Pairwise Before) (k : Int) (i : Nat) (j : Int) (h : ((es.map Ent.sec).reverse.map fun k => -k)[i]? = some j) : j < -k ↔ i < es.length - cntR es k := by
  have := cnt_rev_lt (secs_sorted hs) k i j h
  rw [List.length_map] at this
  exact this
theorem mirR_cnt {es : List Ent} (hs : es.Pairwise Before) (k : Int) (i : Nat) (j : Int) (h : ((es.map Ent.sec).reverse.map fun k => -k)[i]? = some j) : j ≤ -k ↔ i < es.length - cntL es k := by
  have := cnt_rev_le (secs_sorted hs) k i j h
  rw [List.length_map] at this
  exact this
theorem mir_len {es : List Ent} {c : Nat} : es.length - c ≤ ((es.map Ent.sec).reverse.map fun k => -k).length := by
  rw [List.length_map, List.length_reverse, List.length_map]; omega
theorem row_lenR {es : List Ent} {k : Int} : cntR es k ≤ (es.map Ent.sec).length := by rw [List.length_map]; exact cntR_le
theorem row_lenL {es : List Ent} {k : Int} : cntL es k ≤ (es.map Ent.sec).length := by rw [List.length_map]; exact cntL_le
theorem m_law {m₁ : Str → Option Value} {a b c : Value} (h1 : m₁ (Str.ofString "zones") = some a) (h2 : m₁ (Str.ofString "known") = some b) (h3 : m₁ (Str.ofString "script") = some c) :
    m₁ = fun y => if y = Str.ofString "zones" then some a else if y = Str.ofString "known" then some b else if y = Str.ofString "script" then some c else m₁ y := by
  funext y
  by_cases q1 : y = Str.ofString "zones"
  · rw [if_pos q1, q1, h1]
  · rw [if_neg q1]
    by_cases q2 : y = Str.ofString "known"
    · rw [if_pos q2, q2, h2]
    · rw [if_neg q2]
      by_cases q3 : y = Str.ofString "script"
      · rw [if_pos q3, q3, h3]
      · rw [if_neg q3]
theorem law_start {sc : Value} {lk lm lr D aO aM aR DK : Addr} {cO oM oR : Obj} {zs : List Value} {m : Str → Option Value} {zn : List (Addr × Obj)} {t1 t2 t3 t4 u1 u2 : Tok} {n1 n2 n3 : Nat}
    (m1 : m (Str.ofString "zones") = some (.ref D)) (m2 : m (Str.ofString "known") = some (.ref lk)) (m3 : m (Str.ofString "script") = some sc) (hzt : ∀ p ∈ zn, ∃ vs, p.2 = tupObj vs) (hz : ZonesAre zs zn) :
    LawJ sc lk lm lr D aO aM aR cO oM oR zs 0 m ((lk, listOf [Value.ref DK].toArray n1) :: (lm, listOf [Value.str (Str.ofString "Z") u1].toArray n2) :: (lr, listOf [Value.str (Str.ofString "Z") u2].toArray n3) :: (D, LCg.lst zs) :: (aO, cO) :: (aM, oM) :: (aR, oR) ::
      (DK, tupObj #[.int 0 t1, .int 0 t2, .str (Str.ofString "Z") t3, .str (Str.ofString "Z") t4]) :: zn) :=
  ⟨_, _, _, _, _, _, _, [zEnt], [zEnt], rfl, m1, m2, m3, fun p hp => by
    rcases List.mem_cons.mp hp with rfl | hp
    · exact ⟨_, rfl⟩
    · exact hzt p hp, hz.more _, z_known, z_texts, z_texts, z_ents⟩
theorem len_range_small {n : Nat} (hn : n < 1000) : Builtin.Range.small 0 (n : Int) 1 = true := by
  have : (2 : Int) ^ 62 = 4611686018427387904 := by decide
  exact small_one (by omega) (by omega) (by omega) (by omega)
theorem len_range_size {n : Nat} : Builtin.Range.rangeSize 0 (n : Int) 1 = (n : Int) := by
  rw [rangeSize_pos (by decide) (by omega)]; omega
theorem allLt_mem {d : Nat} : ∀ {l : List (Addr × Obj)}, AllLt d l → ∀ p ∈ l, @LT.lt Nat _ p.1 d
  | [], _, _, h => nomatch h
  | _ :: _, x, p, h => by
    rcases List.mem_cons.mp h with rfl | h
    · exact x.1
    · exact allLt_mem x.2 p h
theorem grow_put {h₀ : Heap} {L I : Addr} {own : List (Addr × Obj)} {s₁ : Shared} {Q : Flow → Shared → Prop} {h' : Heap} {tk' : Nat} {m' : Str → Option Value} {sc : Value} {lk lm lr D aO aM aR DN : Addr} {cO oM oR o1 o2 o3 o4 o5 o6 o7 : Obj} {zs vk vm' vr' : List Value} {i nk' nm' nr' : Nat} {rest : List (Addr × Obj)} {e : Ent} {t1 t2 t3 t4 : Tok} {es' ks : List Ent}
    (F' : Fr h₀ L h' m') (N' : News h₀ L h' ((DN, tupObj #[.int e.sec t1, .int e.ord t2, .str e.x t3, .str e.y t4]) :: (lk, listOf (vk.toArray.push (.ref DN)) nk') :: (lm, listOf vm'.toArray nm') :: (lr, listOf vr'.toArray nr') :: (D, LCg.lst zs) :: (aO, cO) :: (aM, oM) :: (aR, oR) :: (rest ++ own)))
    (hoff : ∀ p ∈ (lk, o1) :: (lm, o2) :: (lr, o3) :: (D, o4) :: (aO, o5) :: (aM, o6) :: (aR, o7) :: rest, p.1 ≠ I) (hI : ∃ o, (I, o) ∈ own) (hlt : AllLt DN (rest ++ own))
    (m1 : m' (Str.ofString "zones") = some (.ref D)) (m2 : m' (Str.ofString "known") = some (.ref lk)) (m3 : m' (Str.ofString "script") = some sc)
    (hrt : ∀ p ∈ rest, ∃ vs, p.2 = tupObj vs) (hz : ZonesAre zs rest) (hkn : KnownAre vk ks rest) (htr' : TextsAre vr' (es'.map Ent.x)) (htm' : TextsAre vm' (es'.reverse.map Ent.y)) (hes' : EntsOk (i + 1) es' (ks ++ [e])) :
    GrowPost h₀ L I (LawJ sc lk lm lr D aO aM aR cO oM oR zs (i + 1)) own s₁ Q .next { s₁ with heap := h', toks := tk' } := by
  have hpush : vk.toArray.push (Value.ref DN) = (vk ++ [Value.ref DN]).toArray := by rw [List.push_toArray]
  rw [hpush] at N'
  refine ⟨h', tk', m', (lk, listOf (vk ++ [Value.ref DN]).toArray nk') :: (lm, listOf vm'.toArray nm') :: (lr, listOf vr'.toArray nr') :: (D, LCg.lst zs) :: (aO, cO) :: (aM, oM) :: (aR, oR) :: (DN, tupObj #[.int e.sec t1, .int e.ord t2, .str e.x t3, .str e.y t4]) :: rest, rfl, F', ?_, ?_,
    vk ++ [Value.ref DN], vm', vr', nk', nm', nr', _, es', ks ++ [e], rfl, m1, m2, m3, ?_, hz.more _, hkn.snoc, htr', htm', hes'⟩
  · intro p hp
    refine N' p ?_
    simp only [List.cons_append, List.mem_cons] at hp ⊢
    rcases hp with h | h | h | h | h | h | h | h | h <;> simp [h]
  · intro p hp
    simp only [List.mem_cons] at hp
    have hDI : DN ≠ I := by
      obtain ⟨o, ho⟩ := hI
      have := allLt_mem hlt _ (List.mem_append_right rest ho)
      exact Nat.ne_of_gt this
    rcases hp with rfl | rfl | rfl | rfl | rfl | rfl | rfl | rfl | hp
    · exact hoff (_, o1) (.head _)
    · exact hoff (_, o2) (.tail _ (.head _))
    · exact hoff (_, o3) (.tail _ (.tail _ (.head _)))
    · exact hoff (_, o4) (.tail _ (.tail _ (.tail _ (.head _))))
    · exact hoff (_, o5) (.tail _ (.tail _ (.tail _ (.tail _ (.head _)))))
    · exact hoff (_, o6) (.tail _ (.tail _ (.tail _ (.tail _ (.tail _ (.head _))))))
    · exact hoff (_, o7) (.tail _ (.tail _ (.tail _ (.tail _ (.tail _ (.tail _ (.head _)))))))
    · exact hDI
    · exact hoff p (.tail _ (.tail _ (.tail _ (.tail _ (.tail _ (.tail _ (.tail _ hp)))))))
  · intro p hp
    rcases List.mem_cons.mp hp with rfl | hp
    · exact ⟨_, rfl⟩
    · exact hrt p hp
end Mine

end
section
theorem Mine.fresh_Srt0 : True := by
  w_top off
  k_with_none
  exact trivial
open PySem PySem.W PyProof.Rows PySem.Calls
set_option maxRecDepth 100000
set_option maxHeartbeats 8000000
namespace Mine
section
variable {prog : Program} {w : World} {A : Around} {E : Value → Shared → Prop} {s : Shared} {h₀ : Heap} {L a : Addr} {m : Str → Option Value} {news : List (Addr × Obj)} {v : Value}
theorem sort_one {n : Nat} {P : PySem.Fin → Shared → Prop} (F : Fr h₀ L s.heap m) (N : News h₀ L s.heap news) (ho : s.heap.get? a = some (seqObj "list" #[v] n)) (haL : a ≠ L) (ha0 : h₀.get? a = none) (hna : ∀ p ∈ news, p.1 ≠ a)
    (h : ∀ c h', Fr h₀ L h' m → News h₀ L h' ((a, seqObj "list" #[v] c) :: news) → P (.done (.ret .none)) { s with heap := h' }) :
    wpAny (model prog w) A (Builtin.«list.sort» ⟨[.ref a], []⟩) P E s := by
  have s1 := Heap.SameBut.update s.heap a (Obj.mapSeq fun _ => (#[] : Array Value))
  obtain ⟨e1, ho1⟩ : ∃ e1, (s.heap.update a (Obj.mapSeq fun _ => (#[] : Array Value))).get? a = some (seqObj "list" #[] e1) := ⟨_, get?_update_seq ho fun _ => #[]⟩
  have F3 : Fr h₀ L (((s.heap.update a (Obj.mapSeq fun _ => (#[] : Array Value))).push (seqObj "tuple" #[v] 0)).push (seqObj "list" #[] 0)) m := ((kas_fr F s1 haL ha0).push _).push _
  have N2 : News h₀ L (((s.heap.update a (Obj.mapSeq fun _ => (#[] : Array Value))).push (seqObj "tuple" #[v] 0)).push (seqObj "list" #[] 0)) news :=
    (kas_news N s1 hna).grown fun b x e => Heap.get?_push_of_some _ (Heap.get?_push_of_some _ e)
  have ho3 : (((s.heap.update a (Obj.mapSeq fun _ => (#[] : Array Value))).push (seqObj "tuple" #[v] 0)).push (seqObj "list" #[] 0)).get? a = some (seqObj "list" #[] e1) := Heap.get?_push_of_some _ (Heap.get?_push_of_some _ ho1)
  rw [list_sort_plain]
  refine wpAny_bind (listItems_at ho rfl ?_)
  refine wpAny_bind (listUpdate_at ho rfl ?_ (by rw [sizeLine_eq]; show (1 : Nat) ≤ 16777216; decide) (Nat.zero_le _))
  refine wpAny_bind (seqEpoch_at ho1 rfl ?_)
  refine wpAny_bind (wpAny_newTuple ?_ (by rw [sizeLine_eq]; show (1 : Nat) ≤ 16777216; decide))
  refine wpAny_bind (wpAny_newList ?_ (Nat.zero_le _))
  refine wpAny_holding ?_
  show wpAny (model prog w) A _ P E { s with heap := ((s.heap.update a (Obj.mapSeq fun _ => (#[] : Array Value))).push (seqObj "tuple" #[v] 0)).push (seqObj "list" #[] 0) }
  dsimp only
  have hn2 : (#[v] : Array Value).size < 2 := by show (1 : Nat) < 2; decide
  rw [if_pos hn2, if_pos hn2]
  refine wpAny_bind (wpAny_pure ?_)
  refine wpAny_bind (wpAny_pure ?_)
  dsimp only
  have hout : Array.map (fun x => x.snd) (arrOf (SortSt.mk' general' ((#[v] : Array Value).zip #[v]) #[] 7 none)) = #[v] := by
    show Array.map (fun x => x.snd) ((#[v] : Array Value).zip #[v]) = #[v]
    simp
  rw [hout]
  have s2 := Heap.SameBut.update (((s.heap.update a (Obj.mapSeq fun _ => (#[] : Array Value))).push (seqObj "tuple" #[v] 0)).push (seqObj "list" #[] 0)) a (Obj.mapSeq fun _ => #[v])
  obtain ⟨c2, hc2⟩ : ∃ c2, ((((s.heap.update a (Obj.mapSeq fun _ => (#[] : Array Value))).push (seqObj "tuple" #[v] 0)).push (seqObj "list" #[] 0)).update a (Obj.mapSeq fun _ => #[v])).get? a = some (seqObj "list" #[v] c2) := ⟨_, get?_update_seq ho3 fun _ => #[v]⟩
  refine wpAny_bind (seqEpoch_at ho3 rfl ?_)
  refine wpAny_bind (listUpdate_at ho3 rfl ?_ (Nat.zero_le _) (by rw [sizeLine_eq]; show (1 : Nat) ≤ 16777216 + 1; decide))
  simp only [bne_self_eq_false, Bool.false_eq_true, if_false]
  refine wpAny_pure (h c2 _ (kas_fr F3 s2 haL ha0) ?_)
  intro p hp
  rcases List.mem_cons.mp hp with rfl | hp
  · exact ⟨hc2, haL, ha0⟩
  · exact kas_news N2 s2 hna p hp
theorem sorted_one {l : Addr} {Q : Value → Shared → Prop} (F : Fr h₀ L s.heap m) (N : News h₀ L s.heap news) (hl : s.heap.IsList l #[v])
    (h : ∀ D c h', Fr h₀ L h' m → News h₀ L h' ((D, seqObj "list" #[v] c) :: news) → (∀ q ∈ news, q.1 < D) → Q (.ref D) { s with heap := h' }) :
    wpAny (model prog w) A (call (.builtin "sorted") [.ref l]) Q E s := by
  refine Calls.call_function_entry kind_sorted plain_sorted entry_sorted (args_sorted1 _) ?_
  unfold Builtin.«sorted»
  refine wpAny_bind (m := checkCount "sorted" 1 1 _) (wpAny_pure ?_)
  refine wpAny_bind (collect_list (vs := [v]) hl ?_ (by rw [sizeLine_eq]; show (1 : Nat) ≤ 16777216; decide))
  refine wpAny_bind (wpAny_newList ?_ (by rw [sizeLine_eq]; show (1 : Nat) ≤ 16777216; decide))
  have hsz : ((s.heap.push (seqObj "list" #[] 0)).update s.heap.objs.size (Obj.mapSeq (· ++ [v].toArray))).objs.size = s.heap.objs.size + 1 := by
    rw [Heap.size_update, size_push']
  have hoL : (((s.heap.push (seqObj "list" #[] 0)).update s.heap.objs.size (Obj.mapSeq (· ++ [v].toArray))).push (seqObj "list" [v].toArray 0)).get? (s.heap.objs.size + 1) = some (seqObj "list" [v].toArray 0) := by
    rw [← hsz]; exact Heap.get?_push_size _ rfl
  have keep : ∀ b o, s.heap.get? b = some o → (((s.heap.push (seqObj "list" #[] 0)).update s.heap.objs.size (Obj.mapSeq (· ++ [v].toArray))).push (seqObj "list" [v].toArray 0)).get? b = some o := fun b o q => by
    have hlt : b < s.heap.objs.size := Heap.lt_size q
    rw [Heap.get?_push_ne _ _ _ (by rw [hsz]; exact Nat.ne_of_lt (Nat.lt_succ_of_lt hlt)), Heap.get?_update_ne _ _ _ _ (Nat.ne_of_lt hlt), Heap.get?_push_ne _ _ _ (Nat.ne_of_lt hlt)]
    exact q
  have hL : L < s.heap.objs.size := F.ns.lt
  show wpAny _ _ _ _ _ { s with heap := ((s.heap.push (seqObj "list" #[] 0)).update s.heap.objs.size (Obj.mapSeq (· ++ [v].toArray))).push (seqObj "list" [v].toArray 0) }
  rw [hsz]
  refine wpAny_bind (wpAny_holding (wpAny_call_entry slot_list_sort ⟨_, hoL, rfl⟩ entry_list_sort ?body (args_list_sort _)))
  case body =>
    refine sort_one (s := { s with heap := ((s.heap.push (seqObj "list" #[] 0)).update s.heap.objs.size (Obj.mapSeq (· ++ [v].toArray))).push (seqObj "list" [v].toArray 0) })
      (PyProof.Rows.Fr.kept F keep) (N.grown keep) hoL (Nat.ne_of_gt (Nat.lt_succ_of_lt hL)) (Heap.get?_none_of_le (Nat.le_trans F.above (Nat.le_succ_of_le (Nat.le_of_lt hL))))
      (fun p hp => Nat.ne_of_lt (Nat.lt_succ_of_lt (Heap.lt_size (N p hp).1))) fun c h' F' N' => ?_
    exact ⟨_, rfl, wpAny_pure ⟨_, rfl, h _ c h' F' N' fun q hq => Nat.lt_succ_of_lt (Heap.lt_size (N q hq).1)⟩⟩
end
end Mine

end
section
theorem Mine.fresh_Srt1 : True := by
  w_top off
  k_with_none
  exact trivial
open PySem PySem.W PyProof.Rows PySem.Calls
set_option maxRecDepth 100000
set_option maxHeartbeats 8000000
namespace Mine
def rank (e : Ent) : Int := e.sec * 1000 + e.ord
theorem rank_lt {n : Nat} {a b : Ent} (hn : n < 400) (ha : -(n : Int) ≤ a.ord ∧ a.ord ≤ n) (hb : -(n : Int) ≤ b.ord ∧ b.ord ≤ n) : rank a < rank b ↔ Before a b := by
  unfold rank Before; omega
section
variable {prog : Program} {w : World} {A : Around} {E : Value → Shared → Prop} {s : Shared}
theorem tups_lt {x y : Addr} {a b : Ent} {n : Nat} {t1 t2 t3 t4 u1 u2 u3 u4 : Tok} {Q : Bool → Shared → Prop} (hn : n < 400) (ha : -(n : Int) ≤ a.ord ∧ a.ord ≤ n) (hb : -(n : Int) ≤ b.ord ∧ b.ord ≤ n) (hne : rank a ≠ rank b)
    (hx : s.heap.get? x = some (tupObj #[.int a.sec t1, .int a.ord t2, .str a.x t3, .str a.y t4])) (hy : s.heap.get? y = some (tupObj #[.int b.sec u1, .int b.ord u2, .str b.x u3, .str b.y u4]))
    (h : Q (decide (rank a < rank b)) s) : wpAny (model prog w) A (keyLt' (tuples' true) (.ref x) (.ref y)) Q E s := by
  refine kat_lt hx rfl hy rfl ?_
  refine kat_cons (wpAny_eqBool_int (kat_go (fun e1 => kat_yes ?_) (fun e1 => kat_no ?_)))
  · rw [beq_iff_eq] at e1
    have e2 : (a.ord == b.ord) = false := by
      rw [beq_eq_false_iff_ne]
      intro q
      exact hne (by unfold rank; rw [e1, q])
    refine kat_cons (wpAny_eqBool_int (kat_go (fun e3 => by rw [e2] at e3; cases e3) (fun _ => kat_no ?_)))
    refine kat_one _ _ (lt_int ?_)
    show Q (decide (a.ord < b.ord)) s
    have : decide (a.ord < b.ord) = decide (rank a < rank b) := by
      rw [decide_eq_decide]; unfold rank; omega
    rw [this]; exact h
  · have e2 : a.sec ≠ b.sec := by simpa using e1
    refine oneLt_int ?_
    have : decide (a.sec < b.sec) = decide (rank a < rank b) := by
      rw [decide_eq_decide]; unfold rank; omega
    rw [this]; exact h
end
end Mine

end
section
theorem Mine.fresh_Srt2 : True := by
  w_top off
  k_with_none
  exact trivial
open PySem PySem.W PyProof.Rows PySem.Calls
set_option maxRecDepth 100000
set_option maxHeartbeats 8000000
namespace Mine
theorem map_range_getD {α : Type} (l : List α) (d : α) : (List.range l.length).map (fun i => l.getD i d) = l := by
  apply List.ext_getElem
  · simp
  · intro i h1 h2
    simp [h2]
theorem rank_at {ks : List Ent} {i : Nat} (h : i < ks.length) : ks.getD i zEnt ∈ ks := by
  have : ks.getD i zEnt = ks[i] := by simp [h]
  rw [this]; exact List.getElem_mem h
theorem rank_inj {n : Nat} {es ks : List Ent} (hes : EntsOk n es ks) (hn : n < 400) (i j : Nat) (hi : i < ks.length) (hj : j < ks.length) (h : rank (ks.getD i zEnt) = rank (ks.getD j zEnt)) : i = j := by
  have nd : (es.map rank).Nodup := by
    rw [List.nodup_iff_pairwise_ne, List.pairwise_map]
    have : ∀ a ∈ es, ∀ b ∈ es, Before a b → rank a ≠ rank b := fun a ha b hb q => by
      have := (rank_lt hn (hes.ord a ha) (hes.ord b hb)).mpr q
      omega
    exact List.Pairwise.imp_of_mem (fun {a b} ha hb q => this a ha b hb q) hes.srt
  have nd2 : (ks.map rank).Nodup := (hes.perm.map rank).nodup_iff.mpr nd
  have e1 : ks.getD i zEnt = ks[i] := by simp [hi]
  have e2 : ks.getD j zEnt = ks[j] := by simp [hj]
  rw [e1, e2] at h
  have pw := List.pairwise_iff_getElem.mp nd2
  rcases Nat.lt_trichotomy i j with q | q | q
  · exact absurd (by rw [List.getElem_map, List.getElem_map]; exact h) (pw i j (by simpa using hi) (by simpa using hj) q)
  · exact q
  · exact absurd (by rw [List.getElem_map, List.getElem_map]; exact h.symm) (pw j i (by simpa using hj) (by simpa using hi) q)
/-- the entries in the sorter's order are the entries in their order -/
theorem ents_sorted {n : Nat} {es ks : List Ent} (hes : EntsOk n es ks) (hn : n < 400) {p : Array Nat} (hp : Ok ks.length p) (hi : Inc (fun i => rank (ks.getD i zEnt)) p ks.length) : p.toList.map (fun i => ks.getD i zEnt) = es := by
  have hperm : (p.toList.map (fun i => ks.getD i zEnt)).Perm es := by
    have h1 := hp.perm.map (fun i => ks.getD i zEnt)
    rw [map_range_getD] at h1
    exact h1.trans hes.perm
  refine List.Perm.eq_of_pairwise (le := Before) ?_ ?_ hes.srt hperm
  · intro a b _ _ h1 h2
    exfalso; unfold Before at h1 h2; omega
  · rw [List.pairwise_iff_getElem]
    intro i j h1 h2 hij
    have hl : (p.toList.map (fun i => ks.getD i zEnt)).length = ks.length := by rw [List.length_map, Array.length_toList, hp.size]
    have q := hi i j hij (by omega)
    have e1 : p.getD i 0 = p.toList[i]'(by simpa using h1) := by
      have : i < p.size := by rw [hp.size]; omega
      simp [Array.getD, this]
    have e2 : p.getD j 0 = p.toList[j]'(by simpa using h2) := by
      have : j < p.size := by rw [hp.size]; omega
      simp [Array.getD, this]
    unfold At at q
    rw [e1, e2] at q
    rw [List.getElem_map, List.getElem_map]
    have m1 := hes.ord _ (hperm.mem_iff.mp (List.mem_map.mpr ⟨p.toList[i]'(by simpa using h1), List.getElem_mem _, rfl⟩))
    have m2 := hes.ord _ (hperm.mem_iff.mp (List.mem_map.mpr ⟨p.toList[j]'(by simpa using h2), List.getElem_mem _, rfl⟩))
    exact (rank_lt hn m1 m2).mp q
theorem known_order {vk : List Value} {ks : List Ent} {nw : List (Addr × Obj)} (h : KnownAre vk ks nw) {p : List Nat} (hp : ∀ i ∈ p, i < ks.length) : KnownAre (p.map fun i => vk.getD i Value.none) (p.map fun i => ks.getD i zEnt) nw := by
  refine ⟨by simp, fun j v e hv he => ?_⟩
  rw [List.getElem?_map] at hv he
  cases q : p[j]? with
  | none => rw [q] at hv; cases hv
  | some i =>
    rw [q] at hv he
    have hi := hp i (List.mem_of_getElem? q)
    have hi' : i < vk.length := by rw [h.1]; exact hi
    refine h.2 i v e ?_ ?_
    · cases hv; simp [hi']
    · cases he; simp [hi]
theorem tups_of_known {h : Heap} {nw : List (Addr × Obj)} (hg : ∀ p ∈ nw, h.get? p.1 = some p.2) : ∀ {vk : List Value} {ks : List Ent}, KnownAre vk ks nw → ∃ fs, KatTups h vk fs ∧ fs.length = ks.length ∧ ∀ v ∈ fs, ∃ n t, v = Value.int n t
  | [], [], _ => ⟨[], .nil, rfl, fun _ h => nomatch h⟩
  | [], _ :: _, h => by cases h.1
  | _ :: _, [], h => by cases h.1
  | v :: vk, e :: ks, h => by
    obtain ⟨fs, hf, hl, hi⟩ := tups_of_known hg (vk := vk) (ks := ks) ⟨by have := h.1; simpa using this, fun i v' k' h1 h2 => h.2 (i + 1) v' k' h1 h2⟩
    obtain ⟨a, t1, t2, t3, t4, rfl, hm⟩ := h.2 0 v e rfl rfl
    refine ⟨Value.int e.sec t1 :: fs, KatTups.cons (hg _ hm) rfl rfl rfl hf, by simp [hl], fun v hv => ?_⟩
    rcases List.mem_cons.mp hv with rfl | hv
    · exact ⟨_, _, rfl⟩
    · exact hi v hv
section
variable {prog : Program} {w : World} {A : Around} {E : Value → Shared → Prop} {s : Shared} {h₀ : Heap} {L l : Addr} {m : Str → Option Value} {nw : List (Addr × Obj)} {vk : List Value} {nk n : Nat} {es ks : List Ent}
theorem sorted_ents {Q : Value → Shared → Prop} (F : Fr h₀ L s.heap m) (N : News h₀ L s.heap nw) (hm : (l, listOf vk.toArray nk) ∈ nw) {rest : List (Addr × Obj)} (hsub : ∀ p ∈ rest, p ∈ nw) (hkn : KnownAre vk ks rest) (hes : EntsOk n es ks) (hn : n < 60)
    (ret : ∀ D c h' tk' vo, Fr h₀ L h' m → News h₀ L h' ((D, listOf vo.toArray c) :: nw) → (∀ q ∈ nw, q.1 < D) → KnownAre vo es rest → Q (.ref D) { s with heap := h', toks := tk' }) :
    wpAny (model prog w) A (call (.builtin "sorted") [.ref l]) Q E s := by
  have hkl : vk.length = es.length := by rw [hkn.1]; exact hes.perm.length_eq
  have hlen := hes.len
  have hpos := hes.pos
  have hl : s.heap.IsList l vk.toArray := ⟨_, N.get hm, rfl, _, rfl⟩
  by_cases h1 : vk.length = 1
  · obtain ⟨v, rfl⟩ : ∃ v, vk = [v] := List.length_eq_one_iff.mp h1
    have he : es = ks := by
      obtain ⟨a, rfl⟩ : ∃ v, es = [v] := List.length_eq_one_iff.mp (by omega)
      exact (List.perm_singleton.mp hes.perm).symm
    refine sorted_one F N hl fun D c h' F' N' hlt => ?_
    exact ret D c h' s.toks [v] F' N' hlt (he ▸ hkn)
  · refine kat_sorted F N hl (by omega) (by omega) fun D e1 h' F' N' hlt => ?_
    have hg : ∀ p ∈ rest, h'.get? p.1 = some p.2 := fun p hp => (N' p (.tail _ (hsub p hp))).1
    obtain ⟨fs, hf, hfl, hfi⟩ := tups_of_known hg hkn
    refine kat_kind (T := .type "int") hf (by rw [hfl, ← hkn.1]; omega) (fun v hv => ?_) rfl ?_
    · obtain ⟨a, t, rfl⟩ := hfi v hv
      kas_ty
    · have hn2 : 2 ≤ ks.length := by rw [← hkn.1]; omega
      have hord : ∀ e ∈ ks, -(n : Int) ≤ e.ord ∧ e.ord ≤ n := fun e he => hes.ord e (hes.perm.mem_iff.mp he)
      have hinj : ∀ i j, i < ks.length → j < ks.length → rank (ks.getD i zEnt) = rank (ks.getD j zEnt) → i = j := rank_inj hes (by omega)
      have hrun := sort_runs (r := fun i => rank (ks.getD i zEnt)) hinj hn2
      rw [show vk.length = ks.length from hkn.1]
      refine kasWp_of_runs (Inv := fun s' => ∃ g tk, s' = { s with heap := g, toks := tk } ∧ Fr h₀ L g m ∧ News h₀ L g ((D, seqObj "list" #[] e1) :: nw)) ?_ ?_ _ _ hrun ⟨h', s.toks, rfl, F', N'⟩
      · intro i j C s' hi hj hne ⟨g, tk, e, Fg, Ng⟩ hC
        obtain ⟨a, t1, t2, t3, t4, ea, ma⟩ := hkn.2 i (vk.getD i Value.none) (ks.getD i zEnt) (by have : i < vk.length := by rw [hkn.1]; exact hi
                                                                                                  simp [this]) (by simp [hi])
        obtain ⟨b, u1, u2, u3, u4, eb, mb⟩ := hkn.2 j (vk.getD j Value.none) (ks.getD j zEnt) (by have : j < vk.length := by rw [hkn.1]; exact hj
                                                                                                  simp [this]) (by simp [hj])
        show wpAny _ _ (keyLt' _ (vk.getD i Value.none) (vk.getD j Value.none)) C _ s'
        rw [ea, eb]
        subst e
        refine tups_lt (n := n) (by omega) (hord _ (rank_at hi)) (hord _ (rank_at hj)) (fun q => hne (hinj i j hi hj q)) (Ng _ (.tail _ (hsub _ ma))).1 (Ng _ (.tail _ (hsub _ mb))).1 (hC _ ⟨g, tk, rfl, Fg, Ng⟩)
      · rintro p s' ⟨hp, hi⟩ ⟨g, tk, rfl, Fg, Ng⟩
        have hlt2 : ∀ i ∈ p.toList, i < ks.length := fun i hi => List.mem_range.mp (hp.perm.mem_iff.mp hi)
        refine KasFin.intro Fg Ng (UpdF.head fun q hq => Nat.ne_of_lt (hlt q hq)) fun h2 c F2 N2 => ?_
        refine ret D c h2 tk _ F2 N2 hlt ?_
        have := known_order hkn hlt2
        rw [ents_sorted hes (by omega) hp hi] at this
        exact this
end
end Mine

end
section
theorem Mine.fresh_Tex1 : True := by
  w_top off
  k_with_none
  exact trivial
open PySem PySem.W PyProof.Rows PySem.Calls
set_option maxRecDepth 100000
set_option maxHeartbeats 8000000
namespace Mine
theorem TextsAre.snoc {vs : List Value} {xs : List Str} (h : TextsAre vs xs) (x : Str) (t : Tok) : TextsAre (vs ++ [Value.str x t]) (xs ++ [x]) := by
  have hl := h.1
  refine ⟨by simp [hl], fun j v e hv he => ?_⟩
  by_cases q : j < vs.length
  · rw [List.getElem?_append_left (by omega)] at hv he
    exact h.2 j v e hv he
  · rw [List.getElem?_append_right (by omega)] at hv he
    rw [hl] at hv
    cases hd : j - xs.length with
    | zero => rw [hd] at hv he; cases hv; cases he; exact ⟨t, rfl⟩
    | succ k => rw [hd] at hv; simp at hv
theorem texts_rest {prog : Program} {w : World} {A : Around} {h₀ : Heap} {L : Addr} {m : Str → Option Value} {env : Env} {elt : PySem.Expr} {x : Str} {scope : Scope} {cl : List (Str × Addr)} {s : Shared} {S' : List (Addr × Obj) → Prop} {P : Nat → Value → Prop} {Fin : List Value → List (Addr × Obj) → Prop} {news : List (Addr × Obj)} {n : Nat}
    (xs : List Str) (hxn : n = xs.length) (hS' : S' news)
    (elem : ∀ (i : Nat) (y : Str) (v : Value) (I : Addr) (oI : Obj) (C : Addr) (oC : Obj) (D : Addr) (ys : List Value) (m₂ : Str → Option Value) (h : Heap) (tk : Nat) (E' : Value → Shared → Prop), xs[i]? = some y → P i v → LCg.NsObj oC m₂ → m₂ x = some v → Fr h₀ L h m → News h₀ L h ((I, oI) :: (C, oC) :: (D, LCg.lst ys) :: news) →
      wpAny (model prog w) A (eval elt (compEnvC scope cl C env)) (fun r s' => (∃ t, r = Value.str y t) ∧ ∃ tk', s' = { s with heap := h, toks := tk' }) E' { s with heap := h, toks := tk })
    (fin : ∀ ys, TextsAre ys xs → Fin ys news) :
    LCg.CompRest prog w A h₀ L m env elt x scope cl s S' P Fin n 0 [] news := by
  have go : ∀ k i ys, i + k = xs.length → TextsAre ys (xs.take i) → LCg.CompRest prog w A h₀ L m env elt x scope cl s S' P Fin k i ys news := by
    intro k
    induction k with
    | zero =>
      intro i ys hi hy
      refine LCg.CompRest.zero (fin ys ?_)
      rwa [List.take_of_length_le (by omega)] at hy
    | succ k ih =>
      intro i ys hi hy
      refine LCg.CompRest.succ ?_
      intro v I oI C oC D m₂ h tk E' hv hC hx F N off ne
      have hlt : i < xs.length := by omega
      have hs : xs[i]? = some xs[i] := List.getElem?_eq_getElem hlt
      refine wpAny_mono (elem i xs[i] v I oI C oC D ys m₂ h tk E' hs hv hC hx F N) (fun r s' hr => ?_) fun _ _ e => e
      obtain ⟨⟨t, rfl⟩, tk', rfl⟩ := hr
      refine ⟨h, tk', news, rfl, F, N, off, hS', ih (i + 1) _ (by omega) ?_⟩
      have et : xs.take (i + 1) = xs.take i ++ [xs[i]] := by rw [List.take_add_one, hs]; rfl
      rw [et]
      exact hy.snoc _ _
  rw [hxn]
  exact go xs.length 0 [] (by omega) ⟨rfl, fun i v y hv _ => by simp at hv⟩
theorem trues_rest {prog : Program} {w : World} {A : Around} {h₀ : Heap} {L : Addr} {m : Str → Option Value} {env : Env} {elt : PySem.Expr} {x : Str} {scope : Scope} {cl : List (Str × Addr)} {s : Shared} {S' : List (Addr × Obj) → Prop} {P : Nat → Value → Prop} {Fin : List Value → List (Addr × Obj) → Prop} {news : List (Addr × Obj)} {n : Nat}
    (hS' : S' news)
    (elem : ∀ (i : Nat) (v : Value) (I : Addr) (oI : Obj) (C : Addr) (oC : Obj) (D : Addr) (ys : List Value) (m₂ : Str → Option Value) (h : Heap) (tk : Nat) (E' : Value → Shared → Prop), P i v → LCg.NsObj oC m₂ → m₂ x = some v → Fr h₀ L h m → News h₀ L h ((I, oI) :: (C, oC) :: (D, LCg.lst ys) :: news) →
      wpAny (model prog w) A (eval elt (compEnvC scope cl C env)) (fun r s' => r = Value.bool true ∧ ∃ h' tk', s' = { s with heap := h', toks := tk' } ∧ Kept h h') E' { s with heap := h, toks := tk })
    (fin : Fin (List.replicate n (Value.bool true)) news) :
    LCg.CompRest prog w A h₀ L m env elt x scope cl s S' P Fin n 0 [] news := by
  have go : ∀ k i, i + k = n → LCg.CompRest prog w A h₀ L m env elt x scope cl s S' P Fin k i (List.replicate i (Value.bool true)) news := by
    intro k
    induction k with
    | zero =>
      intro i hi
      refine LCg.CompRest.zero ?_
      rw [show i = n by omega]; exact fin
    | succ k ih =>
      intro i hi
      refine LCg.CompRest.succ ?_
      intro v I oI C oC D m₂ h tk E' hv hC hx F N off ne
      refine wpAny_mono (elem i v I oI C oC D _ m₂ h tk E' hv hC hx F N) (fun r s' hr => ?_) fun _ _ e => e
      obtain ⟨rfl, h', tk', rfl, hk⟩ := hr
      refine ⟨h', tk', news, rfl, Fr.kept F hk, News.kept N hk, off, hS', ?_⟩
      have := ih (i + 1) (by omega)
      rwa [List.replicate_succ'] at this
  exact go n 0 (by omega)
theorem item_neg {prog : Program} {w : World} {A : Around} {E : Value → Shared → Prop} {s : Shared} {h₀ : Heap} {L l : Addr} {nw : List (Addr × Obj)} {vs : List Value} {n : Nat} {k : Int} {u : Tok} {v : Value} {value slice : PySem.Expr} {Q : Value → Shared → Prop} (N : News h₀ L s.heap nw) (hm : (l, listOf vs.toArray n) ∈ nw) (hn : vs.length < 1000)
    (h0 : k < 0) (h1 : -(vs.length : Int) ≤ k) (hv : vs[((vs.length : Int) + k).toNat]? = some v) (h : Q v s)
    (hs : subscripted slice false (.ref l) (.int k u) = operate [.ref l, .int k u] (getItem (.ref l) (.int k u)) := by with_unfolding_all rfl) :
    wpAny (model prog w) A (subscriptTail value slice (.ref l) (.int k u)) Q E s := by
  have hl' : s.heap.IsList l vs.toArray := ⟨_, N.get hm, rfl, _, rfl⟩
  exact tail_any hl'.typeIs slot_list_getitem.lookup (wpAny_getItem_list_neg hl' h0 (by rw [List.size_toArray]; exact h1) (by have : (2 : Int) ^ 63 = 9223372036854775808 := by decide
                                                                                                                              omega) (by rw [List.size_toArray, Int.add_comm]; simpa using hv) h) hs
end Mine

end
section
theorem Mine.fresh_Fin1 : True := by
  w_top off
  k_with_none
  exact trivial
open PySem PySem.W PyProof.Rows PySem.Calls
set_option maxRecDepth 100000
set_option maxHeartbeats 8000000
namespace Mine
theorem known_secs {h : Heap} {vo : List Value} {es : List Ent} {rest : List (Addr × Obj)} (hk : KnownAre vo es rest) (hg : ∀ p ∈ rest, h.get? p.1 = some p.2) : SecsAre h vo (es.map Ent.sec) := by
  refine ⟨by rw [List.length_map]; exact hk.1, fun i v k hv hs => ?_⟩
  rw [List.getElem?_map] at hs
  cases q : es[i]? with
  | none => rw [q] at hs; cases hs
  | some e =>
    rw [q] at hs
    cases hs
    obtain ⟨a, t1, t2, t3, t4, rfl, hm⟩ := hk.2 i v e hv q
    exact ⟨a, t1, _, _, _, rfl, hg _ hm⟩
theorem found_fr {w : World} {p : Program} {loose : List Str} {mean : ExcName → Option Value} {mg mb : Str → Option Value} {A : Around} {s : Shared} {h₀ : Heap} {L : Addr} {m : Str → Option Value} {nw rest : List (Addr × Obj)} {lr lm lo : Addr} {vr vm vo : List Value} {nr nm no n : Nat} {es ks : List Ent} {wish : Int} {u : Tok} {Q E : Value → Shared → Prop}
    (F : Fr h₀ L s.heap m) (N : News h₀ L s.heap nw) (X : (Mine.hd.heap_39 w.params).In h₀) (T : Top p loose mean mg mb h₀) (hA : A.handled = none) (hd : A.depth + 2 < recursionLimit)
    (mr : (lr, listOf vr.toArray nr) ∈ nw) (mm : (lm, listOf vm.toArray nm) ∈ nw) (mo : (lo, listOf vo.toArray no) ∈ nw) (hsub : ∀ p ∈ rest, p ∈ nw)
    (hko : KnownAre vo es rest) (htr : TextsAre vr (es.map Ent.x)) (htm : TextsAre vm (es.reverse.map Ent.y)) (hes : EntsOk n es ks) (hn : n < 60)
    (ret : ∀ h' tk', Kept s.heap h' → Q (.bool true) { s with heap := h', toks := tk' }) :
    wpAny (model Challenge.rw_nb0139_01.row.prog w) A (call (.ref 113) [.ref lr, .ref lm, .ref lo, .int wish u]) Q E s :=
  found_walk (X.keeps F.keep) (T.keeps F.keep) hA hd ⟨_, N.get mr, rfl, _, rfl⟩ ⟨_, N.get mm, rfl, _, rfl⟩ ⟨_, N.get mo, rfl, _, rfl⟩ (known_secs hko fun p hp => (N p (hsub p hp)).1) (keys_row htr hes.ok) (keys_mir htm hes.ok)
    (by rw [List.length_map]; have := hes.len; omega) (secs_sorted hes.srt) ret
theorem trues_bools : ∀ n : Nat, LSm.BoolsAre (List.replicate n (Value.bool true)) (List.replicate n true)
  | 0 => .nil
  | n + 1 => .cons true (trues_bools n)
theorem trues_all {prog : Program} {w : World} {A : Around} {E : Value → Shared → Prop} {s : Shared} {h₀ : Heap} {L l : Addr} {m : Str → Option Value} {news : List (Addr × Obj)} {n c : Nat} {Q : Value → Shared → Prop} (F : Fr h₀ L s.heap m) (N : News h₀ L s.heap news) (hh : A.handled = none) (hm : (l, listOf (List.replicate n (Value.bool true)).toArray c) ∈ news)
    (h : ∀ h' tk, Fr h₀ L h' m → News h₀ L h' news → Q (.bool true) { s with heap := h', toks := tk }) : wpAny (model prog w) A (call (.builtin "all") [.ref l]) Q E s := by
  refine LSm.all_bools F N hh ⟨_, N.get hm, rfl, _, rfl⟩ (trues_bools n) fun h' tk F' N' => ?_
  rw [show (List.replicate n true).all id = true by simp]
  exact h h' tk F' N'
end Mine

end
section
theorem Mine.fresh_Law4 : True := by
  w_top off
  k_with_none
  exact trivial
open PySem PySem.W PyProof.Rows PySem.Calls
set_option maxRecDepth 100000
set_option maxHeartbeats 8000000
namespace Mine
local macro_rules | `(tactic| k_all) => `(tactic| assumption)
@[irreducible] def Held (P : Prop) : Prop := P
theorem held {P : Prop} (h : Held P) : P := by unfold Held at h; exact h
theorem held_put {w : World} {A : Around} {s : Shared} {l : Addr} {x : Str} {u : Tok} {b : Bool} {Q E : Value → Shared → Prop} (h : Held (wpAny (model Challenge.rw_nb0139_01.row.prog w) A (call (.ref 108) [.ref l, .str x u, .bool b]) Q E s)) :
    wpAny (model Challenge.rw_nb0139_01.row.prog w) A (call (.ref 108) [.ref l, .str x u, .bool b]) Q E s := held h
theorem zone_call {w : World} {p : Program} {loose : List Str} {mean : ExcName → Option Value} {mg mb : Str → Option Value} {A : Around} {s : Shared} {h₀ : Heap} {L : Addr} {m : Str → Option Value} {n : Int} {u : Tok} {Q E : Value → Shared → Prop}
    (F : Fr h₀ L s.heap m) (X : (Mine.hd.heap_39 w.params).In h₀) (T : Top p loose mean mg mb h₀) (hd : A.depth + 1 < recursionLimit) (hA : A.handled = none)
    (ret : ∀ z r sv a b h' tk', ZoneOk r sv a b → Kept s.heap h' → h'.get? z = some (tupObj #[sv, a, b]) → s.heap.get? z = none → Q (.ref z) { s with heap := h', toks := tk' }) :
    wpAny (model Challenge.rw_nb0139_01.row.prog w) A (call (.ref 94) [.int n u]) Q E s :=
  zone_walk (X.keeps F.keep) (T.keeps F.keep) hd hA ret
theorem ints_are {vs : List Value} {ns : List Int} (h : IntsAre vs ns) : ∀ v ∈ vs, ∃ n t, v = Value.int n t := by
  intro v hv
  obtain ⟨i, hi⟩ := List.getElem?_of_mem hv
  obtain ⟨n, t, e, _⟩ := h.at i v hi
  exact ⟨n, t, e⟩
theorem zones_len {ws : List Value} {ns c : List Int} (h : IntsAre ws (List.take 4 ns ++ c)) : c.length ≤ ws.length ∧ ws.length ≤ 4 + c.length := by
  have e := h.length
  rw [List.length_append, List.length_take] at e
  omega
theorem zones_ledger {h₀ h : Heap} {L D : Addr} {zs : List Value} {zn : List (Addr × Obj)} {d1 d2 d3 cO cM cR : Addr × Obj} (N : News h₀ L h ((D, LCg.lst zs) :: (zn ++ [d1, d2, d3, cO, cM, cR]))) :
    News h₀ L h ((D, LCg.lst zs) :: cO :: cM :: cR :: zn) := by
  intro p hp
  refine N p ?_
  simp only [List.mem_cons, List.mem_append] at hp ⊢
  rcases hp with h | h | h | h | h <;> simp [h]
theorem ne_obj {h : Heap} {a b : Addr} {o o' : Obj} (e : h.get? a = some o) (e' : h.get? b = some o') (hne : o.data ≠ o'.data) : a ≠ b := by
  intro q
  subst q
  rw [e] at e'
  cases e'
  exact hne rfl
theorem tups_ne {h₀ h : Heap} {L a : Addr} {o : Obj} {zn nw : List (Addr × Obj)} (N : News h₀ L h nw) (hs : ∀ p ∈ zn, p ∈ nw) (ha : (a, o) ∈ nw) (hzt : ∀ p ∈ zn, ∃ vs, p.2 = tupObj vs) (ho : o.cls ≠ .type "tuple" ∨ ∃ c, o.data = .cell c) : ∀ p ∈ zn, p.1 ≠ a := by
  intro p hp q
  obtain ⟨vs, e⟩ := hzt p hp
  have h1 := (N p (hs p hp)).1
  have h2 := (N _ ha).1
  rw [q, h2, e] at h1
  cases h1
  rcases ho with ho | ⟨c, ho⟩
  · exact ho rfl
  · cases ho
theorem found_len {ws : List Value} {ns c : List Int} (h : IntsAre ws (List.take 3 ns ++ c)) (hc : c.length < 100 := by decide) : ws.length ≤ 16777216 := by
  have e := h.length
  rw [List.length_append, List.length_take] at e
  omega
theorem law_holds : PySem.Challenge.rw_nb0139_01.Holds := Mine.hd (by
  k_go0
  rename (Mine.hd.heap_39 _).In _ => X
  rename Top _ _ _ _ _ _ => T
  rename Below _ _ _ _ => K0
  rename News _ _ _ _ => N0
  rename Fr _ _ _ _ => F0
  rename CellsAre _ _ _ => X0
  rename_i cO cM cR hcO hcM hcR
  walk1
  refine LCg.Assign_ListComp_U (F₀ := by k_asm) rfl (by with_unfolding_all rfl) (by with_unfolding_all rfl) (by decide) (by rfl) (by decide) (by rfl) (by rfl) (by rfl) ?_
  iterate 29 walk1
  refine LCg.CompSrc.ledger rfl (by k_asm) (by k_asm) (.head _) (by rw [List.size_toArray, sizeLine_eq]; exact Nat.le_trans (zones_len (by assumption)).2 (by decide)) ?_
  intro g
  refine zones_rest (.inr ⟨_, .head _, rfl, _, rfl⟩) (ints_are (by assumption)) ?elem ?_
  case elem =>
    intro n t C oC m₂ h tk nw E' hC hx F N
    k_with_none
    iterate 7 walk1
    exact ⟨X.keeps F.keep, zone_call F X T (by show callerA.depth + 1 + 1 < recursionLimit; decide) rfl fun z r sv a b h' tk' ok k e e0 => ⟨z, r, sv, a, b, h', tk', rfl, rfl, ok, k, e, e0⟩⟩
  intro zs zn hzl hz hzt D h tk F N o1
  change Fr _ (Array.size (Heap.objs (Shared.heap _))) _ _ at F
  have N1 := zones_ledger N
  change News _ (Array.size (Heap.objs (Shared.heap _))) _ _ at N1
  have hzD := tups_ne N1 (fun p hp => .tail _ (.tail _ (.tail _ (.tail _ hp)))) (.head _) hzt (.inl (by show Value.type "list" ≠ Value.type "tuple"; decide))
  have hzO := tups_ne N1 (fun p hp => .tail _ (.tail _ (.tail _ (.tail _ hp)))) (.tail _ (.head _)) hzt (.inr ⟨_, hcO⟩)
  have hzM := tups_ne N1 (fun p hp => .tail _ (.tail _ (.tail _ (.tail _ hp)))) (.tail _ (.tail _ (.head _))) hzt (.inr ⟨_, hcM⟩)
  have hzR := tups_ne N1 (fun p hp => .tail _ (.tail _ (.tail _ (.tail _ hp)))) (.tail _ (.tail _ (.tail _ (.head _)))) hzt (.inr ⟨_, hcR⟩)
  have hDO := ne_obj (N1 _ (.head _)).1 (N1 _ (.tail _ (.head _))).1 (by rw [hcO]; exact nofun)
  have hDM := ne_obj (N1 _ (.head _)).1 (N1 _ (.tail _ (.tail _ (.head _)))).1 (by rw [hcM]; exact nofun)
  have hDR := ne_obj (N1 _ (.head _)).1 (N1 _ (.tail _ (.tail _ (.tail _ (.head _))))).1 (by rw [hcR]; exact nofun)
  have hz8 := zones_len (show IntsAre _ (List.take 4 _ ++ _) by assumption)
  clear N o1
  dsimp only
  iterate 49 walk1
  refine len_made (by k_asm) (by repeat (first | exact .head _ | refine .tail _ ?_)) (by have := hz8.2; simp only [List.length] at this; omega) ?_
  iterate 2 walk1
  rename_i lr _ q3 _ oR dR _ lm _ q2 _ oM dM _ DK _ q1 lk _ q0 _ F7 N7 h7 _ _ _ _ hRg hF hN hK
  clear F7 N7 hK
  replace hN := law_ledger hN
  refine range_grow (n := zs.length) (LawJ _ lk lm lr D _ _ _ cO oM oR zs) rfl hRg ?small ?size hF hN (law_start rfl rfl rfl hzt hz) ?turn ?_
  case small => exact len_range_small (by have := hz8.2; simp only [List.length] at this; omega)
  case size => exact len_range_size
  case turn =>
    intro i t m₁ nx h tk own I hi hown hoff hIx hJ F N
    obtain ⟨vk, vm, vr, nk, nm, nr, rest, es, ks, rfl, m1, m2, m3, hrt, hz, hkn, htr, htm, hes⟩ := hJ
    have hIe : ∀ a : Addr, a ≠ I → ∀ p ∈ own, p.1 ≠ a := fun a ha p hp q => ha (q ▸ hown p hp)
    clear hF hN hRg
    rw [m_law m1 m2 m3] at F
    change Fr _ (Array.size (Heap.objs (Shared.heap _))) _ _ at F
    change News _ (Array.size (Heap.objs (Shared.heap _))) _ (_ :: _ :: _ :: _ :: _ :: _ :: _ :: (rest ++ own)) at N
    have hT : ∀ (a : Addr) (o : Obj), (a, o) ∈ (lk, listOf vk.toArray nk) :: (lm, listOf vm.toArray nm) :: (lr, listOf vr.toArray nr) :: [] → o.cls ≠ .type "tuple" → ∀ p ∈ rest ++ own, p.1 ≠ a := by
      intro a o ha ho p hp
      rcases List.mem_append.mp hp with hp | hp
      · exact tups_ne N (zn := rest) (fun p hp => .tail _ (.tail _ (.tail _ (.tail _ (.tail _ (.tail _ (.tail _ (List.mem_append_left _ hp)))))))) (List.mem_append_left (bs := _ :: _ :: _ :: _ :: (rest ++ own)) ha) hrt (.inl ho) p hp
      · exact hIe a (hoff _ (List.mem_append_left (bs := _ :: _ :: _ :: _ :: rest) ha)) p hp
    have hTk := hT _ _ (.head _) (show Value.type "list" ≠ Value.type "tuple" by decide)
    have hTm := hT _ _ (.tail _ (.head _)) (show Value.type "list" ≠ Value.type "tuple" by decide)
    have hTr := hT _ _ (.tail _ (.tail _ (.head _))) (show Value.type "list" ≠ Value.type "tuple" by decide)
    obtain ⟨zv, hzv⟩ : ∃ v, zs[i]? = some v := ⟨_, List.getElem?_eq_getElem hi⟩
    obtain ⟨z, r, sv, a, b, rfl, zok, hzm⟩ := hz i zv hzv
    replace hzm : (z, tupObj #[sv, a, b]) ∈ rest ++ own := List.mem_append_left _ hzm
    have hzl2 : zs.length < 1000 := by have := hz8.2; simp only [List.length] at this; omega
    generalize htl : rest ++ own = tl at N hTk hTm hTr hzm
    obtain ⟨hsec, ⟨x, tx, rfl, hx0, hx1⟩, ⟨y, ty, rfl, hy0, hy1⟩⟩ := zok
    k_with_none
    k_with "subscriptTail" => k_dflt (refine item_led (by k_asm) (by repeat (first | exact .head _ | refine .tail _ ?_)) hzl2 (Int.natCast_nonneg _) hzv ?_)
    k_with "assign Tuple" => k_dflt (refine' unpackN_ ?k1 ?k2 ?k3 ?k4 ?k5 ?k6 ?_; (case k1 => k_asm); (case k2 => k_asm); (case k3 => exact News.isTup (by k_asm) (by repeat (first | exact hzm | refine .tail _ ?_))); (case k4 => exact rfl); (case k5 => exact rfl); (case k6 => exact rfl); intro h' F' N'; (try k_sweep))
    have hKr := keys_row htr hes.ok
    have hKm := keys_mir htm hes.ok
    have hrl : vr.length = es.length := by rw [htr.1, List.length_map]
    have hml : vm.length = es.length := by rw [htm.1, List.length_map, List.length_reverse]
    have hel := hes.len
    have hi9 : i < 1000 := by omega
    have hep := hes.pos
    have hkl9 : vk.length < 1000 := by rw [hkn.1, hes.perm.length_eq]; omega
    have hD9 : callerA.depth + 4 < recursionLimit := by decide
    cases r with
    | none =>
      cases hsec
      rcases parity i with ⟨p1, p0⟩ | ⟨p1, p0⟩
      · k_with "call ref" => k_dflt (first
          | refine says_fr (by k_asm) (by k_asm) X T (by show callerA.depth + 1 + 1 < recursionLimit; omega) hx0 hx1 rfl ?_
          | refine says_fr (by k_asm) (by k_asm) X T (by show callerA.depth + 1 + 1 < recursionLimit; omega) hy0 hy1 rfl ?_
          | refine flag_put p1 (putR_no K0 (by k_asm) (by k_asm) (.tail _ (.tail _ (.head _))) X T rfl hD9 rfl law_units hKr (by omega) (by omega) hx0 hx1 ?_)
          | refine flag_put p0 (putL_no K0 (by k_asm) (by k_asm) (.tail _ (.head _)) X T rfl hD9 rfl law_units hKm (by omega) (by omega) hy0 hy1 ?_)
          | refine held_put ?_)
        repeat' (first | walk1 | (dsimp only; walk1))
        rename Fr _ _ _ _ => F9
        rename News _ _ _ _ => N9
        subst htl
        exact ⟨_, _, _, (lk, listOf vk.toArray nk) :: (lm, listOf vm.toArray nm) :: (lr, listOf vr.toArray nr) :: (D, LCg.lst zs) :: (_, cO) :: (_, oM) :: (_, oR) :: rest, rfl, F9, N9, hoff, vk, vm, vr, nk, nm, nr, rest, es, ks, rfl, rfl, rfl, rfl, hrt, hz, hkn, htr, htm, hes.same⟩
      · k_with "call ref" => k_dflt (first
          | refine says_fr (by k_asm) (by k_asm) X T (by show callerA.depth + 1 + 1 < recursionLimit; omega) hx0 hx1 rfl ?_
          | refine says_fr (by k_asm) (by k_asm) X T (by show callerA.depth + 1 + 1 < recursionLimit; omega) hy0 hy1 rfl ?_
          | refine flag_put p1 (putL_no K0 (by k_asm) (by k_asm) (.tail _ (.tail _ (.head _))) X T rfl hD9 rfl law_units hKr (by omega) (by omega) hx0 hx1 ?_)
          | refine flag_put p0 (putR_no K0 (by k_asm) (by k_asm) (.tail _ (.head _)) X T rfl hD9 rfl law_units hKm (by omega) (by omega) hy0 hy1 ?_)
          | refine held_put ?_)
        repeat' (first | walk1 | (dsimp only; walk1))
        rename Fr _ _ _ _ => F9
        rename News _ _ _ _ => N9
        subst htl
        exact ⟨_, _, _, (lk, listOf vk.toArray nk) :: (lm, listOf vm.toArray nm) :: (lr, listOf vr.toArray nr) :: (D, LCg.lst zs) :: (_, cO) :: (_, oM) :: (_, oR) :: rest, rfl, F9, N9, hoff, vk, vm, vr, nk, nm, nr, rest, es, ks, rfl, rfl, rfl, rfl, hrt, hz, hkn, htr, htm, hes.same⟩
    | some k =>
      obtain ⟨ts, rfl⟩ := hsec
      rcases parity i with ⟨p1, p0⟩ | ⟨p1, p0⟩
      · k_with "call ref" => k_dflt (first
          | refine says_fr (by k_asm) (by k_asm) X T (by show callerA.depth + 1 + 1 < recursionLimit; omega) hx0 hx1 ⟨_, rfl⟩ ?_
          | refine says_fr (by k_asm) (by k_asm) X T (by show callerA.depth + 1 + 1 < recursionLimit; omega) hy0 hy1 ⟨_, rfl⟩ ?_
          | (refine' flag_put p1 (putR_fr ?F ?N ?U X T (by show callerA.depth + 1 + 3 < recursionLimit; omega) rfl hKr (by omega) hx0 hx1 _ (cnt_le (secs_sorted hes.srt) k) row_lenR ?_); (case F => k_asm); (case N => k_asm); (case U => k_updF))
          | (refine' flag_put p0 (putL_fr ?F ?N ?U X T (by show callerA.depth + 1 + 3 < recursionLimit; omega) rfl hKm (by omega) hy0 hy1 _ (mirL_cnt hes.srt k) mir_len ?_); (case F => k_asm); (case N => k_asm); (case U => k_updF))
          | refine held_put ?_)
        k_with "call builtin:list.append" => k_dflt (refine' append_K ?k1 ?k2 ?k3 ?_ ?z; (case k1 => k_asm); (case k2 => k_asm); (case k3 => k_upd); (case z => (rw [List.size_toArray, sizeLine_eq]; omega)); k_whole; intro h' F' N'; (try k_sweep))
        repeat' (first | walk1 | (dsimp only; walk1))
        rename Fr _ _ _ _ => F9
        rename News _ _ _ _ => N9
        rename _ ∧ _ => l9
        subst htl
        exact grow_put (e := ⟨k, (i : Int) + 1, x, y⟩) F9 N9 hoff hIx l9.2.2.2.2.2.2.2 rfl rfl rfl hrt hz hkn (row_ins htr _ ⟨k, (i : Int) + 1, x, y⟩ tx cntR_le) (mir_ins htm _ ⟨k, (i : Int) + 1, x, y⟩ ty cntR_le) (hes.putR (e := ⟨k, (i : Int) + 1, x, y⟩) ⟨hx0, hx1, hy0, hy1⟩ rfl)
      · k_with "call ref" => k_dflt (first
          | refine says_fr (by k_asm) (by k_asm) X T (by show callerA.depth + 1 + 1 < recursionLimit; omega) hx0 hx1 ⟨_, rfl⟩ ?_
          | refine says_fr (by k_asm) (by k_asm) X T (by show callerA.depth + 1 + 1 < recursionLimit; omega) hy0 hy1 ⟨_, rfl⟩ ?_
          | (refine' flag_put p1 (putL_fr ?F ?N ?U X T (by show callerA.depth + 1 + 3 < recursionLimit; omega) rfl hKr (by omega) hx0 hx1 _ (cnt_lt (secs_sorted hes.srt) k) row_lenL ?_); (case F => k_asm); (case N => k_asm); (case U => k_updF))
          | (refine' flag_put p0 (putR_fr ?F ?N ?U X T (by show callerA.depth + 1 + 3 < recursionLimit; omega) rfl hKm (by omega) hy0 hy1 _ (mirR_cnt hes.srt k) mir_len ?_); (case F => k_asm); (case N => k_asm); (case U => k_updF))
          | refine held_put ?_)
        k_with "call builtin:list.append" => k_dflt (refine' append_K ?k1 ?k2 ?k3 ?_ ?z; (case k1 => k_asm); (case k2 => k_asm); (case k3 => k_upd); (case z => (rw [List.size_toArray, sizeLine_eq]; omega)); k_whole; intro h' F' N'; (try k_sweep))
        repeat' (first | walk1 | (dsimp only; walk1))
        rename Fr _ _ _ _ => F9
        rename News _ _ _ _ => N9
        rename _ ∧ _ => l9
        subst htl
        exact grow_put (e := ⟨k, -(i : Int) - 1, x, y⟩) F9 N9 hoff hIx l9.2.2.2.2.2.2.2 rfl rfl rfl hrt hz hkn (row_ins htr _ ⟨k, -(i : Int) - 1, x, y⟩ tx cntL_le) (mir_ins htm _ ⟨k, -(i : Int) - 1, x, y⟩ ty cntL_le) (hes.putL (e := ⟨k, -(i : Int) - 1, x, y⟩) ⟨hx0, hx1, hy0, hy1⟩ rfl)
  intro m₁ nx h tk hJ F N
  obtain ⟨vk, vm, vr, nk, nm, nr, rest, es, ks, rfl, m1, m2, m3, hrt, hz, hkn, htr, htm, hes⟩ := hJ
  clear hF hN hRg
  rw [m_law m1 m2 m3] at F
  change Fr _ (Array.size (Heap.objs (Shared.heap _))) _ _ at F
  change News _ (Array.size (Heap.objs (Shared.heap _))) _ _ at N
  dsimp only
  k_with_none
  have hzl2 : zs.length < 60 := by have := hz8.2; simp only [List.length] at this; omega
  have hTt := tups_ne N (zn := rest) (fun p hp => .tail _ (.tail _ (.tail _ (.tail _ (.tail _ (.tail _ (.tail _ hp))))))) (.tail _ (.tail _ (.tail _ (.tail _ (.head _))))) hrt (.inr ⟨_, hcO⟩)
  iterate 8 walk1
  refine sorted_ents F N (.head _) (rest := rest) (fun p hp => .tail _ (.tail _ (.tail _ (.tail _ (.tail _ (.tail _ (.tail _ hp))))))) hkn hes hzl2 ?_
  intro lo co h8 tk8 vo F8 N8 hlo hko
  k_lt hlo
  clear F N
  iterate 6 walk1
  refine LCg.ListComp_U (F₀ := by k_asm) (by with_unfolding_all rfl) (by decide) (by rfl) (by decide) (by rfl) ?_
  walk1
  have hvl : vo.length = es.length := hko.1
  have hel := hes.len
  refine LCg.CompSrc.ledger rfl (by k_asm) (by k_asm) (.head _) (by rw [List.size_toArray, sizeLine_eq]; omega) ?_
  intro g
  refine texts_rest (es.map Ent.x) (by rw [List.size_toArray, List.length_map, hvl]) (.inr ⟨_, .head _, rfl, _, rfl⟩) ?elem ?_
  case elem =>
    intro i y v I oI C oC D ys m₂ h tk E' hy hv hC hx F N
    obtain ⟨e, he, rfl⟩ : ∃ e, es[i]? = some e ∧ e.x = y := by
      rw [List.getElem?_map] at hy
      cases q : es[i]? with
      | none => rw [q] at hy; cases hy
      | some e => rw [q] at hy; cases hy; exact ⟨e, rfl, rfl⟩
    obtain ⟨a, t1, t2, t3, t4, rfl, hm⟩ := hko.2 i v e (by simpa using hv) he
    have hg := (N _ (.tail _ (.tail _ (.tail _ (.tail _ (.tail _ (.tail _ (.tail _ (.tail _ (.tail _ (.tail _ (.tail _ hm)))))))))))).1
    k_with "subscriptTail" => k_dflt (refine' item_tupleT (tup_at hg) ?ta ?tb ?tc ?td ?_; (case ta => decide); (case tb => decide); (case tc => rfl); (case td => rfl))
    repeat' (first | walk1 | (dsimp only; walk1))
  intro ys hys D9 h9 tk9 F9 N9 o9
  have hsx : ∀ y ∈ es.map Ent.x, PyData.strOk y = true := fun y hy => by
    obtain ⟨e, he, rfl⟩ := List.mem_map.mp hy
    exact (offVal_ok (hes.ok e he).x1).1
  have hsy : ∀ y ∈ es.reverse.map Ent.y, PyData.strOk y = true := fun y hy => by
    obtain ⟨e, he, rfl⟩ := List.mem_map.mp hy
    exact (offVal_ok (hes.ok e (List.mem_reverse.mp he)).y1).1
  refine ne_strs ⟨_, (N9 _ (.tail _ (.tail _ (.tail _ (.tail _ (.head _)))))).1, rfl, _, rfl⟩ ⟨_, (N9 _ (.head _)).1, rfl, _, rfl⟩ (texts_strs htr hsx) (texts_strs hys hsx) (Nat.lt_of_le_of_lt (Nat.add_le_add_left (by decide) _) law_units) ?_
  rw [decide_eq_true (rfl : es.map Ent.x = es.map Ent.x)]
  iterate 18 (first | walk1 | (dsimp only; walk1))
  refine len_made (by k_asm) (by repeat (first | exact .head _ | refine .tail _ ?_)) (by omega) ?_
  iterate 2 walk1
  rename_i hR9 hF9 hN9 hK9
  clear hK9
  refine LCg.CompSrc.range rfl hF9 hN9 hR9 (len_range_small (by omega)) len_range_size (by rw [sizeLine_eq]; omega) ?_
  intro g
  refine texts_rest (es.reverse.map Ent.y) (by rw [List.length_map, List.length_reverse, hvl]) trivial ?elem2 ?_
  case elem2 =>
    intro i y v I oI C oC D ys m₂ h tk E' hy hv hC hx F N
    obtain ⟨ti, rfl⟩ := hv
    obtain ⟨e, he, rfl⟩ : ∃ e, es.reverse[i]? = some e ∧ e.y = y := by
      rw [List.getElem?_map] at hy
      cases q : es.reverse[i]? with
      | none => rw [q] at hy; cases hy
      | some e => rw [q] at hy; cases hy; exact ⟨e, rfl, rfl⟩
    have hie : i < es.length := by
      have := (List.getElem?_eq_some_iff.mp he).1
      simpa using this
    rw [List.getElem?_reverse hie] at he
    have hvo : vo[es.length - 1 - i]? = some vo[es.length - 1 - i] := List.getElem?_eq_getElem (by omega)
    obtain ⟨a, t1, t2, t3, t4, hva, hm⟩ := hko.2 _ _ e hvo he
    rw [hva] at hvo
    have hg := (N _ (.tail _ (.tail _ (.tail _ (.tail _ (.tail _ (.tail _ (.tail _ (.tail _ (.tail _ (.tail _ (.tail _ (.tail _ hm))))))))))))).1
    k_with "subscriptTail" => k_dflt (first
      | (refine' item_tupleT (tup_at hg) ?ta ?tb ?tc ?td ?_; (case ta => decide); (case tb => decide); (case tc => rfl); (case td => rfl))
      | refine item_neg (by k_asm) (by repeat (first | exact .head _ | refine .tail _ ?_)) (by omega) (by omega) (by omega) (by rw [show ((vo.length : Int) + (-1 - (0 + (i : Int)))).toNat = es.length - 1 - i by omega]; exact hvo) ?_)
    repeat' (first | walk1 | (dsimp only; walk1))
  intro ys2 hys2 D10 h10 tk10 F10 N10 o10
  refine ne_strs ⟨_, (N10 _ (.tail _ (.tail _ (.tail _ (.tail _ (.head _)))))).1, rfl, _, rfl⟩ ⟨_, (N10 _ (.head _)).1, rfl, _, rfl⟩ (texts_strs htm hsy) (texts_strs hys2 hsy) (Nat.lt_of_le_of_lt (Nat.add_le_add_left (by decide) _) law_units) ?_
  rw [decide_eq_true (rfl : es.reverse.map Ent.y = es.reverse.map Ent.y)]
  walk1
  walk1
  walk1
  dsimp only
  iterate 6 walk1
  refine LCg.ListComp_U (F₀ := by k_asm) (by with_unfolding_all rfl) (by decide) (by rfl) (by decide) (by rfl) ?_
  iterate 21 walk1
  rename IntsAre _ (List.take 3 _ ++ _) => hI3
  refine LCg.CompSrc.ledger rfl (by k_asm) (by k_asm) (.head _) (by rw [List.size_toArray, sizeLine_eq]; exact found_len hI3) ?_
  intro g3
  refine trues_rest (.inr ⟨_, .head _, rfl, _, rfl⟩) ?elem3 ?_
  case elem3 =>
    intro i v I oI C oC D ys m₂ h tk E' hv hC hx F N
    obtain ⟨n, t, rfl⟩ := ints_are hI3 v (List.mem_of_getElem? (by simpa using hv))
    k_with_none
    k_with "call ref" => k_dflt (refine found_fr (by k_asm) (by k_asm) X T rfl (by show callerA.depth + 1 + 2 < recursionLimit; decide) (by repeat (first | exact .head _ | refine .tail _ ?_)) (by repeat (first | exact .head _ | refine .tail _ ?_)) (by repeat (first | exact .head _ | refine .tail _ ?_)) (rest := rest) (fun p hp => by repeat (first | exact hp | refine .tail _ ?_)) hko htr htm hes hzl2 ?_)
    repeat' (first | walk1 | (dsimp only; walk1))
    rename Kept _ _ => hk9
    exact hk9 _ _ (by assumption)
  intro D11 h11 tk11 F11 N11 o11
  k_with_none
  k_with "call builtin:all" => k_dflt (refine trues_all (by k_asm) (by k_asm) rfl (.head _) ?_)
  repeat' (first | walk1 | (dsimp only; walk1))
  kc_close)
end Mine

end
theorem PySem.Challenge.cw_nb0139_01_holds : PySem.Challenge.rw_nb0139_01.Holds :=
  Mine.law_holds
