import PyProof.Rows.All
import Wide.All
import OpenK.AllK
import Wide.FinOn
import PySem.Challenge.RW_bd0044_01
set_option Elab.async false
set_option rowWalk.seconds 0
set_option maxRecDepth 100000
set_option linter.all false
-- H
section
open PySem PySem.W PyProof.Rows
set_option maxHeartbeats 8000000
open_top Mine.hd for PySem.Challenge.rw_bd0044_01
end
-- P1
section
open PySem PySem.W PySem.Calls PyProof.Rows
namespace Mine
open PySem.Builtin PySem.Builtin.Str
def lst (x : Str) : List Nat := x.cps.toList
def mk (l : List Nat) : Str := ⟨l.toArray⟩
theorem lst_mk (l : List Nat) : lst (mk l) = l := rfl
theorem mk_lst (x : Str) : mk (lst x) = x := by cases x; simp [mk, lst]
theorem lst_inj {x y : Str} (h : lst x = lst y) : x = y := by rw [← mk_lst x, h, mk_lst]
theorem lst_append (x y : Str) : lst (x ++ y) = lst x ++ lst y := by
  unfold lst; rw [Str.cps_append, Array.toList_append]
theorem len_lst (x : Str) : x.length = (lst x).length := by simp [Str.length, lst]
def rdrop (p : Nat → Bool) (l : List Nat) : List Nat := (l.reverse.dropWhile p).reverse
theorem rdrop_take (p : Nat → Bool) (l : List Nat) : rdrop p l = l.take (l.length - (l.reverse.takeWhile p).length) := by
  have h : l.reverse.takeWhile p ++ l.reverse.dropWhile p = l.reverse := List.takeWhile_append_dropWhile
  have h2 : l = rdrop p l ++ (l.reverse.takeWhile p).reverse := by
    unfold rdrop
    rw [← List.reverse_append, h, List.reverse_reverse]
  have h3 : l.length = (rdrop p l).length + (l.reverse.takeWhile p).length := by
    have := congrArg List.length h2
    simpa using this
  have h4 : l.take (rdrop p l).length = rdrop p l := by
    have h5 : (rdrop p l ++ (l.reverse.takeWhile p).reverse).take (rdrop p l).length = rdrop p l := List.take_left' rfl
    rw [← h2] at h5
    exact h5
  rw [h3, Nat.add_sub_cancel, h4]
theorem stripBy_lst (g : Nat → Bool) (x : Str) : lst (Txt.stripBy g false true x) = rdrop g (lst x) := by
  have e : Txt.stripBy g false true x = PySem.W.stripped g false true x := PySem.W.stripBy_eq x g false true
  rw [e]
  show (Builtin.Str.strSub x _ _).cps.toList = _
  rw [StrLaws.strSub_toList, rdrop_take]
  simp [stripLo, stripHi, lst, Str.length]
theorem rstripChars_lst (x y : Str) : lst (Txt.rstripChars x y) = rdrop (fun c => (lst y).contains c) (lst x) := by
  unfold Txt.rstripChars
  rw [stripBy_lst]
  congr 1
  funext c
  simp [lst]
theorem rstrip_lst (x : Str) : lst (Txt.rstrip x) = rdrop Unicode.isSpace (lst x) := stripBy_lst _ x
theorem rdrop_nil (p : Nat → Bool) : rdrop p [] = [] := rfl
theorem rdrop_snoc (p : Nat → Bool) (l : List Nat) (c : Nat) : rdrop p (l ++ [c]) = if p c then rdrop p l else l ++ [c] := by
  unfold rdrop
  rw [List.reverse_append]
  simp only [List.reverse_cons, List.reverse_nil, List.nil_append, List.singleton_append, List.dropWhile_cons]
  split
  · rfl
  · simp
theorem empty_lst : lst (Str.ofString "") = [] := by decide
theorem ne_empty {z : Str} : (z != Str.ofString "") = true ↔ lst z ≠ [] := by
  rw [bne_iff_ne, ne_eq, ne_eq]
  constructor
  · intro h e; exact h (lst_inj (by rw [e, empty_lst]))
  · intro h e; exact h (by rw [e, empty_lst])
theorem eq_empty {z : Str} : (z != Str.ofString "") = false ↔ lst z = [] := by
  rw [← Bool.not_eq_true, ne_empty]; simp
theorem snoc_of {z : Str} (h : lst z ≠ []) : ∃ l c, lst z = l ++ [c] := ⟨(lst z).dropLast, (lst z).getLast h, (List.dropLast_concat_getLast h).symm⟩
theorem item_last {z : Str} {l : List Nat} {c : Nat} (h : lst z = l ++ [c]) : Txt.item z (-1) = ⟨#[c]⟩ := by
  unfold Txt.item
  have hl : z.length = l.length + 1 := by rw [len_lst, h]; simp
  have : Txt.charAt z (-1) = some c := by
    refine StrLaws.at_neg (by decide) (by omega) ?_
    have e : ((-1 : Int) + (z.length : Int)).toNat = l.length := by omega
    rw [e]
    have : z.cps.toList[l.length]? = some c := by
      have h' : z.cps.toList = l ++ [c] := h
      rw [h']; simp
    simpa using this
  rw [this]; rfl
theorem cut_last {z : Str} {l : List Nat} {c : Nat} (h : lst z = l ++ [c]) : lst (Txt.slice z none (some (-1))) = l := by
  have hl : z.length = l.length + 1 := by rw [len_lst, h]; simp
  have := StrLaws.sliceText_to_neg (x := z) (j := -1) (by decide) (by omega)
  show lst (StrLaws.sliceText z none (some (-1))) = l
  rw [this]
  have h' : z.cps.toList = l ++ [c] := h
  have e : ((-1 : Int) + (z.length : Int) - 0).toNat = l.length := by omega
  rw [e]
  simp [lst, h']
theorem occ_one (y : Str) (c : Nat) : (occurrences y ⟨#[c]⟩ 0 y.length 1).isEmpty = !(lst y).contains c := by
  have := StrLaws.found_one y c
  rw [← Bool.not_not (List.isEmpty _), this]
  simp [lst]
def lessS (x y : Str) : Str := Txt.rstripChars x y
theorem less_lst (x y : Str) : lst (lessS x y) = rdrop (fun c => (lst y).contains c) (lst x) := rstripChars_lst x y
theorem less_stop0 {z y : Str} (h : (z != Str.ofString "") = false) : lessS z y = z := by
  apply lst_inj; rw [less_lst, eq_empty.mp h]; rfl
theorem less_stop1 {z y : Str} (h : (z != Str.ofString "") = true) (h2 : (occurrences y (Txt.item z (-1)) 0 y.length 1).isEmpty = true) : lessS z y = z := by
  obtain ⟨l, c, e⟩ := snoc_of (ne_empty.mp h)
  rw [item_last e, occ_one] at h2
  apply lst_inj
  rw [less_lst, e, rdrop_snoc]
  have h3 : (lst y).contains c = false := by simpa using h2
  simp only [h3]; simp
theorem less_go {z y : Str} (h : (z != Str.ofString "") = true) (h2 : (occurrences y (Txt.item z (-1)) 0 y.length 1).isEmpty = false) : lessS (Txt.slice z none (some (-1))) y = lessS z y := by
  obtain ⟨l, c, e⟩ := snoc_of (ne_empty.mp h)
  rw [item_last e, occ_one] at h2
  apply lst_inj
  rw [less_lst, less_lst, cut_last e, e, rdrop_snoc]
  have h3 : (lst y).contains c = true := by simpa using h2
  simp only [h3]; simp
theorem less_len {z : Str} (h : (z != Str.ofString "") = true) : (Txt.slice z none (some (-1))).length < z.length := by
  obtain ⟨l, c, e⟩ := snoc_of (ne_empty.mp h)
  rw [len_lst, len_lst, cut_last e, e]; simp
end Mine
end
-- P2
section
open PySem PySem.W PySem.Calls PyProof.Rows
namespace Mine
def code : Array Nat := #[14, 4, 0, 0, 4294967295, 17, 0, 24, 11, 0, 4294967295, 13, 6, 16, 32, 16, 9, 0, 1, 17, 1, 1]
def tabSp (c : Nat) : Bool := c == 32 || c == 9
theorem accepts_spec (c : Nat) (seen : Sre.Seen) : ∃ seen', Sre.accepts code 11 c seen = Except.ok (tabSp c, seen') := by
  by_cases h : c = 32
  · subst h; exact ⟨_, rfl⟩
  · by_cases h2 : c = 9
    · subst h2; exact ⟨_, rfl⟩
    · have e1 : (c == 32) = false := by simpa using h
      have e2 : (c == 9) = false := by simpa using h2
      have e3 : tabSp c = false := by unfold tabSp; rw [e1, e2]; rfl
      rw [e3]
      refine ⟨((seen.add 16).add 16).add 0, ?_⟩
      show Sre.inSet code c 22 13 true seen = _
      show (if (c == 32) = true then _ else Sre.inSet code c 21 15 true (seen.add 16)) = _
      rw [e1, if_neg (by decide)]
      show (if (c == 9) = true then _ else Sre.inSet code c 20 17 true ((seen.add 16).add 16)) = _
      rw [e2, if_neg (by decide)]
      rfl
theorem run_spec (text : Array Nat) : ∀ (n p found : Nat) (seen : Sre.Seen), ∃ seen', Sre.run code text 11 n p found seen = Except.ok (found + (((text.toList.drop p).take n).takeWhile tabSp).length, seen')
  | 0, p, found, seen => ⟨seen, by simp [Sre.run]⟩
  | n + 1, p, found, seen => by
    obtain ⟨s1, h1⟩ := accepts_spec (text.getD p 0) seen
    unfold Sre.run
    rw [h1]
    show ∃ seen', (if tabSp (text.getD p 0) = true then Sre.run code text 11 n (p + 1) (found + 1) s1 else Except.ok (found, s1)) = _
    by_cases hp : p < text.size
    · have hd : text.toList.drop p = text.getD p 0 :: text.toList.drop (p + 1) := by
        rw [List.drop_eq_getElem_cons (by simpa using hp)]
        simp [Array.getD, hp]
      rw [hd, List.take_succ_cons, List.takeWhile_cons]
      cases ht : tabSp (text.getD p 0) with
      | true =>
        obtain ⟨s2, h2⟩ := run_spec text n (p + 1) (found + 1) s1
        refine ⟨s2, ?_⟩
        simp only [if_true, h2, List.length_cons]
        congr 2
        omega
      | false => exact ⟨s1, by simp⟩
    · have hg : text.getD p 0 = 0 := by simp [Array.getD, hp]
      have hd : text.toList.drop p = [] := List.drop_eq_nil_of_le (by simpa using Nat.not_lt.mp hp)
      rw [hg, hd]
      exact ⟨s1, by simp [tabSp]⟩
def heads (l : List Nat) : Nat := (l.takeWhile tabSp).length
theorem run_all (text : Array Nat) (h : text.size ≤ 4294967295) (seen : Sre.Seen) : ∃ seen', Sre.run code text 11 (min 4294967295 ((text.size : Int) - ((0 : Nat) : Int)).toNat) 0 0 seen = Except.ok (heads text.toList, seen') := by
  obtain ⟨s, e⟩ := run_spec text (min 4294967295 ((text.size : Int) - ((0 : Nat) : Int)).toNat) 0 0 seen
  refine ⟨s, e.trans ?_⟩
  have : min 4294967295 ((text.size : Int) - ((0 : Nat) : Int)).toNat = text.size := by omega
  rw [this, List.drop_zero, List.take_of_length_le (by simp)]
  unfold heads
  simp
def m0 (text : Array Nat) : Sre.M := Sre.forMatch code text 1 0 text.size false false
def m1 (text : Array Nat) : Sre.M := { m0 text with seen := (({} : Sre.Seen).add 14).add 17, marks := #[some 0, none], lastmark := 0, pc := 7 }
def m2 (text : Array Nat) (n : Nat) (s1 : Sre.Seen) : Sre.M :=
  { m1 text with seen := s1, pos := 0 + n, weight := 1, pc := 19, handed := 0 + n, frames := [{ wait := .giveBack, pc := 7, pos := 0 + n, outermost := true, count := n, kept := { lastmark := 0, lastindex := -1, whole := false, marks := #[] } }] }
def m3 (text : Array Nat) (n : Nat) (s1 : Sre.Seen) : Sre.M :=
  { m2 text n s1 with seen := s1.add 17, pc := 21, marks := #[some 0, some (0 + n)], lastmark := 1, lastindex := 1 }
def m4 (text : Array Nat) (n : Nat) (s1 : Sre.Seen) : Sre.M := { m3 text n s1 with seen := (s1.add 17).add 1, answer := some true }
def m5 (text : Array Nat) (n : Nat) (s1 : Sre.Seen) : Sre.M := { m4 text n s1 with frames := [], weight := 0, pc := 7 }
def m6 (text : Array Nat) (n : Nat) (s1 : Sre.Seen) : Sre.M := { m5 text n s1 with outcome := some .matched }
theorem step1 (text : Array Nat) : (m0 text).step = m1 text := rfl
theorem step2 (text : Array Nat) (n : Nat) (s1 : Sre.Seen)
    (e : Sre.run code text 11 (min 4294967295 ((text.size : Int) - ((0 : Nat) : Int)).toNat) 0 0 ((((({} : Sre.Seen).add 14).add 17).add 24).add 13) = Except.ok (n, s1)) : (m1 text).step = m2 text n s1 := by
  show (if ((0 : Nat) : Int) > (text.size : Int) - ((0 : Nat) : Int) then Sre.M.say { m1 text with seen := ((({} : Sre.Seen).add 14).add 17).add 24 } false else
    match Sre.run code text 11 (min 4294967295 ((text.size : Int) - ((0 : Nat) : Int)).toNat) 0 0 ((((({} : Sre.Seen).add 14).add 17).add 24).add 13) with
    | .error why => Sre.M.stick { m1 text with seen := ((({} : Sre.Seen).add 14).add 17).add 24 } why
    | .ok (n, seen) => if n < 0 then Sre.M.say { m1 text with seen := seen } false else Sre.M.afterRun { m1 text with seen := seen, pos := 0 + n } .giveBack n (Sre.M.keep { m1 text with seen := seen, pos := 0 + n } false)) = _
  rw [if_neg (by omega), e]
  rfl
theorem step3 (text : Array Nat) (n : Nat) (s1 : Sre.Seen) : (m2 text n s1).step = m3 text n s1 := by kernel_rfl
theorem step4 (text : Array Nat) (n : Nat) (s1 : Sre.Seen) : (m3 text n s1).step = m4 text n s1 := rfl
theorem step5 (text : Array Nat) (n : Nat) (s1 : Sre.Seen) : (m4 text n s1).step = m5 text n s1 := rfl
theorem step6 (text : Array Nat) (n : Nat) (s1 : Sre.Seen) : (m5 text n s1).step = m6 text n s1 := rfl
theorem runFor_go {k : Nat} {m m' : Sre.M} (h : m.outcome = none) (e : m.step = m') : m.runFor (k + 1) = m'.runFor k := by
  show (if m.outcome.isSome then m else m.step.runFor k) = _
  rw [h, e]; rfl
theorem runFor_stop {k : Nat} {m : Sre.M} (h : m.outcome.isSome = true) : m.runFor k = m := by
  cases k with
  | zero => rfl
  | succ k => show (if m.outcome.isSome then m else m.step.runFor k) = _; rw [h]; rfl
theorem go (text : Array Nat) (h : text.size ≤ 4294967295) : ∃ s1, (m0 text).runFor 4 = m4 text (heads text.toList) s1 ∧ (m4 text (heads text.toList) s1).runFor 4 = m6 text (heads text.toList) s1 := by
  obtain ⟨s1, e⟩ := run_all text h ((((({} : Sre.Seen).add 14).add 17).add 24).add 13)
  refine ⟨s1, ?_, ?_⟩
  · rw [runFor_go rfl (step1 text), runFor_go rfl (step2 text _ s1 e), runFor_go rfl (step3 text _ s1), runFor_go rfl (step4 text _ s1)]
    rfl
  · rw [runFor_go rfl (step5 text _ s1), runFor_go rfl (step6 text _ s1), runFor_stop rfl]
end Mine
end
-- R1
section
open PySem PySem.W PySem.Calls PyProof.Rows
namespace Mine
open PySem.Builtin.Re
theorem slot_match : Slot "re.Pattern" "match" "re.Pattern.match" :=
  .of (owner := "re.Pattern") (n := "match") (by rw [typeLookup_type, builtinLookup_eq_fast]; kernel_rfl) (by decide +kernel) (by decide +kernel) (by decide +kernel)
    (by first | exact .inl (by decide +kernel) | exact .inr (by decide +kernel)) (by rw [isSubtype_type]; kernel_rfl)
theorem type_match : typeOf (.builtin "re.Pattern.match") = pure (.type "method_descriptor") := by show builtinType _ = _; rw [builtinType_eq_fast]; kernel_rfl
theorem entry_match : entryFor table "re.Pattern.match" = some Builtin.«re.Pattern.match» := entryFor_of_tree (by kernel_rfl)
theorem args_match (a b : Value) : argsOk "re.Pattern.match" ⟨[a, b], []⟩ := by unfold argsOk; kernel_rfl
theorem plainAttrs_pat : PlainAttrs "re.Pattern" :=
  ⟨⟨"object.__getattribute__", by rw [typeLookup_type, builtinLookup_eq_fast]; kernel_rfl, by decide +kernel⟩, by rw [typeLookup_type, builtinLookup_eq_fast]; kernel_rfl⟩
theorem slot_group : Slot "re.Match" "group" "re.Match.group" :=
  .of (owner := "re.Match") (n := "group") (by rw [typeLookup_type, builtinLookup_eq_fast]; kernel_rfl) (by decide +kernel) (by decide +kernel) (by decide +kernel)
    (by first | exact .inl (by decide +kernel) | exact .inr (by decide +kernel)) (by rw [isSubtype_type]; kernel_rfl)
theorem type_group : typeOf (.builtin "re.Match.group") = pure (.type "method_descriptor") := by show builtinType _ = _; rw [builtinType_eq_fast]; kernel_rfl
theorem entry_group : entryFor table "re.Match.group" = some Builtin.«re.Match.group» := entryFor_of_tree (by kernel_rfl)
theorem args_group (a b : Value) : argsOk "re.Match.group" ⟨[a, b], []⟩ := by unfold argsOk; kernel_rfl
theorem plainAttrs_mat : PlainAttrs "re.Match" :=
  ⟨⟨"object.__getattribute__", by rw [typeLookup_type, builtinLookup_eq_fast]; kernel_rfl, by decide +kernel⟩, by rw [typeLookup_type, builtinLookup_eq_fast]; kernel_rfl⟩
end Mine
end
-- R2
section
open PySem PySem.W PySem.Calls PyProof.Rows
set_option maxHeartbeats 4000000
namespace Mine
open PySem.Builtin.Re
abbrev codeObj : Obj := { cls := .type "tuple", data := .seq #[.int 14 0, .int 4 0, .int 0 0, .int 0 0, .int 4294967295 0, .int 17 0, .int 0 0, .int 24 0, .int 11 0, .int 0 0, .int 4294967295 0, .int 13 0, .int 6 0, .int 16 0, .int 32 0, .int 16 0, .int 9 0, .int 0 0, .int 1 0, .int 17 0, .int 1 0, .int 1 0] }
abbrev patObj : Obj := { cls := .type "re.Pattern", data := .fields #[.str (Str.ofString "([ \\t]*)") 285, .int 32 310, .int 1 0, .none, .none, .ref 35, .int 0 0] }
abbrev spanObj (k : Nat) : Obj := { cls := .type "tuple", data := .seq #[.int 0 0, .int k 0, .int 0 0, .int k 0] }
abbrev matObj (x : Str) (t : Tok) (q0 : Addr) : Obj := { cls := .type "re.Match", data := .fields #[.str x t, .ref 36, .int 0 0, .int x.length 0, .int 1 0, .ref q0] }
section
variable {prog : Program} {w : World} {A : Around} {E : Value → Shared → Prop} {s : Shared}
theorem reDrive_succ (k : Nat) (m : Sre.M) : reDrive (k + 1) m = if (m.runFor 4).outcome.isSome then pure (m.runFor 4) else (rule "sre.turn" >>= fun _ => reDrive k (m.runFor 4)) := rfl
theorem reDrive_end (text : Array Nat) (h : text.size ≤ 4294967295) {Q : Sre.M → Shared → Prop} (hq : ∀ s1, Q (m6 text (heads text.toList) s1) s) :
    wpAny (model prog w) A (reDrive (2 ^ 64) (m0 text)) Q E s := by
  obtain ⟨s1, e1, e2⟩ := go text h
  obtain ⟨k, hk⟩ : ∃ k, (2 : Nat) ^ 64 = k + 1 + 1 := ⟨18446744073709551614, by decide +kernel⟩
  rw [hk, reDrive_succ, e1]
  have n1 : ((m4 text (heads text.toList) s1).outcome.isSome) = false := rfl
  rw [n1, if_neg (by decide)]
  refine wpAny_bind (wpAny_rule ?_)
  rw [reDrive_succ, e2]
  have n2 : ((m6 text (heads text.toList) s1).outcome.isSome) = true := rfl
  rw [n2, if_pos rfl]
  exact wpAny_pure (hq s1)
theorem wpAny_rules {l : List Nat} {c : Nat → Bool} {f : Nat → String} {Q : PUnit → Shared → Prop} (h : Q PUnit.unit s) :
    wpAny (model prog w) A (forIn l PUnit.unit fun i _ => if c i = true then (rule (f i) >>= fun _ => pure (ForInStep.yield PUnit.unit)) else pure (ForInStep.yield PUnit.unit)) Q E s := by
  induction l with
  | nil => exact wpAny_pure h
  | cons a r ih =>
    rw [List.forIn_cons]
    refine wpAny_bind ?_
    cases hc : c a with
    | true =>
      rw [if_pos rfl]
      exact wpAny_bind (wpAny_rule (wpAny_pure ih))
    | false =>
      rw [if_neg Bool.false_ne_true]
      exact wpAny_pure ih
theorem reRun_end (text : Array Nat) (h : text.size ≤ 4294967295) {Q : Option Sre.M → Shared → Prop} (hq : ∀ s1, Q (some (m6 text (heads text.toList) s1)) s) :
    wpAny (model prog w) A (reRunToEnd (m0 text)) Q E s := by
  unfold reRunToEnd
  refine wpAny_bind (reDrive_end text h fun s1 => ?_)
  refine wpAny_bind (wpAny_rules ?_)
  exact wpAny_pure (hq s1)
theorem named_match (x : Str) (t : Tok) : reNamed "re.Pattern.match" "match" ["string", "pos", "endpos"] 1 [.str x t] [] = pure [some (.str x t), none, none] := rfl
theorem newFields_any {ty : String} {vs : List Value} {Q : Value → Shared → Prop} (h : Q (.ref s.heap.objs.size) { s with heap := s.heap.push { cls := .type ty, data := .fields vs.toArray } }) (hz : vs.length ≤ 100) :
    wpAny (model prog w) A (newFields ty vs) Q E s := by
  unfold newFields
  refine wpAny_newObj_type h ?_
  show vs.toArray.size ≤ sizeLine + 2
  rw [List.size_toArray, sizeLine_eq]; omega
theorem wpAny_no {α : Type} {M : Model} {c : Prop} [Decidable c] {a b : Sem α} {Q : α → Shared → Prop} (hc : ¬ c) (h : wpAny M A b Q E s) : wpAny M A (if c then a else b) Q E s := by rw [if_neg hc]; exact h
theorem wpAny_yes {α : Type} {M : Model} {c : Prop} [Decidable c] {a b : Sem α} {Q : α → Shared → Prop} (hc : c) (h : wpAny M A a Q E s) : wpAny M A (if c then a else b) Q E s := by rw [if_pos hc]; exact h
theorem newMatch_end (x : Str) (t : Tok) (n : Nat) (s1 : Sre.Seen) {Q : Value → Shared → Prop}
    (h : Q (.ref (s.heap.objs.size + 1)) { s with heap := (s.heap.push (spanObj n)).push (matObj x t s.heap.objs.size) }) :
    wpAny (model prog w) A (reNewMatch (.ref 36) (.str x t) 1 0 x.cps.size (m6 x.cps n s1)) Q E s := by
  unfold reNewMatch
  dsimp only
  have e : (List.range 1).any (fun g => match (m6 x.cps n s1).marks.getD (2 * g) none, (m6 x.cps n s1).marks.getD (2 * g + 1) none with
      | some b, some e => decide (((2 * g + 1 : Nat) : Int) ≤ (m6 x.cps n s1).lastmark) && decide (e < b)
      | _, _ => false) = false := by
    show ((decide (((2 * 0 + 1 : Nat) : Int) ≤ 1) && decide (0 + n < 0)) || false) = false
    simp
  refine wpAny_no (fun c => absurd (e.symm.trans c) (by decide)) ?_
  show wpAny _ _ (newTuple [rawInt ((0 : Nat) : Int), rawInt ((0 + n : Nat) : Int), rawInt ((0 : Nat) : Int), rawInt ((0 + n : Nat) : Int)] >>= fun q =>
    newFields "re.Match" [Value.str x t, Value.ref 36, rawInt ((0 : Nat) : Int), rawInt (x.cps.size : Int), rawInt 1, q]) _ _ _
  rw [Nat.zero_add]
  refine wpAny_bind (wpAny_newTuple ?_ (by rw [sizeLine_eq]; exact Nat.le_of_ble_eq_true rfl))
  refine newFields_any ?_ (Nat.le_of_ble_eq_true rfl)
  rw [Heap.size_push]
  exact h
def tgt (x : Str) (t : Tok) : ReTarget := { pattern := Value.ref 36, string := Value.str x t, code := code, text := x.cps, kind := 0, groups := 1, pos := 0, lim := x.cps.size }
theorem tgt_eq {x : Str} {t : Tok} {c : Array Nat} {k g p l : Nat} (hc : c = code) (hk : k = 0) (hg : g = 1) (hp : p = 0) (hl : l = x.cps.size) :
    ({ pattern := Value.ref 36, string := Value.str x t, code := c, text := x.cps, kind := k, groups := g, pos := p, lim := l } : ReTarget) = tgt x t := by
  subst hc hk hg hp hl
  rfl
theorem target_end {x : Str} {t : Tok} (h36 : s.heap.get? 36 = some patObj) (h35 : s.heap.get? 35 = some codeObj) (hx : x.length ≤ 10000) :
    wpAny (model prog w) A (reTarget "re.Pattern.match" "match" ⟨[.ref 36, .str x t], []⟩) (fun T s' => T = tgt x t ∧ s' = s) E s := by
  unfold reTarget
  dsimp only
  rw [named_match]
  refine wpAny_bind (wpAny_pure ?_)
  dsimp only
  refine wpAny_bind (wpAny_pure ?_)
  refine wpAny_bind (wpAny_pure ?_)
  refine wpAny_bind (wpAny_fieldsOf h36 rfl ?_)
  refine wpAny_bind (wpAny_pure (a := (x.cps, 0)) ?_)
  refine wpAny_no Bool.false_ne_true ?_
  refine wpAny_no Bool.false_ne_true ?_
  refine wpAny_bind (wpAny_pure ?_)
  refine wpAny_bind ?_
  refine wpAny_bind (wpAny_seqItems h35 rfl ?_)
  refine wpAny_pure ?_
  refine wpAny_pure ?_
  refine ⟨tgt_eq ?_ ?_ ?_ ?_ ?_, rfl⟩
  · decide +kernel
  · rfl
  · rfl
  · simp
  · have h1 : x.cps.size ≤ 10000 := hx
    have h2 : ((2 : Int) ^ 63 - 1).toNat = 9223372036854775807 := by decide
    show min ((2 : Int) ^ 63 - 1).toNat x.cps.size = x.cps.size
    omega
theorem call_match {x : Str} {t : Tok} {Q : Value → Shared → Prop} (h36 : s.heap.get? 36 = some patObj) (h35 : s.heap.get? 35 = some codeObj) (hx : x.length ≤ 10000)
    (h : Q (.ref (s.heap.objs.size + 1)) { s with heap := (s.heap.push (spanObj (heads (lst x)))).push (matObj x t s.heap.objs.size) }) :
    wpAny (model prog w) A (call (.builtin "re.Pattern.match") [.ref 36, .str x t]) Q E s := by
  have hz : x.cps.size ≤ 4294967295 := by have h1 : x.cps.size ≤ 10000 := hx; omega
  have h1 : wpAny (model prog w) A.in1 (reTarget "re.Pattern.match" "match" ⟨[.ref 36, .str x t], []⟩) (fun T s' => T = tgt x t ∧ s' = s) E s := target_end h36 h35 hx
  refine wpAny_call_entry slot_match ⟨_, h36, rfl⟩ entry_match ?_ (args_match _ _)
  show wpAny _ _ (reTarget "re.Pattern.match" "match" ⟨[.ref 36, .str x t], []⟩ >>= fun t => reAnswer t (Sre.forMatch t.code t.text t.groups t.pos t.lim false false)) _ _ _
  refine wpAny_bind (wpAny_mono h1 (fun T s' hT => ?_) fun _ _ e => e)
  obtain ⟨rfl, rfl⟩ := hT
  show wpAny _ _ (reAnswer (tgt x t) (m0 x.cps)) _ _ _
  unfold reAnswer
  with_reducible refine wpAny_bind ?_
  have hR : ∀ Q : Option Sre.M → Shared → Prop, (∀ s1, Q (some (m6 x.cps (heads x.cps.toList) s1)) s') → wpAny (model prog w) A.in1 (reRunToEnd (m0 x.cps)) Q E s' := fun Q hq => reRun_end x.cps hz hq
  with_reducible refine hR _ ?_
  intro s1
  show wpAny _ _ (reNewMatch (.ref 36) (.str x t) 1 0 x.cps.size (m6 x.cps (heads x.cps.toList) s1) >>= fun v => ret v) _ _ _
  with_reducible refine wpAny_bind ?_
  with_reducible refine newMatch_end x t (heads x.cps.toList) s1 ?_
  unfold ret
  with_reducible refine wpAny_pure ?_
  exact ⟨_, rfl, h⟩
theorem call_group {q q0 : Addr} {x : Str} {t u : Tok} {k : Nat} {Q : Value → Shared → Prop} (hq : s.heap.get? q = some (matObj x t q0)) (hq0 : s.heap.get? q0 = some (spanObj k)) (hx : x.length ≤ 10000)
    (h : Q (.str ⟨x.cps.extract 0 k⟩ s.toks) { s with toks := s.toks + 1 }) :
    wpAny (model prog w) A (call (.builtin "re.Match.group") [.ref q, .int 1 u]) Q E s := by
  refine wpAny_call_entry slot_group ⟨_, hq, rfl⟩ entry_group ?_ (args_group _ _)
  unfold Builtin.«re.Match.group»
  dsimp only
  refine wpAny_bind (wpAny_pure ?_)
  unfold reFound
  refine wpAny_bind (wpAny_bind (wpAny_fieldsOf hq rfl ?_))
  refine wpAny_bind ?_
  show wpAny _ _ (seqItems? (.ref q0) >>= fun r => pure ((r.getD #[]).map reRawOf)) _ _ _
  refine wpAny_bind (wpAny_seqItems hq0 rfl ?_)
  refine wpAny_pure ?_
  refine wpAny_pure ?_
  refine wpAny_bind ?_
  have e : Array.map reRawOf ((some #[Value.int 0 0, Value.int (k : Int) 0, Value.int 0 0, Value.int (k : Int) 0]).getD #[]) = #[0, (k : Int), 0, (k : Int)] := by simp [reRawOf]
  rw [e]
  unfold reGroupNumber
  dsimp only
  refine wpAny_bind (wpAny_pure ?_)
  refine wpAny_yes rfl ?_
  refine wpAny_bind (wpAny_pure (a := (1 : Int)) ?_)
  refine wpAny_no (by show ¬ (false || decide (2 * (1 : Int) ≥ (4 : Nat))) = true; decide) ?_
  refine wpAny_pure ?_
  refine wpAny_bind ?_
  unfold reGroupText
  show wpAny _ _ (if (decide ((0 : Int) < 0) || decide ((k : Int) < 0)) = true then pure Value.none else
    (reTextOf (Value.str x t) >>= fun p => reSlice p.1 p.2 (0 : Int).toNat (k : Int).toNat)) _ _ _
  refine wpAny_no (by simp) ?_
  refine wpAny_bind (wpAny_pure (a := (x.cps, 0)) ?_)
  show wpAny _ _ (mkStr ⟨x.cps.extract 0 k⟩) _ _ _
  refine wpAny_mkStr ?_ ?_
  · exact wpAny_pure ⟨_, rfl, h⟩
  · have h1 : x.cps.size ≤ 10000 := hx
    show (x.cps.extract 0 k).size ≤ sizeLine
    rw [sizeLine_eq, Array.size_extract]
    omega
end
end Mine
end
-- P3
section
open PySem PySem.W PySem.Calls PyProof.Rows
namespace Mine
theorem cut_take {x : Str} {n : Nat} (h : n ≤ x.length) : lst (Txt.slice x none (some (n : Int))) = (lst x).take n := by
  have hl : x.length = x.cps.toList.length := by simp [Str.length]
  have := StrLaws.sliceText_to (x := x) (j := (n : Int)) ⟨by omega, by omega⟩
  show lst (StrLaws.sliceText x none (some (n : Int))) = (lst x).take n
  rw [this]
  have e : ((n : Int) - 0).toNat = n := by omega
  rw [e]
  simp [lst]
theorem dropWhile_nil (p : Nat → Bool) : ∀ l : List Nat, l.dropWhile p = [] ↔ ∀ c ∈ l, p c = true
  | [] => by simp
  | a :: l => by
    rw [List.dropWhile_cons]
    cases h : p a
    · simp [h]
    · simp only [if_true, List.mem_cons, forall_eq_or_imp, h, true_and]
      exact dropWhile_nil p l
theorem rdrop_nil_iff (p : Nat → Bool) (l : List Nat) : rdrop p l = [] ↔ ∀ c ∈ l, p c = true := by
  unfold rdrop
  rw [List.reverse_eq_nil_iff, dropWhile_nil]
  simp
theorem takeWhile_lt (p : Nat → Bool) : ∀ (l : List Nat) (i : Nat), i < l.length → ((∀ c ∈ l.take (i + 1), p c = true) ↔ i < (l.takeWhile p).length)
  | [], i, h => absurd h (Nat.not_lt_zero _)
  | a :: l, 0, _ => by
    cases ha : p a <;> simp [ha]
  | a :: l, i + 1, h => by
    have ih := takeWhile_lt p l i (by simpa using h)
    rw [List.take_succ_cons]
    cases ha : p a
    · simp [ha]
    · simp only [List.mem_cons, forall_eq_or_imp, ha, true_and, List.takeWhile_cons, if_true, List.length_cons]
      rw [ih]
      omega
theorem filter_lt_len (ok : Nat → Bool) (k : Nat) : ∀ n, (∀ i, i < n → ok i = decide (i < k)) → ((List.range n).filter ok).length = min n k
  | 0, _ => by simp
  | n + 1, h => by
    rw [List.range_succ, List.filter_append, List.length_append, filter_lt_len ok k n fun i hi => h i (by omega)]
    have := h n (by omega)
    by_cases hk : n < k
    · have e : ok n = true := by rw [this]; simpa using hk
      simp only [List.filter_cons, e, if_true, List.filter_nil, List.length_singleton]
      omega
    · have e : ok n = false := by rw [this]; simpa using hk
      simp only [List.filter_cons, e, List.filter_nil]
      simp
      omega
def headS (x : Str) : Str := ⟨x.cps.extract 0 (heads (lst x))⟩
theorem headS_lst (x : Str) : lst (headS x) = (lst x).takeWhile tabSp := by
  show (x.cps.extract 0 (heads (lst x))).toList = _
  rw [Array.toList_extract]
  show List.take (heads (lst x) - 0) (List.drop 0 (lst x)) = _
  rw [List.drop_zero, Nat.sub_zero]
  unfold heads
  have h : (lst x).takeWhile tabSp ++ (lst x).dropWhile tabSp = lst x := List.takeWhile_append_dropWhile
  have h5 : ((lst x).takeWhile tabSp ++ (lst x).dropWhile tabSp).take ((lst x).takeWhile tabSp).length = (lst x).takeWhile tabSp := List.take_left' rfl
  rw [h] at h5
  exact h5
theorem headS_len (x : Str) : (headS x).length ≤ x.length := by
  rw [len_lst, len_lst, headS_lst]
  exact (List.takeWhile_sublist _).length_le
def headOk (x : Str) (i : Nat) : Bool := lessS (Txt.slice x none (some ((i : Int) + 1))) (Str.ofString " \t") == Str.ofString ""
theorem blanks_lst : lst (Str.ofString " \t") = [32, 9] := by decide
theorem headOk_iff (x : Str) {i : Nat} (h : i < x.length) : headOk x i = decide (i < heads (lst x)) := by
  have hb : (fun c => (lst (Str.ofString " \t")).contains c) = tabSp := by
    funext c
    rw [blanks_lst]
    simp [tabSp]
    rfl
  have e : lst (lessS (Txt.slice x none (some ((i : Int) + 1))) (Str.ofString " \t")) = rdrop tabSp ((lst x).take (i + 1)) := by
    rw [less_lst, hb]
    have : ((i : Int) + 1) = ((i + 1 : Nat) : Int) := by omega
    rw [this, cut_take (by omega)]
  rw [Bool.eq_iff_iff, decide_eq_true_iff]
  unfold headOk
  rw [beq_iff_eq]
  unfold heads
  rw [← takeWhile_lt tabSp (lst x) i (by rw [← len_lst]; exact h), ← rdrop_nil_iff, ← e]
  constructor
  · intro h; rw [h, empty_lst]
  · intro h; exact lst_inj (by rw [h, empty_lst])
theorem head_cut (x : Str) : Txt.slice x none (some (((((List.range x.length).filter (headOk x)).map fun _ => (1 : Int)).length : Nat) : Int)) = headS x := by
  have hk : heads (lst x) ≤ x.length := by
    rw [len_lst]
    unfold heads
    exact (List.takeWhile_sublist _).length_le
  rw [List.length_map, filter_lt_len (headOk x) (heads (lst x)) x.length fun i hi => headOk_iff x hi, Nat.min_eq_right hk]
  apply lst_inj
  rw [cut_take hk, headS_lst]
  unfold heads
  have h : (lst x).takeWhile tabSp ++ (lst x).dropWhile tabSp = lst x := List.takeWhile_append_dropWhile
  have h5 : ((lst x).takeWhile tabSp ++ (lst x).dropWhile tabSp).take ((lst x).takeWhile tabSp).length = (lst x).takeWhile tabSp := List.take_left' rfl
  rw [h] at h5
  exact h5
end Mine
end
section
open PySem PySem.W
namespace Mine
theorem offTop : True := by
  w_top off
  trivial
end Mine
end
local macro_rules | `(tactic| walk_at $s:str) => `(tactic| k_extra $s)
-- B1
section
set_option maxHeartbeats 4000000
open PySem PySem.W PySem.Calls PyProof.Rows
namespace Mine
theorem fill : PySem.Challenge.rw_bd0044_01.foot = 11 → Mine.hd.heap_39 = Mine.hd.heap_39 := by
  k_fill
  intro _
  rfl
def Tells (w : World) (f : Addr) (vs : List Value) (d : Nat) (pre : Heap → List (Addr × Obj) → Prop) (Ret : Heap → Addr → (Str → Option Value) → List (Addr × Obj) → Shared → (Value → Shared → Prop) → Prop) : Prop :=
  ∀ (mean : ExcName → Option Value) (mg mb : Str → Option Value) (dp un : Nat) (gd : Option (List Code)) (cn : Str) (cs : Scope) (a : Addr) (ccd : Value) (cl : List (Str × Addr)) (outer : List Env) (A₀ : Around) (base h₀ : Heap) (L : Addr) (m : Str → Option Value) (news : List (Addr × Obj)) (s : Shared) (Q E : Value → Shared → Prop),
    Below A₀ base outer h₀ → Fr h₀ L s.heap m → (Mine.hd.heap_39 w.params).In h₀ → News h₀ L s.heap news →
    Top Mine.hd.view_39 (looseW Mine.hd.view_39 [Str.ofString "INDENT_REGEX"]) mean mg mb h₀ → cs.kind = .function → pre base news → dp + d < recursionLimit → un + 8 * d < cLine →
    Ret h₀ L m news s Q → wpAny (model PySem.Challenge.rw_bd0044_01.row.prog w) (ktrTop dp un gd cn cs L a ccd cl outer) (call (.ref f) vs) Q E s
section
variable {w : World} {f : Addr} {vs : List Value} {d : Nat} {pre : Heap → List (Addr × Obj) → Prop} {Ret : Heap → Addr → (Str → Option Value) → List (Addr × Obj) → Shared → (Value → Shared → Prop) → Prop}
variable {mean : ExcName → Option Value} {mg mb : Str → Option Value} {dp un : Nat} {gd : Option (List Code)} {cn : Str} {cs : Scope} {a : Addr} {ccd : Value} {cl : List (Str × Addr)} {outer : List Env} {A₀ : Around} {base h₀ : Heap} {L : Addr} {m : Str → Option Value} {news : List (Addr × Obj)} {s : Shared} {Q E : Value → Shared → Prop}
theorem Tells.use (C : Tells w f vs d pre Ret) (B : Below A₀ base outer h₀) (F : Fr h₀ L s.heap m) (X : (Mine.hd.heap_39 w.params).In h₀) (N : News h₀ L s.heap news)
    (T : Top Mine.hd.view_39 (looseW Mine.hd.view_39 [Str.ofString "INDENT_REGEX"]) mean mg mb h₀) (hk : cs.kind = .function) (hp : pre base news) (hd : dp + d < recursionLimit) (hu : un + 8 * d < cLine)
    (hr : Ret h₀ L m news s Q) : wpAny (model PySem.Challenge.rw_bd0044_01.row.prog w) (ktrTop dp un gd cn cs L a ccd cl outer) (call (.ref f) vs) Q E s :=
  C _ _ _ _ _ _ _ _ _ _ _ _ _ _ _ _ _ _ _ _ _ B F X N T hk hp hd hu hr
end
def RetStr (r : Str) (n : Nat) (h₀ : Heap) (L : Addr) (m : Str → Option Value) (news : List (Addr × Obj)) (s : Shared) (Q : Value → Shared → Prop) : Prop :=
  ∀ (t : Tok) (h' : Heap) (tk' : Nat), r.length ≤ n → Fr h₀ L h' m → News h₀ L h' news → Q (.str r t) { s with heap := h', toks := tk' }
def RetInt (r : Int) (h₀ : Heap) (L : Addr) (m : Str → Option Value) (news : List (Addr × Obj)) (s : Shared) (Q : Value → Shared → Prop) : Prop :=
  ∀ (t : Tok) (h' : Heap) (tk' : Nat), Fr h₀ L h' m → News h₀ L h' news → Q (.int r t) { s with heap := h', toks := tk' }
abbrev tupOf (i : Int) (ti : Tok) (z : Str) (tz : Tok) : Obj := { cls := .type "tuple", data := .seq #[.int i ti, .str z tz] }
def RetTup (r : Option (Int × Str)) (h₀ : Heap) (L : Addr) (m : Str → Option Value) (news : List (Addr × Obj)) (s : Shared) (Q : Value → Shared → Prop) : Prop :=
  (r = none → ∀ (h' : Heap) (tk' : Nat), Fr h₀ L h' m → News h₀ L h' news → Q .none { s with heap := h', toks := tk' }) ∧
  (∀ i z, r = some (i, z) → ∀ (q : Addr) (ti tz : Tok) (h' : Heap) (tk' : Nat), Fr h₀ L h' m → News h₀ L h' ((q, tupOf i ti z tz) :: news) → (∀ p ∈ news, p.1 < q) → Q (.ref q) { s with heap := h', toks := tk' })
section
variable {h₀ h' : Heap} {L : Addr} {m : Str → Option Value} {news news' : List (Addr × Obj)} {s : Shared} {Q : Value → Shared → Prop} {t : Tok} {tk' : Nat}
theorem news_sub (N : News h₀ L h' news') (hs : ∀ p ∈ news, p ∈ news') : News h₀ L h' news := fun p hp => N p (hs p hp)
theorem ret_str {r z : Str} {n : Nat} (hret : RetStr r n h₀ L m news s Q) (e : z = r) (hn : r.length ≤ n) (F : Fr h₀ L h' m) (N : News h₀ L h' news') (hs : ∀ p ∈ news, p ∈ news') : Q (.str z t) { s with heap := h', toks := tk' } := by
  subst e
  exact hret t h' tk' hn F (news_sub N hs)
theorem ret_int {r z : Int} (hret : RetInt r h₀ L m news s Q) (e : z = r) (F : Fr h₀ L h' m) (N : News h₀ L h' news') (hs : ∀ p ∈ news, p ∈ news') : Q (.int z t) { s with heap := h', toks := tk' } := by
  subst e
  exact hret t h' tk' F (news_sub N hs)
theorem ret_none {r : Option (Int × Str)} (hret : RetTup r h₀ L m news s Q) (e : r = none) (F : Fr h₀ L h' m) (N : News h₀ L h' news') (hs : ∀ p ∈ news, p ∈ news') : Q .none { s with heap := h', toks := tk' } :=
  hret.1 e h' tk' F (news_sub N hs)
theorem ret_tup {r : Option (Int × Str)} {q : Addr} {i : Int} {z : Str} {ti tz : Tok} (hret : RetTup r h₀ L m news s Q) (e : r = some (i, z)) (F : Fr h₀ L h' m) (N : News h₀ L h' ((q, tupOf i ti z tz) :: news'))
    (hs : ∀ p ∈ news, p ∈ news') (hl : ∀ p ∈ news, p.1 < q) : Q (.ref q) { s with heap := h', toks := tk' } :=
  hret.2 i z e q ti tz h' tk' F (fun p hp => N p ((List.mem_cons.mp hp).elim (fun h => h ▸ .head _) fun h => .tail _ (hs p h))) hl
end
theorem less_le (x y : Str) : (lessS x y).length ≤ x.length := len_rstripChars x y
theorem less_state {x y z : Str} (h1 : z.length ≤ 10000) (h2 : lessS z y = lessS x y) (h3 : (z != Str.ofString "") = true) (h4 : (Builtin.Str.occurrences y (Txt.item z (-1)) 0 y.length 1).isEmpty = false) :
    (Txt.slice z none (some (-1))).length ≤ 10000 ∧ lessS (Txt.slice z none (some (-1))) y = lessS x y :=
  ⟨Nat.le_trans (Nat.le_of_lt (less_len h3)) h1, (less_go h3 h4).trans h2⟩
theorem less_tells (w : World) (x y : Str) (t u : Tok) (hx : x.length ≤ 10000) (hy : y.length ≤ 10000) : Tells w 113 [.str x t, .str y u] 1 (fun _ _ => True) (RetStr (lessS x y) x.length) := by
  unfold Tells
  intro mean mg mb dp un gd cn cs a ccd cl outer A₀ base h₀ L m news s Q E B F X N T hk hpre hd hu hret
  k_with_none
  k_with "exec" => k_while (fun (_ : List Int) (z : Str) => z.length ≤ 10000 ∧ lessS z y = lessS x y) (fun (_ : List Int) (z : Str) => z.length) "line"
  k_with "state" => exact less_state (by assumption) (by assumption) (by assumption) (by assumption)
  k_with "measure" => exact less_len (by assumption)
  refine wpAny_call ?_
  k_dflt cell_enter
  k_steps
  · exact ret_str hret ((less_stop1 (by assumption) (by assumption)).symm.trans (by assumption)) (less_le x y) (by assumption) (by assumption) (fun _ h => h)
  · exact ret_str hret ((less_stop0 (by assumption)).symm.trans (by assumption)) (less_le x y) (by assumption) (by assumption) (fun _ h => h)
end Mine
end
-- B2
section
set_option maxHeartbeats 4000000
open PySem PySem.W PySem.Calls PyProof.Rows
namespace Mine
section
variable {prog : Program} {w : World} {A : Around} {E : Value → Shared → Prop} {s : Shared} {K : Frag} {L : Addr} {h₀ : Heap} {m : Str → Option Value} {news : List (Addr × Obj)}
theorem pat_method {pl : Sem Bool} {Q : Value × List Value → Shared → Prop} (F : Fr h₀ L s.heap m) (X : K.In h₀) (e : K.lookup 36 = some patObj) (h : Q (.builtin "re.Pattern.match", [.ref 36]) s) :
    wpAny (model prog w) A (getMethod (.ref 36) "match" pl) Q E s :=
  getMethod_builtin ⟨_, F.keep _ _ (X _ _ e), rfl⟩ plainAttrs_pat slot_match type_match (fun a h => by cases h; exact ⟨_, F.keep _ _ (X _ _ e), rfl⟩) h
theorem match_K {x : Str} {t : Tok} {Q : Value → Shared → Prop} (F : Fr h₀ L s.heap m) (N : News h₀ L s.heap news) (X : K.In h₀) (e36 : K.lookup 36 = some patObj) (e35 : K.lookup 35 = some codeObj) (hx : x.length ≤ 10000)
    (h : ∀ q q0 h', Fr h₀ L h' m → News h₀ L h' ((q, matObj x t q0) :: (q0, spanObj (heads (lst x))) :: news) → (∀ p ∈ news, p.1 < q0) → q0 < q → Q (.ref q) { s with heap := h' }) :
    wpAny (model prog w) A (call (.builtin "re.Pattern.match") [.ref 36, .str x t]) Q E s := by
  refine call_match (F.keep _ _ (X _ _ e36)) (F.keep _ _ (X _ _ e35)) hx ?_
  have F1 := F.push (o := spanObj (heads (lst x)))
  have N1 := N.push F (spanObj (heads (lst x)))
  have F2 := F1.push (o := matObj x t s.heap.objs.size)
  have N2 := N1.push F1 (matObj x t s.heap.objs.size)
  rw [Heap.size_push] at N2
  exact h _ _ _ F2 N2 (fun p hp => Heap.lt_size (N p hp).1) (Nat.lt_succ_self _)
theorem mat_method {q q0 : Addr} {x : Str} {t : Tok} {pl : Sem Bool} {Q : Value × List Value → Shared → Prop} (N : News h₀ L s.heap news) (hq : (q, matObj x t q0) ∈ news) (h : Q (.builtin "re.Match.group", [.ref q]) s) :
    wpAny (model prog w) A (getMethod (.ref q) "group" pl) Q E s :=
  getMethod_builtin ⟨_, (N _ hq).1, rfl⟩ plainAttrs_mat slot_group type_group (fun a h => by cases h; exact ⟨_, (N _ hq).1, rfl⟩) h
theorem group_K {q q0 : Addr} {x : Str} {t u : Tok} {Q : Value → Shared → Prop} (N : News h₀ L s.heap news) (hq : (q, matObj x t q0) ∈ news) (hq0 : (q0, spanObj (heads (lst x))) ∈ news) (hx : x.length ≤ 10000)
    (h : (headS x).length ≤ x.length → Q (.str (headS x) s.toks) { s with toks := s.toks + 1 }) :
    wpAny (model prog w) A (call (.builtin "re.Match.group") [.ref q, .int 1 u]) Q E s :=
  call_group (N _ hq).1 (N _ hq0).1 hx (h (headS_len x))
end
end Mine
end
-- C1
section
set_option maxHeartbeats 4000000
open PySem PySem.W PySem.Calls PyProof.Rows
namespace Mine
def MEl (news : List (Addr × Obj)) (b : Bool) (R : Value → Prop) (y : Value) (news' : List (Addr × Obj)) : Prop := news' = news ∧ b = true ∧ R y
def MNo (news : List (Addr × Obj)) (b : Bool) (news' : List (Addr × Obj)) : Prop := news' = news ∧ b = false
def IsI (r : Int) (y : Value) : Prop := ∃ t : Tok, y = .int r t
def IsS (r : Str) (y : Value) : Prop := ∃ t : Tok, y = .str r t
section
variable {prog : Program} {w : World} {A : Around} {h₀ : Heap} {L : Addr} {m : Str → Option Value} {env : Env} {ct elt : Expr} {x : Str} {scope : Scope} {cl : List (Str × Addr)} {s : Shared} {S : List (Addr × Obj) → Prop} {P : Nat → Value → Prop} {Fin : List Value → List (Addr × Obj) → Prop} {news : List (Addr × Obj)}
theorem comp_end {I C D : Addr} {s₁ : Shared} {oI oC oD : Obj} {rest : Value → List (Addr × Obj) → Prop} {y : Value} {h' : Heap} {tk : Nat}
    (F : Fr h₀ L h' m) (N : News h₀ L h' ((I, oI) :: (C, oC) :: (D, oD) :: news)) (off : LCg.Off3 I C D news) (hS : S news) (r : rest y news) :
    LCg.CompEnd h₀ L m s₁ I oI C oC D oD S rest y { s₁ with heap := h', toks := tk } := LCg.CompEnd.intro F N news (fun _ h => h) off hS r
theorem comp_T {n : Nat} {Al : List Value → List Nat → Prop} (ok : Nat → Bool) (R : Nat → Value → Prop) (al0 : Al [] []) (al1 : ∀ ys l i y, Al ys l → R i y → Al (ys ++ [y]) (l ++ [i])) (alen : ∀ ys l, Al ys l → ys.length = l.length)
    (turn : ∀ (i : Nat) v I oI C oC D m₂ ys h tk (E' : Value → Shared → Prop), i < n → P i v → LCg.NsObj oC m₂ → m₂ x = some v → Fr h₀ L h m → News h₀ L h ((I, oI) :: (C, oC) :: (D, LCg.lst ys) :: news) → LCg.Off3 I C D news → ((@Ne Nat I C) ∧ (@Ne Nat I D) ∧ (@Ne Nat C D)) →
      wpAny (model prog w) A (isTrue ct (compEnvC scope cl C env) (eval ct (compEnvC scope cl C env))) (fun b s' => if b = true then
        wpAny (model prog w) A (eval elt (compEnvC scope cl C env)) (LCg.CompEnd h₀ L m { s with heap := h, toks := tk } I oI C oC D (LCg.lst ys) S (fun y news' => MEl news (ok i) (R i) y news')) E' s'
        else LCg.CompEnd h₀ L m { s with heap := h, toks := tk } I oI C oC D (LCg.lst ys) S (fun _ news' => MNo news (ok i) news') Value.none s') E' { s with heap := h, toks := tk })
    (fin : ∀ ys, Al ys ((List.range n).filter ok) → ys.length ≤ n → Fin ys news) : LCt.CompRestT prog w A h₀ L m env ct elt x scope cl s S P Fin n 0 [] news := by
  have key : ∀ (j i : Nat) (ys : List Value), i + j = n → Al ys ((List.range i).filter ok) → LCt.CompRestT prog w A h₀ L m env ct elt x scope cl s S P Fin j i ys news := by
    intro j
    induction j with
    | zero =>
      intro i ys hi hy
      obtain rfl : i = n := by omega
      refine LCt.CompRestT.zero (fin ys hy ?_)
      rw [alen _ _ hy]
      have := List.length_filter_le ok (List.range i)
      rw [List.length_range] at this
      exact this
    | succ j ih =>
      intro i ys hi hy
      refine LCt.CompRestT.succ ?_
      intro v I oI C oC D m₂ h tk E' hv hC hx F N off ne
      refine wpAny_mono (turn i v I oI C oC D m₂ ys h tk E' (by omega) hv hC hx F N off ne) (fun b s₂ hq => ?_) fun _ _ e => e
      cases b with
      | true =>
        simp only [if_true] at hq ⊢
        refine wpAny_mono hq (fun y s₃ hr => ?_) fun _ _ e => e
        obtain ⟨h', tk', nw, e, F', N', off', hS, hn, hok, hR⟩ := hr
        rw [hn] at N' off' hS
        refine ⟨h', tk', news, e, F', N', off', hS, ?_⟩
        refine ih (i + 1) _ (by omega) ?_
        rw [List.range_succ, List.filter_append]
        have hf : [i].filter ok = [i] := by simp [hok]
        rw [hf]
        exact al1 _ _ _ _ hy hR
      | false =>
        simp only [Bool.false_eq_true, if_false] at hq ⊢
        obtain ⟨h', tk', nw, e, F', N', off', hS, hn, hok⟩ := hq
        rw [hn] at N' off' hS
        refine ⟨h', tk', news, e, F', N', off', hS, ih (i + 1) _ (by omega) ?_⟩
        rw [List.range_succ, List.filter_append]
        have hf : [i].filter ok = [] := by simp [hok]
        rw [hf, List.append_nil]
        exact hy
  exact key n 0 [] (by omega) al0
/-- range, a test, ints -/
theorem comp_ri {n n' : Nat} (hn : n' = n) (ok : Nat → Bool) (g : Nat → Int)
    (turn : ∀ (i : Nat) t I oI C oC D m₂ ys h tk (E' : Value → Shared → Prop), i < n → LCg.NsObj oC m₂ → m₂ x = some (.int i t) → Fr h₀ L h m → News h₀ L h ((I, oI) :: (C, oC) :: (D, LCg.lst ys) :: news) → LCg.Off3 I C D news → ((@Ne Nat I C) ∧ (@Ne Nat I D) ∧ (@Ne Nat C D)) →
      wpAny (model prog w) A (isTrue ct (compEnvC scope cl C env) (eval ct (compEnvC scope cl C env))) (fun b s' => if b = true then
        wpAny (model prog w) A (eval elt (compEnvC scope cl C env)) (LCg.CompEnd h₀ L m { s with heap := h, toks := tk } I oI C oC D (LCg.lst ys) S (fun y news' => MEl news (ok i) (IsI (g i)) y news')) E' s'
        else LCg.CompEnd h₀ L m { s with heap := h, toks := tk } I oI C oC D (LCg.lst ys) S (fun _ news' => MNo news (ok i) news') Value.none s') E' { s with heap := h, toks := tk })
    (fin : ∀ ys, IntsAre ys (((List.range n).filter ok).map g) → ys.length ≤ n → Fin ys news) : LCt.CompRestT prog w A h₀ L m env ct elt x scope cl s S (fun i v => ∃ t, v = .int ((0 : Int) + (i : Int)) t) Fin n' 0 [] news := by
  subst hn
  refine comp_T (Al := fun ys l => IntsAre ys (l.map g)) ok (fun i => IsI (g i)) .nil ?_ ?_ ?_ fin
  · rintro ys l i y hy ⟨t, rfl⟩
    rw [List.map_append]
    exact IntsAre.append hy (.cons (g i) t .nil)
  · intro ys l h
    rw [h.length, List.length_map]
  · rintro i v I oI C oC D m₂ ys h tk E' hi ⟨t, rfl⟩ hC hx F N off ne
    rw [Int.zero_add] at hx
    exact turn i t I oI C oC D m₂ ys h tk E' hi hC hx F N off ne
end
section
variable {prog : Program} {w : World} {A : Around} {E : Value → Shared → Prop} {h₀ : Heap} {L : Addr} {s : Shared} {news : List (Addr × Obj)} {D : Addr} {ys : List Value} {n : Nat}
theorem len_any {k : Nat} {Q : Value → Shared → Prop} (N : News h₀ L s.heap news) (hD : (D, ({ cls := .type "list", data := .seq ys.toArray n } : Obj)) ∈ news) (hk : ys.length = k) (hz : k ≤ 100000) (h : Q (.int k (s.toks + 1)) { s with toks := s.toks + 1 + 1 }) :
    wpAny (model prog w) A (call (.builtin "len") [.ref D]) Q E s := by
  have e : ys.toArray.size = k := by simp [hk]
  refine len_list (items := ys.toArray) ⟨_, (N _ hD).1, rfl, _, rfl⟩ (by omega) ?_
  rw [e]
  exact h
end
end Mine
end
-- D118
section
set_option maxHeartbeats 4000000
open PySem PySem.W PySem.Calls PyProof.Rows
namespace Mine
section
theorem tells_head (w : World) (x : Str) (t : Tok) (hx : x.length ≤ 10000) : Tells w 118 [.str x t] 2 (fun _ _ => True) (RetStr (headS x) x.length) := by
  unfold Tells
  intro mean mg mb dp un gd cn cs a ccd cl outer A₀ base h₀ L m news s Q E B F X N T hk hpre hd hu hret
  k_with_none
  k_with "call ref" => ((k_here; (with_reducible show wpAny _ _ (call (Value.ref 113) [Value.str _ _, Value.str _ _]) _ _ _); k_dflt (refine' Tells.use (less_tells _ _ _ _ _ ?z1x1 ?z2x1) ?k1x1 ?k2x1 ?k3x1 ?k4x1 ?k5x1 ?kKx1 ?kPx1 ?kdx1 ?kux1 ?_; (case z1x1 => omega); (case z2x1 => first | decide | omega); (case k1x1 => k_asm); (case k2x1 => k_asm); (case k3x1 => k_asm); (case k4x1 => k_asm); (case k5x1 => k_asm); (case kKx1 => first | exact rfl | assumption); (case kPx1 => exact True.intro); (case kdx1 => ktr_room); (case kux1 => ktr_units)); intro t9w1 h9w1 tk9w1 hl9w1 F9w1 N9w1; (try dsimp only); (try k_fold)))
  k_with "CompSrcT" => (k_extra "my comp")
  k_with "CompEnd" => ((refine comp_end (by k_asm) (by k_asm) (by assumption) (by lcg_src) ?_; try dsimp only))
  k_with "MEl" => ((refine ⟨rfl, ?_, ⟨_, rfl⟩⟩; assumption))
  k_with "MNo" => ((refine ⟨rfl, ?_⟩; assumption))
  k_with "call builtin:len" => ((k_here; (with_reducible show wpAny _ _ (call (Value.builtin "len") [Value.ref _]) _ _ _); k_dflt (refine' len_any ?Nx6 ?mx6 ?ex6 ?zx6 ?_; (case Nx6 => k_asm); (case mx6 => k_mem); (case ex6 => exact IntsAre.length (by assumption)); (case zx6 => (rw [← IntsAre.length (by assumption)]; omega)))))
  k_with "my comp" =>
    k_dflt (refine LCt.CompSrcT.range (by rfl) (by k_asm) (by k_asm) (by assumption) (small_one (by omega) (by omega) (by omega) (by omega)) (by exact rangeSize_nat _ _) (by rw [sizeLine_eq]; omega) ?_)
    intro g9
    refine' comp_ri (n := x.length) (by omega) (headOk x) (fun _ => 1) (fun i9 t9 I9 oI9 C9 oC9 D9 m9 ys9 h9 tk9 E9 hi9 hC9 hx9 F9 N9 off9 ne9 => ?_) (fun ys9 hI9 hl9 => ?_)
    all_goals (try k_fold)
  refine wpAny_call ?_
  k_dflt (refine' code_defC ?k1 ?k2 ?k3 ?k4 ?k5 ?kA ?kF ?kK ?k6 ?k7 ?k8 ?k9 ?kB ?kD ?_ ?c2 ?c3 ?c4; (case kA => exact rfl); (case kF => exact rfl); (case kK => assumption); (case k1 => k_asm); (case k2 => k_asm); (case k3 => k_asm); (case k4 => k_asm); (case k5 => k_asm); (case k6 => k_is); (case k7 => k_is); (case k8 => ktr_room); (case k9 => exact BindsTo.of_eq rfl); (case kB => exact rfl); (case kD => decide +kernel); (case c2 => exact rfl); (case c3 => exact rfl); (case c4 => exact rfl); k_whole; intro g' L' h' tk' cells' FG' F' N' Y' B' X' T' l1; k_cells Y'; (try simp only [List.cons_append, List.nil_append] at N'); (try dsimp only); (try k_lift B'); (try k_fold))
  k_steps
  exact ret_str hret (head_cut x) (headS_len x) (by k_asm) (by k_asm) (by intro p hp; exact .tail _ (.tail _ hp))
end
end Mine
end
-- D50
section
set_option maxHeartbeats 4000000
open PySem PySem.W PySem.Calls PyProof.Rows
namespace Mine
section
def w191 (x : Str) : Option (Int × Str) := if (Builtin.Str.occurrences (headS x) (Str.ofString "\t") 0 (headS x).length 1).isEmpty = true then none else some (Txt.find (headS x) (Str.ofString "\t"), Str.ofString "W191 indentation contains tabs")
theorem tells_tabs_obsolete (w : World) (x : Str) (t : Tok) (hx : x.length ≤ 10000) : Tells w 50 [.str x t] 1 (fun _ _ => True) (RetTup (w191 x)) := by
  unfold Tells
  intro mean mg mb dp un gd cn cs a ccd cl outer A₀ base h₀ L m news s Q E B F X N T hk hpre hd hu hret
  k_with_none
  k_with "getMethod ref" => ((k_here; (with_reducible show wpAny _ _ (getMethod (Value.ref 36) (PySem.Str.ofString "match") _) _ _ _); k_dflt (refine' Mine.pat_method ?Fx7 ?Xx7 ?ex7 ?_; (case Fx7 => k_asm); (case Xx7 => k_asm); (case ex7 => k_is))))
  k_with "getMethod ref" => ((k_here; (with_reducible show wpAny _ _ (getMethod (Value.ref _) (PySem.Str.ofString "group") _) _ _ _); k_dflt (refine' Mine.mat_method ?Nx8 ?mx8 ?_; (case Nx8 => k_asm); (case mx8 => k_mem))))
  k_with "call builtin:re.Pattern.match" => ((k_here; k_dflt (refine' Mine.match_K ?Fx9 ?Nx9 ?Xx9 ?ex9 ?e2x9 ?zx9 ?_; (case Fx9 => k_asm); (case Nx9 => k_asm); (case Xx9 => k_asm); (case ex9 => k_is); (case e2x9 => k_is); (case zx9 => omega)); intro qw9 q0w9 hw9 Fw9 Nw9 l1w9 l2w9; (try k_lt l1w9); (try k_lt2 l2w9); (try k_sweep)))
  k_with "call builtin:re.Match.group" => ((k_here; k_dflt (refine' Mine.group_K ?Nx10 ?qx10 ?q0x10 ?zx10 ?_; (case Nx10 => k_asm); (case qx10 => k_mem); (case q0x10 => k_mem); (case zx10 => omega)); intro hzw10))
  refine wpAny_call ?_
  k_dflt cell_enter
  k_steps
  · refine ret_none hret ?_ (by k_asm) (by k_asm) (fun p hp => .tail _ (.tail _ hp))
    unfold w191
    rw [if_pos (by assumption)]
  · simp_all
  · refine ret_tup hret ?_ (by k_asm) (by k_asm) (fun p hp => .tail _ (.tail _ hp)) ?_
    · unfold w191
      rw [if_neg (by simp_all)]
    · rename _ ∧ _ ∧ AllLt _ news => hl
      exact ktn_ltOf hl.2.2
def e101 (x y : Str) : Option (Int × Str) := ((signs (headS x)).zipIdx.find? fun p => p.1 != y).map fun p => ((p.2 : Int), Str.ofString "E101 indentation contains mixed spaces and tabs")
theorem tells_tabs_or_spaces (w : World) (x y : Str) (t u : Tok) (hx : x.length ≤ 10000) (hy : y.length = 1) : Tells w 43 [.str x t, .str y u] 1 (fun _ _ => True) (RetTup (e101 x y)) := by
  unfold Tells
  intro mean mg mb dp un gd cn cs a ccd cl outer A₀ base h₀ L m news s Q E B F X N T hk hpre hd hu hret
  k_with_none
  k_with "getMethod ref" => ((k_here; (with_reducible show wpAny _ _ (getMethod (Value.ref 36) (PySem.Str.ofString "match") _) _ _ _); k_dflt (refine' Mine.pat_method ?Fx11 ?Xx11 ?ex11 ?_; (case Fx11 => k_asm); (case Xx11 => k_asm); (case ex11 => k_is))))
  k_with "getMethod ref" => ((k_here; (with_reducible show wpAny _ _ (getMethod (Value.ref _) (PySem.Str.ofString "group") _) _ _ _); k_dflt (refine' Mine.mat_method ?Nx12 ?mx12 ?_; (case Nx12 => k_asm); (case mx12 => k_mem))))
  k_with "call builtin:re.Pattern.match" => ((k_here; k_dflt (refine' Mine.match_K ?Fx13 ?Nx13 ?Xx13 ?ex13 ?e2x13 ?zx13 ?_; (case Fx13 => k_asm); (case Nx13 => k_asm); (case Xx13 => k_asm); (case ex13 => k_is); (case e2x13 => k_is); (case zx13 => omega)); intro qw13 q0w13 hw13 Fw13 Nw13 l1w13 l2w13; (try k_lt l1w13); (try k_lt2 l2w13); (try k_sweep)))
  k_with "call builtin:re.Match.group" => ((k_here; k_dflt (refine' Mine.group_K ?Nx14 ?qx14 ?q0x14 ?zx14 ?_; (case Nx14 => k_asm); (case qx14 => k_mem); (case q0x14 => k_mem); (case zx14 => omega)); intro hzw14))
  refine wpAny_call ?_
  k_dflt cell_enter
  k_steps
  · refine ret_tup hret ?_ (by k_asm) (by k_asm) (fun p hp => List.mem_append.mpr (.inr (.tail _ (.tail _ hp)))) ?_
    · unfold e101
      rename List.find? _ _ = some _ => hf
      rw [hf]
      rfl
    · rename ∀ p, p ∈ _ ++ _ → _ => hl
      exact fun p hp => hl p (List.mem_append.mpr (.inr (.tail _ (.tail _ hp))))
  · refine ret_none hret ?_ (by k_asm) (by k_asm) (fun p hp => .tail _ (.tail _ hp))
    unfold e101
    rename ∀ p, p ∈ List.zipIdx _ _ → _ => hf
    rw [List.find?_eq_none.mpr fun p hp => by rw [hf p hp]; exact Bool.false_ne_true]
    rfl
end
end Mine
end
-- D57
section
set_option maxHeartbeats 4000000
open PySem PySem.W PySem.Calls PyProof.Rows
namespace Mine
def behindR (x : Str) : Option (Int × Str) :=
  if (lessS x (Str.ofString "\n\x0d\x0c") != lessS (lessS x (Str.ofString "\n\x0d\x0c")) (Str.ofString " \t\x0b")) = true then
    (if ((lessS (lessS x (Str.ofString "\n\x0d\x0c")) (Str.ofString " \t\x0b")).length : Int) ≠ 0 then some (((lessS (lessS x (Str.ofString "\n\x0d\x0c")) (Str.ofString " \t\x0b")).length : Int), Str.ofString "W291 trailing whitespace")
     else some (0, Str.ofString "W293 blank line contains whitespace"))
  else none
theorem behindR1 {x : Str} (h1 : (Txt.rstripChars x (Str.ofString "\n\x0d\x0c") != Txt.rstripChars (Txt.rstripChars x (Str.ofString "\n\x0d\x0c")) (Str.ofString " \t\x0b")) = true)
    (h2 : ((Txt.rstripChars (Txt.rstripChars x (Str.ofString "\n\x0d\x0c")) (Str.ofString " \t\x0b")).length : Int) ≠ 0) :
    behindR x = some (((Txt.rstripChars (Txt.rstripChars x (Str.ofString "\n\x0d\x0c")) (Str.ofString " \t\x0b")).length : Int), Str.ofString "W291 trailing whitespace") := by
  unfold behindR lessS
  rw [if_pos h1, if_pos h2]
theorem behindR2 {x : Str} (h1 : (Txt.rstripChars x (Str.ofString "\n\x0d\x0c") != Txt.rstripChars (Txt.rstripChars x (Str.ofString "\n\x0d\x0c")) (Str.ofString " \t\x0b")) = true)
    (h2 : ((Txt.rstripChars (Txt.rstripChars x (Str.ofString "\n\x0d\x0c")) (Str.ofString " \t\x0b")).length : Int) = 0) :
    behindR x = some (0, Str.ofString "W293 blank line contains whitespace") := by
  unfold behindR lessS
  rw [if_pos h1, if_neg (by simpa using h2)]
theorem behindR3 {x : Str} (h1 : (Txt.rstripChars x (Str.ofString "\n\x0d\x0c") != Txt.rstripChars (Txt.rstripChars x (Str.ofString "\n\x0d\x0c")) (Str.ofString " \t\x0b")) = false) :
    behindR x = none := by
  unfold behindR lessS
  rw [if_neg (by rw [h1]; exact Bool.false_ne_true)]
theorem tells_trailing_whitespace (w : World) (x : Str) (t : Tok) (hx : x.length ≤ 10000) : Tells w 57 [.str x t] 1 (fun _ _ => True) (RetTup (behindR x)) := by
  unfold Tells
  intro mean mg mb dp un gd cn cs a ccd cl outer A₀ base h₀ L m news s Q E B F X N T hk hpre hd hu hret
  k_with_none
  refine wpAny_call ?_
  k_dflt cell_enter
  k_steps
  · exact ret_tup hret (behindR1 (by assumption) (by assumption)) (by k_asm) (by k_asm) (fun p hp => hp) (by assumption)
  · exact ret_tup hret (behindR2 (by assumption) (by assumption)) (by k_asm) (by k_asm) (fun p hp => hp) (by assumption)
  · exact ret_none hret (behindR3 (by assumption)) (by k_asm) (by k_asm) (fun p hp => hp)
def lastR (x : Str) (i n : Int) : Option (Int × Str) :=
  if i = n then
    (if (x.length : Int) ≠ 0 ∧ ((lessS x (Str.ofString "\x0d\n")).length : Int) = 0 then some (0, Str.ofString "W391 blank line at end of file")
     else if (lessS x (Str.ofString "\x0d\n") == x) = true then some ((x.length : Int), Str.ofString "W292 no newline at end of file") else none)
  else none
section
variable {prog : Program} {w : World} {A : Around} {E : Value → Shared → Prop} {h₀ : Heap} {L : Addr} {s : Shared} {news : List (Addr × Obj)} {l : Addr} {ys : List Value} {k : Nat}
theorem last_item {value slice : Expr} {v : Value} {u : Tok} {Q : Value → Shared → Prop} (N : News h₀ L s.heap news) (hm : (l, ({ cls := .type "list", data := .seq (ys ++ [v]).toArray k } : Obj)) ∈ news) (hz : ys.length ≤ 100000) (h : Q v s)
    (hs : subscripted slice false (.ref l) (.int (-1) u) = operate [.ref l, .int (-1) u] (getItem (.ref l) (.int (-1) u)) := by with_unfolding_all rfl) (hg : ∀ r, letTemporaryGo value (.ref l) r = pure () := by intro _; with_unfolding_all rfl) :
    wpAny (model prog w) A (subscriptTail value slice (.ref l) (.int (-1) u)) Q E s := by
  have hl : s.heap.IsList l (ys ++ [v]).toArray := ⟨_, (N _ hm).1, rfl, _, rfl⟩
  have e : ((-1 : Int) + ((ys ++ [v]).toArray.size : Int)).toNat = ys.length := by simp; omega
  refine subscriptTail_builtin hl.typeIs slot_list_getitem.lookup (wpAny_getItem_list_neg hl (by decide) (by simp; omega) (by decide) ?_ h) hs hg
  rw [e]
  simp
end
section
theorem lastR0 {x : Str} {i n : Int} (h : i ≠ n) : lastR x i n = none := by unfold lastR; rw [if_neg h]
theorem lastR1 {x : Str} {i n : Int} (h : i = n) (h1 : (x.length : Int) ≠ 0) (h2 : ((Txt.rstripChars x (Str.ofString "\x0d\n")).length : Int) = 0) : lastR x i n = some (0, Str.ofString "W391 blank line at end of file") := by
  unfold lastR lessS; rw [if_pos h, if_pos ⟨h1, h2⟩]
theorem lastR2 {x : Str} {i n : Int} (h : i = n) (h1 : (x.length : Int) = 0 ∨ ((Txt.rstripChars x (Str.ofString "\x0d\n")).length : Int) ≠ 0) (h2 : (Txt.rstripChars x (Str.ofString "\x0d\n") == x) = true) : lastR x i n = some ((x.length : Int), Str.ofString "W292 no newline at end of file") := by
  unfold lastR lessS; rw [if_pos h, if_neg (fun c => h1.elim c.1 fun q => q c.2), if_pos h2]
theorem lastR3 {x : Str} {i n : Int} (h : i = n) (h1 : (x.length : Int) = 0 ∨ ((Txt.rstripChars x (Str.ofString "\x0d\n")).length : Int) ≠ 0) (h2 : (Txt.rstripChars x (Str.ofString "\x0d\n") == x) = false) : lastR x i n = none := by
  unfold lastR lessS; rw [if_pos h, if_neg (fun c => h1.elim c.1 fun q => q c.2), if_neg (by rw [h2]; exact Bool.false_ne_true)]
theorem tells_trailing_blank (w : World) (x : Str) (t : Tok) (hx : x.length ≤ 10000) (l : Addr) (i n : Int) (ti tn : Tok) :
    Tells w 64 [.str x t, .ref l, .int i ti, .int n tn] 1 (fun _ news => i = n → ∃ (ys : List Value) (t' : Tok) (k : Nat), ys.length ≤ 100000 ∧ (l, ({ cls := .type "list", data := .seq (ys ++ [Value.str x t']).toArray k } : Obj)) ∈ news) (RetTup (lastR x i n)) := by
  unfold Tells
  intro mean mg mb dp un gd cn cs a ccd cl outer A₀ base h₀ L m news s Q E B F X N T hk hpre hd hu hret
  k_with_none
  k_with "subscriptTail" => ((k_here; k_dflt (refine' last_item ?Nx15 ?mx15 ?zx15 ?_; (case Nx15 => k_asm); (case mx15 => (rename (_ = _ → _ ∧ _) => hq'; exact (hq' (by assumption)).2)); (case zx15 => (rename (_ = _ → _ ∧ _) => hq'; exact (hq' (by assumption)).1)))))
  obtain ⟨ys, t', k, hq⟩ : ∃ (ys : List Value) (t' : Tok) (k : Nat), (i = n → ys.length ≤ 100000 ∧ (l, ({ cls := .type "list", data := .seq (ys ++ [Value.str x t']).toArray k } : Obj)) ∈ news) := by
    by_cases hin : i = n
    · obtain ⟨ys, t', k, h⟩ := hpre hin
      exact ⟨ys, t', k, fun _ => h⟩
    · exact ⟨[], 0, 0, fun h => absurd h hin⟩
  refine wpAny_call ?_
  k_dflt cell_enter
  k_steps
  all_goals first
    | exact ret_tup hret (lastR1 (by assumption) (by assumption) (by assumption)) (by k_asm) (by k_asm) (fun p hp => hp) (by assumption)
    | exact ret_tup hret (lastR2 (by assumption) (by first | exact .inl (by assumption) | exact .inr (by assumption)) (by assumption)) (by k_asm) (by k_asm) (fun p hp => hp) (by assumption)
    | exact ret_none hret (lastR3 (by assumption) (by first | exact .inl (by assumption) | exact .inr (by assumption)) (by assumption)) (by k_asm) (by k_asm) (fun p hp => hp)
    | exact ret_none hret (lastR0 (by assumption)) (by k_asm) (by k_asm) (fun p hp => hp)
end
end Mine
end
-- D125
section
set_option maxHeartbeats 4000000
open PySem PySem.W PySem.Calls PyProof.Rows
namespace Mine
section
theorem len_zero {x : Str} : (x != Str.ofString "") = true ↔ (x.length : Int) ≠ 0 := by
  rw [ne_empty, len_lst]
  constructor
  · intro h e
    exact h (List.eq_nil_of_length_eq_zero (by omega))
  · intro h e
    exact h (by rw [e]; rfl)
theorem len_zero' {x : Str} : (x != Str.ofString "") = false ↔ (x.length : Int) = 0 := by
  rw [← Bool.not_eq_true, len_zero]
  omega
theorem len_zero2 {x : Str} : (x == Str.ofString "") = true ↔ (x.length : Int) = 0 := by
  rw [← len_zero']
  unfold bne
  simp
theorem len_zero3 {x : Str} : (x == Str.ofString "") = false ↔ (x.length : Int) ≠ 0 := by
  rw [← len_zero]
  unfold bne
  simp
theorem tells_law_behind (w : World) (x : Str) (t : Tok) (hx : x.length ≤ 10000) : Tells w 125 [.str x t] 2 (fun _ _ => True) (RetTup (behindR x)) := by
  unfold Tells
  intro mean mg mb dp un gd cn cs a ccd cl outer A₀ base h₀ L m news s Q E B F X N T hk hpre hd hu hret
  k_with_none
  k_with "call ref" => ((k_here; (with_reducible show wpAny _ _ (call (Value.ref 113) [Value.str _ _, Value.str _ _]) _ _ _); k_dflt (refine' Tells.use (less_tells _ _ _ _ _ ?z1x16 ?z2x16) ?k1x16 ?k2x16 ?k3x16 ?k4x16 ?k5x16 ?kKx16 ?kPx16 ?kdx16 ?kux16 ?_; (case z1x16 => omega); (case z2x16 => first | decide | omega); (case k1x16 => k_asm); (case k2x16 => k_asm); (case k3x16 => k_asm); (case k4x16 => k_asm); (case k5x16 => k_asm); (case kKx16 => first | exact rfl | assumption); (case kPx16 => first | exact True.intro | k_extra "pre"); (case kdx16 => ktr_room); (case kux16 => ktr_units)); intro t9w16 h9w16 tk9w16 hl9w16 F9w16 N9w16; (try dsimp only); (try k_fold)))
  refine wpAny_call ?_
  k_dflt cell_enter
  k_steps
  all_goals first
    | exact ret_none hret (behindR3 (bne_eq_false_iff_eq.mpr (eq_of_beq (by assumption)))) (by k_asm) (by k_asm) (fun p hp => hp)
    | exact ret_tup hret (behindR1 (bne_iff_ne.mpr (ne_of_beq_false (by assumption))) (len_zero.mp (by assumption))) (by k_asm) (by k_asm) (fun p hp => hp) (by assumption)
    | exact ret_tup hret (behindR2 (bne_iff_ne.mpr (ne_of_beq_false (by assumption))) (len_zero'.mp (by assumption))) (by k_asm) (by k_asm) (fun p hp => hp) (by assumption)
theorem tells_law_last (w : World) (x : Str) (t : Tok) (hx : x.length ≤ 10000) (i n : Int) (ti tn : Tok) : Tells w 132 [.str x t, .int i ti, .int n tn] 2 (fun _ _ => True) (RetTup (lastR x i n)) := by
  unfold Tells
  intro mean mg mb dp un gd cn cs a ccd cl outer A₀ base h₀ L m news s Q E B F X N T hk hpre hd hu hret
  k_with_none
  k_with "call ref" => ((k_here; (with_reducible show wpAny _ _ (call (Value.ref 113) [Value.str _ _, Value.str _ _]) _ _ _); k_dflt (refine' Tells.use (less_tells _ _ _ _ _ ?z1x17 ?z2x17) ?k1x17 ?k2x17 ?k3x17 ?k4x17 ?k5x17 ?kKx17 ?kPx17 ?kdx17 ?kux17 ?_; (case z1x17 => omega); (case z2x17 => first | decide | omega); (case k1x17 => k_asm); (case k2x17 => k_asm); (case k3x17 => k_asm); (case k4x17 => k_asm); (case k5x17 => k_asm); (case kKx17 => first | exact rfl | assumption); (case kPx17 => first | exact True.intro | k_extra "pre"); (case kdx17 => ktr_room); (case kux17 => ktr_units)); intro t9w17 h9w17 tk9w17 hl9w17 F9w17 N9w17; (try dsimp only); (try k_fold)))
  refine wpAny_call ?_
  k_dflt cell_enter
  k_steps
  all_goals first
    | exact ret_none hret (lastR0 (by assumption)) (by k_asm) (by k_asm) (fun p hp => hp)
    | exact ret_tup hret (lastR1 (by assumption) (len_zero.mp (by assumption)) (len_zero2.mp (by assumption))) (by k_asm) (by k_asm) (fun p hp => hp) (by assumption)
    | exact ret_tup hret (lastR2 (by assumption) (by first | exact .inl (len_zero'.mp (by assumption)) | exact .inr (len_zero3.mp (by assumption))) (by assumption)) (by k_asm) (by k_asm) (fun p hp => hp) (by assumption)
    | exact ret_none hret (lastR3 (by assumption) (by first | exact .inl (len_zero'.mp (by assumption)) | exact .inr (len_zero3.mp (by assumption))) (by assumption)) (by k_asm) (by k_asm) (fun p hp => hp)
end
end Mine
end
-- D99
section
set_option maxHeartbeats 4000000
open PySem PySem.W PySem.Calls PyProof.Rows
namespace Mine
def RetAll (P : Str → Prop) (h₀ : Heap) (L : Addr) (m : Str → Option Value) (news : List (Addr × Obj)) (s : Shared) (Q : Value → Shared → Prop) : Prop :=
  ∀ (r : Str) (t : Tok) (h' : Heap) (tk' : Nat), P r → Fr h₀ L h' m → News h₀ L h' news → Q (.str r t) { s with heap := h', toks := tk' }
def RetNat (h₀ : Heap) (L : Addr) (m : Str → Option Value) (news : List (Addr × Obj)) (s : Shared) (Q : Value → Shared → Prop) : Prop :=
  ∀ (c : Int) (t : Tok) (h' : Heap) (tk' : Nat), 0 ≤ c → Fr h₀ L h' m → News h₀ L h' news → Q (.int c t) { s with heap := h', toks := tk' }
theorem item_char {y : Str} {i : Int} (h0 : 0 ≤ i) (h1 : i < (y.length : Int)) : ∃ c ∈ lst y, Txt.item y i = ⟨#[c]⟩ := by
  obtain ⟨c, hc⟩ := StrLaws.some_at h0 h1
  refine ⟨c, ?_, ?_⟩
  · have h2 : y.cps.toList[i.toNat]? = some c := by rw [← hc]; simp
    exact List.mem_of_getElem? h2
  · unfold Txt.item
    have : Txt.charAt y i = some c := StrLaws.at_nonneg h0 hc
    rw [this]; rfl
def Only (r y : Str) : Prop := ∀ c ∈ lst r, c ∈ lst y
theorem signs_state {y found : Str} {n number k : Int} (h : 0 ≤ number ∧ (found.length : Int) ≤ n ∧ Only found y) (hy : 1 ≤ y.length) (hk : k = (number.fdiv 4).fmod y.length) :
    0 ≤ number.fdiv 4 ∧ ((found ++ Txt.item y k).length : Int) ≤ n + 1 ∧ Only (found ++ Txt.item y k) y := by
  have hp : (0 : Int) < (y.length : Int) := by omega
  have h0 : 0 ≤ k := by rw [hk]; exact Int.fmod_nonneg_of_pos _ hp
  have h1 : k < (y.length : Int) := by rw [hk]; exact Int.fmod_lt_of_pos _ hp
  obtain ⟨c, hc, e⟩ := item_char h0 h1
  rw [e]
  refine ⟨?_, ?_, ?_⟩
  · rw [Int.fdiv_eq_ediv_of_nonneg _ (by decide)]; have := h.1; omega
  · rw [Str.length_append]
    have : (⟨#[c]⟩ : Str).length = 1 := rfl
    have := h.2.1
    omega
  · intro d hd
    rw [lst_append] at hd
    rcases List.mem_append.mp hd with hd | hd
    · exact h.2.2 d hd
    · have : d = c := by simpa [lst] using hd
      rw [this]; exact hc
theorem signs_start {y : Str} {n : Int} (h : 0 ≤ n) : 0 ≤ n ∧ ((Str.ofString "").length : Int) ≤ (([] : List Int).length : Int) ∧ Only (Str.ofString "") y :=
  ⟨h, by decide, fun c hc => by rw [empty_lst] at hc; cases hc⟩
theorem signs_state' {y found : Str} {pre : List Int} {v number k : Int} (h : 0 ≤ number ∧ (found.length : Int) ≤ (pre.length : Int) ∧ Only found y) (hy : 1 ≤ y.length) (hk : k = (number.fdiv 4).fmod y.length) :
    0 ≤ number.fdiv 4 ∧ ((found ++ Txt.item y k).length : Int) ≤ ((pre ++ [v]).length : Int) ∧ Only (found ++ Txt.item y k) y := by
  have h2 := signs_state h hy hk
  rw [List.length_append, List.length_singleton]
  refine ⟨h2.1, ?_, h2.2.2⟩
  have := h2.2.1
  omega
theorem signs_end {y found : Str} {n number : Int} (h : 0 ≤ number ∧ (found.length : Int) ≤ ((rangeKs 0 (n.fmod (3 + 1) - 0).toNat).length : Int) ∧ Only found y) : found.length ≤ 3 ∧ Only found y := by
  refine ⟨?_, h.2.2⟩
  have h1 := h.2.1
  rw [rangeKs_length] at h1
  have hf : n.fmod (3 + 1) < 3 + 1 := Int.fmod_lt_of_pos _ (by decide)
  omega
section
variable {prog : Program} {w : World} {A : Around} {E : Value → Shared → Prop} {s : Shared} {x : Str} {t u : Tok} {i : Int} {Q : Value → Shared → Prop}
theorem item_any {value slice : Expr} (h0 : 0 ≤ i) (h1 : i < (x.length : Int)) (hn : x.length ≤ 16777216) (h : (Txt.item x i).length = 1 → Q (.str (Txt.item x i) s.toks) { s with toks := s.toks + 1 })
    (hs : subscripted slice false (.str x t) (.int i u) = operate [.str x t, .int i u] (getItem (.str x t) (.int i u)) := by with_unfolding_all rfl)
    (ht : ∀ r, letTemporaryGo value (.str x t) r = pure () := by intro _; with_unfolding_all rfl) :
    wpAny (model prog w) A (subscriptTail value slice (.str x t) (.int i u)) Q E s :=
  KXi.item (n := x.length) rfl (by omega) h1 hn h hs ht
end
section
theorem tells_signs (w : World) (y : Str) (n : Int) (tn u tm : Tok) (hn : 0 ≤ n) (hy : 1 ≤ y.length) (hy2 : y.length ≤ 10) :
    Tells w 99 [.int n tn, .str y u, .int 3 tm] 1 (fun _ _ => True) (RetAll fun r => r.length ≤ 3 ∧ Only r y) := by
  unfold Tells
  intro mean mg mb dp un gd cn cs a ccd cl outer A₀ base h₀ L m news s Q E B F X N T hk hpre hd hu hret
  k_with_none
  k_with "subscriptTail" => ((k_here; (with_reducible show wpAny _ _ (subscriptTail _ _ (Value.str _ _) (Value.int _ _)) _ _ _); refine item_any ?z0x18 ?z1x18 ?z2x18 ?_; (case z0x18 => exact Int.fmod_nonneg_of_pos _ (by omega)); (case z1x18 => exact Int.fmod_lt_of_pos _ (by omega)); (case z2x18 => omega); intro hzw18))
  k_with "binaryOp Add str str" => ((k_here; (with_reducible show wpAny _ _ (binaryOp Operator.Add (Value.str _ _) (Value.str _ _)) _ _ _); refine KOpn.add (by k_extra "add") ?_; intro _ _ hzw19))
  k_with "pyIter ref" => k_state (fun (pre : List Int) (number : Int) (found : Str) => 0 ≤ number ∧ (found.length : Int) ≤ pre.length ∧ Only found y) "number" "found"
  k_with "state" => exact signs_start hn
  k_with "state" => (exact signs_state' (by refine And.intro ?_ (And.intro ?_ ?_) <;> assumption) hy rfl)
  k_with "add" => ((have hf : n.fmod (3 + 1) < 3 + 1 := Int.fmod_lt_of_pos _ (by decide)); omega)
  refine wpAny_call ?_
  k_dflt cell_enter
  k_steps
  exact hret _ _ _ _ (signs_end (by first | assumption | (refine And.intro ?_ (And.intro ?_ ?_) <;> assumption))) (by k_asm) (by k_asm)
end
end Mine
end
-- D92
section
set_option maxHeartbeats 4000000
open PySem PySem.W PySem.Calls PyProof.Rows
namespace Mine
def ScriptAt (l : Addr) (base : Heap) (_news : List (Addr × Obj)) : Prop := ∃ (vs : List Value) (ns : List Int), base.IsList l vs.toArray ∧ IntsAre vs ns ∧ ns.length ≤ 63
def RetTexts (Ls : List Str) (h₀ : Heap) (L : Addr) (m : Str → Option Value) (news : List (Addr × Obj)) (s : Shared) (Q : Value → Shared → Prop) : Prop :=
  ∀ (q : Addr) (vs : List Value) (n : Nat) (h' : Heap) (tk' : Nat), StrsAre vs Ls → Fr h₀ L h' m → News h₀ L h' ((q, listOf vs.toArray n) :: news) → (∀ p ∈ news, p.1 < q) → Q (.ref q) { s with heap := h', toks := tk' }
theorem abs_nn (v : Int) : 0 ≤ (if v < 0 then -v else v) := by split <;> omega
theorem tells_cell (w : World) (l : Addr) (i : Int) (ti : Tok) (hi : 0 ≤ i) (hi2 : i ≤ 1000) : Tells w 92 [.ref l, .int i ti] 1 (ScriptAt l) RetNat := by
  unfold Tells
  intro mean mg mb dp un gd cn cs a ccd cl outer A₀ base h₀ L m news s Q E B F X N T hk hpre hd hu hret
  k_with_none
  obtain ⟨vs, ns, hl, hI, hn⟩ := hpre
  refine wpAny_call ?_
  k_dflt cell_enter
  k_steps
  · exact hret _ _ _ _ (abs_nn _) (by k_asm) (by k_asm)
  · exact hret _ _ _ _ (by omega) (by k_asm) (by k_asm)
def wordsL : List Str := [Str.ofString "#", Str.ofString "#!", Str.ofString "x", Str.ofString "ab = 1", Str.ofString "yyyyyyyyyyyyyyyyyyyy", Str.ofString "# yyyyyyyyyyyyyyyyy", Str.ofString "éééééé"]
def endsL : List Str := [Str.ofString "\n", Str.ofString "\x0d\n", Str.ofString "\x0c\n", Str.ofString ""]
theorem tells_words (w : World) : Tells w 78 [] 1 (fun _ _ => True) (RetTexts wordsL) := by
  unfold Tells
  intro mean mg mb dp un gd cn cs a ccd cl outer A₀ base h₀ L m news s Q E B F X N T hk hpre hd hu hret
  k_with_none
  refine wpAny_call ?_
  k_dflt cell_enter
  k_steps
  exact hret _ _ _ _ _ (.cons _ _ (.cons _ _ (.cons _ _ (.cons _ _ (.cons _ _ (.cons _ _ (.cons _ _ .nil))))))) (by k_asm) (by k_asm) (by k_asm)
theorem tells_ends (w : World) : Tells w 85 [] 1 (fun _ _ => True) (RetTexts endsL) := by
  unfold Tells
  intro mean mg mb dp un gd cn cs a ccd cl outer A₀ base h₀ L m news s Q E B F X N T hk hpre hd hu hret
  k_with_none
  refine wpAny_call ?_
  k_dflt cell_enter
  k_steps
  exact hret _ _ _ _ _ (.cons _ _ (.cons _ _ (.cons _ _ (.cons _ _ .nil)))) (by k_asm) (by k_asm) (by k_asm)
end Mine
end
-- D106
section
set_option maxHeartbeats 4000000
open PySem PySem.W PySem.Calls PyProof.Rows
namespace Mine
section
variable {prog : Program} {w : World} {A : Around} {E : Value → Shared → Prop} {h₀ : Heap} {L : Addr} {s : Shared} {news : List (Addr × Obj)} {D : Addr} {vs : List Value} {ws : List Str} {n : Nat}
theorem wordsL_len : ∀ x ∈ wordsL, x.length ≤ 20 := by decide
theorem join_len : ∀ (l : List Str), (∀ x ∈ l, x.length ≤ 20) → (Str.join (Str.ofString " ") l).length ≤ 21 * l.length
  | [], _ => by decide
  | [x], h => by
    have := h x (.head _)
    show x.length ≤ _
    simp
    omega
  | x :: y :: r, h => by
    have ih := join_len (y :: r) fun z hz => h z (.tail _ hz)
    have hx := h x (.head _)
    rw [join_cons_cons, Str.length_append, Str.length_append]
    have e : (Str.ofString " ").length = 1 := by decide
    simp only [List.length_cons] at ih ⊢
    omega
theorem sum_len : ∀ (l : List Str), (∀ x ∈ l, x.length ≤ 20) → (l.map (·.length)).sum ≤ 20 * l.length
  | [], _ => by simp
  | x :: r, h => by
    have ih := sum_len r fun z hz => h z (.tail _ hz)
    have hx := h x (.head _)
    simp only [List.map_cons, List.sum_cons, List.length_cons]
    omega
theorem words_state {words : List Str} {pre : List Int} {r : Str} {v number : Int} (h : 0 ≤ number ∧ (words.length : Int) ≤ (pre.length : Int) ∧ ∀ x ∈ words, x ∈ wordsL) (hr : r ∈ wordsL) :
    0 ≤ number.fdiv 4 ∧ ((words ++ [r]).length : Int) ≤ ((pre ++ [v]).length : Int) ∧ ∀ x ∈ words ++ [r], x ∈ wordsL := by
  refine ⟨?_, ?_, ?_⟩
  · rw [Int.fdiv_eq_ediv_of_nonneg _ (by decide)]; have := h.1; omega
  · rw [List.length_append, List.length_singleton, List.length_append, List.length_singleton]
    have := h.2.1
    omega
  · intro x hx
    rcases List.mem_append.mp hx with hx | hx
    · exact h.2.2 x hx
    · rw [List.mem_singleton.mp hx]; exact hr
theorem words_few {a b : Nat} {p : List Int} {c : Int} {vs : List Value} (h0 : vs.length = b) (h1 : (b : Int) ≤ (p.length : Int)) (h2 : p.length < (c.fmod 4 - 0).toNat) : vs.toArray.size ≤ sizeLine := by
  have hf : c.fmod 4 < 4 := Int.fmod_lt_of_pos _ (by decide)
  rw [sizeLine_eq, List.size_toArray]
  omega
theorem upd_c {news own : List (Addr × Obj)} {l : Addr} {adr : List Addr} (hA : ∀ p ∈ news, p.1 < l) (hB : OwnOff own adr) (hm : l ∈ adr) : ∀ p ∈ news ++ own, p.1 ≠ l := by
  intro p hp
  rcases List.mem_append.mp hp with h | h
  · exact Nat.ne_of_lt (hA p h)
  · exact hB p h l hm
theorem words_three {words : List Str} {n : Int} (h : (words.length : Int) ≤ ((rangeKs 0 (n.fmod 4 - 0).toNat).length : Int)) : words.length ≤ 3 := by
  rw [rangeKs_length] at h
  have hf : n.fmod 4 < 4 := Int.fmod_lt_of_pos _ (by decide)
  omega
theorem join_words {t : Tok} {Q : Value → Shared → Prop} (N : News h₀ L s.heap news) (hm : (D, listOf vs.toArray n) ∈ news) (hw : StrsAre vs ws) (h3 : ws.length ≤ 3) (ha : ∀ x ∈ ws, x ∈ wordsL)
    (h : ∀ t' k, (Txt.join (Str.ofString " ") ws).length ≤ 63 → Q (.str (Txt.join (Str.ofString " ") ws) t') { s with toks := k }) :
    wpAny (model prog w) A (call (.builtin "str.join") [.str (Str.ofString " ") t, .ref D]) Q E s := by
  have h20 : ∀ x ∈ ws, x.length ≤ 20 := fun x hx => wordsL_len x (ha x hx)
  have hs := sum_len ws h20
  have e : (Str.ofString " ").length = 1 := by decide
  refine join_list (items := vs.toArray) ⟨_, (N _ hm).1, rfl, _, rfl⟩ hw (by rw [e]; omega) ?_
  intro t' k
  refine h t' k ?_
  have hj := join_len ws h20
  have e2 : Txt.join (Str.ofString " ") ws = Str.join (Str.ofString " ") ws := StrLaws.glued_eq_join _ _
  rw [e2]
  omega
def abc : List Nat := [9, 11, 32, 35, 33, 120, 97, 98, 61, 49, 121, 233]
def LineOk (r : Str) : Prop := ∃ b e, lst r = b ++ e ∧ (∀ c ∈ b, c ∈ abc) ∧ e ∈ [[10], [13, 10], [12, 10], ([] : List Nat)] ∧ r.length ≤ 100
theorem wordsL_abc : ∀ x ∈ wordsL, ∀ c ∈ lst x, c ∈ abc := by decide
theorem endsL_lst : ∀ x ∈ endsL, lst x ∈ [[10], [13, 10], [12, 10], ([] : List Nat)] ∧ x.length ≤ 2 := by decide
theorem join_abc : ∀ (l : List Str), (∀ x ∈ l, x ∈ wordsL) → ∀ c ∈ lst (Str.join (Str.ofString " ") l), c ∈ abc
  | [], _, c, hc => by cases hc
  | [x], h, c, hc => wordsL_abc x (h x (.head _)) c hc
  | x :: y :: r, h, c, hc => by
    have ih := join_abc (y :: r) fun z hz => h z (.tail _ hz)
    rw [join_cons_cons, lst_append, lst_append] at hc
    rcases List.mem_append.mp hc with hc | hc
    · rcases List.mem_append.mp hc with hc | hc
      · exact wordsL_abc x (h x (.head _)) c hc
      · have e : lst (Str.ofString " ") = [32] := by decide
        rw [e] at hc
        rw [List.mem_singleton.mp hc]
        decide
    · exact ih c hc
theorem line_ok {h b e : Str} {ws : List Str} (hh : h.length ≤ 3 ∧ Only h (Str.ofString " \t")) (hw : ∀ x ∈ ws, x ∈ wordsL) (hj : (Txt.join (Str.ofString " ") ws).length ≤ 63) (hb : b.length ≤ 3 ∧ Only b (Str.ofString " \t\x0b")) (he : e ∈ endsL) :
    LineOk (h ++ Txt.join (Str.ofString " ") ws ++ b ++ e) := by
  have e2 : Txt.join (Str.ofString " ") ws = Str.join (Str.ofString " ") ws := StrLaws.glued_eq_join _ _
  refine ⟨lst h ++ lst (Txt.join (Str.ofString " ") ws) ++ lst b, lst e, ?_, ?_, (endsL_lst e he).1, ?_⟩
  · rw [lst_append, lst_append, lst_append]
  · intro c hc
    rcases List.mem_append.mp hc with hc | hc
    · rcases List.mem_append.mp hc with hc | hc
      · have a : ∀ c ∈ lst (Str.ofString " \t"), c ∈ abc := by decide
        exact a c (hh.2 c hc)
      · rw [e2] at hc
        exact join_abc ws hw c hc
    · have a : ∀ c ∈ lst (Str.ofString " \t\x0b"), c ∈ abc := by decide
      exact a c (hb.2 c hc)
  · have := (endsL_lst e he).2
    rw [Str.length_append, Str.length_append, Str.length_append]
    omega
theorem pick_text {value slice : Expr} {i : Int} {u : Tok} {Q : Value → Shared → Prop} (N : News h₀ L s.heap news) (hm : (D, listOf vs.toArray n) ∈ news) (hw : StrsAre vs ws) (h0 : 0 ≤ i) (h1 : i < (ws.length : Int)) (hz : ws.length ≤ 100) (hB : ∀ x ∈ ws, x.length ≤ 20)
    (h : ∀ r t', r ∈ ws → r.length ≤ 20 → Q (.str r t') s)
    (hs : subscripted slice false (.ref D) (.int i u) = operate [.ref D, .int i u] (getItem (.ref D) (.int i u)) := by with_unfolding_all rfl) (hg : ∀ r, letTemporaryGo value (.ref D) r = pure () := by intro _; with_unfolding_all rfl) :
    wpAny (model prog w) A (subscriptTail value slice (.ref D) (.int i u)) Q E s := by
  refine KTb.item_list (vs := vs) (ws := ws) ⟨_, (N _ hm).1, rfl, _, rfl⟩ hw h0 h1 (by omega) (fun t' hlt => (fun hm => h _ t' hm (hB _ hm)) ?_) hs
  rw [List.getD_eq_getElem?_getD, List.getElem?_eq_getElem hlt]
  exact List.getElem_mem hlt
end
section
theorem tells_line (w : World) (l : Addr) (i : Int) (ti : Tok) (hi : 0 ≤ i) (hi2 : i ≤ 900) : Tells w 106 [.ref l, .int i ti] 2 (ScriptAt l) (RetAll LineOk) := by
  unfold Tells
  intro mean mg mb dp un gd cn cs a ccd cl outer A₀ base h₀ L m news s Q E B F X N T hk hpre hd hu hret
  k_with_none
  k_with "eval Call" => (((with_reducible show wpAny _ _ (eval (Expr.Call (Expr.Name _ _) _ _ _) _) _ _ _); k_dflt (refine Call_ ?_)))
  k_with "call type:range" => (((rename Fr _ _ _ _ => Fw21); (rename News _ _ _ _ => Nw21); (with_unfolding_all refine range1_rows Fw21 Nw21 ?_); intro _ _ _ _ _ _ _ _ _))
  k_with "pyIter ref" => (k_extra "my loop")
  k_with "call ref" => ((k_here; (with_reducible show wpAny _ _ (call (Value.ref 92) [Value.ref _, Value.int _ _] _) _ _ _); k_dflt (refine' Tells.use (tells_cell _ _ _ _ ?z1x23 ?z2x23) ?k1x23 ?k2x23 ?k3x23 ?k4x23 ?k5x23 ?kKx23 ?kPx23 ?kdx23 ?kux23 ?_; (case z1x23 => omega); (case z2x23 => omega); (case k1x23 => k_asm); (case k2x23 => k_asm); (case k3x23 => k_asm); (case k4x23 => k_asm); (case k5x23 => k_asm); (case kKx23 => first | exact rfl | assumption); (case kPx23 => first | exact True.intro | k_extra "pre"); (case kdx23 => ktr_room); (case kux23 => ktr_units)); intro c9w23 t9w23 h9w23 tk9w23 hc9w23 F9w23 N9w23; (try dsimp only); (try k_fold)))
  k_with "call ref" => ((k_here; (with_reducible show wpAny _ _ (call (Value.ref 99) [Value.int _ _, Value.str _ _, Value.int 3 _] _) _ _ _); k_dflt (refine' Tells.use (tells_signs _ _ _ _ _ _ ?z1x24 ?z2x24 ?z3x24) ?k1x24 ?k2x24 ?k3x24 ?k4x24 ?k5x24 ?kKx24 ?kPx24 ?kdx24 ?kux24 ?_; (case z1x24 => omega); (case z2x24 => decide); (case z3x24 => decide); (case k1x24 => k_asm); (case k2x24 => k_asm); (case k3x24 => k_asm); (case k4x24 => k_asm); (case k5x24 => k_asm); (case kKx24 => first | exact rfl | assumption); (case kPx24 => first | exact True.intro | k_extra "pre"); (case kdx24 => ktr_room); (case kux24 => ktr_units)); intro r9w24 t9w24 h9w24 tk9w24 hr9w24 F9w24 N9w24; (try dsimp only); (try k_fold)))
  k_with "call ref" => ((k_here; (with_reducible show wpAny _ _ (call (Value.ref 78) _ _) _ _ _); k_dflt (refine' Tells.use (tells_words _) ?k1x25 ?k2x25 ?k3x25 ?k4x25 ?k5x25 ?kKx25 ?kPx25 ?kdx25 ?kux25 ?_; (case k1x25 => k_asm); (case k2x25 => k_asm); (case k3x25 => k_asm); (case k4x25 => k_asm); (case k5x25 => k_asm); (case kKx25 => first | exact rfl | assumption); (case kPx25 => first | exact True.intro | k_extra "pre"); (case kdx25 => ktr_room); (case kux25 => ktr_units)); intro q9w25 vs9w25 n9w25 h9w25 tk9w25 hS9w25 F9w25 N9w25 l9w25; (try dsimp only); (try k_fold)))
  k_with "call ref" => ((k_here; (with_reducible show wpAny _ _ (call (Value.ref 85) _ _) _ _ _); k_dflt (refine' Tells.use (tells_ends _) ?k1x26 ?k2x26 ?k3x26 ?k4x26 ?k5x26 ?kKx26 ?kPx26 ?kdx26 ?kux26 ?_; (case k1x26 => k_asm); (case k2x26 => k_asm); (case k3x26 => k_asm); (case k4x26 => k_asm); (case k5x26 => k_asm); (case kKx26 => first | exact rfl | assumption); (case kPx26 => first | exact True.intro | k_extra "pre"); (case kdx26 => ktr_room); (case kux26 => ktr_units)); intro q9w26 vs9w26 n9w26 h9w26 tk9w26 hS9w26 F9w26 N9w26 l9w26; (try dsimp only); (try k_fold)))
  k_with "subscriptTail" => ((k_here; (with_reducible show wpAny _ _ (subscriptTail _ _ (Value.ref _) (Value.int _ _)) _ _ _); k_dflt (refine' pick_text ?Nx27 ?mx27 ?wx27 ?z0x27 ?z1x27 ?z2x27 ?z3x27 ?_; (case Nx27 => k_asm); (case mx27 => k_mem); (case wx27 => assumption); (case z0x27 => exact Int.fmod_nonneg_of_pos _ (by decide)); (case z1x27 => exact Int.fmod_lt_of_pos _ (by decide)); (case z2x27 => decide); (case z3x27 => decide)); intro r9w27 t9w27 hr9w27 hrl9w27))
  k_with "binaryOp Add str str" => ((k_here; (with_reducible show wpAny _ _ (binaryOp Operator.Add (Value.str _ _) (Value.str _ _)) _ _ _); refine KOpn.add (by omega) ?_; intro _ _ hzw28))
  k_with "call builtin:list.append" => ((k_here; (with_reducible show wpAny _ _ (call (Value.builtin _) [Value.ref _, _]) _ _ _); k_dflt (refine' append_K ?k1x29 ?k2x29 (Upd.tail ?ax29 (Upd.tail ?bx29 (Upd.head ?cx29))) ?_ ?zx29; (case k1x29 => k_asm); (case k2x29 => k_asm); (case ax29 => ((rename (∀ p, p ∈ _ :: _ :: _ → _ < _) => hAw29); exact Nat.ne_of_gt (hAw29 _ (List.Mem.tail _ (List.Mem.head _))))); (case bx29 => ((rename (_ < _ ∧ AllLt _ _) => hBw29); exact Nat.ne_of_gt hBw29.1)); (case cx29 => exact upd_c (by assumption) (by assumption) (List.Mem.tail _ (List.Mem.head _))); (case zx29 => k_extra "few"); k_whole); intro hw29 Fw29 Nw29))
  k_with "call builtin:str.join" => ((k_here; k_dflt (refine' join_words ?Nx30 ?mx30 ?wx30 ?z0x30 ?z1x30 ?_; (case Nx30 => k_asm); (case mx30 => k_mem); (case wx30 => assumption); (case z0x30 => k_extra "three"); (case z1x30 => assumption)); intro t9w30 k9w30 hj9w30))
  obtain ⟨vs, ns, hl, hI, hn⟩ := hpre
  k_with "pre" => exact ⟨_, _, by assumption, by assumption, by assumption⟩
  k_with "my loop" => k_state (fun (pre : List Int) (number : Int) (words : List Str) => 0 ≤ number ∧ (words.length : Int) ≤ pre.length ∧ ∀ x ∈ words, x ∈ wordsL) "number" "words$"
  k_with "state" => exact words_state (by first | assumption | (refine And.intro ?_ (And.intro ?_ ?_) <;> assumption)) (by assumption)
  k_with "few" => exact words_few (a := 0) (by assumption) (by assumption) (by assumption)
  k_with "three" => exact words_three (by assumption)
  refine wpAny_call ?_
  k_dflt cell_enter
  k_steps
  exact hret _ _ _ _ (line_ok (by assumption) (by assumption) (by assumption) (by assumption) (by assumption)) (by k_asm) (news_sub (by k_asm) (by intro p hp; repeat (first | exact hp | refine List.Mem.tail _ ?_)))
end
end Mine
end
-- D70
section
set_option maxHeartbeats 4000000
open PySem PySem.W PySem.Calls PyProof.Rows
namespace Mine
def msgR (n mx : Int) : Str := Str.ofString "E501 line too long (" ++ Str.ofString (toString n) ++ Str.ofString " > " ++ Str.ofString (toString mx) ++ Str.ofString " characters)"
section
local macro_rules | `(tactic| k_mem) => `(tactic| assumption)
theorem fmt_E501 {w : World} {A : Around} {E : Value → Shared → Prop} {h₀ : Heap} {L : Addr} {s : Shared} {news : List (Addr × Obj)} {q : Addr} {n mx : Int} {tn tm t : Tok} {Q : Value → Shared → Prop}
    (X : (Mine.hd.heap_39 w.params).In h₀) (N : News h₀ L s.heap news) (hq : (q, ({ cls := .type "tuple", data := .seq #[.int n tn, .int mx tm] } : Obj)) ∈ news) (h0 : 0 ≤ n) (h1 : n ≤ 10000) (h2 : 0 ≤ mx) (h3 : mx ≤ 1000)
    (h : ∀ t' k, Q (.str (msgR n mx) t') { s with toks := k }) :
    wpAny (model PySem.Challenge.rw_bd0044_01.row.prog w) A (binaryOp .Mod (.str (Str.ofString "E501 line too long (%d > %d characters)") t) (.ref q)) Q E s := by
  walk1
  all_goals exact h _ _
end
end Mine
end
-- L71
section
set_option maxHeartbeats 4000000
open PySem PySem.W PySem.Calls PyProof.Rows
namespace Mine
def longR (l : Str) (ws : List Str) (mx : Int) (mu nq sh : Bool) : Option (Int × Str) :=
  if ¬ ((l.length : Int) > mx) then none else if nq = true then none else if sh = true then none else
  match ws with
  | [a] => if mu = true ∧ (l.length : Int) - (a.length : Int) < mx - 7 then none else some (mx, msgR l.length mx)
  | [a, b] => if (a == Str.ofString "#") = true ∧ (l.length : Int) - (b.length : Int) < mx - 7 then none else some (mx, msgR l.length mx)
  | _ => some (mx, msgR l.length mx)
def shR (l : Str) (i : Int) : Bool := decide (i = 1) && Txt.startswith l (Str.ofString "#!")
inductive Shape : List Str → Prop
  | one (a : Str) : Shape [a]
  | two (a b : Str) : Shape [a, b]
  | other (ws : List Str) (h1 : ws.length ≠ 1) (h2 : ws.length ≠ 2) : Shape ws
theorem shape : ∀ ws : List Str, Shape ws
  | [] => .other _ (by decide) (by decide)
  | [a] => .one a
  | [a, b] => .two a b
  | _ :: _ :: _ :: r => .other _ (by simp) (by simp)
section
variable {l : Str} {ws : List Str} {mx : Int} {mu nq sh : Bool} {a b : Str}
theorem long0 (h : ¬ ((l.length : Int) > mx)) : longR l ws mx mu nq sh = none := by unfold longR; rw [if_pos h]
theorem long1 : longR l ws mx mu true sh = none := by unfold longR; split <;> rfl
theorem long2 : longR l ws mx mu false true = none := by unfold longR; split <;> rfl
theorem long3 (h : (l.length : Int) > mx) (h1 : ws.length ≠ 1) (h2 : ws.length ≠ 2) : longR l ws mx mu false false = some (mx, msgR l.length mx) := by
  unfold longR
  rw [if_neg (by simpa using h), if_neg (by decide), if_neg (by decide)]
  split
  · exact absurd rfl h1
  · exact absurd rfl h2
  · rfl
theorem long4 (h : (l.length : Int) > mx) (h3 : ¬ (mu = true ∧ (l.length : Int) - (a.length : Int) < mx - 7)) : longR l [a] mx mu false false = some (mx, msgR l.length mx) := by
  unfold longR
  rw [if_neg (by simpa using h), if_neg (by decide), if_neg (by decide)]
  exact if_neg h3
theorem long5 (h3 : (l.length : Int) - (a.length : Int) < mx - 7) : longR l [a] mx true false false = none := by
  unfold longR
  by_cases h : (l.length : Int) > mx
  · rw [if_neg (by simpa using h), if_neg (by decide), if_neg (by decide)]
    exact if_pos ⟨rfl, h3⟩
  · rw [if_pos h]
theorem long6 (h : (l.length : Int) > mx) (h3 : ¬ ((a == Str.ofString "#") = true ∧ (l.length : Int) - (b.length : Int) < mx - 7)) : longR l [a, b] mx mu false false = some (mx, msgR l.length mx) := by
  unfold longR
  rw [if_neg (by simpa using h), if_neg (by decide), if_neg (by decide)]
  exact if_neg h3
theorem long7 (h2 : (a == Str.ofString "#") = true) (h3 : (l.length : Int) - (b.length : Int) < mx - 7) : longR l [a, b] mx mu false false = none := by
  unfold longR
  by_cases h : (l.length : Int) > mx
  · rw [if_neg (by simpa using h), if_neg (by decide), if_neg (by decide)]
    exact if_pos ⟨h2, h3⟩
  · rw [if_pos h]
end
def KnownB (B : Bool) (h₀ : Heap) (L : Addr) (m : Str → Option Value) (news : List (Addr × Obj)) (s : Shared) (b : Bool) (s' : Shared) : Prop :=
  b = B ∧ ∃ h' tk', s' = { s with heap := h', toks := tk' } ∧ Fr h₀ L h' m ∧ News h₀ L h' news
section
variable {prog : Program} {w : World} {A : Around} {E : Value → Shared → Prop} {h₀ : Heap} {L : Addr} {m : Str → Option Value} {s : Shared} {news : List (Addr × Obj)} {env : Env}
theorem knownB {B : Bool} {h' : Heap} {tk' : Nat} (F : Fr h₀ L h' m) (N : News h₀ L h' news) : KnownB B h₀ L m news s B { s with heap := h', toks := tk' } := ⟨rfl, h', tk', rfl, F, N⟩
theorem if_known {test : Expr} {body orelse : List Stmt} {pos : Pos} {Q : Flow → Shared → Prop} (B : Bool) (_F : Fr h₀ L s.heap m) (_N : News h₀ L s.heap news)
    (ht : wpAny (model prog w) A (isTrue test env (eval test env)) (KnownB B h₀ L m news s) E s)
    (hk : ∀ h' tk', Fr h₀ L h' m → News h₀ L h' news → wpAny (model prog w) A (execs (if B then body else orelse) env) Q E { s with heap := h', toks := tk' }) :
    wpAny (model prog w) A (exec (.If test body orelse pos) env) Q E s := by
  refine wpAny_If (wpAny_mono ht (fun b s' h => ?_) fun _ _ e => e)
  obtain ⟨rfl, h', tk', rfl, F', N'⟩ := h
  have := hk h' tk' F' N'
  cases b
  · simpa using this
  · simpa using this
theorem if_no {test : Expr} {body orelse : List Stmt} {pos : Pos} {Q : Flow → Shared → Prop} (F : Fr h₀ L s.heap m) (N : News h₀ L s.heap news)
    (ht : wpAny (model prog w) A (isTrue test env (eval test env)) (KnownB false h₀ L m news s) E s)
    (hk : ∀ h' tk', Fr h₀ L h' m → News h₀ L h' news → wpAny (model prog w) A (execs orelse env) Q E { s with heap := h', toks := tk' }) :
    wpAny (model prog w) A (exec (.If test body orelse pos) env) Q E s := if_known false F N ht hk
theorem if_yes {test : Expr} {body orelse : List Stmt} {pos : Pos} {Q : Flow → Shared → Prop} (F : Fr h₀ L s.heap m) (N : News h₀ L s.heap news)
    (ht : wpAny (model prog w) A (isTrue test env (eval test env)) (KnownB true h₀ L m news s) E s)
    (hk : ∀ h' tk', Fr h₀ L h' m → News h₀ L h' news → wpAny (model prog w) A (execs body env) Q E { s with heap := h', toks := tk' }) :
    wpAny (model prog w) A (exec (.If test body orelse pos) env) Q E s := if_known true F N ht hk
theorem item_0 {value slice : Expr} {D : Addr} {v : Value} {r : List Value} {n : Nat} {u : Tok} {Q : Value → Shared → Prop} (N : News h₀ L s.heap news) (hm : (D, listOf (List.toArray (v :: r)) n) ∈ news) (h : Q v s)
    (hs : subscripted slice false (.ref D) (.int 0 u) = operate [.ref D, .int 0 u] (getItem (.ref D) (.int 0 u)) := by with_unfolding_all rfl) (hg : ∀ r, letTemporaryGo value (.ref D) r = pure () := by intro _; with_unfolding_all rfl) :
    wpAny (model prog w) A (subscriptTail value slice (.ref D) (.int 0 u)) Q E s :=
  kim_list N hm rfl rfl (by decide) (by decide) rfl h hs hg
theorem item_m1 {value slice : Expr} {D : Addr} {v : Value} {n : Nat} {u : Tok} {Q : Value → Shared → Prop} (N : News h₀ L s.heap news) (hm : (D, listOf (List.toArray [v]) n) ∈ news) (h : Q v s)
    (hs : subscripted slice false (.ref D) (.int (-1) u) = operate [.ref D, .int (-1) u] (getItem (.ref D) (.int (-1) u)) := by with_unfolding_all rfl) (hg : ∀ r, letTemporaryGo value (.ref D) r = pure () := by intro _; with_unfolding_all rfl) :
    wpAny (model prog w) A (subscriptTail value slice (.ref D) (.int (-1) u)) Q E s :=
  kim_back N hm rfl rfl (by decide) (by show -((1 : Nat) : Int) ≤ -1; decide) (by decide) rfl h hs hg
theorem item_m2 {value slice : Expr} {D : Addr} {v y : Value} {n : Nat} {u : Tok} {Q : Value → Shared → Prop} (N : News h₀ L s.heap news) (hm : (D, listOf (List.toArray [y, v]) n) ∈ news) (h : Q v s)
    (hs : subscripted slice false (.ref D) (.int (-1) u) = operate [.ref D, .int (-1) u] (getItem (.ref D) (.int (-1) u)) := by with_unfolding_all rfl) (hg : ∀ r, letTemporaryGo value (.ref D) r = pure () := by intro _; with_unfolding_all rfl) :
    wpAny (model prog w) A (subscriptTail value slice (.ref D) (.int (-1) u)) Q E s :=
  kim_back N hm rfl rfl (by decide) (by show -((2 : Nat) : Int) ≤ -1; decide) (by decide) rfl h hs hg
theorem lt1 {q a : Addr} (h : a < q ∧ AllLt q news) : ∀ p ∈ news, p.1 < q := ktn_ltOf h.2
theorem lt2 {q a b : Addr} (h : a < q ∧ b < q ∧ AllLt q news) : ∀ p ∈ news, p.1 < q := ktn_ltOf h.2.2
theorem lt3 {q a b c : Addr} (h : a < q ∧ b < q ∧ c < q ∧ AllLt q news) : ∀ p ∈ news, p.1 < q := ktn_ltOf h.2.2.2
theorem split_1 {x : Str} {t : Tok} {a : Str} {Q : Value → Shared → Prop} (F : Fr h₀ L s.heap m) (N : News h₀ L s.heap news) (e : Txt.words x = [a]) (hx : x.length ≤ 10000)
    (h : ∀ D ta h' k, a.length ≤ x.length → Fr h₀ L h' m → News h₀ L h' ((D, listOf #[.str a ta] 0) :: news) → (∀ p ∈ news, p.1 < D) → Q (.ref D) { s with heap := h', toks := k }) :
    wpAny (model prog w) A (call (.builtin "str.split") [.str x t]) Q E s := by
  refine KSpl.split0 F N (fun D l h' k hl hs F' N' hlt => ?_) (by rw [sizeLine_eq]; omega)
  rw [e] at hl
  obtain ⟨ta, l', rfl, hr⟩ := KSpl.cons_of hl
  obtain rfl := KSpl.nil_of hr
  have hw := StrLaws.words_weight x
  rw [e] at hw
  simp at hw
  exact h D ta h' k (by omega) F' N' hlt
theorem split_2 {x : Str} {t : Tok} {a b : Str} {Q : Value → Shared → Prop} (F : Fr h₀ L s.heap m) (N : News h₀ L s.heap news) (e : Txt.words x = [a, b]) (hx : x.length ≤ 10000)
    (h : ∀ D ta tb h' k, b.length ≤ x.length → Fr h₀ L h' m → News h₀ L h' ((D, listOf #[.str a ta, .str b tb] 0) :: news) → (∀ p ∈ news, p.1 < D) → Q (.ref D) { s with heap := h', toks := k }) :
    wpAny (model prog w) A (call (.builtin "str.split") [.str x t]) Q E s := by
  refine KSpl.split0 F N (fun D l h' k hl hs F' N' hlt => ?_) (by rw [sizeLine_eq]; omega)
  rw [e] at hl
  obtain ⟨ta, l', rfl, hr⟩ := KSpl.cons_of hl
  obtain ⟨tb, l'', rfl, hr2⟩ := KSpl.cons_of hr
  obtain rfl := KSpl.nil_of hr2
  have hw := StrLaws.words_weight x
  rw [e] at hw
  simp at hw
  exact h D ta tb h' k (by omega) F' N' hlt
theorem split_n {x : Str} {t : Tok} {ws : List Str} {Q : Value → Shared → Prop} (F : Fr h₀ L s.heap m) (N : News h₀ L s.heap news) (e : Txt.words x = ws) (hx : x.length ≤ 10000)
    (h : ∀ D vs h' k, StrsAre vs ws → ws.length ≤ 10001 → Fr h₀ L h' m → News h₀ L h' ((D, listOf vs.toArray 0) :: news) → (∀ p ∈ news, p.1 < D) → Q (.ref D) { s with heap := h', toks := k }) :
    wpAny (model prog w) A (call (.builtin "str.split") [.str x t]) Q E s := by
  refine KSpl.split0 F N (fun D l h' k hl hs F' N' hlt => ?_) (by rw [sizeLine_eq]; omega)
  rw [e] at hl
  rw [hl] at hs
  have hw := StrLaws.words_weight x
  rw [e] at hw
  exact h D _ h' k hs (by omega) F' N' hlt
end
theorem knownB' {B : Bool} {b : Bool} {h₀ : Heap} {L : Addr} {m : Str → Option Value} {s : Shared} {news : List (Addr × Obj)} {h' : Heap} {tk' : Nat} (e : b = B) (F : Fr h₀ L h' m) (N : News h₀ L h' news) : KnownB B h₀ L m news s b { s with heap := h', toks := tk' } := ⟨e, h', tk', rfl, F, N⟩
theorem max_tup {q : Addr} {i : Int} {z : Str} {ti tz : Tok} {h₀ h' : Heap} {L : Addr} {m : Str → Option Value} {news news' : List (Addr × Obj)} {s : Shared} {Q : Value → Shared → Prop} {tk' : Nat} (hret : RetTup (some (i, z)) h₀ L m news s Q) (F : Fr h₀ L h' m) (N : News h₀ L h' ((q, tupOf i ti z tz) :: news'))
    (hs : ∀ p ∈ news, p ∈ news') (hl : ∀ p ∈ news, p.1 < q) : Q (.ref q) { s with heap := h', toks := tk' } := ret_tup hret rfl F N hs hl
end Mine
end
-- M71a
section
set_option maxHeartbeats 4000000
open PySem PySem.W PySem.Calls PyProof.Rows
namespace Mine
section
theorem max_a (w : World) (x : Str) (t : Tok) (hx : x.length ≤ 10000) (mx i : Int) (tm ti : Tok) (mu : Bool) (hm : 0 < mx) (hm2 : mx < 1000) (hi : 0 ≤ i) (hi2 : i < 1000) (nq : Bool) (hc : ¬ ((Txt.rstrip x).length : Int) > mx) :
    Tells w 71 [.str x t, .int mx tm, .bool mu, .int i ti, .bool nq] 1 (fun _ _ => True) (RetTup (none)) := by
  unfold Tells
  intro mean mg mb dp un gd cn cs a ccd cl outer A₀ base h₀ L m news s Q E B F X N T hk hpre hd hu hret
  k_with_none
  k_with "binaryOp Mod str ref" => ((k_here; k_dflt (refine' fmt_E501 ?Xx31 ?Nx31 ?qx31 ?z0x31 ?z1x31 ?z2x31 ?z3x31 ?_; (case Nx31 => k_asm); (case Xx31 => k_asm); (case qx31 => k_mem); (case z0x31 => omega); (case z1x31 => omega); (case z2x31 => omega); (case z3x31 => omega)); intro _ _))
  k_with "call builtin:str.split" => (k_extra "split")
  k_with "exec If" => (((with_reducible show wpAny _ _ (exec (Stmt.If (Expr.BoolOp _ [Expr.Compare (Expr.Name (Str.ofString "length") _) _ _ _, _] _) _ _ _) _) _ _ _); (refine' if_no ?k1Fx33 ?k1Nx33 ?k1tx33 ?k1kx33); (case k1Fx33 => k_asm); (case k1Nx33 => k_asm); rotate_left; (intro h9w33 tk9w33 F9w33 N9w33; (try k_fold)); rotate_left))
  k_with "subscriptTail Name Constant ref int" => ((exfalso; omega))
  k_with "subscriptTail Name UnaryOp ref int" => ((exfalso; omega))
  k_with "KnownB" => (first | exact knownB (by k_asm) (by k_asm) | (exfalso; omega) | (exfalso; k_extra "absurd") | exact knownB' (by k_extra "val") (by k_asm) (by k_asm))
  k_with "call builtin:len" => ((k_here; (with_reducible show wpAny _ _ (call (Value.builtin "len") [Value.ref _]) _ _ _); k_dflt (refine' len_any ?Nx37 ?mx37 ?ex37 ?zx37 ?_; (case Nx37 => k_asm); (case mx37 => k_mem); (case ex37 => exact StrsAre.length (by assumption)); (case zx37 => omega))))
  k_with "val" => first | rfl | assumption | (refine decide_eq_true ?_; omega) | (refine decide_eq_false ?_; omega)
  k_with "absurd" => first | contradiction | exact absurd (And.intro (by assumption) (by assumption)) hs | exact absurd hs (by assumption) | exact absurd hs1 (by k_extra "val")
  refine wpAny_call ?_
  k_dflt cell_enter
  k_steps
  all_goals first | exact ret_none hret rfl (by k_asm) (by k_asm) (by intro p hp; repeat (first | exact hp | refine List.Mem.tail _ ?_)) | (exfalso; omega)
end
end Mine
end
-- M71b
section
set_option maxHeartbeats 4000000
open PySem PySem.W PySem.Calls PyProof.Rows
namespace Mine
section
theorem max_b (w : World) (x : Str) (t : Tok) (hx : x.length ≤ 10000) (mx i : Int) (tm ti : Tok) (mu : Bool) (hm : 0 < mx) (hm2 : mx < 1000) (hi : 0 ≤ i) (hi2 : i < 1000)  :
    Tells w 71 [.str x t, .int mx tm, .bool mu, .int i ti, .bool true] 1 (fun _ _ => True) (RetTup (none)) := by
  unfold Tells
  intro mean mg mb dp un gd cn cs a ccd cl outer A₀ base h₀ L m news s Q E B F X N T hk hpre hd hu hret
  k_with_none
  k_with "binaryOp Mod str ref" => ((k_here; k_dflt (refine' fmt_E501 ?Xx38 ?Nx38 ?qx38 ?z0x38 ?z1x38 ?z2x38 ?z3x38 ?_; (case Nx38 => k_asm); (case Xx38 => k_asm); (case qx38 => k_mem); (case z0x38 => omega); (case z1x38 => omega); (case z2x38 => omega); (case z3x38 => omega)); intro _ _))
  k_with "call builtin:str.split" => (k_extra "split")
  k_with "exec If" => (((with_reducible show wpAny _ _ (exec (Stmt.If (Expr.BoolOp _ [Expr.Compare (Expr.Name (Str.ofString "length") _) _ _ _, _] _) _ _ _) _) _ _ _); (refine' if_no ?k2Fx40 ?k2Nx40 ?k2tx40 ?k2kx40); (case k2Fx40 => k_asm); (case k2Nx40 => k_asm); rotate_left; (intro h9w40 tk9w40 F9w40 N9w40; (try k_fold)); rotate_left))
  k_with "subscriptTail Name Constant ref int" => ((exfalso; omega))
  k_with "subscriptTail Name UnaryOp ref int" => ((exfalso; omega))
  k_with "KnownB" => (first | exact knownB (by k_asm) (by k_asm) | (exfalso; omega) | (exfalso; k_extra "absurd") | exact knownB' (by k_extra "val") (by k_asm) (by k_asm))
  k_with "call builtin:len" => ((k_here; (with_reducible show wpAny _ _ (call (Value.builtin "len") [Value.ref _]) _ _ _); k_dflt (refine' len_any ?Nx44 ?mx44 ?ex44 ?zx44 ?_; (case Nx44 => k_asm); (case mx44 => k_mem); (case ex44 => exact StrsAre.length (by assumption)); (case zx44 => omega))))
  k_with "val" => first | rfl | assumption | (refine decide_eq_true ?_; omega) | (refine decide_eq_false ?_; omega)
  k_with "absurd" => first | contradiction | exact absurd (And.intro (by assumption) (by assumption)) hs | exact absurd hs (by assumption) | exact absurd hs1 (by k_extra "val")
  refine wpAny_call ?_
  k_dflt cell_enter
  k_steps
  all_goals first | exact ret_none hret rfl (by k_asm) (by k_asm) (by intro p hp; repeat (first | exact hp | refine List.Mem.tail _ ?_)) | (exfalso; omega)
end
end Mine
end
-- M71c
section
set_option maxHeartbeats 4000000
open PySem PySem.W PySem.Calls PyProof.Rows
namespace Mine
section
theorem max_c (w : World) (x : Str) (t : Tok) (hx : x.length ≤ 10000) (mx i : Int) (tm ti : Tok) (hm : 0 < mx) (hm2 : mx < 1000) (hi : 0 ≤ i) (hi2 : i < 1000) (hc : ((Txt.rstrip x).length : Int) > mx) (hs : ¬ (i = 1 ∧ Txt.startswith (Txt.rstrip x) (Str.ofString "#!") = true)) (a : Str) (hws : Txt.words (Txt.rstrip x) = [a])  :
    Tells w 71 [.str x t, .int mx tm, .bool false, .int i ti, .bool false] 1 (fun _ _ => True) (RetTup (some (mx, msgR (Txt.rstrip x).length mx))) := by
  unfold Tells
  intro mean mg mb dp un gd cn cs a ccd cl outer A₀ base h₀ L m news s Q E B F X N T hk hpre hd hu hret
  k_with_none
  k_with "binaryOp Mod str ref" => ((k_here; k_dflt (refine' fmt_E501 ?Xx45 ?Nx45 ?qx45 ?z0x45 ?z1x45 ?z2x45 ?z3x45 ?_; (case Nx45 => k_asm); (case Xx45 => k_asm); (case qx45 => k_mem); (case z0x45 => omega); (case z1x45 => omega); (case z2x45 => omega); (case z3x45 => omega)); intro _ _))
  k_with "call builtin:str.split" => (k_extra "split")
  k_with "exec If" => (((with_reducible show wpAny _ _ (exec (Stmt.If (Expr.BoolOp _ [Expr.Compare (Expr.Name (Str.ofString "length") _) _ _ _, _] _) _ _ _) _) _ _ _); (refine' if_yes ?k5Fx47 ?k5Nx47 ?k5tx47 ?k5kx47); (case k5Fx47 => k_asm); (case k5Nx47 => k_asm); rotate_left; (intro h9w47 tk9w47 F9w47 N9w47; (try k_fold)); rotate_left))
  k_with "exec If" => (((with_reducible show wpAny _ _ (exec (Stmt.If (Expr.BoolOp _ [Expr.Compare (Expr.Name (Str.ofString "line_number") _) _ _ _, _] _) _ _ _) _) _ _ _); (refine' if_no ?k6Fx48 ?k6Nx48 ?k6tx48 ?k6kx48); (case k6Fx48 => k_asm); (case k6Nx48 => k_asm); rotate_left; (intro h9w48 tk9w48 F9w48 N9w48; (try k_fold)); rotate_left))
  k_with "exec If" => (((with_reducible show wpAny _ _ (exec (Stmt.If (Expr.BoolOp _ [Expr.BoolOp _ _ _, _] _) _ _ _) _) _ _ _); (refine' if_no ?k7Fx49 ?k7Nx49 ?k7tx49 ?k7kx49); (case k7Fx49 => k_asm); (case k7Nx49 => k_asm); rotate_left; (intro h9w49 tk9w49 F9w49 N9w49; (try k_fold)); rotate_left))
  k_with "exec If" => (((with_reducible show wpAny _ _ (exec (Stmt.If (Expr.Compare (Expr.Name (Str.ofString "length") _) _ _ _) _ _ _) _) _ _ _); (refine' if_yes ?k8Fx50 ?k8Nx50 ?k8tx50 ?k8kx50); (case k8Fx50 => k_asm); (case k8Nx50 => k_asm); rotate_left; (intro h9w50 tk9w50 F9w50 N9w50; (try k_fold)); rotate_left))
  k_with "subscriptTail Name Constant ref int" => ((exfalso; omega))
  k_with "subscriptTail Name UnaryOp ref int" => ((k_here; (with_reducible show wpAny _ _ (subscriptTail _ _ (Value.ref _) (Value.int _ _)) _ _ _); k_dflt (refine' item_m1 ?j1x52 ?j2x52 ?_ ?j3x52 ?j4x52; (case j1x52 => k_asm); (case j2x52 => k_mem); (case j3x52 => with_unfolding_all rfl); (case j4x52 => intro _; with_unfolding_all rfl))))
  k_with "KnownB" => (first | exact knownB (by k_asm) (by k_asm) | (exfalso; omega) | (exfalso; k_extra "absurd") | exact knownB' (by k_extra "val") (by k_asm) (by k_asm))
  k_with "call builtin:len" => ((k_here; (with_reducible show wpAny _ _ (call (Value.builtin "len") [Value.ref _]) _ _ _); k_dflt (refine' len_any ?Nx54 ?mx54 ?ex54 ?zx54 ?_; (case Nx54 => k_asm); (case mx54 => k_mem); (case ex54 => exact StrsAre.length (by assumption)); (case zx54 => omega))))
  k_with "split" => ((refine' split_1 ?kF ?kN hws ?kz ?_; (case kF => k_asm); (case kN => k_asm); (case kz => omega)); intro D9 ta9 h9 tk9 hw9 F9 N9 l9; (try k_fold))
  k_with "val" => first | rfl | assumption | (refine decide_eq_true ?_; omega) | (refine decide_eq_false ?_; omega)
  k_with "absurd" => first | contradiction | exact absurd (And.intro (by assumption) (by assumption)) hs | exact absurd hs (by assumption) | exact absurd hs1 (by k_extra "val")
  refine wpAny_call ?_
  k_dflt cell_enter
  k_steps
  all_goals first | (exact max_tup hret (by k_asm) (by k_asm) (by intro p hp; repeat (first | exact hp | refine List.Mem.tail _ ?_)) (by first | assumption | exact lt1 (by assumption) | exact lt2 (by assumption) | exact lt3 (by assumption))) | (exfalso; omega)
end
end Mine
end
-- M71d
section
set_option maxHeartbeats 700000
open PySem PySem.W PySem.Calls PyProof.Rows
namespace Mine
section
theorem max_d (w : World) (x : Str) (t : Tok) (hx : x.length ≤ 10000) (mx i : Int) (tm ti : Tok) (hm : 0 < mx) (hm2 : mx < 1000) (hi : 0 ≤ i) (hi2 : i < 1000) (hc : ((Txt.rstrip x).length : Int) > mx) (hs : ¬ (i = 1 ∧ Txt.startswith (Txt.rstrip x) (Str.ofString "#!") = true)) (a : Str) (hws : Txt.words (Txt.rstrip x) = [a]) (hd : ((Txt.rstrip x).length : Int) - (a.length : Int) < mx - 7) :
    Tells w 71 [.str x t, .int mx tm, .bool true, .int i ti, .bool false] 1 (fun _ _ => True) (RetTup (none)) := by
  unfold Tells
  intro mean mg mb dp un gd cn cs a ccd cl outer A₀ base h₀ L m news s Q E B F X N T hk hpre hd hu hret
  k_with_none
  k_with "binaryOp Mod str ref" => ((k_here; k_dflt (refine' fmt_E501 ?Xx55 ?Nx55 ?qx55 ?z0x55 ?z1x55 ?z2x55 ?z3x55 ?_; (case Nx55 => k_asm); (case Xx55 => k_asm); (case qx55 => k_mem); (case z0x55 => omega); (case z1x55 => omega); (case z2x55 => omega); (case z3x55 => omega)); intro _ _))
  k_with "call builtin:str.split" => (k_extra "split")
  k_with "exec If" => (((with_reducible show wpAny _ _ (exec (Stmt.If (Expr.BoolOp _ [Expr.Compare (Expr.Name (Str.ofString "length") _) _ _ _, _] _) _ _ _) _) _ _ _); (refine' if_yes ?k9Fx57 ?k9Nx57 ?k9tx57 ?k9kx57); (case k9Fx57 => k_asm); (case k9Nx57 => k_asm); rotate_left; (intro h9w57 tk9w57 F9w57 N9w57; (try k_fold)); rotate_left))
  k_with "exec If" => (((with_reducible show wpAny _ _ (exec (Stmt.If (Expr.BoolOp _ [Expr.Compare (Expr.Name (Str.ofString "line_number") _) _ _ _, _] _) _ _ _) _) _ _ _); (refine' if_no ?k10Fx58 ?k10Nx58 ?k10tx58 ?k10kx58); (case k10Fx58 => k_asm); (case k10Nx58 => k_asm); rotate_left; (intro h9w58 tk9w58 F9w58 N9w58; (try k_fold)); rotate_left))
  k_with "exec If" => (((with_reducible show wpAny _ _ (exec (Stmt.If (Expr.BoolOp _ [Expr.BoolOp _ _ _, _] _) _ _ _) _) _ _ _); (refine' if_yes ?k11Fx59 ?k11Nx59 ?k11tx59 ?k11kx59); (case k11Fx59 => k_asm); (case k11Nx59 => k_asm); rotate_left; (intro h9w59 tk9w59 F9w59 N9w59; (try k_fold)); rotate_left))
  k_with "subscriptTail Name Constant ref int" => ((exfalso; omega))
  k_with "subscriptTail Name UnaryOp ref int" => ((k_here; (with_reducible show wpAny _ _ (subscriptTail _ _ (Value.ref _) (Value.int _ _)) _ _ _); k_dflt (refine' item_m1 ?j1x61 ?j2x61 ?_ ?j3x61 ?j4x61; (case j1x61 => k_asm); (case j2x61 => k_mem); (case j3x61 => with_unfolding_all rfl); (case j4x61 => intro _; with_unfolding_all rfl))))
  k_with "KnownB" => (first | exact knownB (by k_asm) (by k_asm) | (exfalso; omega) | (exfalso; k_extra "absurd") | exact knownB' (by k_extra "val") (by k_asm) (by k_asm))
  k_with "call builtin:len" => ((k_here; (with_reducible show wpAny _ _ (call (Value.builtin "len") [Value.ref _]) _ _ _); k_dflt (refine' len_any ?Nx63 ?mx63 ?ex63 ?zx63 ?_; (case Nx63 => k_asm); (case mx63 => k_mem); (case ex63 => exact StrsAre.length (by assumption)); (case zx63 => omega))))
  k_with "split" => ((refine' split_1 ?kF ?kN hws ?kz ?_; (case kF => k_asm); (case kN => k_asm); (case kz => omega)); intro D9 ta9 h9 tk9 hw9 F9 N9 l9; (try k_fold))
  k_with "val" => first | rfl | assumption | (refine decide_eq_true ?_; omega) | (refine decide_eq_false ?_; omega)
  k_with "absurd" => first | contradiction | exact absurd (And.intro (by assumption) (by assumption)) hs | exact absurd hs (by assumption) | exact absurd hs1 (by k_extra "val")
  refine wpAny_call ?_
  k_dflt cell_enter
  k_steps
  all_goals first | exact ret_none hret rfl (by k_asm) (by k_asm) (by intro p hp; repeat (first | exact hp | refine List.Mem.tail _ ?_)) | (exfalso; omega)
end
end Mine
end
-- M71e
section
set_option maxHeartbeats 700000
open PySem PySem.W PySem.Calls PyProof.Rows
namespace Mine
section
theorem max_e (w : World) (x : Str) (t : Tok) (hx : x.length ≤ 10000) (mx i : Int) (tm ti : Tok) (hm : 0 < mx) (hm2 : mx < 1000) (hi : 0 ≤ i) (hi2 : i < 1000) (hc : ((Txt.rstrip x).length : Int) > mx) (hs : ¬ (i = 1 ∧ Txt.startswith (Txt.rstrip x) (Str.ofString "#!") = true)) (a : Str) (hws : Txt.words (Txt.rstrip x) = [a]) (hd : ¬ ((Txt.rstrip x).length : Int) - (a.length : Int) < mx - 7) :
    Tells w 71 [.str x t, .int mx tm, .bool true, .int i ti, .bool false] 1 (fun _ _ => True) (RetTup (some (mx, msgR (Txt.rstrip x).length mx))) := by
  unfold Tells
  intro mean mg mb dp un gd cn cs a ccd cl outer A₀ base h₀ L m news s Q E B F X N T hk hpre hd hu hret
  k_with_none
  k_with "binaryOp Mod str ref" => ((k_here; k_dflt (refine' fmt_E501 ?Xx64 ?Nx64 ?qx64 ?z0x64 ?z1x64 ?z2x64 ?z3x64 ?_; (case Nx64 => k_asm); (case Xx64 => k_asm); (case qx64 => k_mem); (case z0x64 => omega); (case z1x64 => omega); (case z2x64 => omega); (case z3x64 => omega)); intro _ _))
  k_with "call builtin:str.split" => (k_extra "split")
  k_with "exec If" => (((with_reducible show wpAny _ _ (exec (Stmt.If (Expr.BoolOp _ [Expr.Compare (Expr.Name (Str.ofString "length") _) _ _ _, _] _) _ _ _) _) _ _ _); (refine' if_yes ?k12Fx66 ?k12Nx66 ?k12tx66 ?k12kx66); (case k12Fx66 => k_asm); (case k12Nx66 => k_asm); rotate_left; (intro h9w66 tk9w66 F9w66 N9w66; (try k_fold)); rotate_left))
  k_with "exec If" => (((with_reducible show wpAny _ _ (exec (Stmt.If (Expr.BoolOp _ [Expr.Compare (Expr.Name (Str.ofString "line_number") _) _ _ _, _] _) _ _ _) _) _ _ _); (refine' if_no ?k13Fx67 ?k13Nx67 ?k13tx67 ?k13kx67); (case k13Fx67 => k_asm); (case k13Nx67 => k_asm); rotate_left; (intro h9w67 tk9w67 F9w67 N9w67; (try k_fold)); rotate_left))
  k_with "exec If" => (((with_reducible show wpAny _ _ (exec (Stmt.If (Expr.BoolOp _ [Expr.BoolOp _ _ _, _] _) _ _ _) _) _ _ _); (refine' if_no ?k14Fx68 ?k14Nx68 ?k14tx68 ?k14kx68); (case k14Fx68 => k_asm); (case k14Nx68 => k_asm); rotate_left; (intro h9w68 tk9w68 F9w68 N9w68; (try k_fold)); rotate_left))
  k_with "exec If" => (((with_reducible show wpAny _ _ (exec (Stmt.If (Expr.Compare (Expr.Name (Str.ofString "length") _) _ _ _) _ _ _) _) _ _ _); (refine' if_yes ?k15Fx69 ?k15Nx69 ?k15tx69 ?k15kx69); (case k15Fx69 => k_asm); (case k15Nx69 => k_asm); rotate_left; (intro h9w69 tk9w69 F9w69 N9w69; (try k_fold)); rotate_left))
  k_with "subscriptTail Name Constant ref int" => ((exfalso; omega))
  k_with "subscriptTail Name UnaryOp ref int" => ((k_here; (with_reducible show wpAny _ _ (subscriptTail _ _ (Value.ref _) (Value.int _ _)) _ _ _); k_dflt (refine' item_m1 ?j1x71 ?j2x71 ?_ ?j3x71 ?j4x71; (case j1x71 => k_asm); (case j2x71 => k_mem); (case j3x71 => with_unfolding_all rfl); (case j4x71 => intro _; with_unfolding_all rfl))))
  k_with "KnownB" => (first | exact knownB (by k_asm) (by k_asm) | (exfalso; omega) | (exfalso; k_extra "absurd") | exact knownB' (by k_extra "val") (by k_asm) (by k_asm))
  k_with "call builtin:len" => ((k_here; (with_reducible show wpAny _ _ (call (Value.builtin "len") [Value.ref _]) _ _ _); k_dflt (refine' len_any ?Nx73 ?mx73 ?ex73 ?zx73 ?_; (case Nx73 => k_asm); (case mx73 => k_mem); (case ex73 => exact StrsAre.length (by assumption)); (case zx73 => omega))))
  k_with "split" => ((refine' split_1 ?kF ?kN hws ?kz ?_; (case kF => k_asm); (case kN => k_asm); (case kz => omega)); intro D9 ta9 h9 tk9 hw9 F9 N9 l9; (try k_fold))
  k_with "val" => first | rfl | assumption | (refine decide_eq_true ?_; omega) | (refine decide_eq_false ?_; omega)
  k_with "absurd" => first | contradiction | exact absurd (And.intro (by assumption) (by assumption)) hs | exact absurd hs (by assumption) | exact absurd hs1 (by k_extra "val")
  refine wpAny_call ?_
  k_dflt cell_enter
  k_steps
  all_goals first | (exact max_tup hret (by k_asm) (by k_asm) (by intro p hp; repeat (first | exact hp | refine List.Mem.tail _ ?_)) (by first | assumption | exact lt1 (by assumption) | exact lt2 (by assumption) | exact lt3 (by assumption))) | (exfalso; omega)
end
end Mine
end
-- M71f
section
set_option maxHeartbeats 4000000
open PySem PySem.W PySem.Calls PyProof.Rows
namespace Mine
section
theorem max_f (w : World) (x : Str) (t : Tok) (hx : x.length ≤ 10000) (mx i : Int) (tm ti : Tok) (mu : Bool) (hm : 0 < mx) (hm2 : mx < 1000) (hi : 0 ≤ i) (hi2 : i < 1000) (hc : ((Txt.rstrip x).length : Int) > mx) (hs : ¬ (i = 1 ∧ Txt.startswith (Txt.rstrip x) (Str.ofString "#!") = true)) (a b : Str) (hws : Txt.words (Txt.rstrip x) = [a, b]) (ha : (a == Str.ofString "#") = false) :
    Tells w 71 [.str x t, .int mx tm, .bool mu, .int i ti, .bool false] 1 (fun _ _ => True) (RetTup (some (mx, msgR (Txt.rstrip x).length mx))) := by
  unfold Tells
  intro mean mg mb dp un gd cn cs a ccd cl outer A₀ base h₀ L m news s Q E B F X N T hk hpre hd hu hret
  k_with_none
  k_with "binaryOp Mod str ref" => ((k_here; k_dflt (refine' fmt_E501 ?Xx74 ?Nx74 ?qx74 ?z0x74 ?z1x74 ?z2x74 ?z3x74 ?_; (case Nx74 => k_asm); (case Xx74 => k_asm); (case qx74 => k_mem); (case z0x74 => omega); (case z1x74 => omega); (case z2x74 => omega); (case z3x74 => omega)); intro _ _))
  k_with "call builtin:str.split" => (k_extra "split")
  k_with "exec If" => (((with_reducible show wpAny _ _ (exec (Stmt.If (Expr.BoolOp _ [Expr.Compare (Expr.Name (Str.ofString "length") _) _ _ _, _] _) _ _ _) _) _ _ _); (refine' if_yes ?k16Fx76 ?k16Nx76 ?k16tx76 ?k16kx76); (case k16Fx76 => k_asm); (case k16Nx76 => k_asm); rotate_left; (intro h9w76 tk9w76 F9w76 N9w76; (try k_fold)); rotate_left))
  k_with "exec If" => (((with_reducible show wpAny _ _ (exec (Stmt.If (Expr.BoolOp _ [Expr.Compare (Expr.Name (Str.ofString "line_number") _) _ _ _, _] _) _ _ _) _) _ _ _); (refine' if_no ?k17Fx77 ?k17Nx77 ?k17tx77 ?k17kx77); (case k17Fx77 => k_asm); (case k17Nx77 => k_asm); rotate_left; (intro h9w77 tk9w77 F9w77 N9w77; (try k_fold)); rotate_left))
  k_with "exec If" => (((with_reducible show wpAny _ _ (exec (Stmt.If (Expr.BoolOp _ [Expr.BoolOp _ _ _, _] _) _ _ _) _) _ _ _); (refine' if_no ?k18Fx78 ?k18Nx78 ?k18tx78 ?k18kx78); (case k18Fx78 => k_asm); (case k18Nx78 => k_asm); rotate_left; (intro h9w78 tk9w78 F9w78 N9w78; (try k_fold)); rotate_left))
  k_with "exec If" => (((with_reducible show wpAny _ _ (exec (Stmt.If (Expr.Compare (Expr.Name (Str.ofString "length") _) _ _ _) _ _ _) _) _ _ _); (refine' if_yes ?k19Fx79 ?k19Nx79 ?k19tx79 ?k19kx79); (case k19Fx79 => k_asm); (case k19Nx79 => k_asm); rotate_left; (intro h9w79 tk9w79 F9w79 N9w79; (try k_fold)); rotate_left))
  k_with "subscriptTail Name Constant ref int" => ((k_here; (with_reducible show wpAny _ _ (subscriptTail _ _ (Value.ref _) (Value.int _ _)) _ _ _); k_dflt (refine' item_0 ?j1x80 ?j2x80 ?_ ?j3x80 ?j4x80; (case j1x80 => k_asm); (case j2x80 => k_mem); (case j3x80 => with_unfolding_all rfl); (case j4x80 => intro _; with_unfolding_all rfl))))
  k_with "subscriptTail Name UnaryOp ref int" => ((k_here; (with_reducible show wpAny _ _ (subscriptTail _ _ (Value.ref _) (Value.int _ _)) _ _ _); k_dflt (refine' item_m2 ?j1x81 ?j2x81 ?_ ?j3x81 ?j4x81; (case j1x81 => k_asm); (case j2x81 => k_mem); (case j3x81 => with_unfolding_all rfl); (case j4x81 => intro _; with_unfolding_all rfl))))
  k_with "KnownB" => (first | exact knownB (by k_asm) (by k_asm) | (exfalso; omega) | (exfalso; k_extra "absurd") | exact knownB' (by k_extra "val") (by k_asm) (by k_asm))
  k_with "call builtin:len" => ((k_here; (with_reducible show wpAny _ _ (call (Value.builtin "len") [Value.ref _]) _ _ _); k_dflt (refine' len_any ?Nx83 ?mx83 ?ex83 ?zx83 ?_; (case Nx83 => k_asm); (case mx83 => k_mem); (case ex83 => exact StrsAre.length (by assumption)); (case zx83 => omega))))
  k_with "split" => ((refine' split_2 ?kF ?kN hws ?kz ?_; (case kF => k_asm); (case kN => k_asm); (case kz => omega)); intro D9 ta9 tb9 h9 tk9 hw9 F9 N9 l9; (try k_fold))
  k_with "val" => first | rfl | assumption | (refine decide_eq_true ?_; omega) | (refine decide_eq_false ?_; omega)
  k_with "absurd" => first | contradiction | exact absurd (And.intro (by assumption) (by assumption)) hs | exact absurd hs (by assumption) | exact absurd hs1 (by k_extra "val")
  refine wpAny_call ?_
  k_dflt cell_enter
  k_steps
  all_goals first | (exact max_tup hret (by k_asm) (by k_asm) (by intro p hp; repeat (first | exact hp | refine List.Mem.tail _ ?_)) (by first | assumption | exact lt1 (by assumption) | exact lt2 (by assumption) | exact lt3 (by assumption))) | (exfalso; omega)
end
end Mine
end
-- M71g
section
set_option maxHeartbeats 700000
open PySem PySem.W PySem.Calls PyProof.Rows
namespace Mine
section
theorem max_g (w : World) (x : Str) (t : Tok) (hx : x.length ≤ 10000) (mx i : Int) (tm ti : Tok) (mu : Bool) (hm : 0 < mx) (hm2 : mx < 1000) (hi : 0 ≤ i) (hi2 : i < 1000) (hc : ((Txt.rstrip x).length : Int) > mx) (hs : ¬ (i = 1 ∧ Txt.startswith (Txt.rstrip x) (Str.ofString "#!") = true)) (a b : Str) (hws : Txt.words (Txt.rstrip x) = [a, b]) (ha : (a == Str.ofString "#") = true) (hd : ((Txt.rstrip x).length : Int) - (b.length : Int) < mx - 7) :
    Tells w 71 [.str x t, .int mx tm, .bool mu, .int i ti, .bool false] 1 (fun _ _ => True) (RetTup (none)) := by
  unfold Tells
  intro mean mg mb dp un gd cn cs a ccd cl outer A₀ base h₀ L m news s Q E B F X N T hk hpre hd hu hret
  k_with_none
  k_with "binaryOp Mod str ref" => ((k_here; k_dflt (refine' fmt_E501 ?Xx84 ?Nx84 ?qx84 ?z0x84 ?z1x84 ?z2x84 ?z3x84 ?_; (case Nx84 => k_asm); (case Xx84 => k_asm); (case qx84 => k_mem); (case z0x84 => omega); (case z1x84 => omega); (case z2x84 => omega); (case z3x84 => omega)); intro _ _))
  k_with "call builtin:str.split" => (k_extra "split")
  k_with "exec If" => (((with_reducible show wpAny _ _ (exec (Stmt.If (Expr.BoolOp _ [Expr.Compare (Expr.Name (Str.ofString "length") _) _ _ _, _] _) _ _ _) _) _ _ _); (refine' if_yes ?k20Fx86 ?k20Nx86 ?k20tx86 ?k20kx86); (case k20Fx86 => k_asm); (case k20Nx86 => k_asm); rotate_left; (intro h9w86 tk9w86 F9w86 N9w86; (try k_fold)); rotate_left))
  k_with "exec If" => (((with_reducible show wpAny _ _ (exec (Stmt.If (Expr.BoolOp _ [Expr.Compare (Expr.Name (Str.ofString "line_number") _) _ _ _, _] _) _ _ _) _) _ _ _); (refine' if_no ?k21Fx87 ?k21Nx87 ?k21tx87 ?k21kx87); (case k21Fx87 => k_asm); (case k21Nx87 => k_asm); rotate_left; (intro h9w87 tk9w87 F9w87 N9w87; (try k_fold)); rotate_left))
  k_with "exec If" => (((with_reducible show wpAny _ _ (exec (Stmt.If (Expr.BoolOp _ [Expr.BoolOp _ _ _, _] _) _ _ _) _) _ _ _); (refine' if_yes ?k22Fx88 ?k22Nx88 ?k22tx88 ?k22kx88); (case k22Fx88 => k_asm); (case k22Nx88 => k_asm); rotate_left; (intro h9w88 tk9w88 F9w88 N9w88; (try k_fold)); rotate_left))
  k_with "subscriptTail Name Constant ref int" => ((k_here; (with_reducible show wpAny _ _ (subscriptTail _ _ (Value.ref _) (Value.int _ _)) _ _ _); k_dflt (refine' item_0 ?j1x89 ?j2x89 ?_ ?j3x89 ?j4x89; (case j1x89 => k_asm); (case j2x89 => k_mem); (case j3x89 => with_unfolding_all rfl); (case j4x89 => intro _; with_unfolding_all rfl))))
  k_with "subscriptTail Name UnaryOp ref int" => ((k_here; (with_reducible show wpAny _ _ (subscriptTail _ _ (Value.ref _) (Value.int _ _)) _ _ _); k_dflt (refine' item_m2 ?j1x90 ?j2x90 ?_ ?j3x90 ?j4x90; (case j1x90 => k_asm); (case j2x90 => k_mem); (case j3x90 => with_unfolding_all rfl); (case j4x90 => intro _; with_unfolding_all rfl))))
  k_with "KnownB" => (first | exact knownB (by k_asm) (by k_asm) | (exfalso; omega) | (exfalso; k_extra "absurd") | exact knownB' (by k_extra "val") (by k_asm) (by k_asm))
  k_with "call builtin:len" => ((k_here; (with_reducible show wpAny _ _ (call (Value.builtin "len") [Value.ref _]) _ _ _); k_dflt (refine' len_any ?Nx92 ?mx92 ?ex92 ?zx92 ?_; (case Nx92 => k_asm); (case mx92 => k_mem); (case ex92 => exact StrsAre.length (by assumption)); (case zx92 => omega))))
  k_with "split" => ((refine' split_2 ?kF ?kN hws ?kz ?_; (case kF => k_asm); (case kN => k_asm); (case kz => omega)); intro D9 ta9 tb9 h9 tk9 hw9 F9 N9 l9; (try k_fold))
  k_with "val" => first | rfl | assumption | (refine decide_eq_true ?_; omega) | (refine decide_eq_false ?_; omega)
  k_with "absurd" => first | contradiction | exact absurd (And.intro (by assumption) (by assumption)) hs | exact absurd hs (by assumption) | exact absurd hs1 (by k_extra "val")
  refine wpAny_call ?_
  k_dflt cell_enter
  k_steps
  all_goals first | exact ret_none hret rfl (by k_asm) (by k_asm) (by intro p hp; repeat (first | exact hp | refine List.Mem.tail _ ?_)) | (exfalso; omega)
end
end Mine
end
-- M71h
section
set_option maxHeartbeats 700000
open PySem PySem.W PySem.Calls PyProof.Rows
namespace Mine
section
theorem max_h (w : World) (x : Str) (t : Tok) (hx : x.length ≤ 10000) (mx i : Int) (tm ti : Tok) (mu : Bool) (hm : 0 < mx) (hm2 : mx < 1000) (hi : 0 ≤ i) (hi2 : i < 1000) (hc : ((Txt.rstrip x).length : Int) > mx) (hs : ¬ (i = 1 ∧ Txt.startswith (Txt.rstrip x) (Str.ofString "#!") = true)) (a b : Str) (hws : Txt.words (Txt.rstrip x) = [a, b]) (ha : (a == Str.ofString "#") = true) (hd : ¬ ((Txt.rstrip x).length : Int) - (b.length : Int) < mx - 7) :
    Tells w 71 [.str x t, .int mx tm, .bool mu, .int i ti, .bool false] 1 (fun _ _ => True) (RetTup (some (mx, msgR (Txt.rstrip x).length mx))) := by
  unfold Tells
  intro mean mg mb dp un gd cn cs a ccd cl outer A₀ base h₀ L m news s Q E B F X N T hk hpre hd hu hret
  k_with_none
  k_with "binaryOp Mod str ref" => ((k_here; k_dflt (refine' fmt_E501 ?Xx93 ?Nx93 ?qx93 ?z0x93 ?z1x93 ?z2x93 ?z3x93 ?_; (case Nx93 => k_asm); (case Xx93 => k_asm); (case qx93 => k_mem); (case z0x93 => omega); (case z1x93 => omega); (case z2x93 => omega); (case z3x93 => omega)); intro _ _))
  k_with "call builtin:str.split" => (k_extra "split")
  k_with "exec If" => (((with_reducible show wpAny _ _ (exec (Stmt.If (Expr.BoolOp _ [Expr.Compare (Expr.Name (Str.ofString "length") _) _ _ _, _] _) _ _ _) _) _ _ _); (refine' if_yes ?k23Fx95 ?k23Nx95 ?k23tx95 ?k23kx95); (case k23Fx95 => k_asm); (case k23Nx95 => k_asm); rotate_left; (intro h9w95 tk9w95 F9w95 N9w95; (try k_fold)); rotate_left))
  k_with "exec If" => (((with_reducible show wpAny _ _ (exec (Stmt.If (Expr.BoolOp _ [Expr.Compare (Expr.Name (Str.ofString "line_number") _) _ _ _, _] _) _ _ _) _) _ _ _); (refine' if_no ?k24Fx96 ?k24Nx96 ?k24tx96 ?k24kx96); (case k24Fx96 => k_asm); (case k24Nx96 => k_asm); rotate_left; (intro h9w96 tk9w96 F9w96 N9w96; (try k_fold)); rotate_left))
  k_with "exec If" => (((with_reducible show wpAny _ _ (exec (Stmt.If (Expr.BoolOp _ [Expr.BoolOp _ _ _, _] _) _ _ _) _) _ _ _); (refine' if_no ?k25Fx97 ?k25Nx97 ?k25tx97 ?k25kx97); (case k25Fx97 => k_asm); (case k25Nx97 => k_asm); rotate_left; (intro h9w97 tk9w97 F9w97 N9w97; (try k_fold)); rotate_left))
  k_with "exec If" => (((with_reducible show wpAny _ _ (exec (Stmt.If (Expr.Compare (Expr.Name (Str.ofString "length") _) _ _ _) _ _ _) _) _ _ _); (refine' if_yes ?k26Fx98 ?k26Nx98 ?k26tx98 ?k26kx98); (case k26Fx98 => k_asm); (case k26Nx98 => k_asm); rotate_left; (intro h9w98 tk9w98 F9w98 N9w98; (try k_fold)); rotate_left))
  k_with "subscriptTail Name Constant ref int" => ((k_here; (with_reducible show wpAny _ _ (subscriptTail _ _ (Value.ref _) (Value.int _ _)) _ _ _); k_dflt (refine' item_0 ?j1x99 ?j2x99 ?_ ?j3x99 ?j4x99; (case j1x99 => k_asm); (case j2x99 => k_mem); (case j3x99 => with_unfolding_all rfl); (case j4x99 => intro _; with_unfolding_all rfl))))
  k_with "subscriptTail Name UnaryOp ref int" => ((k_here; (with_reducible show wpAny _ _ (subscriptTail _ _ (Value.ref _) (Value.int _ _)) _ _ _); k_dflt (refine' item_m2 ?j1x100 ?j2x100 ?_ ?j3x100 ?j4x100; (case j1x100 => k_asm); (case j2x100 => k_mem); (case j3x100 => with_unfolding_all rfl); (case j4x100 => intro _; with_unfolding_all rfl))))
  k_with "KnownB" => (first | exact knownB (by k_asm) (by k_asm) | (exfalso; omega) | (exfalso; k_extra "absurd") | exact knownB' (by k_extra "val") (by k_asm) (by k_asm))
  k_with "call builtin:len" => ((k_here; (with_reducible show wpAny _ _ (call (Value.builtin "len") [Value.ref _]) _ _ _); k_dflt (refine' len_any ?Nx102 ?mx102 ?ex102 ?zx102 ?_; (case Nx102 => k_asm); (case mx102 => k_mem); (case ex102 => exact StrsAre.length (by assumption)); (case zx102 => omega))))
  k_with "split" => ((refine' split_2 ?kF ?kN hws ?kz ?_; (case kF => k_asm); (case kN => k_asm); (case kz => omega)); intro D9 ta9 tb9 h9 tk9 hw9 F9 N9 l9; (try k_fold))
  k_with "val" => first | rfl | assumption | (refine decide_eq_true ?_; omega) | (refine decide_eq_false ?_; omega)
  k_with "absurd" => first | contradiction | exact absurd (And.intro (by assumption) (by assumption)) hs | exact absurd hs (by assumption) | exact absurd hs1 (by k_extra "val")
  refine wpAny_call ?_
  k_dflt cell_enter
  k_steps
  all_goals first | (exact max_tup hret (by k_asm) (by k_asm) (by intro p hp; repeat (first | exact hp | refine List.Mem.tail _ ?_)) (by first | assumption | exact lt1 (by assumption) | exact lt2 (by assumption) | exact lt3 (by assumption))) | (exfalso; omega)
end
end Mine
end
-- M71i
section
set_option maxHeartbeats 700000
open PySem PySem.W PySem.Calls PyProof.Rows
namespace Mine
section
theorem max_i (w : World) (x : Str) (t : Tok) (hx : x.length ≤ 10000) (mx i : Int) (tm ti : Tok) (mu : Bool) (hm : 0 < mx) (hm2 : mx < 1000) (hi : 0 ≤ i) (hi2 : i < 1000) (hc : ((Txt.rstrip x).length : Int) > mx) (hs : ¬ (i = 1 ∧ Txt.startswith (Txt.rstrip x) (Str.ofString "#!") = true)) (ws : List Str) (hws : Txt.words (Txt.rstrip x) = ws) (h1 : ws.length ≠ 1) (h2 : ws.length ≠ 2) :
    Tells w 71 [.str x t, .int mx tm, .bool mu, .int i ti, .bool false] 1 (fun _ _ => True) (RetTup (some (mx, msgR (Txt.rstrip x).length mx))) := by
  unfold Tells
  intro mean mg mb dp un gd cn cs a ccd cl outer A₀ base h₀ L m news s Q E B F X N T hk hpre hd hu hret
  k_with_none
  k_with "binaryOp Mod str ref" => ((k_here; k_dflt (refine' fmt_E501 ?Xx103 ?Nx103 ?qx103 ?z0x103 ?z1x103 ?z2x103 ?z3x103 ?_; (case Nx103 => k_asm); (case Xx103 => k_asm); (case qx103 => k_mem); (case z0x103 => omega); (case z1x103 => omega); (case z2x103 => omega); (case z3x103 => omega)); intro _ _))
  k_with "call builtin:str.split" => (k_extra "split")
  k_with "exec If" => (((with_reducible show wpAny _ _ (exec (Stmt.If (Expr.BoolOp _ [Expr.Compare (Expr.Name (Str.ofString "length") _) _ _ _, _] _) _ _ _) _) _ _ _); (refine' if_yes ?k27Fx105 ?k27Nx105 ?k27tx105 ?k27kx105); (case k27Fx105 => k_asm); (case k27Nx105 => k_asm); rotate_left; (intro h9w105 tk9w105 F9w105 N9w105; (try k_fold)); rotate_left))
  k_with "exec If" => (((with_reducible show wpAny _ _ (exec (Stmt.If (Expr.BoolOp _ [Expr.Compare (Expr.Name (Str.ofString "line_number") _) _ _ _, _] _) _ _ _) _) _ _ _); (refine' if_no ?k28Fx106 ?k28Nx106 ?k28tx106 ?k28kx106); (case k28Fx106 => k_asm); (case k28Nx106 => k_asm); rotate_left; (intro h9w106 tk9w106 F9w106 N9w106; (try k_fold)); rotate_left))
  k_with "exec If" => (((with_reducible show wpAny _ _ (exec (Stmt.If (Expr.BoolOp _ [Expr.BoolOp _ _ _, _] _) _ _ _) _) _ _ _); (refine' if_no ?k29Fx107 ?k29Nx107 ?k29tx107 ?k29kx107); (case k29Fx107 => k_asm); (case k29Nx107 => k_asm); rotate_left; (intro h9w107 tk9w107 F9w107 N9w107; (try k_fold)); rotate_left))
  k_with "exec If" => (((with_reducible show wpAny _ _ (exec (Stmt.If (Expr.Compare (Expr.Name (Str.ofString "length") _) _ _ _) _ _ _) _) _ _ _); (refine' if_yes ?k30Fx108 ?k30Nx108 ?k30tx108 ?k30kx108); (case k30Fx108 => k_asm); (case k30Nx108 => k_asm); rotate_left; (intro h9w108 tk9w108 F9w108 N9w108; (try k_fold)); rotate_left))
  k_with "subscriptTail Name Constant ref int" => ((exfalso; omega))
  k_with "subscriptTail Name UnaryOp ref int" => ((exfalso; omega))
  k_with "KnownB" => (first | exact knownB (by k_asm) (by k_asm) | (exfalso; omega) | (exfalso; k_extra "absurd") | exact knownB' (by k_extra "val") (by k_asm) (by k_asm))
  k_with "call builtin:len" => ((k_here; (with_reducible show wpAny _ _ (call (Value.builtin "len") [Value.ref _]) _ _ _); k_dflt (refine' len_any ?Nx112 ?mx112 ?ex112 ?zx112 ?_; (case Nx112 => k_asm); (case mx112 => k_mem); (case ex112 => exact StrsAre.length (by assumption)); (case zx112 => omega))))
  k_with "split" => ((refine' split_n ?kF ?kN hws ?kz ?_; (case kF => k_asm); (case kN => k_asm); (case kz => omega)); intro D9 vs9 h9 tk9 hS9 hw9 F9 N9 l9; (try k_fold))
  k_with "val" => first | rfl | assumption | (refine decide_eq_true ?_; omega) | (refine decide_eq_false ?_; omega)
  k_with "absurd" => first | contradiction | exact absurd (And.intro (by assumption) (by assumption)) hs | exact absurd hs (by assumption) | exact absurd hs1 (by k_extra "val")
  refine wpAny_call ?_
  k_dflt cell_enter
  k_steps
  all_goals first | (exact max_tup hret (by k_asm) (by k_asm) (by intro p hp; repeat (first | exact hp | refine List.Mem.tail _ ?_)) (by first | assumption | exact lt1 (by assumption) | exact lt2 (by assumption) | exact lt3 (by assumption))) | (exfalso; omega)
end
end Mine
end
-- M71s
section
set_option maxHeartbeats 4000000
open PySem PySem.W PySem.Calls PyProof.Rows
namespace Mine
section
theorem max_s (w : World) (x : Str) (t : Tok) (hx : x.length ≤ 10000) (mx i : Int) (tm ti : Tok) (mu : Bool) (hm : 0 < mx) (hm2 : mx < 1000) (hi : 0 ≤ i) (hi2 : i < 1000) (hc : ((Txt.rstrip x).length : Int) > mx) (hs : i = 1) (hs1 : Txt.startswith (Txt.rstrip x) (Str.ofString "#!") = true) :
    Tells w 71 [.str x t, .int mx tm, .bool mu, .int i ti, .bool false] 1 (fun _ _ => True) (RetTup (none)) := by
  unfold Tells
  intro mean mg mb dp un gd cn cs a ccd cl outer A₀ base h₀ L m news s Q E B F X N T hk hpre hd hu hret
  k_with_none
  k_with "binaryOp Mod str ref" => ((k_here; k_dflt (refine' fmt_E501 ?Xx113 ?Nx113 ?qx113 ?z0x113 ?z1x113 ?z2x113 ?z3x113 ?_; (case Nx113 => k_asm); (case Xx113 => k_asm); (case qx113 => k_mem); (case z0x113 => omega); (case z1x113 => omega); (case z2x113 => omega); (case z3x113 => omega)); intro _ _))
  k_with "call builtin:str.split" => (k_extra "split")
  k_with "exec If" => (((with_reducible show wpAny _ _ (exec (Stmt.If (Expr.BoolOp _ [Expr.Compare (Expr.Name (Str.ofString "length") _) _ _ _, _] _) _ _ _) _) _ _ _); (refine' if_yes ?k3Fx115 ?k3Nx115 ?k3tx115 ?k3kx115); (case k3Fx115 => k_asm); (case k3Nx115 => k_asm); rotate_left; (intro h9w115 tk9w115 F9w115 N9w115; (try k_fold)); rotate_left))
  k_with "exec If" => (((with_reducible show wpAny _ _ (exec (Stmt.If (Expr.BoolOp _ [Expr.Compare (Expr.Name (Str.ofString "line_number") _) _ _ _, _] _) _ _ _) _) _ _ _); (refine' if_yes ?k4Fx116 ?k4Nx116 ?k4tx116 ?k4kx116); (case k4Fx116 => k_asm); (case k4Nx116 => k_asm); rotate_left; (intro h9w116 tk9w116 F9w116 N9w116; (try k_fold)); rotate_left))
  k_with "subscriptTail Name Constant ref int" => ((exfalso; omega))
  k_with "subscriptTail Name UnaryOp ref int" => ((exfalso; omega))
  k_with "KnownB" => (first | exact knownB (by k_asm) (by k_asm) | (exfalso; omega) | (exfalso; k_extra "absurd") | exact knownB' (by k_extra "val") (by k_asm) (by k_asm))
  k_with "call builtin:len" => ((k_here; (with_reducible show wpAny _ _ (call (Value.builtin "len") [Value.ref _]) _ _ _); k_dflt (refine' len_any ?Nx120 ?mx120 ?ex120 ?zx120 ?_; (case Nx120 => k_asm); (case mx120 => k_mem); (case ex120 => exact StrsAre.length (by assumption)); (case zx120 => omega))))
  k_with "val" => first | rfl | assumption | (refine decide_eq_true ?_; omega) | (refine decide_eq_false ?_; omega)
  k_with "absurd" => first | contradiction | exact absurd (And.intro (by assumption) (by assumption)) hs | exact absurd hs (by assumption) | exact absurd hs1 (by k_extra "val")
  refine wpAny_call ?_
  k_dflt cell_enter
  k_steps
  all_goals first | exact ret_none hret rfl (by k_asm) (by k_asm) (by intro p hp; repeat (first | exact hp | refine List.Mem.tail _ ?_)) | (exfalso; omega)
end
end Mine
end
-- D71
section
set_option maxHeartbeats 4000000
open PySem PySem.W PySem.Calls PyProof.Rows
namespace Mine
theorem tells_max (w : World) (x : Str) (t : Tok) (hx : x.length ≤ 10000) (mx i : Int) (tm ti : Tok) (mu nq : Bool) (hm : 0 < mx) (hm2 : mx < 1000) (hi : 0 ≤ i) (hi2 : i < 1000) :
    Tells w 71 [.str x t, .int mx tm, .bool mu, .int i ti, .bool nq] 1 (fun _ _ => True) (RetTup (longR (Txt.rstrip x) (Txt.words (Txt.rstrip x)) mx mu nq (shR (Txt.rstrip x) i))) := by
  by_cases hc : ((Txt.rstrip x).length : Int) > mx
  · cases nq
    · cases hsh : shR (Txt.rstrip x) i
      · have hno : ¬ (i = 1 ∧ Txt.startswith (Txt.rstrip x) (Str.ofString "#!") = true) := by
          unfold shR at hsh
          simpa using hsh
        generalize hws : Txt.words (Txt.rstrip x) = ws
        rcases shape ws with a | ⟨a, b⟩ | ⟨ws, h1, h2⟩
        · cases mu
          · rw [long4 hc (fun c => Bool.false_ne_true c.1)]
            exact max_c w x t hx mx i tm ti hm hm2 hi hi2 hc hno a hws
          · by_cases hd : ((Txt.rstrip x).length : Int) - (a.length : Int) < mx - 7
            · rw [long5 hd]
              exact max_d w x t hx mx i tm ti hm hm2 hi hi2 hc hno a hws hd
            · rw [long4 hc (fun c => hd c.2)]
              exact max_e w x t hx mx i tm ti hm hm2 hi hi2 hc hno a hws hd
        · cases ha : (a == Str.ofString "#")
          · rw [long6 hc (fun c => by rw [ha] at c; exact Bool.false_ne_true c.1)]
            exact max_f w x t hx mx i tm ti mu hm hm2 hi hi2 hc hno a b hws ha
          · by_cases hd : ((Txt.rstrip x).length : Int) - (b.length : Int) < mx - 7
            · rw [long7 ha hd]
              exact max_g w x t hx mx i tm ti mu hm hm2 hi hi2 hc hno a b hws ha hd
            · rw [long6 hc (fun c => hd c.2)]
              exact max_h w x t hx mx i tm ti mu hm hm2 hi hi2 hc hno a b hws ha hd
        · rw [long3 hc h1 h2]
          exact max_i w x t hx mx i tm ti mu hm hm2 hi hi2 hc hno ws hws h1 h2
      · obtain ⟨hi1, hs1⟩ : i = 1 ∧ Txt.startswith (Txt.rstrip x) (Str.ofString "#!") = true := by
          unfold shR at hsh
          simpa using hsh
        rw [long2]
        exact max_s w x t hx mx i tm ti mu hm hm2 hi hi2 hc hi1 hs1
    · rw [long1]
      exact max_b w x t hx mx i tm ti mu hm hm2 hi hi2
  · rw [long0 hc]
    exact max_a w x t hx mx i tm ti mu hm hm2 hi hi2 nq hc
end Mine
end
-- P4
section
open PySem PySem.W PySem.Calls PyProof.Rows
namespace Mine
open PySem.Builtin PySem.Builtin.Str
def swapL (c d : Nat) (l : List Nat) : List Nat := l.map fun k => if k = c then d else k
theorem swap_free (c d : Nat) (l : List Nat) (h : c ∉ l) : swapL c d l = l := by
  unfold swapL
  induction l with
  | nil => rfl
  | cons k r ih =>
    have h1 : ¬ k = c := fun e => h (e ▸ List.mem_cons_self ..)
    have h2 : c ∉ r := fun m => h (List.mem_cons_of_mem _ m)
    rw [List.map_cons, if_neg h1, ih h2]
theorem swap_join (c d : Nat) : ∀ parts : List Str, (∀ p ∈ parts, c ∉ p.cps.toList) → swapL c d (Str.join ⟨#[c]⟩ parts).cps.toList = (Str.join ⟨#[d]⟩ parts).cps.toList
  | [], _ => rfl
  | [p], h => swap_free c d _ (h p (List.mem_singleton.mpr rfl))
  | p :: q :: r, h => by
    have ih := swap_join c d (q :: r) fun a ha => h a (List.mem_cons_of_mem _ ha)
    show swapL c d (p ++ ⟨#[c]⟩ ++ Str.join ⟨#[c]⟩ (q :: r)).cps.toList = (p ++ ⟨#[d]⟩ ++ Str.join ⟨#[d]⟩ (q :: r)).cps.toList
    simp only [Str.cps_append, Array.toList_append]
    have e : ∀ a b : List Nat, swapL c d (a ++ b) = swapL c d a ++ swapL c d b := fun a b => List.map_append
    rw [e, e, ih, swap_free c d _ (h p (List.mem_cons_self ..))]
    show p.cps.toList ++ swapL c d [c] ++ _ = _
    have e1 : swapL c d [c] = [d] := by simp [swapL]
    rw [e1]
theorem rep_lst (x : Str) (c d : Nat) : lst (Txt.replace x ⟨#[c]⟩ ⟨#[d]⟩) = swapL c d (lst x) := by
  unfold lst
  rw [StrLaws.replace_one, ← swap_join c d _ (StrLaws.split_free x c), StrLaws.join_split]
theorem rep_len (x : Str) (c d : Nat) : (Txt.replace x ⟨#[c]⟩ ⟨#[d]⟩).length = x.length := by
  rw [len_lst, len_lst, rep_lst]
  simp [swapL]
def runs (p : Nat → Bool) : List Nat → List Nat → List (List Nat)
  | [], cur => if cur = [] then [] else [cur]
  | c :: r, cur => if p c then (if cur = [] then runs p r [] else cur :: runs p r []) else runs p r (cur ++ [c])
theorem runs_congr {p q : Nat → Bool} : ∀ (l cur : List Nat), (∀ c ∈ l, p c = q c) → runs p l cur = runs q l cur
  | [], _, _ => rfl
  | c :: r, cur, h => by
    have h1 := h c List.mem_cons_self
    have ih := fun cur => runs_congr r cur fun a ha => h a (List.mem_cons_of_mem _ ha)
    unfold runs
    rw [h1, ih, ih]
theorem runs_swap (p : Nat → Bool) (c d : Nat) (hd : p d = true) : ∀ (l cur : List Nat), runs p (swapL c d l) cur = runs (fun k => p k || k == c) l cur
  | [], _ => rfl
  | k :: r, cur => by
    have ih := fun cur => runs_swap p c d hd r cur
    show runs p ((if k = c then d else k) :: swapL c d r) cur = _
    by_cases h : k = c
    · rw [if_pos h]
      unfold runs
      simp only [hd, h, beq_self_eq_true, Bool.or_true, if_true]
      rw [ih]
    · rw [if_neg h]
      unfold runs
      have e : (k == c) = false := by simpa using h
      simp only [e, Bool.or_false]
      rw [ih, ih]
theorem runs_free (p : Nat → Bool) : ∀ (a b cur : List Nat), (∀ c ∈ a, p c = false) → runs p (a ++ b) cur = runs p b (cur ++ a)
  | [], b, cur, _ => by simp
  | c :: r, b, cur, h => by
    rw [List.cons_append]
    have h1 := h c List.mem_cons_self
    conv => lhs; unfold runs
    rw [h1]
    simp only [Bool.false_eq_true, if_false]
    rw [runs_free p r b _ fun a ha => h a (List.mem_cons_of_mem _ ha)]
    simp
theorem neS {z : Str} : (z != Str.ofString "") = !decide (lst z = []) := by
  cases h : (z != Str.ofString "") with
  | false => rw [eq_empty.mp h]; rfl
  | true => simp [ne_empty.mp h]
theorem runs_join (c : Nat) : ∀ parts : List Str, (∀ p ∈ parts, c ∉ p.cps.toList) →
    runs (· == c) (lst (Str.join ⟨#[c]⟩ parts)) [] = (parts.filter (· != Str.ofString "")).map lst
  | [], _ => rfl
  | [p], h => by
    have h1 : ∀ k ∈ lst p, (k == c) = false := fun k hk => by
      have := h p (List.mem_singleton.mpr rfl)
      rw [beq_eq_false_iff_ne]
      rintro rfl
      exact this hk
    show runs (· == c) (lst p) [] = _
    have e := runs_free (· == c) (lst p) [] [] h1
    rw [List.append_nil] at e
    rw [e, List.nil_append]
    unfold runs
    by_cases hp : lst p = []
    · rw [if_pos hp, List.filter_cons_of_neg (by rw [neS]; simp [hp])]; rfl
    · rw [if_neg hp, List.filter_cons_of_pos (by rw [neS]; simp [hp])]; rfl
  | p :: q :: r, h => by
    have ih := runs_join c (q :: r) fun a ha => h a (List.mem_cons_of_mem _ ha)
    have h1 : ∀ k ∈ lst p, (k == c) = false := fun k hk => by
      have := h p List.mem_cons_self
      rw [beq_eq_false_iff_ne]
      rintro rfl
      exact this hk
    have e0 : lst (Str.join ⟨#[c]⟩ (p :: q :: r)) = lst p ++ (c :: lst (Str.join ⟨#[c]⟩ (q :: r))) := by
      show lst (p ++ ⟨#[c]⟩ ++ Str.join ⟨#[c]⟩ (q :: r)) = _
      rw [lst_append, lst_append, List.append_assoc]
      rfl
    rw [e0, runs_free _ _ _ _ h1, List.nil_append]
    conv => lhs; unfold runs
    simp only [beq_self_eq_true, if_true]
    rw [ih]
    by_cases hp : lst p = []
    · rw [if_pos hp, List.filter_cons_of_neg (a := p) (by rw [neS]; simp [hp])]
    · rw [if_neg hp, List.filter_cons_of_pos (a := p) (by rw [neS]; simp [hp])]; rfl
theorem split_runs (x : Str) (c : Nat) : ((Txt.split x ⟨#[c]⟩).filter (· != Str.ofString "")).map lst = runs (· == c) (lst x) [] := by
  rw [← runs_join c _ (StrLaws.split_free x c), StrLaws.join_split]
/-- the law's words -/
def wordsW (l : Str) : List Str := (Txt.split (Txt.replace (Txt.replace l (Str.ofString "\t") (Str.ofString " ")) (Str.ofString "\x0b") (Str.ofString " ")) (Str.ofString " ")).filter (· != Str.ofString "")
theorem wordsW_runs (l : Str) : (wordsW l).map lst = runs (fun k => ((k == 32) || k == 11) || k == 9) (lst l) [] := by
  unfold wordsW
  have e1 : Str.ofString "\t" = ⟨#[9]⟩ := by decide
  have e2 : Str.ofString "\x0b" = ⟨#[11]⟩ := by decide
  have e3 : Str.ofString " " = ⟨#[32]⟩ := by decide
  rw [e1, e2, e3, split_runs, rep_lst, rep_lst, runs_swap _ _ _ (by rfl), runs_swap _ _ _ (by rfl)]
end Mine
end
-- C2
section
set_option maxHeartbeats 4000000
open PySem PySem.W PySem.Calls PyProof.Rows
namespace Mine
section
variable {prog : Program} {w : World} {A : Around} {h₀ : Heap} {L : Addr} {m : Str → Option Value} {env : Env} {ct elt : Expr} {x : Str} {scope : Scope} {cl : List (Str × Addr)} {s : Shared} {S : List (Addr × Obj) → Prop} {Fin : List Value → List (Addr × Obj) → Prop} {news : List (Addr × Obj)}
theorem filter_index (f : Str → Bool) : ∀ ws : List Str, (((List.range ws.length).filter fun i => f (ws.getD i Str.empty)).map fun i => ws.getD i Str.empty) = ws.filter f := by
  intro ws
  have e : ws = (List.range ws.length).map fun i => ws.getD i Str.empty := by
    apply List.ext_getElem
    · simp
    · intro i h1 h2
      simp only [List.getElem_map, List.getElem_range]
      rw [List.getD_eq_getElem?_getD, List.getElem?_eq_getElem h1]
      rfl
  conv => rhs; rw [e]
  rw [List.filter_map]
  rfl
/-- a list of strs, a test, strs -/
theorem comp_sl {vs : List Value} {ws : List Str} (hv : StrsAre vs ws) (f : Str → Bool)
    (turn : ∀ (z : Str) t I oI C oC D m₂ ys h tk (E' : Value → Shared → Prop), z ∈ ws → LCg.NsObj oC m₂ → m₂ x = some (.str z t) → Fr h₀ L h m → News h₀ L h ((I, oI) :: (C, oC) :: (D, LCg.lst ys) :: news) → LCg.Off3 I C D news → ((@Ne Nat I C) ∧ (@Ne Nat I D) ∧ (@Ne Nat C D)) →
      wpAny (model prog w) A (isTrue ct (compEnvC scope cl C env) (eval ct (compEnvC scope cl C env))) (fun b s' => if b = true then
        wpAny (model prog w) A (eval elt (compEnvC scope cl C env)) (LCg.CompEnd h₀ L m { s with heap := h, toks := tk } I oI C oC D (LCg.lst ys) S (fun y news' => MEl news (f z) (IsS z) y news')) E' s'
        else LCg.CompEnd h₀ L m { s with heap := h, toks := tk } I oI C oC D (LCg.lst ys) S (fun _ news' => MNo news (f z) news') Value.none s') E' { s with heap := h, toks := tk })
    (fin : ∀ ys, StrsAre ys (ws.filter f) → ys.length ≤ ws.length → Fin ys news) : LCt.CompRestT prog w A h₀ L m env ct elt x scope cl s S (fun i v => vs.toArray[i]? = some v) Fin vs.toArray.size 0 [] news := by
  have hs : vs.toArray.size = ws.length := by simp [hv.length]
  rw [hs]
  refine comp_T (Al := fun ys l => StrsAre ys (l.map fun i => ws.getD i Str.empty)) (fun i => f (ws.getD i Str.empty)) (fun i => IsS (ws.getD i Str.empty)) .nil ?_ ?_ ?_ ?_
  · rintro ys l i y hy ⟨t, rfl⟩
    rw [List.map_append]
    exact hy.append' (.cons _ t .nil)
  · intro ys l h
    rw [h.length, List.length_map]
  · intro i v I oI C oC D m₂ ys h tk E' hi hvi hC hx F N off ne
    have hvi' : vs[i]? = some v := by simpa using hvi
    obtain ⟨y, t, rfl, hy⟩ := hv.item i v hvi'
    have e : ws.getD i Str.empty = y := by rw [List.getD_eq_getElem?_getD, hy]; rfl
    rw [e]
    exact turn y t I oI C oC D m₂ ys h tk E' (List.mem_of_getElem? hy) hC hx F N off ne
  · intro ys hy hl
    rw [filter_index] at hy
    exact fin ys hy hl
end
end Mine
end
-- B1P
section
set_option maxHeartbeats 4000000
open PySem PySem.W PySem.Calls PyProof.Rows
namespace Mine
theorem fillP : PySem.Challenge.rw_bd0044_01.foot = 11 → Mine.hd.heap_39 = Mine.hd.heap_39 := by
  k_fill
  intro _
  rfl
def RetStrP (r : Str) (n : Nat) (h₀ : Heap) (L : Addr) (m : Str → Option Value) (news : List (Addr × Obj)) (s : Shared) (Q : Value → Shared → Prop) : Prop :=
  ∀ (t : Tok) (h' : Heap) (tk' : Nat), r.length ≤ n → 0 < tk' → Fr h₀ L h' m → News h₀ L h' news → Q (.str r t) { s with heap := h', toks := tk' }
theorem ret_strP {h₀ h' : Heap} {L : Addr} {m : Str → Option Value} {news news' : List (Addr × Obj)} {s : Shared} {Q : Value → Shared → Prop} {t : Tok} {tk' : Nat} {r z : Str} {n : Nat} (hret : RetStrP r n h₀ L m news s Q) (e : z = r) (hn : r.length ≤ n) (hp : 0 < tk') (F : Fr h₀ L h' m) (N : News h₀ L h' news') (hs : ∀ p ∈ news, p ∈ news') : Q (.str z t) { s with heap := h', toks := tk' } := by
  subst e
  exact hret t h' tk' hn hp F (news_sub N hs)
theorem pos_toks {α : Type} {M : Model} {A : Around} {p : Sem α} {Q : α → Shared → Prop} {E : Value → Shared → Prop} {h : Heap} {g : Array GenState} {d : Drawn} {o : OsState} {X : Nat} (h0 : 0 < X) (hk : ∀ tk, 0 < tk → wpAny M A p Q E ⟨h, g, d, tk, o⟩) : wpAny M A p Q E ⟨h, g, d, X, o⟩ := hk X h0
section
theorem less_tellsP (w : World) (x y : Str) (t u : Tok) (hx : x.length ≤ 10000) (hy : y.length ≤ 10000) : Tells w 113 [.str x t, .str y u] 1 (fun _ _ => True) (RetStrP (lessS x y) x.length) := by
  unfold Tells
  intro mean mg mb dp un gd cn cs a ccd cl outer A₀ base h₀ L m news s Q E B F X N T hk hpre hd hu hret
  k_with_none
  k_with "execs cons" => ((k_here; (with_reducible refine' pos_toks ?p1x121 ?_); (case p1x121 => (fail_if_success assumption); omega); intro tk9w121 hp9w121))
  k_with "exec" => k_while (fun (_ : List Int) (z : Str) => z.length ≤ 10000 ∧ lessS z y = lessS x y) (fun (_ : List Int) (z : Str) => z.length) "line"
  k_with "state" => exact less_state (by assumption) (by assumption) (by assumption) (by assumption)
  k_with "measure" => exact less_len (by assumption)
  refine wpAny_call ?_
  k_dflt cell_enter
  k_steps
  · exact ret_strP hret ((less_stop1 (by assumption) (by assumption)).symm.trans (by assumption)) (less_le x y) (by assumption) (by assumption) (by assumption) (fun _ h => h)
  · exact ret_strP hret ((less_stop0 (by assumption)).symm.trans (by assumption)) (less_le x y) (by assumption) (by assumption) (by assumption) (fun _ h => h)
end
end Mine
end
-- L137
section
set_option maxHeartbeats 4000000
open PySem PySem.W PySem.Calls PyProof.Rows
namespace Mine
def spS : Str := Str.ofString " \t\n\x0d\x0b\x0c"
def bangB (l : Str) (i : Int) : Bool := decide (i = 1) && (Txt.slice l none (some 2) == Str.ofString "#!")
theorem strs_one {ys : List Value} {a : Str} (h : StrsAre ys [a]) : ∃ ta, ys = [.str a ta] := by
  cases h with
  | cons _ t h' => cases h' with | nil => exact ⟨t, rfl⟩
theorem strs_two {ys : List Value} {a b : Str} (h : StrsAre ys [a, b]) : ∃ ta tb, ys = [.str a ta, .str b tb] := by
  cases h with
  | cons _ t h' => cases h' with | cons _ u h'' => cases h'' with | nil => exact ⟨t, u, rfl⟩
section
variable {prog : Program} {w : World} {A : Around} {h₀ : Heap} {L : Addr} {m : Str → Option Value} {env : Env} {ct elt : Expr} {x : Str} {scope : Scope} {cl : List (Str × Addr)} {s : Shared} {S : List (Addr × Obj) → Prop} {Fin : List Value → List (Addr × Obj) → Prop} {news : List (Addr × Obj)}
theorem comp_w1 {vs : List Value} {ws : List Str} {a : Str} {f : Str → Bool} (hv : StrsAre vs ws) (hw : ws.filter f = [a])
    (turn : ∀ (z : Str) t I oI C oC D m₂ ys h tk (E' : Value → Shared → Prop), z ∈ ws → LCg.NsObj oC m₂ → m₂ x = some (.str z t) → Fr h₀ L h m → News h₀ L h ((I, oI) :: (C, oC) :: (D, LCg.lst ys) :: news) → LCg.Off3 I C D news → ((@Ne Nat I C) ∧ (@Ne Nat I D) ∧ (@Ne Nat C D)) →
      wpAny (model prog w) A (isTrue ct (compEnvC scope cl C env) (eval ct (compEnvC scope cl C env))) (fun b s' => if b = true then
        wpAny (model prog w) A (eval elt (compEnvC scope cl C env)) (LCg.CompEnd h₀ L m { s with heap := h, toks := tk } I oI C oC D (LCg.lst ys) S (fun y news' => MEl news (f z) (IsS z) y news')) E' s'
        else LCg.CompEnd h₀ L m { s with heap := h, toks := tk } I oI C oC D (LCg.lst ys) S (fun _ news' => MNo news (f z) news') Value.none s') E' { s with heap := h, toks := tk })
    (fin : ∀ ta, Fin [.str a ta] news) : LCt.CompRestT prog w A h₀ L m env ct elt x scope cl s S (fun i v => vs.toArray[i]? = some v) Fin vs.toArray.size 0 [] news :=
  comp_sl hv f turn fun ys h _ => by
    rw [hw] at h
    obtain ⟨ta, rfl⟩ := strs_one h
    exact fin ta
theorem comp_w2 {vs : List Value} {ws : List Str} {a b : Str} {f : Str → Bool} (hv : StrsAre vs ws) (hw : ws.filter f = [a, b])
    (turn : ∀ (z : Str) t I oI C oC D m₂ ys h tk (E' : Value → Shared → Prop), z ∈ ws → LCg.NsObj oC m₂ → m₂ x = some (.str z t) → Fr h₀ L h m → News h₀ L h ((I, oI) :: (C, oC) :: (D, LCg.lst ys) :: news) → LCg.Off3 I C D news → ((@Ne Nat I C) ∧ (@Ne Nat I D) ∧ (@Ne Nat C D)) →
      wpAny (model prog w) A (isTrue ct (compEnvC scope cl C env) (eval ct (compEnvC scope cl C env))) (fun b s' => if b = true then
        wpAny (model prog w) A (eval elt (compEnvC scope cl C env)) (LCg.CompEnd h₀ L m { s with heap := h, toks := tk } I oI C oC D (LCg.lst ys) S (fun y news' => MEl news (f z) (IsS z) y news')) E' s'
        else LCg.CompEnd h₀ L m { s with heap := h, toks := tk } I oI C oC D (LCg.lst ys) S (fun _ news' => MNo news (f z) news') Value.none s') E' { s with heap := h, toks := tk })
    (fin : ∀ ta tb, Fin [.str a ta, .str b tb] news) : LCt.CompRestT prog w A h₀ L m env ct elt x scope cl s S (fun i v => vs.toArray[i]? = some v) Fin vs.toArray.size 0 [] news :=
  comp_sl hv f turn fun ys h _ => by
    rw [hw] at h
    obtain ⟨ta, tb, rfl⟩ := strs_two h
    exact fin ta tb
theorem comp_wn {vs : List Value} {ws us : List Str} {f : Str → Bool} (hv : StrsAre vs ws) (hw : ws.filter f = us) (hl : ws.length ≤ 10002)
    (turn : ∀ (z : Str) t I oI C oC D m₂ ys h tk (E' : Value → Shared → Prop), z ∈ ws → LCg.NsObj oC m₂ → m₂ x = some (.str z t) → Fr h₀ L h m → News h₀ L h ((I, oI) :: (C, oC) :: (D, LCg.lst ys) :: news) → LCg.Off3 I C D news → ((@Ne Nat I C) ∧ (@Ne Nat I D) ∧ (@Ne Nat C D)) →
      wpAny (model prog w) A (isTrue ct (compEnvC scope cl C env) (eval ct (compEnvC scope cl C env))) (fun b s' => if b = true then
        wpAny (model prog w) A (eval elt (compEnvC scope cl C env)) (LCg.CompEnd h₀ L m { s with heap := h, toks := tk } I oI C oC D (LCg.lst ys) S (fun y news' => MEl news (f z) (IsS z) y news')) E' s'
        else LCg.CompEnd h₀ L m { s with heap := h, toks := tk } I oI C oC D (LCg.lst ys) S (fun _ news' => MNo news (f z) news') Value.none s') E' { s with heap := h, toks := tk })
    (fin : ∀ ys, StrsAre ys us → us.length ≤ 10002 → Fin ys news) : LCt.CompRestT prog w A h₀ L m env ct elt x scope cl s S (fun i v => vs.toArray[i]? = some v) Fin vs.toArray.size 0 [] news :=
  comp_sl hv f turn fun ys h h2 => by
    rw [hw] at h
    exact fin ys h (by rw [← h.length]; omega)
end
section
variable {prog : Program} {w : World} {A : Around} {E : Value → Shared → Prop} {h₀ : Heap} {L : Addr} {m : Str → Option Value} {s : Shared} {news : List (Addr × Obj)} {Q : Value → Shared → Prop}
theorem split_w {x y : Str} {t u : Tok} (F : Fr h₀ L s.heap m) (N : News h₀ L s.heap news) (hx : x.length ≤ 10000) (hy : (y.length == 0) = false)
    (h : ∀ D vs h' k, StrsAre vs (Txt.split x y) → (Txt.split x y).length ≤ 10002 → vs.toArray.size ≤ sizeLine → Fr h₀ L h' m → News h₀ L h' ((D, listOf vs.toArray 0) :: news) → (∀ p ∈ news, p.1 < D) → Q (.ref D) { s with heap := h', toks := k }) :
    wpAny (model prog w) A (call (.builtin "str.split") [.str x t, .str y u]) Q E s := by
  refine KSpl.split1 F N hy (fun D l h' k hl hs F' N' hlt => ?_) (by rw [sizeLine_eq]; omega)
  rw [hl] at hs
  have hle := split_le x y
  exact h D _ h' k hs (by omega) (by rw [sizeLine_eq]; simp only [List.size_toArray]; rw [hs.length]; omega) F' N' hlt
open Builtin Builtin.Str in
theorem rep_go {x y z : Str} {t u v : Tok} (hu : u ≠ 0) (hv : v ≠ 0) (huv : u ≠ v) (hyz : (y == z) = false) (hb : x.length + (x.length + 1) * z.length ≤ 16777216)
    (hq : ∀ t' k, s.toks ≤ k → Q (.str (Txt.replace x y z) t') { s with toks := k }) : wpAny (model prog w) A (call (.builtin "str.replace") [.str x t, .str y u, .str z v]) Q E s := by
  have e : (2 : Nat) ^ 24 = 16777216 := by decide
  have hl : tooLong (x.length + (occurrences x y 0 x.length (x.length + 1)).length * z.length) = false := by
    have h1 := StrLaws.occ_length_le x y 0 x.length (x.length + 1)
    have h2 : (occurrences x y 0 x.length (x.length + 1)).length * z.length ≤ (x.length + 1) * z.length := Nat.mul_le_mul_right _ h1
    unfold tooLong sizeLine
    exact decide_eq_false (by omega)
  refine call_gives F.slot_str_replace (typeIs_str _ _ _) F.entry_str_replace (F.args_str_replace_3 _ _ _)
    (gives_str_replace x y z t u v fun _ => ⟨by simp [hu, hv], by simp [huv], hyz, hl⟩) ?_
  have hq' := hq
  unfold Txt.replace at hq'
  cases hc : ((occurrences x y 0 x.length (x.length + 1)).isEmpty || (y.length == 0 && z.length == 0))
  · rw [hc] at hq'
    simp only [Bool.false_eq_true, if_false] at hq' ⊢
    exact ⟨fits_replaced y hb, hq' _ _ (Nat.le_succ _)⟩
  · rw [hc] at hq'
    simp only [if_true] at hq' ⊢
    exact hq' t s.toks (Nat.le_refl _)
theorem rep_w {x y z : Str} {t : Tok} {u v : Nat} {c d : Nat} (ey : y = ⟨#[c]⟩) (ez : z = ⟨#[d]⟩) (hu : 0 < u) (huv : u < v) (hx : x.length ≤ 10000) (hyz : (y == z) = false)
    (hq : ∀ t' k, (Txt.replace x y z).length ≤ 10000 → s.toks ≤ k → Q (.str (Txt.replace x y z) t') { s with toks := k }) : wpAny (model prog w) A (call (.builtin "str.replace") [.str x t, .str y u, .str z v]) Q E s :=
  rep_go (Nat.ne_of_gt hu) (Nat.ne_of_gt (Nat.lt_trans hu huv)) (Nat.ne_of_lt huv) hyz (by
    have h1 : z.length = 1 := by rw [ez]; rfl
    rw [h1]; omega) fun t' k hk => hq t' k (by rw [ey, ez, rep_len]; exact hx) hk
end
end Mine
end
-- M137a
section
set_option maxHeartbeats 1000000
open PySem PySem.W PySem.Calls PyProof.Rows
namespace Mine
section
theorem long_a (w : World) (x : Str) (t : Tok) (hx : x.length ≤ 10000) (mx i : Int) (tm ti : Tok) (mu : Bool) (hm : 0 < mx) (hm2 : mx < 1000) (hi : 0 ≤ i) (hi2 : i < 1000) (nq : Bool) (hc : ¬ ((lessS x (Str.ofString " \t\n\r\x0b\x0c")).length : Int) > mx) (ws : List Str) (hws : wordsW (lessS x (Str.ofString " \t\n\r\x0b\x0c")) = ws)  :
    Tells w 137 [.str x t, .int mx tm, .bool mu, .int i ti, .bool nq] 2 (fun _ _ => True) (RetTup (none)) := by
  unfold Tells
  intro mean mg mb dp un gd cn cs a ccd cl outer A₀ base h₀ L m news s Q E B F X N T hk hpre hd hu hret
  k_with_none
  k_with "call ref" => ((k_here; (with_reducible show wpAny _ _ (call (Value.ref 113) [Value.str _ _, Value.str _ _] _) _ _ _); k_dflt (refine' Tells.use (less_tellsP _ _ _ _ _ ?z1x122 ?z2x122) ?k1x122 ?k2x122 ?k3x122 ?k4x122 ?k5x122 ?kKx122 ?kPx122 ?kdx122 ?kux122 ?_; (case z1x122 => omega); (case z2x122 => first | decide | omega); (case k1x122 => k_asm); (case k2x122 => k_asm); (case k3x122 => k_asm); (case k4x122 => k_asm); (case k5x122 => k_asm); (case kKx122 => first | exact rfl | assumption); (case kPx122 => first | exact True.intro | k_extra "pre"); (case kdx122 => ktr_room); (case kux122 => ktr_units)); intro t9w122 h9w122 tk9w122 hl9w122 hp9w122 F9w122 N9w122; (try dsimp only); (try k_fold)))
  k_with "execs cons" => ((k_here; (with_reducible refine' pos_toks ?p1x123 ?_); (case p1x123 => (fail_if_success assumption); omega); intro tk9w123 hp9w123))
  k_with "CompSrcT" => (k_extra "my comp")
  k_with "CompEnd" => ((refine comp_end (by k_asm) (by k_asm) (by assumption) (by lcg_src) ?_; try dsimp only))
  k_with "MEl" => ((refine ⟨rfl, ?_, ⟨_, rfl⟩⟩; assumption))
  k_with "MNo" => ((refine ⟨rfl, ?_⟩; assumption))
  k_with "call builtin:str.replace" => ((k_here; k_dflt (refine' rep_w (c := 9) (d := 32) ?r1x128 ?r2x128 ?r3x128 ?r4x128 ?r5x128 ?r6x128 ?_; (case r1x128 => decide); (case r2x128 => decide); (case r3x128 => omega); (case r4x128 => omega); (case r5x128 => omega); (case r6x128 => decide)); intro _ _ _ hk9w128; (try dsimp only at hk9w128)))
  k_with "call builtin:str.replace" => ((k_here; k_dflt (refine' rep_w (c := 11) (d := 32) ?q1x129 ?q2x129 ?q3x129 ?q4x129 ?q5x129 ?q6x129 ?_; (case q1x129 => decide); (case q2x129 => decide); (case q3x129 => omega); (case q4x129 => omega); (case q5x129 => omega); (case q6x129 => decide)); intro _ _ _ hk9w129; (try dsimp only at hk9w129)))
  k_with "call builtin:str.split" => ((k_here; k_dflt (refine' split_w ?s1x130 ?s2x130 ?s3x130 ?s4x130 ?_; (case s1x130 => k_asm); (case s2x130 => k_asm); (case s3x130 => omega); (case s4x130 => decide)); (intro D9w130 vs9w130 h9w130 tk9w130 S9w130 w9w130 z9w130 F9w130 N9w130 l9w130; (try k_fold))))
  k_with "exec If" => (((with_reducible show wpAny _ _ (exec (Stmt.If (Expr.BoolOp _ [Expr.Compare _ _ _ _, Expr.Name _ _, _] _) _ _ _) _) _ _ _); (refine' if_yes ?k101Fx131 ?k101Nx131 ?k101tx131 ?k101kx131); (case k101Fx131 => k_asm); (case k101Nx131 => k_asm); rotate_left; (intro h9w131 tk9w131 F9w131 N9w131; (try k_fold)); rotate_left))
  k_with "subscriptTail Name Constant ref int" => ((exfalso; omega))
  k_with "subscriptTail Name UnaryOp ref int" => ((exfalso; omega))
  k_with "KnownB" => (first | exact knownB (by k_asm) (by k_asm) | (exfalso; omega) | (exfalso; k_extra "absurd") | exact knownB' (by k_extra "val") (by k_asm) (by k_asm))
  k_with "call builtin:len" => ((k_here; (with_reducible show wpAny _ _ (call (Value.builtin "len") [Value.ref _]) _ _ _); k_dflt (refine' len_any ?Nx135 ?mx135 ?ex135 ?zx135 ?_; (case Nx135 => k_asm); (case mx135 => k_mem); (case ex135 => exact StrsAre.length (by assumption)); (case zx135 => omega))))
  k_with "my comp" =>
    k_dflt (refine LCt.CompSrcT.ledger (by rfl) (by k_asm) (by k_asm) (by k_mem) (by assumption) ?_)
    intro g9
    refine' comp_wn (f := fun z => z != Str.ofString "") (by assumption) hws (by assumption) (fun zz9 tt9 I9 oI9 C9 oC9 D9 m9 ys9 h9 tk9 E9 hz9 hC9 hx9 F9 N9 off9 ne9 => ?_) (fun ys9 hS9 hl9 => ?_)
    all_goals (try k_fold)
  k_with "val" => first | rfl | assumption | (refine decide_eq_true ?_; omega) | (refine decide_eq_false ?_; omega)
  k_with "absurd" => first | contradiction | exact absurd (And.intro (by assumption) (by assumption)) hs | exact absurd hs (by assumption) | (rw [hs1] at *; contradiction)
  refine wpAny_call ?_
  k_dflt cell_enter
  k_steps
  all_goals first | exact ret_none hret rfl (by k_asm) (by k_asm) (by intro p hp; repeat (first | exact hp | refine List.Mem.tail _ ?_)) | (exfalso; omega)
end
end Mine
end
-- M137b
section
set_option maxHeartbeats 1000000
open PySem PySem.W PySem.Calls PyProof.Rows
namespace Mine
section
theorem long_b (w : World) (x : Str) (t : Tok) (hx : x.length ≤ 10000) (mx i : Int) (tm ti : Tok) (mu : Bool) (hm : 0 < mx) (hm2 : mx < 1000) (hi : 0 ≤ i) (hi2 : i < 1000) (ws : List Str) (hws : wordsW (lessS x (Str.ofString " \t\n\r\x0b\x0c")) = ws)  :
    Tells w 137 [.str x t, .int mx tm, .bool mu, .int i ti, .bool true] 2 (fun _ _ => True) (RetTup (none)) := by
  unfold Tells
  intro mean mg mb dp un gd cn cs a ccd cl outer A₀ base h₀ L m news s Q E B F X N T hk hpre hd hu hret
  k_with_none
  k_with "call ref" => ((k_here; (with_reducible show wpAny _ _ (call (Value.ref 113) [Value.str _ _, Value.str _ _] _) _ _ _); k_dflt (refine' Tells.use (less_tellsP _ _ _ _ _ ?z1x136 ?z2x136) ?k1x136 ?k2x136 ?k3x136 ?k4x136 ?k5x136 ?kKx136 ?kPx136 ?kdx136 ?kux136 ?_; (case z1x136 => omega); (case z2x136 => first | decide | omega); (case k1x136 => k_asm); (case k2x136 => k_asm); (case k3x136 => k_asm); (case k4x136 => k_asm); (case k5x136 => k_asm); (case kKx136 => first | exact rfl | assumption); (case kPx136 => first | exact True.intro | k_extra "pre"); (case kdx136 => ktr_room); (case kux136 => ktr_units)); intro t9w136 h9w136 tk9w136 hl9w136 hp9w136 F9w136 N9w136; (try dsimp only); (try k_fold)))
  k_with "execs cons" => ((k_here; (with_reducible refine' pos_toks ?p1x137 ?_); (case p1x137 => (fail_if_success assumption); omega); intro tk9w137 hp9w137))
  k_with "CompSrcT" => (k_extra "my comp")
  k_with "CompEnd" => ((refine comp_end (by k_asm) (by k_asm) (by assumption) (by lcg_src) ?_; try dsimp only))
  k_with "MEl" => ((refine ⟨rfl, ?_, ⟨_, rfl⟩⟩; assumption))
  k_with "MNo" => ((refine ⟨rfl, ?_⟩; assumption))
  k_with "call builtin:str.replace" => ((k_here; k_dflt (refine' rep_w (c := 9) (d := 32) ?r1x142 ?r2x142 ?r3x142 ?r4x142 ?r5x142 ?r6x142 ?_; (case r1x142 => decide); (case r2x142 => decide); (case r3x142 => omega); (case r4x142 => omega); (case r5x142 => omega); (case r6x142 => decide)); intro _ _ _ hk9w142; (try dsimp only at hk9w142)))
  k_with "call builtin:str.replace" => ((k_here; k_dflt (refine' rep_w (c := 11) (d := 32) ?q1x143 ?q2x143 ?q3x143 ?q4x143 ?q5x143 ?q6x143 ?_; (case q1x143 => decide); (case q2x143 => decide); (case q3x143 => omega); (case q4x143 => omega); (case q5x143 => omega); (case q6x143 => decide)); intro _ _ _ hk9w143; (try dsimp only at hk9w143)))
  k_with "call builtin:str.split" => ((k_here; k_dflt (refine' split_w ?s1x144 ?s2x144 ?s3x144 ?s4x144 ?_; (case s1x144 => k_asm); (case s2x144 => k_asm); (case s3x144 => omega); (case s4x144 => decide)); (intro D9w144 vs9w144 h9w144 tk9w144 S9w144 w9w144 z9w144 F9w144 N9w144 l9w144; (try k_fold))))
  k_with "exec If" => (((with_reducible show wpAny _ _ (exec (Stmt.If (Expr.BoolOp _ [Expr.Compare _ _ _ _, Expr.Name _ _, _] _) _ _ _) _) _ _ _); (refine' if_yes ?k102Fx145 ?k102Nx145 ?k102tx145 ?k102kx145); (case k102Fx145 => k_asm); (case k102Nx145 => k_asm); rotate_left; (intro h9w145 tk9w145 F9w145 N9w145; (try k_fold)); rotate_left))
  k_with "subscriptTail Name Constant ref int" => ((exfalso; omega))
  k_with "subscriptTail Name UnaryOp ref int" => ((exfalso; omega))
  k_with "KnownB" => (first | exact knownB (by k_asm) (by k_asm) | (exfalso; omega) | (exfalso; k_extra "absurd") | exact knownB' (by k_extra "val") (by k_asm) (by k_asm))
  k_with "call builtin:len" => ((k_here; (with_reducible show wpAny _ _ (call (Value.builtin "len") [Value.ref _]) _ _ _); k_dflt (refine' len_any ?Nx149 ?mx149 ?ex149 ?zx149 ?_; (case Nx149 => k_asm); (case mx149 => k_mem); (case ex149 => exact StrsAre.length (by assumption)); (case zx149 => omega))))
  k_with "my comp" =>
    k_dflt (refine LCt.CompSrcT.ledger (by rfl) (by k_asm) (by k_asm) (by k_mem) (by assumption) ?_)
    intro g9
    refine' comp_wn (f := fun z => z != Str.ofString "") (by assumption) hws (by assumption) (fun zz9 tt9 I9 oI9 C9 oC9 D9 m9 ys9 h9 tk9 E9 hz9 hC9 hx9 F9 N9 off9 ne9 => ?_) (fun ys9 hS9 hl9 => ?_)
    all_goals (try k_fold)
  k_with "val" => first | rfl | assumption | (refine decide_eq_true ?_; omega) | (refine decide_eq_false ?_; omega)
  k_with "absurd" => first | contradiction | exact absurd (And.intro (by assumption) (by assumption)) hs | exact absurd hs (by assumption) | (rw [hs1] at *; contradiction)
  refine wpAny_call ?_
  k_dflt cell_enter
  k_steps
  all_goals first | exact ret_none hret rfl (by k_asm) (by k_asm) (by intro p hp; repeat (first | exact hp | refine List.Mem.tail _ ?_)) | (exfalso; omega)
end
end Mine
end
-- M137c
section
set_option maxHeartbeats 1000000
open PySem PySem.W PySem.Calls PyProof.Rows
namespace Mine
section
theorem long_c (w : World) (x : Str) (t : Tok) (hx : x.length ≤ 10000) (mx i : Int) (tm ti : Tok) (hm : 0 < mx) (hm2 : mx < 1000) (hi : 0 ≤ i) (hi2 : i < 1000) (hc : ((lessS x (Str.ofString " \t\n\r\x0b\x0c")).length : Int) > mx) (hs : ¬ (i = 1 ∧ (Txt.slice (lessS x (Str.ofString " \t\n\r\x0b\x0c")) none (some 2) == Str.ofString "#!") = true)) (a : Str) (hal : a.length ≤ 10000) (hws : wordsW (lessS x (Str.ofString " \t\n\r\x0b\x0c")) = [a])  :
    Tells w 137 [.str x t, .int mx tm, .bool false, .int i ti, .bool false] 2 (fun _ _ => True) (RetTup (some (mx, msgR (lessS x (Str.ofString " \t\n\r\x0b\x0c")).length mx))) := by
  unfold Tells
  intro mean mg mb dp un gd cn cs a ccd cl outer A₀ base h₀ L m news s Q E B F X N T hk hpre hd hu hret
  k_with_none
  k_with "call ref" => ((k_here; (with_reducible show wpAny _ _ (call (Value.ref 113) [Value.str _ _, Value.str _ _] _) _ _ _); k_dflt (refine' Tells.use (less_tellsP _ _ _ _ _ ?z1x150 ?z2x150) ?k1x150 ?k2x150 ?k3x150 ?k4x150 ?k5x150 ?kKx150 ?kPx150 ?kdx150 ?kux150 ?_; (case z1x150 => omega); (case z2x150 => first | decide | omega); (case k1x150 => k_asm); (case k2x150 => k_asm); (case k3x150 => k_asm); (case k4x150 => k_asm); (case k5x150 => k_asm); (case kKx150 => first | exact rfl | assumption); (case kPx150 => first | exact True.intro | k_extra "pre"); (case kdx150 => ktr_room); (case kux150 => ktr_units)); intro t9w150 h9w150 tk9w150 hl9w150 hp9w150 F9w150 N9w150; (try dsimp only); (try k_fold)))
  k_with "execs cons" => ((k_here; (with_reducible refine' pos_toks ?p1x151 ?_); (case p1x151 => (fail_if_success assumption); omega); intro tk9w151 hp9w151))
  k_with "CompSrcT" => (k_extra "my comp")
  k_with "CompEnd" => ((refine comp_end (by k_asm) (by k_asm) (by assumption) (by lcg_src) ?_; try dsimp only))
  k_with "MEl" => ((refine ⟨rfl, ?_, ⟨_, rfl⟩⟩; assumption))
  k_with "MNo" => ((refine ⟨rfl, ?_⟩; assumption))
  k_with "call builtin:str.replace" => ((k_here; k_dflt (refine' rep_w (c := 9) (d := 32) ?r1x156 ?r2x156 ?r3x156 ?r4x156 ?r5x156 ?r6x156 ?_; (case r1x156 => decide); (case r2x156 => decide); (case r3x156 => omega); (case r4x156 => omega); (case r5x156 => omega); (case r6x156 => decide)); intro _ _ _ hk9w156; (try dsimp only at hk9w156)))
  k_with "call builtin:str.replace" => ((k_here; k_dflt (refine' rep_w (c := 11) (d := 32) ?q1x157 ?q2x157 ?q3x157 ?q4x157 ?q5x157 ?q6x157 ?_; (case q1x157 => decide); (case q2x157 => decide); (case q3x157 => omega); (case q4x157 => omega); (case q5x157 => omega); (case q6x157 => decide)); intro _ _ _ hk9w157; (try dsimp only at hk9w157)))
  k_with "call builtin:str.split" => ((k_here; k_dflt (refine' split_w ?s1x158 ?s2x158 ?s3x158 ?s4x158 ?_; (case s1x158 => k_asm); (case s2x158 => k_asm); (case s3x158 => omega); (case s4x158 => decide)); (intro D9w158 vs9w158 h9w158 tk9w158 S9w158 w9w158 z9w158 F9w158 N9w158 l9w158; (try k_fold))))
  k_with "exec If" => (((with_reducible show wpAny _ _ (exec (Stmt.If (Expr.BoolOp _ [Expr.Compare _ _ _ _, Expr.Name _ _, _] _) _ _ _) _) _ _ _); (refine' if_no ?k104Fx159 ?k104Nx159 ?k104tx159 ?k104kx159); (case k104Fx159 => k_asm); (case k104Nx159 => k_asm); rotate_left; (intro h9w159 tk9w159 F9w159 N9w159; (try k_fold)); rotate_left))
  k_with "exec If" => (((with_reducible show wpAny _ _ (exec (Stmt.If (Expr.BoolOp _ [Expr.Name _ _, _] _) _ _ _) _) _ _ _); (refine' if_no ?k105Fx160 ?k105Nx160 ?k105tx160 ?k105kx160); (case k105Fx160 => k_asm); (case k105Nx160 => k_asm); rotate_left; (intro h9w160 tk9w160 F9w160 N9w160; (try k_fold)); rotate_left))
  k_with "subscriptTail Name Constant ref int" => ((exfalso; omega))
  k_with "subscriptTail Name UnaryOp ref int" => ((k_here; (with_reducible show wpAny _ _ (subscriptTail _ _ (Value.ref _) (Value.int _ _)) _ _ _); k_dflt (refine' item_m1 ?j1x162 ?j2x162 ?_ ?j3x162 ?j4x162; (case j1x162 => k_asm); (case j2x162 => k_mem); (case j3x162 => with_unfolding_all rfl); (case j4x162 => intro _; with_unfolding_all rfl))))
  k_with "KnownB" => (first | exact knownB (by k_asm) (by k_asm) | (exfalso; omega) | (exfalso; k_extra "absurd") | exact knownB' (by k_extra "val") (by k_asm) (by k_asm))
  k_with "call builtin:len" => ((k_here; (with_reducible show wpAny _ _ (call (Value.builtin "len") [Value.ref _]) _ _ _); k_dflt (refine' len_any ?Nx164 ?mx164 ?ex164 ?zx164 ?_; (case Nx164 => k_asm); (case mx164 => k_mem); (case ex164 => exact StrsAre.length (by assumption)); (case zx164 => omega))))
  k_with "my comp" =>
    k_dflt (refine LCt.CompSrcT.ledger (by rfl) (by k_asm) (by k_asm) (by k_mem) (by assumption) ?_)
    intro g9
    refine' comp_w1 (f := fun z => z != Str.ofString "") (by assumption) hws (fun zz9 tt9 I9 oI9 C9 oC9 D9 m9 ys9 h9 tk9 E9 hz9 hC9 hx9 F9 N9 off9 ne9 => ?_) (fun ta9 => ?_)
    all_goals (try k_fold)
  k_with "val" => first | rfl | assumption | (refine decide_eq_true ?_; omega) | (refine decide_eq_false ?_; omega)
  k_with "absurd" => first | contradiction | exact absurd (And.intro (by assumption) (by assumption)) hs | exact absurd hs (by assumption) | (rw [hs1] at *; contradiction)
  refine wpAny_call ?_
  k_dflt cell_enter
  k_steps
  all_goals first | (exact max_tup hret (by k_asm) (by k_asm) (by intro p hp; repeat (first | exact hp | refine List.Mem.tail _ ?_)) (by first | assumption | exact lt1 (by assumption) | exact lt2 (by assumption) | exact lt3 (by assumption))) | (exfalso; omega)
end
end Mine
end
-- M137d
section
set_option maxHeartbeats 1000000
open PySem PySem.W PySem.Calls PyProof.Rows
namespace Mine
section
theorem long_d (w : World) (x : Str) (t : Tok) (hx : x.length ≤ 10000) (mx i : Int) (tm ti : Tok) (hm : 0 < mx) (hm2 : mx < 1000) (hi : 0 ≤ i) (hi2 : i < 1000) (hc : ((lessS x (Str.ofString " \t\n\r\x0b\x0c")).length : Int) > mx) (hs : ¬ (i = 1 ∧ (Txt.slice (lessS x (Str.ofString " \t\n\r\x0b\x0c")) none (some 2) == Str.ofString "#!") = true)) (a : Str) (hal : a.length ≤ 10000) (hws : wordsW (lessS x (Str.ofString " \t\n\r\x0b\x0c")) = [a]) (hd : ((lessS x (Str.ofString " \t\n\r\x0b\x0c")).length : Int) - (a.length : Int) < mx - 7) :
    Tells w 137 [.str x t, .int mx tm, .bool true, .int i ti, .bool false] 2 (fun _ _ => True) (RetTup (none)) := by
  unfold Tells
  intro mean mg mb dp un gd cn cs a ccd cl outer A₀ base h₀ L m news s Q E B F X N T hk hpre hd hu hret
  k_with_none
  k_with "call ref" => ((k_here; (with_reducible show wpAny _ _ (call (Value.ref 113) [Value.str _ _, Value.str _ _] _) _ _ _); k_dflt (refine' Tells.use (less_tellsP _ _ _ _ _ ?z1x165 ?z2x165) ?k1x165 ?k2x165 ?k3x165 ?k4x165 ?k5x165 ?kKx165 ?kPx165 ?kdx165 ?kux165 ?_; (case z1x165 => omega); (case z2x165 => first | decide | omega); (case k1x165 => k_asm); (case k2x165 => k_asm); (case k3x165 => k_asm); (case k4x165 => k_asm); (case k5x165 => k_asm); (case kKx165 => first | exact rfl | assumption); (case kPx165 => first | exact True.intro | k_extra "pre"); (case kdx165 => ktr_room); (case kux165 => ktr_units)); intro t9w165 h9w165 tk9w165 hl9w165 hp9w165 F9w165 N9w165; (try dsimp only); (try k_fold)))
  k_with "execs cons" => ((k_here; (with_reducible refine' pos_toks ?p1x166 ?_); (case p1x166 => (fail_if_success assumption); omega); intro tk9w166 hp9w166))
  k_with "CompSrcT" => (k_extra "my comp")
  k_with "CompEnd" => ((refine comp_end (by k_asm) (by k_asm) (by assumption) (by lcg_src) ?_; try dsimp only))
  k_with "MEl" => ((refine ⟨rfl, ?_, ⟨_, rfl⟩⟩; assumption))
  k_with "MNo" => ((refine ⟨rfl, ?_⟩; assumption))
  k_with "call builtin:str.replace" => ((k_here; k_dflt (refine' rep_w (c := 9) (d := 32) ?r1x171 ?r2x171 ?r3x171 ?r4x171 ?r5x171 ?r6x171 ?_; (case r1x171 => decide); (case r2x171 => decide); (case r3x171 => omega); (case r4x171 => omega); (case r5x171 => omega); (case r6x171 => decide)); intro _ _ _ hk9w171; (try dsimp only at hk9w171)))
  k_with "call builtin:str.replace" => ((k_here; k_dflt (refine' rep_w (c := 11) (d := 32) ?q1x172 ?q2x172 ?q3x172 ?q4x172 ?q5x172 ?q6x172 ?_; (case q1x172 => decide); (case q2x172 => decide); (case q3x172 => omega); (case q4x172 => omega); (case q5x172 => omega); (case q6x172 => decide)); intro _ _ _ hk9w172; (try dsimp only at hk9w172)))
  k_with "call builtin:str.split" => ((k_here; k_dflt (refine' split_w ?s1x173 ?s2x173 ?s3x173 ?s4x173 ?_; (case s1x173 => k_asm); (case s2x173 => k_asm); (case s3x173 => omega); (case s4x173 => decide)); (intro D9w173 vs9w173 h9w173 tk9w173 S9w173 w9w173 z9w173 F9w173 N9w173 l9w173; (try k_fold))))
  k_with "exec If" => (((with_reducible show wpAny _ _ (exec (Stmt.If (Expr.BoolOp _ [Expr.Compare _ _ _ _, Expr.Name _ _, _] _) _ _ _) _) _ _ _); (refine' if_no ?k106Fx174 ?k106Nx174 ?k106tx174 ?k106kx174); (case k106Fx174 => k_asm); (case k106Nx174 => k_asm); rotate_left; (intro h9w174 tk9w174 F9w174 N9w174; (try k_fold)); rotate_left))
  k_with "exec If" => (((with_reducible show wpAny _ _ (exec (Stmt.If (Expr.BoolOp _ [Expr.Name _ _, _] _) _ _ _) _) _ _ _); (refine' if_yes ?k107Fx175 ?k107Nx175 ?k107tx175 ?k107kx175); (case k107Fx175 => k_asm); (case k107Nx175 => k_asm); rotate_left; (intro h9w175 tk9w175 F9w175 N9w175; (try k_fold)); rotate_left))
  k_with "subscriptTail Name Constant ref int" => ((exfalso; omega))
  k_with "subscriptTail Name UnaryOp ref int" => ((k_here; (with_reducible show wpAny _ _ (subscriptTail _ _ (Value.ref _) (Value.int _ _)) _ _ _); k_dflt (refine' item_m1 ?j1x177 ?j2x177 ?_ ?j3x177 ?j4x177; (case j1x177 => k_asm); (case j2x177 => k_mem); (case j3x177 => with_unfolding_all rfl); (case j4x177 => intro _; with_unfolding_all rfl))))
  k_with "KnownB" => (first | exact knownB (by k_asm) (by k_asm) | (exfalso; omega) | (exfalso; k_extra "absurd") | exact knownB' (by k_extra "val") (by k_asm) (by k_asm))
  k_with "call builtin:len" => ((k_here; (with_reducible show wpAny _ _ (call (Value.builtin "len") [Value.ref _]) _ _ _); k_dflt (refine' len_any ?Nx179 ?mx179 ?ex179 ?zx179 ?_; (case Nx179 => k_asm); (case mx179 => k_mem); (case ex179 => exact StrsAre.length (by assumption)); (case zx179 => omega))))
  k_with "my comp" =>
    k_dflt (refine LCt.CompSrcT.ledger (by rfl) (by k_asm) (by k_asm) (by k_mem) (by assumption) ?_)
    intro g9
    refine' comp_w1 (f := fun z => z != Str.ofString "") (by assumption) hws (fun zz9 tt9 I9 oI9 C9 oC9 D9 m9 ys9 h9 tk9 E9 hz9 hC9 hx9 F9 N9 off9 ne9 => ?_) (fun ta9 => ?_)
    all_goals (try k_fold)
  k_with "val" => first | rfl | assumption | (refine decide_eq_true ?_; omega) | (refine decide_eq_false ?_; omega)
  k_with "absurd" => first | contradiction | exact absurd (And.intro (by assumption) (by assumption)) hs | exact absurd hs (by assumption) | (rw [hs1] at *; contradiction)
  refine wpAny_call ?_
  k_dflt cell_enter
  k_steps
  all_goals first | exact ret_none hret rfl (by k_asm) (by k_asm) (by intro p hp; repeat (first | exact hp | refine List.Mem.tail _ ?_)) | (exfalso; omega)
end
end Mine
end
-- M137e
section
set_option maxHeartbeats 1000000
open PySem PySem.W PySem.Calls PyProof.Rows
namespace Mine
section
theorem long_e (w : World) (x : Str) (t : Tok) (hx : x.length ≤ 10000) (mx i : Int) (tm ti : Tok) (hm : 0 < mx) (hm2 : mx < 1000) (hi : 0 ≤ i) (hi2 : i < 1000) (hc : ((lessS x (Str.ofString " \t\n\r\x0b\x0c")).length : Int) > mx) (hs : ¬ (i = 1 ∧ (Txt.slice (lessS x (Str.ofString " \t\n\r\x0b\x0c")) none (some 2) == Str.ofString "#!") = true)) (a : Str) (hal : a.length ≤ 10000) (hws : wordsW (lessS x (Str.ofString " \t\n\r\x0b\x0c")) = [a]) (hd : ¬ ((lessS x (Str.ofString " \t\n\r\x0b\x0c")).length : Int) - (a.length : Int) < mx - 7) :
    Tells w 137 [.str x t, .int mx tm, .bool true, .int i ti, .bool false] 2 (fun _ _ => True) (RetTup (some (mx, msgR (lessS x (Str.ofString " \t\n\r\x0b\x0c")).length mx))) := by
  unfold Tells
  intro mean mg mb dp un gd cn cs a ccd cl outer A₀ base h₀ L m news s Q E B F X N T hk hpre hd hu hret
  k_with_none
  k_with "call ref" => ((k_here; (with_reducible show wpAny _ _ (call (Value.ref 113) [Value.str _ _, Value.str _ _] _) _ _ _); k_dflt (refine' Tells.use (less_tellsP _ _ _ _ _ ?z1x180 ?z2x180) ?k1x180 ?k2x180 ?k3x180 ?k4x180 ?k5x180 ?kKx180 ?kPx180 ?kdx180 ?kux180 ?_; (case z1x180 => omega); (case z2x180 => first | decide | omega); (case k1x180 => k_asm); (case k2x180 => k_asm); (case k3x180 => k_asm); (case k4x180 => k_asm); (case k5x180 => k_asm); (case kKx180 => first | exact rfl | assumption); (case kPx180 => first | exact True.intro | k_extra "pre"); (case kdx180 => ktr_room); (case kux180 => ktr_units)); intro t9w180 h9w180 tk9w180 hl9w180 hp9w180 F9w180 N9w180; (try dsimp only); (try k_fold)))
  k_with "execs cons" => ((k_here; (with_reducible refine' pos_toks ?p1x181 ?_); (case p1x181 => (fail_if_success assumption); omega); intro tk9w181 hp9w181))
  k_with "CompSrcT" => (k_extra "my comp")
  k_with "CompEnd" => ((refine comp_end (by k_asm) (by k_asm) (by assumption) (by lcg_src) ?_; try dsimp only))
  k_with "MEl" => ((refine ⟨rfl, ?_, ⟨_, rfl⟩⟩; assumption))
  k_with "MNo" => ((refine ⟨rfl, ?_⟩; assumption))
  k_with "call builtin:str.replace" => ((k_here; k_dflt (refine' rep_w (c := 9) (d := 32) ?r1x186 ?r2x186 ?r3x186 ?r4x186 ?r5x186 ?r6x186 ?_; (case r1x186 => decide); (case r2x186 => decide); (case r3x186 => omega); (case r4x186 => omega); (case r5x186 => omega); (case r6x186 => decide)); intro _ _ _ hk9w186; (try dsimp only at hk9w186)))
  k_with "call builtin:str.replace" => ((k_here; k_dflt (refine' rep_w (c := 11) (d := 32) ?q1x187 ?q2x187 ?q3x187 ?q4x187 ?q5x187 ?q6x187 ?_; (case q1x187 => decide); (case q2x187 => decide); (case q3x187 => omega); (case q4x187 => omega); (case q5x187 => omega); (case q6x187 => decide)); intro _ _ _ hk9w187; (try dsimp only at hk9w187)))
  k_with "call builtin:str.split" => ((k_here; k_dflt (refine' split_w ?s1x188 ?s2x188 ?s3x188 ?s4x188 ?_; (case s1x188 => k_asm); (case s2x188 => k_asm); (case s3x188 => omega); (case s4x188 => decide)); (intro D9w188 vs9w188 h9w188 tk9w188 S9w188 w9w188 z9w188 F9w188 N9w188 l9w188; (try k_fold))))
  k_with "exec If" => (((with_reducible show wpAny _ _ (exec (Stmt.If (Expr.BoolOp _ [Expr.Compare _ _ _ _, Expr.Name _ _, _] _) _ _ _) _) _ _ _); (refine' if_no ?k108Fx189 ?k108Nx189 ?k108tx189 ?k108kx189); (case k108Fx189 => k_asm); (case k108Nx189 => k_asm); rotate_left; (intro h9w189 tk9w189 F9w189 N9w189; (try k_fold)); rotate_left))
  k_with "exec If" => (((with_reducible show wpAny _ _ (exec (Stmt.If (Expr.BoolOp _ [Expr.Name _ _, _] _) _ _ _) _) _ _ _); (refine' if_no ?k109Fx190 ?k109Nx190 ?k109tx190 ?k109kx190); (case k109Fx190 => k_asm); (case k109Nx190 => k_asm); rotate_left; (intro h9w190 tk9w190 F9w190 N9w190; (try k_fold)); rotate_left))
  k_with "subscriptTail Name Constant ref int" => ((exfalso; omega))
  k_with "subscriptTail Name UnaryOp ref int" => ((k_here; (with_reducible show wpAny _ _ (subscriptTail _ _ (Value.ref _) (Value.int _ _)) _ _ _); k_dflt (refine' item_m1 ?j1x192 ?j2x192 ?_ ?j3x192 ?j4x192; (case j1x192 => k_asm); (case j2x192 => k_mem); (case j3x192 => with_unfolding_all rfl); (case j4x192 => intro _; with_unfolding_all rfl))))
  k_with "KnownB" => (first | exact knownB (by k_asm) (by k_asm) | (exfalso; omega) | (exfalso; k_extra "absurd") | exact knownB' (by k_extra "val") (by k_asm) (by k_asm))
  k_with "call builtin:len" => ((k_here; (with_reducible show wpAny _ _ (call (Value.builtin "len") [Value.ref _]) _ _ _); k_dflt (refine' len_any ?Nx194 ?mx194 ?ex194 ?zx194 ?_; (case Nx194 => k_asm); (case mx194 => k_mem); (case ex194 => exact StrsAre.length (by assumption)); (case zx194 => omega))))
  k_with "my comp" =>
    k_dflt (refine LCt.CompSrcT.ledger (by rfl) (by k_asm) (by k_asm) (by k_mem) (by assumption) ?_)
    intro g9
    refine' comp_w1 (f := fun z => z != Str.ofString "") (by assumption) hws (fun zz9 tt9 I9 oI9 C9 oC9 D9 m9 ys9 h9 tk9 E9 hz9 hC9 hx9 F9 N9 off9 ne9 => ?_) (fun ta9 => ?_)
    all_goals (try k_fold)
  k_with "val" => first | rfl | assumption | (refine decide_eq_true ?_; omega) | (refine decide_eq_false ?_; omega)
  k_with "absurd" => first | contradiction | exact absurd (And.intro (by assumption) (by assumption)) hs | exact absurd hs (by assumption) | (rw [hs1] at *; contradiction)
  refine wpAny_call ?_
  k_dflt cell_enter
  k_steps
  all_goals first | (exact max_tup hret (by k_asm) (by k_asm) (by intro p hp; repeat (first | exact hp | refine List.Mem.tail _ ?_)) (by first | assumption | exact lt1 (by assumption) | exact lt2 (by assumption) | exact lt3 (by assumption))) | (exfalso; omega)
end
end Mine
end
-- M137f
section
set_option maxHeartbeats 1000000
open PySem PySem.W PySem.Calls PyProof.Rows
namespace Mine
section
theorem long_f (w : World) (x : Str) (t : Tok) (hx : x.length ≤ 10000) (mx i : Int) (tm ti : Tok) (mu : Bool) (hm : 0 < mx) (hm2 : mx < 1000) (hi : 0 ≤ i) (hi2 : i < 1000) (hc : ((lessS x (Str.ofString " \t\n\r\x0b\x0c")).length : Int) > mx) (hs : ¬ (i = 1 ∧ (Txt.slice (lessS x (Str.ofString " \t\n\r\x0b\x0c")) none (some 2) == Str.ofString "#!") = true)) (a b : Str) (hal : a.length ≤ 10000) (hbl : b.length ≤ 10000) (hws : wordsW (lessS x (Str.ofString " \t\n\r\x0b\x0c")) = [a, b]) (ha : (a == Str.ofString "#") = false) :
    Tells w 137 [.str x t, .int mx tm, .bool mu, .int i ti, .bool false] 2 (fun _ _ => True) (RetTup (some (mx, msgR (lessS x (Str.ofString " \t\n\r\x0b\x0c")).length mx))) := by
  unfold Tells
  intro mean mg mb dp un gd cn cs a ccd cl outer A₀ base h₀ L m news s Q E B F X N T hk hpre hd hu hret
  k_with_none
  k_with "call ref" => ((k_here; (with_reducible show wpAny _ _ (call (Value.ref 113) [Value.str _ _, Value.str _ _] _) _ _ _); k_dflt (refine' Tells.use (less_tellsP _ _ _ _ _ ?z1x195 ?z2x195) ?k1x195 ?k2x195 ?k3x195 ?k4x195 ?k5x195 ?kKx195 ?kPx195 ?kdx195 ?kux195 ?_; (case z1x195 => omega); (case z2x195 => first | decide | omega); (case k1x195 => k_asm); (case k2x195 => k_asm); (case k3x195 => k_asm); (case k4x195 => k_asm); (case k5x195 => k_asm); (case kKx195 => first | exact rfl | assumption); (case kPx195 => first | exact True.intro | k_extra "pre"); (case kdx195 => ktr_room); (case kux195 => ktr_units)); intro t9w195 h9w195 tk9w195 hl9w195 hp9w195 F9w195 N9w195; (try dsimp only); (try k_fold)))
  k_with "execs cons" => ((k_here; (with_reducible refine' pos_toks ?p1x196 ?_); (case p1x196 => (fail_if_success assumption); omega); intro tk9w196 hp9w196))
  k_with "CompSrcT" => (k_extra "my comp")
  k_with "CompEnd" => ((refine comp_end (by k_asm) (by k_asm) (by assumption) (by lcg_src) ?_; try dsimp only))
  k_with "MEl" => ((refine ⟨rfl, ?_, ⟨_, rfl⟩⟩; assumption))
  k_with "MNo" => ((refine ⟨rfl, ?_⟩; assumption))
  k_with "call builtin:str.replace" => ((k_here; k_dflt (refine' rep_w (c := 9) (d := 32) ?r1x201 ?r2x201 ?r3x201 ?r4x201 ?r5x201 ?r6x201 ?_; (case r1x201 => decide); (case r2x201 => decide); (case r3x201 => omega); (case r4x201 => omega); (case r5x201 => omega); (case r6x201 => decide)); intro _ _ _ hk9w201; (try dsimp only at hk9w201)))
  k_with "call builtin:str.replace" => ((k_here; k_dflt (refine' rep_w (c := 11) (d := 32) ?q1x202 ?q2x202 ?q3x202 ?q4x202 ?q5x202 ?q6x202 ?_; (case q1x202 => decide); (case q2x202 => decide); (case q3x202 => omega); (case q4x202 => omega); (case q5x202 => omega); (case q6x202 => decide)); intro _ _ _ hk9w202; (try dsimp only at hk9w202)))
  k_with "call builtin:str.split" => ((k_here; k_dflt (refine' split_w ?s1x203 ?s2x203 ?s3x203 ?s4x203 ?_; (case s1x203 => k_asm); (case s2x203 => k_asm); (case s3x203 => omega); (case s4x203 => decide)); (intro D9w203 vs9w203 h9w203 tk9w203 S9w203 w9w203 z9w203 F9w203 N9w203 l9w203; (try k_fold))))
  k_with "exec If" => (((with_reducible show wpAny _ _ (exec (Stmt.If (Expr.BoolOp _ [Expr.Compare _ _ _ _, Expr.Name _ _, _] _) _ _ _) _) _ _ _); (refine' if_no ?k110Fx204 ?k110Nx204 ?k110tx204 ?k110kx204); (case k110Fx204 => k_asm); (case k110Nx204 => k_asm); rotate_left; (intro h9w204 tk9w204 F9w204 N9w204; (try k_fold)); rotate_left))
  k_with "exec If" => (((with_reducible show wpAny _ _ (exec (Stmt.If (Expr.BoolOp _ [Expr.Name _ _, _] _) _ _ _) _) _ _ _); (refine' if_no ?k111Fx205 ?k111Nx205 ?k111tx205 ?k111kx205); (case k111Fx205 => k_asm); (case k111Nx205 => k_asm); rotate_left; (intro h9w205 tk9w205 F9w205 N9w205; (try k_fold)); rotate_left))
  k_with "subscriptTail Name Constant ref int" => ((k_here; (with_reducible show wpAny _ _ (subscriptTail _ _ (Value.ref _) (Value.int _ _)) _ _ _); k_dflt (refine' item_0 ?j1x206 ?j2x206 ?_ ?j3x206 ?j4x206; (case j1x206 => k_asm); (case j2x206 => k_mem); (case j3x206 => with_unfolding_all rfl); (case j4x206 => intro _; with_unfolding_all rfl))))
  k_with "subscriptTail Name UnaryOp ref int" => ((k_here; (with_reducible show wpAny _ _ (subscriptTail _ _ (Value.ref _) (Value.int _ _)) _ _ _); k_dflt (refine' item_m2 ?j1x207 ?j2x207 ?_ ?j3x207 ?j4x207; (case j1x207 => k_asm); (case j2x207 => k_mem); (case j3x207 => with_unfolding_all rfl); (case j4x207 => intro _; with_unfolding_all rfl))))
  k_with "KnownB" => (first | exact knownB (by k_asm) (by k_asm) | (exfalso; omega) | (exfalso; k_extra "absurd") | exact knownB' (by k_extra "val") (by k_asm) (by k_asm))
  k_with "call builtin:len" => ((k_here; (with_reducible show wpAny _ _ (call (Value.builtin "len") [Value.ref _]) _ _ _); k_dflt (refine' len_any ?Nx209 ?mx209 ?ex209 ?zx209 ?_; (case Nx209 => k_asm); (case mx209 => k_mem); (case ex209 => exact StrsAre.length (by assumption)); (case zx209 => omega))))
  k_with "my comp" =>
    k_dflt (refine LCt.CompSrcT.ledger (by rfl) (by k_asm) (by k_asm) (by k_mem) (by assumption) ?_)
    intro g9
    refine' comp_w2 (f := fun z => z != Str.ofString "") (by assumption) hws (fun zz9 tt9 I9 oI9 C9 oC9 D9 m9 ys9 h9 tk9 E9 hz9 hC9 hx9 F9 N9 off9 ne9 => ?_) (fun ta9 tb9 => ?_)
    all_goals (try k_fold)
  k_with "val" => first | rfl | assumption | (refine decide_eq_true ?_; omega) | (refine decide_eq_false ?_; omega)
  k_with "absurd" => first | contradiction | exact absurd (And.intro (by assumption) (by assumption)) hs | exact absurd hs (by assumption) | (rw [hs1] at *; contradiction)
  refine wpAny_call ?_
  k_dflt cell_enter
  k_steps
  all_goals first | (exact max_tup hret (by k_asm) (by k_asm) (by intro p hp; repeat (first | exact hp | refine List.Mem.tail _ ?_)) (by first | assumption | exact lt1 (by assumption) | exact lt2 (by assumption) | exact lt3 (by assumption))) | (exfalso; omega)
end
end Mine
end
-- M137g
section
set_option maxHeartbeats 1000000
open PySem PySem.W PySem.Calls PyProof.Rows
namespace Mine
section
theorem long_g (w : World) (x : Str) (t : Tok) (hx : x.length ≤ 10000) (mx i : Int) (tm ti : Tok) (mu : Bool) (hm : 0 < mx) (hm2 : mx < 1000) (hi : 0 ≤ i) (hi2 : i < 1000) (hc : ((lessS x (Str.ofString " \t\n\r\x0b\x0c")).length : Int) > mx) (hs : ¬ (i = 1 ∧ (Txt.slice (lessS x (Str.ofString " \t\n\r\x0b\x0c")) none (some 2) == Str.ofString "#!") = true)) (a b : Str) (hal : a.length ≤ 10000) (hbl : b.length ≤ 10000) (hws : wordsW (lessS x (Str.ofString " \t\n\r\x0b\x0c")) = [a, b]) (ha : (a == Str.ofString "#") = true) (hd : ((lessS x (Str.ofString " \t\n\r\x0b\x0c")).length : Int) - (b.length : Int) < mx - 7) :
    Tells w 137 [.str x t, .int mx tm, .bool mu, .int i ti, .bool false] 2 (fun _ _ => True) (RetTup (none)) := by
  unfold Tells
  intro mean mg mb dp un gd cn cs a ccd cl outer A₀ base h₀ L m news s Q E B F X N T hk hpre hd hu hret
  k_with_none
  k_with "call ref" => ((k_here; (with_reducible show wpAny _ _ (call (Value.ref 113) [Value.str _ _, Value.str _ _] _) _ _ _); k_dflt (refine' Tells.use (less_tellsP _ _ _ _ _ ?z1x210 ?z2x210) ?k1x210 ?k2x210 ?k3x210 ?k4x210 ?k5x210 ?kKx210 ?kPx210 ?kdx210 ?kux210 ?_; (case z1x210 => omega); (case z2x210 => first | decide | omega); (case k1x210 => k_asm); (case k2x210 => k_asm); (case k3x210 => k_asm); (case k4x210 => k_asm); (case k5x210 => k_asm); (case kKx210 => first | exact rfl | assumption); (case kPx210 => first | exact True.intro | k_extra "pre"); (case kdx210 => ktr_room); (case kux210 => ktr_units)); intro t9w210 h9w210 tk9w210 hl9w210 hp9w210 F9w210 N9w210; (try dsimp only); (try k_fold)))
  k_with "execs cons" => ((k_here; (with_reducible refine' pos_toks ?p1x211 ?_); (case p1x211 => (fail_if_success assumption); omega); intro tk9w211 hp9w211))
  k_with "CompSrcT" => (k_extra "my comp")
  k_with "CompEnd" => ((refine comp_end (by k_asm) (by k_asm) (by assumption) (by lcg_src) ?_; try dsimp only))
  k_with "MEl" => ((refine ⟨rfl, ?_, ⟨_, rfl⟩⟩; assumption))
  k_with "MNo" => ((refine ⟨rfl, ?_⟩; assumption))
  k_with "call builtin:str.replace" => ((k_here; k_dflt (refine' rep_w (c := 9) (d := 32) ?r1x216 ?r2x216 ?r3x216 ?r4x216 ?r5x216 ?r6x216 ?_; (case r1x216 => decide); (case r2x216 => decide); (case r3x216 => omega); (case r4x216 => omega); (case r5x216 => omega); (case r6x216 => decide)); intro _ _ _ hk9w216; (try dsimp only at hk9w216)))
  k_with "call builtin:str.replace" => ((k_here; k_dflt (refine' rep_w (c := 11) (d := 32) ?q1x217 ?q2x217 ?q3x217 ?q4x217 ?q5x217 ?q6x217 ?_; (case q1x217 => decide); (case q2x217 => decide); (case q3x217 => omega); (case q4x217 => omega); (case q5x217 => omega); (case q6x217 => decide)); intro _ _ _ hk9w217; (try dsimp only at hk9w217)))
  k_with "call builtin:str.split" => ((k_here; k_dflt (refine' split_w ?s1x218 ?s2x218 ?s3x218 ?s4x218 ?_; (case s1x218 => k_asm); (case s2x218 => k_asm); (case s3x218 => omega); (case s4x218 => decide)); (intro D9w218 vs9w218 h9w218 tk9w218 S9w218 w9w218 z9w218 F9w218 N9w218 l9w218; (try k_fold))))
  k_with "exec If" => (((with_reducible show wpAny _ _ (exec (Stmt.If (Expr.BoolOp _ [Expr.Compare _ _ _ _, Expr.Name _ _, _] _) _ _ _) _) _ _ _); (refine' if_no ?k112Fx219 ?k112Nx219 ?k112tx219 ?k112kx219); (case k112Fx219 => k_asm); (case k112Nx219 => k_asm); rotate_left; (intro h9w219 tk9w219 F9w219 N9w219; (try k_fold)); rotate_left))
  k_with "exec If" => (((with_reducible show wpAny _ _ (exec (Stmt.If (Expr.BoolOp _ [Expr.Name _ _, _] _) _ _ _) _) _ _ _); (refine' if_yes ?k113Fx220 ?k113Nx220 ?k113tx220 ?k113kx220); (case k113Fx220 => k_asm); (case k113Nx220 => k_asm); rotate_left; (intro h9w220 tk9w220 F9w220 N9w220; (try k_fold)); rotate_left))
  k_with "subscriptTail Name Constant ref int" => ((k_here; (with_reducible show wpAny _ _ (subscriptTail _ _ (Value.ref _) (Value.int _ _)) _ _ _); k_dflt (refine' item_0 ?j1x221 ?j2x221 ?_ ?j3x221 ?j4x221; (case j1x221 => k_asm); (case j2x221 => k_mem); (case j3x221 => with_unfolding_all rfl); (case j4x221 => intro _; with_unfolding_all rfl))))
  k_with "subscriptTail Name UnaryOp ref int" => ((k_here; (with_reducible show wpAny _ _ (subscriptTail _ _ (Value.ref _) (Value.int _ _)) _ _ _); k_dflt (refine' item_m2 ?j1x222 ?j2x222 ?_ ?j3x222 ?j4x222; (case j1x222 => k_asm); (case j2x222 => k_mem); (case j3x222 => with_unfolding_all rfl); (case j4x222 => intro _; with_unfolding_all rfl))))
  k_with "KnownB" => (first | exact knownB (by k_asm) (by k_asm) | (exfalso; omega) | (exfalso; k_extra "absurd") | exact knownB' (by k_extra "val") (by k_asm) (by k_asm))
  k_with "call builtin:len" => ((k_here; (with_reducible show wpAny _ _ (call (Value.builtin "len") [Value.ref _]) _ _ _); k_dflt (refine' len_any ?Nx224 ?mx224 ?ex224 ?zx224 ?_; (case Nx224 => k_asm); (case mx224 => k_mem); (case ex224 => exact StrsAre.length (by assumption)); (case zx224 => omega))))
  k_with "my comp" =>
    k_dflt (refine LCt.CompSrcT.ledger (by rfl) (by k_asm) (by k_asm) (by k_mem) (by assumption) ?_)
    intro g9
    refine' comp_w2 (f := fun z => z != Str.ofString "") (by assumption) hws (fun zz9 tt9 I9 oI9 C9 oC9 D9 m9 ys9 h9 tk9 E9 hz9 hC9 hx9 F9 N9 off9 ne9 => ?_) (fun ta9 tb9 => ?_)
    all_goals (try k_fold)
  k_with "val" => first | rfl | assumption | (refine decide_eq_true ?_; omega) | (refine decide_eq_false ?_; omega)
  k_with "absurd" => first | contradiction | exact absurd (And.intro (by assumption) (by assumption)) hs | exact absurd hs (by assumption) | (rw [hs1] at *; contradiction)
  refine wpAny_call ?_
  k_dflt cell_enter
  k_steps
  all_goals first | exact ret_none hret rfl (by k_asm) (by k_asm) (by intro p hp; repeat (first | exact hp | refine List.Mem.tail _ ?_)) | (exfalso; omega)
end
end Mine
end
-- M137h
section
set_option maxHeartbeats 1000000
open PySem PySem.W PySem.Calls PyProof.Rows
namespace Mine
section
theorem long_h (w : World) (x : Str) (t : Tok) (hx : x.length ≤ 10000) (mx i : Int) (tm ti : Tok) (mu : Bool) (hm : 0 < mx) (hm2 : mx < 1000) (hi : 0 ≤ i) (hi2 : i < 1000) (hc : ((lessS x (Str.ofString " \t\n\r\x0b\x0c")).length : Int) > mx) (hs : ¬ (i = 1 ∧ (Txt.slice (lessS x (Str.ofString " \t\n\r\x0b\x0c")) none (some 2) == Str.ofString "#!") = true)) (a b : Str) (hal : a.length ≤ 10000) (hbl : b.length ≤ 10000) (hws : wordsW (lessS x (Str.ofString " \t\n\r\x0b\x0c")) = [a, b]) (ha : (a == Str.ofString "#") = true) (hd : ¬ ((lessS x (Str.ofString " \t\n\r\x0b\x0c")).length : Int) - (b.length : Int) < mx - 7) :
    Tells w 137 [.str x t, .int mx tm, .bool mu, .int i ti, .bool false] 2 (fun _ _ => True) (RetTup (some (mx, msgR (lessS x (Str.ofString " \t\n\r\x0b\x0c")).length mx))) := by
  unfold Tells
  intro mean mg mb dp un gd cn cs a ccd cl outer A₀ base h₀ L m news s Q E B F X N T hk hpre hd hu hret
  k_with_none
  k_with "call ref" => ((k_here; (with_reducible show wpAny _ _ (call (Value.ref 113) [Value.str _ _, Value.str _ _] _) _ _ _); k_dflt (refine' Tells.use (less_tellsP _ _ _ _ _ ?z1x225 ?z2x225) ?k1x225 ?k2x225 ?k3x225 ?k4x225 ?k5x225 ?kKx225 ?kPx225 ?kdx225 ?kux225 ?_; (case z1x225 => omega); (case z2x225 => first | decide | omega); (case k1x225 => k_asm); (case k2x225 => k_asm); (case k3x225 => k_asm); (case k4x225 => k_asm); (case k5x225 => k_asm); (case kKx225 => first | exact rfl | assumption); (case kPx225 => first | exact True.intro | k_extra "pre"); (case kdx225 => ktr_room); (case kux225 => ktr_units)); intro t9w225 h9w225 tk9w225 hl9w225 hp9w225 F9w225 N9w225; (try dsimp only); (try k_fold)))
  k_with "execs cons" => ((k_here; (with_reducible refine' pos_toks ?p1x226 ?_); (case p1x226 => (fail_if_success assumption); omega); intro tk9w226 hp9w226))
  k_with "CompSrcT" => (k_extra "my comp")
  k_with "CompEnd" => ((refine comp_end (by k_asm) (by k_asm) (by assumption) (by lcg_src) ?_; try dsimp only))
  k_with "MEl" => ((refine ⟨rfl, ?_, ⟨_, rfl⟩⟩; assumption))
  k_with "MNo" => ((refine ⟨rfl, ?_⟩; assumption))
  k_with "call builtin:str.replace" => ((k_here; k_dflt (refine' rep_w (c := 9) (d := 32) ?r1x231 ?r2x231 ?r3x231 ?r4x231 ?r5x231 ?r6x231 ?_; (case r1x231 => decide); (case r2x231 => decide); (case r3x231 => omega); (case r4x231 => omega); (case r5x231 => omega); (case r6x231 => decide)); intro _ _ _ hk9w231; (try dsimp only at hk9w231)))
  k_with "call builtin:str.replace" => ((k_here; k_dflt (refine' rep_w (c := 11) (d := 32) ?q1x232 ?q2x232 ?q3x232 ?q4x232 ?q5x232 ?q6x232 ?_; (case q1x232 => decide); (case q2x232 => decide); (case q3x232 => omega); (case q4x232 => omega); (case q5x232 => omega); (case q6x232 => decide)); intro _ _ _ hk9w232; (try dsimp only at hk9w232)))
  k_with "call builtin:str.split" => ((k_here; k_dflt (refine' split_w ?s1x233 ?s2x233 ?s3x233 ?s4x233 ?_; (case s1x233 => k_asm); (case s2x233 => k_asm); (case s3x233 => omega); (case s4x233 => decide)); (intro D9w233 vs9w233 h9w233 tk9w233 S9w233 w9w233 z9w233 F9w233 N9w233 l9w233; (try k_fold))))
  k_with "exec If" => (((with_reducible show wpAny _ _ (exec (Stmt.If (Expr.BoolOp _ [Expr.Compare _ _ _ _, Expr.Name _ _, _] _) _ _ _) _) _ _ _); (refine' if_no ?k114Fx234 ?k114Nx234 ?k114tx234 ?k114kx234); (case k114Fx234 => k_asm); (case k114Nx234 => k_asm); rotate_left; (intro h9w234 tk9w234 F9w234 N9w234; (try k_fold)); rotate_left))
  k_with "exec If" => (((with_reducible show wpAny _ _ (exec (Stmt.If (Expr.BoolOp _ [Expr.Name _ _, _] _) _ _ _) _) _ _ _); (refine' if_no ?k115Fx235 ?k115Nx235 ?k115tx235 ?k115kx235); (case k115Fx235 => k_asm); (case k115Nx235 => k_asm); rotate_left; (intro h9w235 tk9w235 F9w235 N9w235; (try k_fold)); rotate_left))
  k_with "subscriptTail Name Constant ref int" => ((k_here; (with_reducible show wpAny _ _ (subscriptTail _ _ (Value.ref _) (Value.int _ _)) _ _ _); k_dflt (refine' item_0 ?j1x236 ?j2x236 ?_ ?j3x236 ?j4x236; (case j1x236 => k_asm); (case j2x236 => k_mem); (case j3x236 => with_unfolding_all rfl); (case j4x236 => intro _; with_unfolding_all rfl))))
  k_with "subscriptTail Name UnaryOp ref int" => ((k_here; (with_reducible show wpAny _ _ (subscriptTail _ _ (Value.ref _) (Value.int _ _)) _ _ _); k_dflt (refine' item_m2 ?j1x237 ?j2x237 ?_ ?j3x237 ?j4x237; (case j1x237 => k_asm); (case j2x237 => k_mem); (case j3x237 => with_unfolding_all rfl); (case j4x237 => intro _; with_unfolding_all rfl))))
  k_with "KnownB" => (first | exact knownB (by k_asm) (by k_asm) | (exfalso; omega) | (exfalso; k_extra "absurd") | exact knownB' (by k_extra "val") (by k_asm) (by k_asm))
  k_with "call builtin:len" => ((k_here; (with_reducible show wpAny _ _ (call (Value.builtin "len") [Value.ref _]) _ _ _); k_dflt (refine' len_any ?Nx239 ?mx239 ?ex239 ?zx239 ?_; (case Nx239 => k_asm); (case mx239 => k_mem); (case ex239 => exact StrsAre.length (by assumption)); (case zx239 => omega))))
  k_with "my comp" =>
    k_dflt (refine LCt.CompSrcT.ledger (by rfl) (by k_asm) (by k_asm) (by k_mem) (by assumption) ?_)
    intro g9
    refine' comp_w2 (f := fun z => z != Str.ofString "") (by assumption) hws (fun zz9 tt9 I9 oI9 C9 oC9 D9 m9 ys9 h9 tk9 E9 hz9 hC9 hx9 F9 N9 off9 ne9 => ?_) (fun ta9 tb9 => ?_)
    all_goals (try k_fold)
  k_with "val" => first | rfl | assumption | (refine decide_eq_true ?_; omega) | (refine decide_eq_false ?_; omega)
  k_with "absurd" => first | contradiction | exact absurd (And.intro (by assumption) (by assumption)) hs | exact absurd hs (by assumption) | (rw [hs1] at *; contradiction)
  refine wpAny_call ?_
  k_dflt cell_enter
  k_steps
  all_goals first | (exact max_tup hret (by k_asm) (by k_asm) (by intro p hp; repeat (first | exact hp | refine List.Mem.tail _ ?_)) (by first | assumption | exact lt1 (by assumption) | exact lt2 (by assumption) | exact lt3 (by assumption))) | (exfalso; omega)
end
end Mine
end
-- M137i
section
set_option maxHeartbeats 1000000
open PySem PySem.W PySem.Calls PyProof.Rows
namespace Mine
section
theorem long_i (w : World) (x : Str) (t : Tok) (hx : x.length ≤ 10000) (mx i : Int) (tm ti : Tok) (mu : Bool) (hm : 0 < mx) (hm2 : mx < 1000) (hi : 0 ≤ i) (hi2 : i < 1000) (hc : ((lessS x (Str.ofString " \t\n\r\x0b\x0c")).length : Int) > mx) (hs : ¬ (i = 1 ∧ (Txt.slice (lessS x (Str.ofString " \t\n\r\x0b\x0c")) none (some 2) == Str.ofString "#!") = true)) (ws : List Str) (hws : wordsW (lessS x (Str.ofString " \t\n\r\x0b\x0c")) = ws) (h1 : ws.length ≠ 1) (h2 : ws.length ≠ 2) :
    Tells w 137 [.str x t, .int mx tm, .bool mu, .int i ti, .bool false] 2 (fun _ _ => True) (RetTup (some (mx, msgR (lessS x (Str.ofString " \t\n\r\x0b\x0c")).length mx))) := by
  unfold Tells
  intro mean mg mb dp un gd cn cs a ccd cl outer A₀ base h₀ L m news s Q E B F X N T hk hpre hd hu hret
  k_with_none
  k_with "call ref" => ((k_here; (with_reducible show wpAny _ _ (call (Value.ref 113) [Value.str _ _, Value.str _ _] _) _ _ _); k_dflt (refine' Tells.use (less_tellsP _ _ _ _ _ ?z1x240 ?z2x240) ?k1x240 ?k2x240 ?k3x240 ?k4x240 ?k5x240 ?kKx240 ?kPx240 ?kdx240 ?kux240 ?_; (case z1x240 => omega); (case z2x240 => first | decide | omega); (case k1x240 => k_asm); (case k2x240 => k_asm); (case k3x240 => k_asm); (case k4x240 => k_asm); (case k5x240 => k_asm); (case kKx240 => first | exact rfl | assumption); (case kPx240 => first | exact True.intro | k_extra "pre"); (case kdx240 => ktr_room); (case kux240 => ktr_units)); intro t9w240 h9w240 tk9w240 hl9w240 hp9w240 F9w240 N9w240; (try dsimp only); (try k_fold)))
  k_with "execs cons" => ((k_here; (with_reducible refine' pos_toks ?p1x241 ?_); (case p1x241 => (fail_if_success assumption); omega); intro tk9w241 hp9w241))
  k_with "CompSrcT" => (k_extra "my comp")
  k_with "CompEnd" => ((refine comp_end (by k_asm) (by k_asm) (by assumption) (by lcg_src) ?_; try dsimp only))
  k_with "MEl" => ((refine ⟨rfl, ?_, ⟨_, rfl⟩⟩; assumption))
  k_with "MNo" => ((refine ⟨rfl, ?_⟩; assumption))
  k_with "call builtin:str.replace" => ((k_here; k_dflt (refine' rep_w (c := 9) (d := 32) ?r1x246 ?r2x246 ?r3x246 ?r4x246 ?r5x246 ?r6x246 ?_; (case r1x246 => decide); (case r2x246 => decide); (case r3x246 => omega); (case r4x246 => omega); (case r5x246 => omega); (case r6x246 => decide)); intro _ _ _ hk9w246; (try dsimp only at hk9w246)))
  k_with "call builtin:str.replace" => ((k_here; k_dflt (refine' rep_w (c := 11) (d := 32) ?q1x247 ?q2x247 ?q3x247 ?q4x247 ?q5x247 ?q6x247 ?_; (case q1x247 => decide); (case q2x247 => decide); (case q3x247 => omega); (case q4x247 => omega); (case q5x247 => omega); (case q6x247 => decide)); intro _ _ _ hk9w247; (try dsimp only at hk9w247)))
  k_with "call builtin:str.split" => ((k_here; k_dflt (refine' split_w ?s1x248 ?s2x248 ?s3x248 ?s4x248 ?_; (case s1x248 => k_asm); (case s2x248 => k_asm); (case s3x248 => omega); (case s4x248 => decide)); (intro D9w248 vs9w248 h9w248 tk9w248 S9w248 w9w248 z9w248 F9w248 N9w248 l9w248; (try k_fold))))
  k_with "exec If" => (((with_reducible show wpAny _ _ (exec (Stmt.If (Expr.BoolOp _ [Expr.Compare _ _ _ _, Expr.Name _ _, _] _) _ _ _) _) _ _ _); (refine' if_no ?k116Fx249 ?k116Nx249 ?k116tx249 ?k116kx249); (case k116Fx249 => k_asm); (case k116Nx249 => k_asm); rotate_left; (intro h9w249 tk9w249 F9w249 N9w249; (try k_fold)); rotate_left))
  k_with "exec If" => (((with_reducible show wpAny _ _ (exec (Stmt.If (Expr.BoolOp _ [Expr.Name _ _, _] _) _ _ _) _) _ _ _); (refine' if_no ?k117Fx250 ?k117Nx250 ?k117tx250 ?k117kx250); (case k117Fx250 => k_asm); (case k117Nx250 => k_asm); rotate_left; (intro h9w250 tk9w250 F9w250 N9w250; (try k_fold)); rotate_left))
  k_with "subscriptTail Name Constant ref int" => ((exfalso; omega))
  k_with "subscriptTail Name UnaryOp ref int" => ((exfalso; omega))
  k_with "KnownB" => (first | exact knownB (by k_asm) (by k_asm) | (exfalso; omega) | (exfalso; k_extra "absurd") | exact knownB' (by k_extra "val") (by k_asm) (by k_asm))
  k_with "call builtin:len" => ((k_here; (with_reducible show wpAny _ _ (call (Value.builtin "len") [Value.ref _]) _ _ _); k_dflt (refine' len_any ?Nx254 ?mx254 ?ex254 ?zx254 ?_; (case Nx254 => k_asm); (case mx254 => k_mem); (case ex254 => exact StrsAre.length (by assumption)); (case zx254 => omega))))
  k_with "my comp" =>
    k_dflt (refine LCt.CompSrcT.ledger (by rfl) (by k_asm) (by k_asm) (by k_mem) (by assumption) ?_)
    intro g9
    refine' comp_wn (f := fun z => z != Str.ofString "") (by assumption) hws (by assumption) (fun zz9 tt9 I9 oI9 C9 oC9 D9 m9 ys9 h9 tk9 E9 hz9 hC9 hx9 F9 N9 off9 ne9 => ?_) (fun ys9 hS9 hl9 => ?_)
    all_goals (try k_fold)
  k_with "val" => first | rfl | assumption | (refine decide_eq_true ?_; omega) | (refine decide_eq_false ?_; omega)
  k_with "absurd" => first | contradiction | exact absurd (And.intro (by assumption) (by assumption)) hs | exact absurd hs (by assumption) | (rw [hs1] at *; contradiction)
  refine wpAny_call ?_
  k_dflt cell_enter
  k_steps
  all_goals first | (exact max_tup hret (by k_asm) (by k_asm) (by intro p hp; repeat (first | exact hp | refine List.Mem.tail _ ?_)) (by first | assumption | exact lt1 (by assumption) | exact lt2 (by assumption) | exact lt3 (by assumption))) | (exfalso; omega)
end
end Mine
end
-- M137s
section
set_option maxHeartbeats 1000000
open PySem PySem.W PySem.Calls PyProof.Rows
namespace Mine
section
theorem long_s (w : World) (x : Str) (t : Tok) (hx : x.length ≤ 10000) (mx i : Int) (tm ti : Tok) (mu : Bool) (hm : 0 < mx) (hm2 : mx < 1000) (hi : 0 ≤ i) (hi2 : i < 1000) (hc : ((lessS x (Str.ofString " \t\n\r\x0b\x0c")).length : Int) > mx) (hs : i = 1 ∧ (Txt.slice (lessS x (Str.ofString " \t\n\r\x0b\x0c")) none (some 2) == Str.ofString "#!") = true) (ws : List Str) (hws : wordsW (lessS x (Str.ofString " \t\n\r\x0b\x0c")) = ws)  :
    Tells w 137 [.str x t, .int mx tm, .bool mu, .int i ti, .bool false] 2 (fun _ _ => True) (RetTup (none)) := by
  unfold Tells
  intro mean mg mb dp un gd cn cs a ccd cl outer A₀ base h₀ L m news s Q E B F X N T hk hpre hd hu hret
  k_with_none
  k_with "call ref" => ((k_here; (with_reducible show wpAny _ _ (call (Value.ref 113) [Value.str _ _, Value.str _ _] _) _ _ _); k_dflt (refine' Tells.use (less_tellsP _ _ _ _ _ ?z1x255 ?z2x255) ?k1x255 ?k2x255 ?k3x255 ?k4x255 ?k5x255 ?kKx255 ?kPx255 ?kdx255 ?kux255 ?_; (case z1x255 => omega); (case z2x255 => first | decide | omega); (case k1x255 => k_asm); (case k2x255 => k_asm); (case k3x255 => k_asm); (case k4x255 => k_asm); (case k5x255 => k_asm); (case kKx255 => first | exact rfl | assumption); (case kPx255 => first | exact True.intro | k_extra "pre"); (case kdx255 => ktr_room); (case kux255 => ktr_units)); intro t9w255 h9w255 tk9w255 hl9w255 hp9w255 F9w255 N9w255; (try dsimp only); (try k_fold)))
  k_with "execs cons" => ((k_here; (with_reducible refine' pos_toks ?p1x256 ?_); (case p1x256 => (fail_if_success assumption); omega); intro tk9w256 hp9w256))
  k_with "CompSrcT" => (k_extra "my comp")
  k_with "CompEnd" => ((refine comp_end (by k_asm) (by k_asm) (by assumption) (by lcg_src) ?_; try dsimp only))
  k_with "MEl" => ((refine ⟨rfl, ?_, ⟨_, rfl⟩⟩; assumption))
  k_with "MNo" => ((refine ⟨rfl, ?_⟩; assumption))
  k_with "call builtin:str.replace" => ((k_here; k_dflt (refine' rep_w (c := 9) (d := 32) ?r1x261 ?r2x261 ?r3x261 ?r4x261 ?r5x261 ?r6x261 ?_; (case r1x261 => decide); (case r2x261 => decide); (case r3x261 => omega); (case r4x261 => omega); (case r5x261 => omega); (case r6x261 => decide)); intro _ _ _ hk9w261; (try dsimp only at hk9w261)))
  k_with "call builtin:str.replace" => ((k_here; k_dflt (refine' rep_w (c := 11) (d := 32) ?q1x262 ?q2x262 ?q3x262 ?q4x262 ?q5x262 ?q6x262 ?_; (case q1x262 => decide); (case q2x262 => decide); (case q3x262 => omega); (case q4x262 => omega); (case q5x262 => omega); (case q6x262 => decide)); intro _ _ _ hk9w262; (try dsimp only at hk9w262)))
  k_with "call builtin:str.split" => ((k_here; k_dflt (refine' split_w ?s1x263 ?s2x263 ?s3x263 ?s4x263 ?_; (case s1x263 => k_asm); (case s2x263 => k_asm); (case s3x263 => omega); (case s4x263 => decide)); (intro D9w263 vs9w263 h9w263 tk9w263 S9w263 w9w263 z9w263 F9w263 N9w263 l9w263; (try k_fold))))
  k_with "exec If" => (((with_reducible show wpAny _ _ (exec (Stmt.If (Expr.BoolOp _ [Expr.Compare _ _ _ _, Expr.Name _ _, _] _) _ _ _) _) _ _ _); (refine' if_yes ?k103Fx264 ?k103Nx264 ?k103tx264 ?k103kx264); (case k103Fx264 => k_asm); (case k103Nx264 => k_asm); rotate_left; (intro h9w264 tk9w264 F9w264 N9w264; (try k_fold)); rotate_left))
  k_with "subscriptTail Name Constant ref int" => ((exfalso; omega))
  k_with "subscriptTail Name UnaryOp ref int" => ((exfalso; omega))
  k_with "KnownB" => (first | exact knownB (by k_asm) (by k_asm) | (exfalso; omega) | (exfalso; k_extra "absurd") | exact knownB' (by k_extra "val") (by k_asm) (by k_asm))
  k_with "call builtin:len" => ((k_here; (with_reducible show wpAny _ _ (call (Value.builtin "len") [Value.ref _]) _ _ _); k_dflt (refine' len_any ?Nx268 ?mx268 ?ex268 ?zx268 ?_; (case Nx268 => k_asm); (case mx268 => k_mem); (case ex268 => exact StrsAre.length (by assumption)); (case zx268 => omega))))
  k_with "my comp" =>
    k_dflt (refine LCt.CompSrcT.ledger (by rfl) (by k_asm) (by k_asm) (by k_mem) (by assumption) ?_)
    intro g9
    refine' comp_wn (f := fun z => z != Str.ofString "") (by assumption) hws (by assumption) (fun zz9 tt9 I9 oI9 C9 oC9 D9 m9 ys9 h9 tk9 E9 hz9 hC9 hx9 F9 N9 off9 ne9 => ?_) (fun ys9 hS9 hl9 => ?_)
    all_goals (try k_fold)
  k_with "val" => first | rfl | assumption | (refine decide_eq_true ?_; omega) | (refine decide_eq_false ?_; omega)
  k_with "absurd" => first | contradiction | exact absurd (And.intro (by assumption) (by assumption)) hs | exact absurd hs.1 (by assumption) | exact Bool.noConfusion (hs.2.symm.trans (by assumption))
  refine wpAny_call ?_
  k_dflt cell_enter
  k_steps
  all_goals first | exact ret_none hret rfl (by k_asm) (by k_asm) (by intro p hp; repeat (first | exact hp | refine List.Mem.tail _ ?_)) | (exfalso; omega)
end
end Mine
end
-- D137
section
set_option maxHeartbeats 4000000
open PySem PySem.W PySem.Calls PyProof.Rows
namespace Mine
theorem word_len {l z : Str} (h : z ∈ wordsW l) : z.length ≤ l.length := by
  unfold wordsW at h
  have := part_short (List.mem_filter.mp h).1
  have e1 : Str.ofString "\t" = ⟨#[9]⟩ := by decide
  have e2 : Str.ofString "\x0b" = ⟨#[11]⟩ := by decide
  have e3 : Str.ofString " " = ⟨#[32]⟩ := by decide
  rw [e1, e2, e3, rep_len, rep_len] at this
  exact this
theorem tells_long (w : World) (x : Str) (t : Tok) (hx : x.length ≤ 10000) (mx i : Int) (tm ti : Tok) (mu nq : Bool) (hm : 0 < mx) (hm2 : mx < 1000) (hi : 0 ≤ i) (hi2 : i < 1000) :
    Tells w 137 [.str x t, .int mx tm, .bool mu, .int i ti, .bool nq] 2 (fun _ _ => True) (RetTup (longR (lessS x spS) (wordsW (lessS x spS)) mx mu nq (bangB (lessS x spS) i))) := by
  have hll : (lessS x spS).length ≤ x.length := less_le x spS
  by_cases hc : ((lessS x spS).length : Int) > mx
  · cases nq
    · cases hsh : bangB (lessS x spS) i
      · have hno : ¬ (i = 1 ∧ (Txt.slice (lessS x spS) none (some 2) == Str.ofString "#!") = true) := by
          unfold bangB at hsh
          simpa using hsh
        have hwl : ∀ z ∈ wordsW (lessS x spS), z.length ≤ 10000 := fun z hz => Nat.le_trans (word_len hz) (by omega)
        generalize hws : wordsW (lessS x spS) = ws at hwl
        rcases shape ws with a | ⟨a, b⟩ | ⟨ws, h1, h2⟩
        · have hal := hwl a (by simp)
          cases mu
          · rw [long4 hc (fun c => Bool.false_ne_true c.1)]
            exact long_c w x t hx mx i tm ti hm hm2 hi hi2 hc hno a hal hws
          · by_cases hd : ((lessS x spS).length : Int) - (a.length : Int) < mx - 7
            · rw [long5 hd]
              exact long_d w x t hx mx i tm ti hm hm2 hi hi2 hc hno a hal hws hd
            · rw [long4 hc (fun c => hd c.2)]
              exact long_e w x t hx mx i tm ti hm hm2 hi hi2 hc hno a hal hws hd
        · have hal := hwl a (by simp)
          have hbl := hwl b (by simp)
          cases ha : (a == Str.ofString "#")
          · rw [long6 hc (fun c => by rw [ha] at c; exact Bool.false_ne_true c.1)]
            exact long_f w x t hx mx i tm ti mu hm hm2 hi hi2 hc hno a b hal hbl hws ha
          · by_cases hd : ((lessS x spS).length : Int) - (b.length : Int) < mx - 7
            · rw [long7 ha hd]
              exact long_g w x t hx mx i tm ti mu hm hm2 hi hi2 hc hno a b hal hbl hws ha hd
            · rw [long6 hc (fun c => hd c.2)]
              exact long_h w x t hx mx i tm ti mu hm hm2 hi hi2 hc hno a b hal hbl hws ha hd
        · rw [long3 hc h1 h2]
          exact long_i w x t hx mx i tm ti mu hm hm2 hi hi2 hc hno ws hws h1 h2
      · have hy : i = 1 ∧ (Txt.slice (lessS x spS) none (some 2) == Str.ofString "#!") = true := by
          unfold bangB at hsh
          simpa using hsh
        rw [long2]
        exact long_s w x t hx mx i tm ti mu hm hm2 hi hi2 hc hy _ rfl
    · rw [long1]
      exact long_b w x t hx mx i tm ti mu hm hm2 hi hi2 _ rfl
  · rw [long0 hc]
    exact long_a w x t hx mx i tm ti mu hm hm2 hi hi2 nq hc _ rfl
end Mine
end
-- C3
section
set_option maxHeartbeats 4000000
open PySem PySem.W PySem.Calls PyProof.Rows
namespace Mine
def MVal (news : List (Addr × Obj)) (R : Value → Prop) (y : Value) (news' : List (Addr × Obj)) : Prop := news' = news ∧ R y
section
variable {prog : Program} {w : World} {A : Around} {h₀ : Heap} {L : Addr} {m : Str → Option Value} {env : Env} {elt : Expr} {x : Str} {scope : Scope} {cl : List (Str × Addr)} {s : Shared} {S : List (Addr × Obj) → Prop} {P : Nat → Value → Prop} {Fin : List Value → List (Addr × Obj) → Prop} {news : List (Addr × Obj)}
/-- a comprehension without a test whose elements are strs with a word of each -/
theorem comp_strs {n : Nat} (R : Str → Prop)
    (turn : ∀ (i : Nat) v I oI C oC D m₂ ys h tk (E' : Value → Shared → Prop), i < n → P i v → LCg.NsObj oC m₂ → m₂ x = some v → Fr h₀ L h m → News h₀ L h ((I, oI) :: (C, oC) :: (D, LCg.lst ys) :: news) → LCg.Off3 I C D news → ((@Ne Nat I C) ∧ (@Ne Nat I D) ∧ (@Ne Nat C D)) →
      wpAny (model prog w) A (eval elt (compEnvC scope cl C env)) (LCg.CompEnd h₀ L m { s with heap := h, toks := tk } I oI C oC D (LCg.lst ys) S (fun y news' => MVal news (fun y => ∃ z t, y = .str z t ∧ R z) y news')) E' { s with heap := h, toks := tk })
    (fin : ∀ ys Ls, StrsAre ys Ls → (∀ z ∈ Ls, R z) → Ls.length = n → Fin ys news) : LCg.CompRest prog w A h₀ L m env elt x scope cl s S P Fin n 0 [] news := by
  have key : ∀ (j i : Nat) (ys : List Value) (Ls : List Str), i + j = n → StrsAre ys Ls → (∀ z ∈ Ls, R z) → Ls.length = i → LCg.CompRest prog w A h₀ L m env elt x scope cl s S P Fin j i ys news := by
    intro j
    induction j with
    | zero =>
      intro i ys Ls hi hy hR hl
      exact LCg.CompRest.zero (fin ys Ls hy hR (by omega))
    | succ j ih =>
      intro i ys Ls hi hy hR hl
      refine LCg.CompRest.succ ?_
      intro v I oI C oC D m₂ h tk E' hv hC hx F N off ne
      refine wpAny_mono (turn i v I oI C oC D m₂ ys h tk E' (by omega) hv hC hx F N off ne) (fun y s₂ hq => ?_) fun _ _ e => e
      obtain ⟨h', tk', nw, e, F', N', off', hS, hn, z, t, rfl, hz⟩ := hq
      rw [hn] at N' off' hS
      refine ⟨h', tk', news, e, F', N', off', hS, ?_⟩
      refine ih (i + 1) _ (Ls ++ [z]) (by omega) (hy.append' (.cons z t .nil)) ?_ (by simp [hl])
      intro y hy'
      rcases List.mem_append.mp hy' with h1 | h1
      · exact hR y h1
      · rw [List.mem_singleton.mp h1]; exact hz
  exact key n 0 [] [] (by omega) .nil (fun _ h => by cases h) rfl
end
end Mine
end
-- C4
section
set_option maxHeartbeats 4000000
open PySem PySem.W PySem.Calls PyProof.Rows
namespace Mine
section
variable {prog : Program} {w : World} {A : Around} {E : Value → Shared → Prop} {h₀ : Heap} {env : Env} {body : List Stmt} {target : Expr} {Q : Flow → Shared → Prop} {s : Shared} {ws : List (Addr × String)} {keep : List (Addr × Obj)}
theorem allObj_mono : ∀ {ws : List (Addr × String)} {P P' : List (Addr × Obj) → Prop}, AllObj ws P → (∀ its, P its → P' its) → AllObj ws P'
  | [], _, _, h, k => k _ h
  | _ :: _, _, _, h, k => fun o e => allObj_mono (h o e) fun its => k _
/-- a loop over enumerate of a list of strs: the turn by a word J of the frame and the ledger -/
theorem items_strs (J : (Str → Option Value) → List (Addr × Obj) → Prop) (R : Str → Prop)
    (turn : ∀ (i : Nat) z t T ti h tk m news, R z → i < 100 → J m news → IsTup h T #[.int (i : Int) ti, .str z t] → Fr h₀ env.locals h m → AllObj ws (fun its => News h₀ env.locals h (its ++ news) →
      wpAny (model prog w) A (assign target env (.ref T)) (fun _ s₂ => wpAny (model prog w) A (execs body env) (UnrPostW h₀ env.locals { s with heap := h, toks := tk } its (fun m' n' => SubL keep n' ∧ J m' n') Q) E s₂) E { s with heap := h, toks := tk }))
    (fin : ∀ m news h tk, J m news → Fr h₀ env.locals h m → News h₀ env.locals h news → Q .next { s with heap := h, toks := tk }) :
    ∀ (vs : List Value) (Ls : List Str) (a : Nat) (m : Str → Option Value) (news : List (Addr × Obj)), StrsAre vs Ls → (∀ z ∈ Ls, R z) → a + Ls.length ≤ 100 → J m news → ItemsRest prog w A E h₀ env target body Q s ws keep (enumItems a vs) m news := by
  intro vs
  induction vs with
  | nil => intro Ls a m news hv hR ha hJ; exact ItemsRest.zero fun h tk F N => fin m news h tk hJ F N
  | cons v r ih =>
    intro Ls a m news hv hR ha hJ
    cases hv with
    | cons z t hr =>
      rename_i Lr
      refine ItemsRest.pair fun T ti h tk hT F => ?_
      rw [List.length_cons] at ha
      refine allObj_mono (turn a z t T ti h tk m news (hR z (.head _)) (by omega) hJ hT F) fun its hb hN => ?_
      refine wpAny_mono (hb hN) (fun _ s₂ h₂ => wpAny_mono h₂ (fun f s₃ p => ?_) fun _ _ e => e) fun _ _ e => e
      cases f with
      | ret v => exact p
      | brk => exact p
      | next =>
        obtain ⟨h', tk', m', n', e, F', N', ho, hk, hJ'⟩ := p
        exact ⟨h', tk', m', n', e, F', N', ho, hk, ih Lr (a + 1) m' n' hr (fun y hy => hR y (.tail _ hy)) (by omega) hJ'⟩
      | cont =>
        obtain ⟨h', tk', m', n', e, F', N', ho, hk, hJ'⟩ := p
        exact ⟨h', tk', m', n', e, F', N', ho, hk, ih Lr (a + 1) m' n' hr (fun y hy => hR y (.tail _ hy)) (by omega) hJ'⟩
end
end Mine
end
-- P5
section
open PySem PySem.W PySem.Calls PyProof.Rows
namespace Mine
theorem rdrop_congr {p q : Nat → Bool} {l : List Nat} (h : ∀ c ∈ l, p c = q c) : rdrop p l = rdrop q l := by
  unfold rdrop
  have : ∀ l : List Nat, (∀ c ∈ l, p c = q c) → l.dropWhile p = l.dropWhile q := by
    intro l
    induction l with
    | nil => intro _; rfl
    | cons a r ih =>
      intro h
      rw [List.dropWhile_cons, List.dropWhile_cons, h a List.mem_cons_self, ih fun c hc => h c (List.mem_cons_of_mem _ hc)]
  rw [this _ fun c hc => h c (List.mem_reverse.mp hc)]
def allS : List Nat := abc ++ [10, 13, 12]
theorem line_all {x : Str} (h : LineOk x) : ∀ c ∈ lst x, c ∈ allS := by
  obtain ⟨b, e, hx, hb, he, _⟩ := h
  intro c hc
  rw [hx] at hc
  rcases List.mem_append.mp hc with h1 | h1
  · exact List.mem_append.mpr (.inl (hb c h1))
  · refine List.mem_append.mpr (.inr ?_)
    have : ∀ e ∈ [[10], [13, 10], [12, 10], ([] : List Nat)], ∀ c ∈ e, c ∈ [10, 13, 12] := by decide
    exact this e he c h1
theorem space_all : ∀ c ∈ allS, Unicode.isSpace c = (lst spS).contains c := by decide +kernel
theorem blank_abc : ∀ c ∈ abc, Unicode.isSpace c = (((c == 32) || c == 11) || c == 9) := by decide +kernel
theorem strip_eq {x : Str} (h : LineOk x) : Txt.rstrip x = lessS x spS := by
  apply lst_inj
  rw [rstrip_lst, less_lst]
  exact rdrop_congr fun c hc => space_all c (line_all h c hc)
theorem rdrop_sub (p : Nat → Bool) (l : List Nat) : ∀ c ∈ rdrop p l, c ∈ l := by
  intro c hc
  rw [rdrop_take] at hc
  exact List.mem_of_mem_take hc
theorem rdrop_app (p : Nat → Bool) (b : List Nat) : ∀ e : List Nat, (∀ c ∈ e, p c = true) → rdrop p (b ++ e) = rdrop p b := by
  intro e he
  unfold rdrop
  rw [List.reverse_append]
  congr 1
  have : ∀ a r : List Nat, (∀ c ∈ a, p c = true) → (a ++ r).dropWhile p = r.dropWhile p := by
    intro a
    induction a with
    | nil => intro r _; rfl
    | cons c a ih =>
      intro r h
      rw [List.cons_append, List.dropWhile_cons, h c List.mem_cons_self]
      exact ih r fun d hd => h d (List.mem_cons_of_mem _ hd)
  exact this _ _ fun c hc => he c (List.mem_reverse.mp hc)
theorem less_abc {x : Str} (h : LineOk x) : ∀ c ∈ lst (lessS x spS), c ∈ abc := by
  obtain ⟨b, e, hx, hb, he, _⟩ := h
  intro c hc
  rw [less_lst, hx, rdrop_app] at hc
  · exact hb c (rdrop_sub _ _ c hc)
  · have : ∀ e ∈ [[10], [13, 10], [12, 10], ([] : List Nat)], ∀ c ∈ e, (lst spS).contains c = true := by decide
    exact this e he
theorem scan_runs : ∀ (l : List Nat) (ws : List Str) (r : Str), (KWd.fin (l.foldl KWd.step (ws, r))).map lst = ws.map lst ++ runs Unicode.isSpace l (lst r)
  | [], ws, r => by
    show (KWd.fin (ws, r)).map lst = _
    unfold KWd.fin runs
    have hl : r.length = (lst r).length := len_lst r
    by_cases h : lst r = []
    · have : r.length = 0 := by rw [hl, h]; rfl
      simp [this, h]
    · have : r.length ≠ 0 := by rw [hl]; exact fun e => h (List.length_eq_zero_iff.mp e)
      simp [this, h]
  | c :: l, ws, r => by
    have hl : r.length = (lst r).length := len_lst r
    rw [List.foldl_cons]
    unfold runs
    have e0 : lst Str.empty = [] := rfl
    cases hc : Unicode.isSpace c
    · have e : KWd.step (ws, r) c = (ws, r ++ ⟨#[c]⟩) := by unfold KWd.step; rw [if_neg (by rw [hc]; decide)]
      rw [e, scan_runs l ws _, lst_append]
      rfl
    · by_cases h : lst r = []
      · have h0 : r.length = 0 := by rw [hl, h]; rfl
        have e : KWd.step (ws, r) c = (ws, r) := by unfold KWd.step; rw [if_pos hc, if_pos h0]
        rw [e, scan_runs l ws _, h]
        simp
      · have h0 : r.length ≠ 0 := by rw [hl]; exact fun e => h (List.length_eq_zero_iff.mp e)
        have e : KWd.step (ws, r) c = (ws ++ [r], Str.empty) := by unfold KWd.step; rw [if_pos hc, if_neg h0]
        rw [e, scan_runs l _ _, e0]
        simp [h]
theorem words_runs (x : Str) : (Txt.words x).map lst = runs Unicode.isSpace (lst x) [] := by
  rw [KWd.words_scan]
  exact scan_runs (lst x) [] Str.empty
theorem map_lst_inj : ∀ {a b : List Str}, a.map lst = b.map lst → a = b
  | [], [], _ => rfl
  | [], _ :: _, h => by simp at h
  | _ :: _, [], h => by simp at h
  | x :: a, y :: b, h => by
    rw [List.map_cons, List.map_cons] at h
    obtain ⟨h1, h2⟩ := List.cons.inj h
    rw [lst_inj h1, map_lst_inj h2]
theorem words_eq {x : Str} (h : LineOk x) : Txt.words (lessS x spS) = wordsW (lessS x spS) := by
  apply map_lst_inj
  rw [words_runs, wordsW_runs]
  exact runs_congr _ _ fun c hc => blank_abc c (less_abc h c hc)
theorem starts_two (l : Str) : Txt.startswith l (Str.ofString "#!") = (Txt.slice l none (some 2) == Str.ofString "#!") := by
  have hy : lst (Str.ofString "#!") = [35, 33] := by decide
  have hyl : (Str.ofString "#!").length = 2 := by decide
  rw [Bool.eq_iff_iff, beq_iff_eq]
  unfold Txt.startswith
  rw [Bool.and_eq_true, decide_eq_true_iff, StrLaws.subAt_eq, beq_iff_eq, hyl, List.drop_zero]
  show (0 + 2 ≤ l.length ∧ (lst l).take 2 = lst (Str.ofString "#!")) ↔ _
  by_cases h : 2 ≤ l.length
  · have e := cut_take h
    constructor
    · rintro ⟨_, h2⟩
      exact lst_inj (by rw [← h2]; exact e)
    · intro h2
      exact ⟨by omega, by rw [← h2]; exact e.symm⟩
  · constructor
    · rintro ⟨h1, _⟩; omega
    · intro h2
      exfalso
      have h3 : (Txt.slice l none (some 2)).length ≤ l.length := Txt.slice_le l none (some 2)
      rw [h2, hyl] at h3
      exact h h3
theorem long_eq {x : Str} (h : LineOk x) (mx : Int) (mu nq : Bool) (i : Int) :
    longR (Txt.rstrip x) (Txt.words (Txt.rstrip x)) mx mu nq (shR (Txt.rstrip x) i) = longR (lessS x spS) (wordsW (lessS x spS)) mx mu nq (bangB (lessS x spS) i) := by
  rw [strip_eq h, words_eq h]
  unfold shR bangB
  rw [starts_two]
/-- the head's signs -/
def okE (x y : Str) (i : Nat) : Bool := Txt.item (headS x) (i : Int) != y
def okT (x : Str) (i : Nat) : Bool := Txt.item (headS x) (i : Int) == Str.ofString "\t"
theorem item_at {x : Str} {i : Nat} {c : Nat} (h : (lst x)[i]? = some c) : Txt.item x (i : Int) = ⟨#[c]⟩ := by
  unfold Txt.item
  have hl : i < x.length := by
    rw [len_lst]
    exact (List.getElem?_eq_some_iff.mp h).1
  have : Txt.charAt x (i : Int) = some c := by
    refine StrLaws.at_nonneg (by omega) ?_
    have h2 : x.cps.toList[i]? = some c := h
    simpa using h2
  rw [this]; rfl
theorem find_zip {α : Type} (q : α → Bool) (f : Nat → Bool) : ∀ (l : List α) (k : Nat), (∀ i a, l[i]? = some a → f (k + i) = q a) →
    ((l.zipIdx k).find? fun p => q p.1).map (·.2) = (List.range' k l.length).find? f
  | [], _, _ => rfl
  | a :: r, k, h => by
    have h0 : f k = q a := h 0 a rfl
    have ih := find_zip q f r (k + 1) fun i b hb => by
      have := h (i + 1) b (by simpa using hb)
      rw [← this]; congr 1; omega
    rw [List.zipIdx_cons, List.find?_cons, List.length_cons, List.range'_succ, List.find?_cons, h0]
    cases q a
    · exact ih
    · rfl
theorem e101_find (x y : Str) : e101 x y = ((List.range (headS x).length).find? (okE x y)).map fun i : Nat => ((i : Int), Str.ofString "E101 indentation contains mixed spaces and tabs") := by
  unfold e101
  have hl : (signs (headS x)).length = (headS x).length := by unfold signs; rw [List.length_map]; rfl
  have := find_zip (fun z : Str => z != y) (okE x y) (signs (headS x)) 0 fun i a ha => by
    unfold signs at ha
    rw [List.getElem?_map] at ha
    rw [Nat.zero_add]
    unfold okE
    cases hc : (headS x).cps.toList[i]? with
    | none => rw [hc] at ha; cases ha
    | some c =>
      rw [hc] at ha
      rw [item_at hc]
      obtain rfl := Option.some.inj ha
      rfl
  rw [hl, ← List.range_eq_range'] at this
  rw [← this, Option.map_map]
  rfl
def othersL (x y : Str) : List Int := ((List.range (headS x).length).filter (okE x y)).map fun i : Nat => (i : Int)
def tabsL (x : Str) : List Int := ((List.range (headS x).length).filter (okT x)).map fun i : Nat => (i : Int)
theorem head_filter {n : Nat} {f : Nat → Bool} : (((List.range n).filter f).map fun i : Nat => (i : Int)).head? = ((List.range n).find? f).map fun i : Nat => (i : Int) := by
  rw [List.head?_map, List.head?_filter]
theorem e101_nil {x y : Str} (h : othersL x y = []) : e101 x y = none := by
  have := head_filter (n := (headS x).length) (f := okE x y)
  rw [show (((List.range (headS x).length).filter (okE x y)).map fun i : Nat => (i : Int)) = othersL x y from rfl, h] at this
  rw [e101_find]
  cases hf : (List.range (headS x).length).find? (okE x y) with
  | none => rfl
  | some i => rw [hf] at this; cases this
theorem e101_cons {x y : Str} {i : Int} {r : List Int} (h : othersL x y = i :: r) : e101 x y = some (i, Str.ofString "E101 indentation contains mixed spaces and tabs") := by
  have := head_filter (n := (headS x).length) (f := okE x y)
  rw [show (((List.range (headS x).length).filter (okE x y)).map fun i : Nat => (i : Int)) = othersL x y from rfl, h] at this
  rw [e101_find]
  cases hf : (List.range (headS x).length).find? (okE x y) with
  | none => rw [hf] at this; cases this
  | some j =>
    rw [hf] at this
    obtain rfl : i = (j : Int) := Option.some.inj this
    rfl
theorem tab_str : Str.ofString "\t" = ⟨#[9]⟩ := by decide
theorem okT_at {x : Str} {i : Nat} (hi : i < (headS x).length) : okT x i = true ↔ StrLaws.At (headS x) (Str.ofString "\t") (headS x).length i := by
  unfold StrLaws.At
  rw [tab_str, StrLaws.subAt_one]
  unfold okT
  have hi' : i < (headS x).cps.toList.length := by simpa [Str.length] using hi
  have hc : (headS x).cps.toList[i]? = some ((headS x).cps.toList[i]) := List.getElem?_eq_getElem hi'
  rw [item_at hc, hc, tab_str, beq_iff_eq]
  constructor
  · intro h
    have := congrArg (fun z : Str => lst z) h
    have h2 : [((headS x).cps.toList[i])] = [9] := this
    rw [List.cons.inj h2 |>.1]
  · intro h
    rw [Option.some.inj h]
theorem w191_find (x : Str) : w191 x = ((List.range (headS x).length).find? (okT x)).map fun i : Nat => ((i : Int), Str.ofString "W191 indentation contains tabs") := by
  unfold w191
  have hlen : (Str.ofString "\t").length = 1 := by decide
  rcases StrLaws.occ_head (headS x) (Str.ofString "\t") 1 (Nat.le_refl 1) with ⟨h0, hn⟩ | ⟨i, r, h0, ha, hn⟩
  · rw [h0, if_pos (show ([] : List Nat).isEmpty = true from rfl)]
    have : (List.range (headS x).length).find? (okT x) = none := by
      rw [List.find?_eq_none]
      intro i hi
      rw [okT_at (List.mem_range.mp hi)]
      exact hn i
    rw [this]; rfl
  · rw [h0, if_neg (by simp)]
    have hi : i < (headS x).length := by have := ha.1; omega
    have e : (List.range (headS x).length).find? (okT x) = some i := by
      rw [List.find?_range_eq_some]
      refine ⟨(okT_at hi).mpr ha, List.mem_range.mpr hi, fun j hj => ?_⟩
      have := hn j hj
      rw [← okT_at (by omega)] at this
      simpa using this
    rw [e]
    have hf : Txt.find (headS x) (Str.ofString "\t") = (i : Int) := by
      unfold Txt.find
      rw [h0]
    rw [hf]; rfl
theorem w191_nil {x : Str} (h : tabsL x = []) : w191 x = none := by
  have := head_filter (n := (headS x).length) (f := okT x)
  rw [show (((List.range (headS x).length).filter (okT x)).map fun i : Nat => (i : Int)) = tabsL x from rfl, h] at this
  rw [w191_find]
  cases hf : (List.range (headS x).length).find? (okT x) with
  | none => rfl
  | some i => rw [hf] at this; cases this
theorem w191_cons {x : Str} {i : Int} {r : List Int} (h : tabsL x = i :: r) : w191 x = some (i, Str.ofString "W191 indentation contains tabs") := by
  have := head_filter (n := (headS x).length) (f := okT x)
  rw [show (((List.range (headS x).length).filter (okT x)).map fun i : Nat => (i : Int)) = tabsL x from rfl, h] at this
  rw [w191_find]
  cases hf : (List.range (headS x).length).find? (okT x) with
  | none => rw [hf] at this; cases this
  | some j =>
    rw [hf] at this
    obtain rfl : i = (j : Int) := Option.some.inj this
    rfl
end Mine
end
-- E1
section
set_option maxHeartbeats 4000000
open PySem PySem.W PySem.Calls PyProof.Rows PyProof.V PySem.Spec
namespace Mine
theorem ok_of (x : String) : PyData.strOk (Str.ofString x) = true := by
  unfold PyData.strOk
  rw [Str.ofString_eq_toList, Array.all_eq_true_iff_forall_mem]
  intro c hc
  obtain ⟨d, _, rfl⟩ : ∃ d : Char, d ∈ x.toList ∧ d.toNat = c := by simpa using hc
  have h := d.valid
  have h2 : d.toNat < 0x110000 := by
    rcases h with h | h
    · exact Nat.lt_trans h (by decide)
    · exact h.2
  simpa using h2
theorem ok_app (x y : Str) (hx : PyData.strOk x = true) (hy : PyData.strOk y = true) : PyData.strOk (x ++ y) = true := by
  unfold PyData.strOk at *
  rw [Str.cps_append, Array.all_append, hx, hy]; rfl
theorem shaped_is (i : Int) (z : Str) (hz : PyData.strOk z = true) : SeqAt.shaped (.tuple [.int i, .str z]) = true := by
  simp [SeqAt.shaped, PyData.canLay0, PyData.canLayAll0, PyData.depth, PyData.depthAll, hz]
section
variable {prog : Program} {w : World} {A : Around} {E : Value → Shared → Prop} {h₀ : Heap} {L : Addr} {s : Shared} {news : List (Addr × Obj)} {Q : Value → Shared → Prop}
theorem ne_tup {q1 q2 : Addr} {i : Int} {z : Str} {ti tz ti' tz' : Tok} (N : News h₀ L s.heap news) (h1 : (q1, tupOf i ti z tz) ∈ news) (h2 : (q2, tupOf i ti' z tz') ∈ news) (hz : PyData.strOk z = true) (hu : A.units + 64 < cLine) (h : Q (.bool false) s) :
    wpAny (model prog w) A (compareOp .NotEq (.ref q1) (.ref q2)) Q E s := by
  refine ne_dataH (reads_tuple_at (News.get N h1) rfl rfl (ReadsAll.cons (Reads.int _ _) (ReadsAll.cons (Reads.str _ _) ReadsAll.nil))) (reads_tuple_at (News.get N h2) rfl rfl (ReadsAll.cons (Reads.int _ _) (ReadsAll.cons (Reads.str _ _) ReadsAll.nil))) (shaped_is i z hz) (shaped_is i z hz) hu ?_
  simp only [PyData.eqv, PyData.eqvAll, beq_self_eq_true, Bool.and_true, Bool.not_true]
  exact h
theorem ne_list {a b : Addr} {xs ys : List Value} {n k : Nat} {ns ms : List Int} {r : Bool} (N : News h₀ L s.heap news) (h1 : (a, ({ cls := .type "list", data := .seq xs.toArray n } : Obj)) ∈ news) (h2 : (b, ({ cls := .type "list", data := .seq ys.toArray k } : Obj)) ∈ news) (hi : IntsAre xs ns) (hj : IntsAre ys ms) (hr : (!decide (ns = ms)) = r) (hu : A.units + 64 < cLine) (h : Q (.bool r) s) :
    wpAny (model prog w) A (compareOp .NotEq (.ref a) (.ref b)) Q E s :=
  ke_ne_ints ⟨_, News.get N h1, rfl, _, rfl⟩ ⟨_, News.get N h2, rfl, _, rfl⟩ hi hj hu (by rw [hr]; exact h)
theorem ne_nn {a b : Addr} {n k : Nat} (N : News h₀ L s.heap news) (h1 : (a, ({ cls := .type "list", data := .seq #[] n } : Obj)) ∈ news) (h2 : (b, ({ cls := .type "list", data := .seq #[] k } : Obj)) ∈ news) (hu : A.units + 64 < cLine) (h : Q (.bool false) s) :
    wpAny (model prog w) A (compareOp .NotEq (.ref a) (.ref b)) Q E s := ne_list (xs := []) (ys := []) N h1 h2 .nil .nil rfl hu h
theorem ne_cn {a b : Addr} {n k : Nat} {i : Int} {t : Tok} {r : List Value} {ns : List Int} (N : News h₀ L s.heap news) (h1 : (a, ({ cls := .type "list", data := .seq (List.toArray (.int i t :: r)) n } : Obj)) ∈ news) (h2 : (b, ({ cls := .type "list", data := .seq #[] k } : Obj)) ∈ news) (hi : IntsAre r ns) (hu : A.units + 64 < cLine) (h : Q (.bool true) s) :
    wpAny (model prog w) A (compareOp .NotEq (.ref a) (.ref b)) Q E s := ne_list (ys := []) N h1 h2 (.cons i t hi) .nil (by simp) hu h
end
end Mine
end
-- E2
section
set_option maxHeartbeats 4000000
open PySem PySem.W PySem.Calls PyProof.Rows
namespace Mine
structure Kn (r v : Option (Int × Str)) : Prop where
  eq : r = v
structure OkZ (z : Str) : Prop where
  ok : PyData.strOk z = true
def OkR (r : Option (Int × Str)) : Prop := ∀ i z, r = some (i, z) → OkZ z
section
variable {h₀ : Heap} {L : Addr} {m : Str → Option Value} {news : List (Addr × Obj)} {s : Shared} {Q : Value → Shared → Prop}
theorem rt_none {r : Option (Int × Str)} (e : Kn r none) (h : ∀ (h' : Heap) (tk' : Nat), Fr h₀ L h' m → News h₀ L h' news → Q .none { s with heap := h', toks := tk' }) : RetTup r h₀ L m news s Q :=
  ⟨fun _ => h, fun i z e2 => by rw [e.eq] at e2; cases e2⟩
theorem rt_some {r : Option (Int × Str)} {i : Int} {z : Str} (e : Kn r (some (i, z))) (h : ∀ (q : Addr) (ti tz : Tok) (h' : Heap) (tk' : Nat), Fr h₀ L h' m → News h₀ L h' ((q, tupOf i ti z tz) :: news) → (∀ p ∈ news, p.1 < q) → Q (.ref q) { s with heap := h', toks := tk' }) : RetTup r h₀ L m news s Q :=
  ⟨fun e2 => by (rw [e.eq] at e2; cases e2), fun i z e2 => by
    have e3 := e.eq
    rw [e2] at e3
    injection e3 with e4
    injection e4 with e5 e6
    subst e5
    subst e6
    exact h⟩
theorem rt_fork {r : Option (Int × Str)} (ok : OkR r) (h1 : Kn r none → ∀ (h' : Heap) (tk' : Nat), Fr h₀ L h' m → News h₀ L h' news → Q .none { s with heap := h', toks := tk' })
    (h2 : ∀ i z, OkZ z → Kn r (some (i, z)) → ∀ (q : Addr) (ti tz : Tok) (h' : Heap) (tk' : Nat), Fr h₀ L h' m → News h₀ L h' ((q, tupOf i ti z tz) :: news) → (∀ p ∈ news, p.1 < q) → Q (.ref q) { s with heap := h', toks := tk' }) : RetTup r h₀ L m news s Q :=
  ⟨fun e => h1 ⟨e⟩, fun i z e => h2 i z (ok i z e) ⟨e⟩⟩
end
theorem okR_behind (x : Str) : OkR (behindR x) := by
  intro i z e
  unfold behindR at e
  split at e
  · split at e
    · injection e with e; injection e with e1 e2; subst e2; exact ⟨ok_of _⟩
    · injection e with e; injection e with e1 e2; subst e2; exact ⟨ok_of _⟩
  · cases e
theorem okR_last (x : Str) (i n : Int) : OkR (lastR x i n) := by
  intro i z e
  unfold lastR at e
  split at e
  · split at e
    · injection e with e; injection e with e1 e2; subst e2; exact ⟨ok_of _⟩
    · split at e
      · injection e with e; injection e with e1 e2; subst e2; exact ⟨ok_of _⟩
      · cases e
  · cases e
theorem ok_msg (n mx : Int) : OkZ (msgR n mx) := ⟨ok_app _ _ (ok_app _ _ (ok_app _ _ (ok_app _ _ (ok_of _) (ok_of _)) (ok_of _)) (ok_of _)) (ok_of _)⟩
theorem okR_long (l : Str) (ws : List Str) (mx : Int) (mu nq sh : Bool) : OkR (longR l ws mx mu nq sh) := by
  intro i z e
  have key : ∀ (c : Prop) [Decidable c] (x : Option (Int × Str)), (∀ i z, x = some (i, z) → OkZ z) → (if c then none else x) = some (i, z) → OkZ z := by
    intro c _ x hx h
    split at h
    · cases h
    · exact hx _ _ h
  unfold longR at e
  refine key _ _ (fun i z e => ?_) e
  have key2 : ∀ (c : Prop) [Decidable c] (x : Option (Int × Str)), (∀ i z, x = some (i, z) → OkZ z) → ∀ i z, (if c then none else x) = some (i, z) → OkZ z := by
    intro c _ x hx i z h
    split at h
    · cases h
    · exact hx _ _ h
  refine key2 _ _ (fun i z e => ?_) _ _ e
  refine key2 _ _ (fun i z e => ?_) _ _ e
  have fin : ∀ i z, some (mx, msgR (l.length : Int) mx) = some (i, z) → OkZ z := by
    intro i z h
    injection h with h; injection h with h1 h2; subst h2; exact ok_msg _ _
  split at e
  · exact key2 _ _ fin _ _ e
  · exact key2 _ _ fin _ _ e
  · exact fin _ _ e
theorem kn_e101_nil {x y : Str} (h : othersL x y = []) : Kn (e101 x y) none := ⟨e101_nil h⟩
theorem kn_e101_cons {x y : Str} {i : Int} {r : List Int} (h : othersL x y = i :: r) : Kn (e101 x y) (some (i, Str.ofString "E101 indentation contains mixed spaces and tabs")) := ⟨e101_cons h⟩
theorem kn_w191_nil {x : Str} (h : tabsL x = []) : Kn (w191 x) none := ⟨w191_nil h⟩
theorem kn_w191_cons {x : Str} {i : Int} {r : List Int} (h : tabsL x = i :: r) : Kn (w191 x) (some (i, Str.ofString "W191 indentation contains tabs")) := ⟨w191_cons h⟩
/-- the frames agree outside the names -/
def Agree (names : List Str) (m m₀ : Str → Option Value) : Prop := ∀ y, y ∉ names → m y = m₀ y
theorem agree_refl (names : List Str) (m : Str → Option Value) : Agree names m m := fun _ _ => rfl
theorem agree_set {names : List Str} {m m₀ : Str → Option Value} {x : Str} {v : Option Value} (hx : x ∈ names) (h : Agree names m m₀) : Agree names (fun y => if y = x then v else m y) m₀ := by
  intro y hy
  have : y ≠ x := fun e => hy (e ▸ hx)
  show (if y = x then v else m y) = _
  rw [if_neg this]
  exact h y hy
theorem agree_trans {names names' : List Str} {m m₁ m₀ : Str → Option Value} (h : Agree names m m₁) (hn : ∀ y ∈ names, y ∈ names') (h' : Agree names' m₁ m₀) : Agree names' m m₀ :=
  fun y hy => (h y fun hm => hy (hn y hm)).trans (h' y hy)
/-- one layer: written out -/
theorem agree_1 {a : Str} {names : List Str} {m m₀ : Str → Option Value} (h : Agree (a :: names) m m₀) : ∃ (o : Option Value) (m' : Str → Option Value), Agree names m' m₀ ∧ m = fun y => if y = a then o else m' y :=
  ⟨m a, fun y => if y = a then m₀ a else m y, fun y hy => by
    show (if y = a then m₀ a else m y) = m₀ y
    split
    · rename_i e; rw [e]
    · rename_i e
      exact h y fun hm => by
        rcases List.mem_cons.mp hm with h1 | h1
        · exact e h1
        · exact hy h1, by
    funext y
    show m y = if y = a then m a else if y = a then m₀ a else m y
    split
    · rename_i e; rw [e]
    · rfl⟩
theorem agree_0 {m m₀ : Str → Option Value} (h : Agree [] m m₀) : m = m₀ := funext fun y => h y (by simp)
theorem agree_2 {a b : Str} {m m₀ : Str → Option Value} (h : Agree [a, b] m m₀) : ∃ o1 o2 : Option Value, m = fun y => if y = a then o1 else if y = b then o2 else m₀ y := by
  obtain ⟨o1, m1, h1, rfl⟩ := agree_1 h
  obtain ⟨o2, m2, h2, rfl⟩ := agree_1 h1
  obtain rfl := agree_0 h2
  exact ⟨o1, o2, rfl⟩
theorem agree_3 {a b c : Str} {m m₀ : Str → Option Value} (h : Agree [a, b, c] m m₀) : ∃ o1 o2 o3 : Option Value, m = fun y => if y = a then o1 else if y = b then o2 else if y = c then o3 else m₀ y := by
  obtain ⟨o1, m1, h1, rfl⟩ := agree_1 h
  obtain ⟨o2, o3, rfl⟩ := agree_2 h1
  exact ⟨o1, o2, o3, rfl⟩
theorem agree_7 {a b c d e f g : Str} {m m₀ : Str → Option Value} (h : Agree [a, b, c, d, e, f, g] m m₀) : ∃ o1 o2 o3 o4 o5 o6 o7 : Option Value,
    m = fun y => if y = a then o1 else if y = b then o2 else if y = c then o3 else if y = d then o4 else if y = e then o5 else if y = f then o6 else if y = g then o7 else m₀ y := by
  obtain ⟨o1, m1, h1, rfl⟩ := agree_1 h
  obtain ⟨o2, m2, h2, rfl⟩ := agree_1 h1
  obtain ⟨o3, m3, h3, rfl⟩ := agree_1 h2
  obtain ⟨o4, m4, h4, rfl⟩ := agree_1 h3
  obtain ⟨o5, o6, o7, rfl⟩ := agree_3 h4
  exact ⟨o1, o2, o3, o4, o5, o6, o7, rfl⟩
/-- one cell of the ledger may have changed -/
def Led1 (n₀ : List (Addr × Obj)) (k : Nat) (a : Addr) (n : List (Addr × Obj)) : Prop := ∃ (o : Obj) (d : Option Value), o.data = .cell d ∧ n = n₀.set k (a, o)
def Led2 (n₀ : List (Addr × Obj)) (k : Nat) (a : Addr) (j : Nat) (b : Addr) (n : List (Addr × Obj)) : Prop := ∃ (o u : Obj) (d e : Option Value), o.data = .cell d ∧ u.data = .cell e ∧ n = (n₀.set k (a, o)).set j (b, u)
def TurnIs (names : List Str) (Led : List (Addr × Obj) → Prop) (keep : List (Addr × Obj)) (m₀ : Str → Option Value) (m' : Str → Option Value) (n' : List (Addr × Obj)) : Prop :=
  Agree names m' m₀ ∧ ∃ n'', SubL n'' n' ∧ Led n''
section
variable {prog : Program} {w : World} {A : Around} {E : Value → Shared → Prop} {h₀ : Heap} {env : Env} {body : List Stmt} {target : Expr} {Q : Flow → Shared → Prop} {s : Shared} {ws : List (Addr × String)} {keep : List (Addr × Obj)}
theorem news_cut {L : Addr} {h : Heap} {its n n'' : List (Addr × Obj)} (hs : SubL n'' n) (N : News h₀ L h (its ++ n)) : News h₀ L h (its ++ n'') := fun p hp => by
  rcases List.mem_append.mp hp with h | h
  · exact N p (List.mem_append_left _ h)
  · exact N p (List.mem_append_right _ (hs.mem p h))
theorem items_cut {its : List Itm} {m : Str → Option Value} {n n'' : List (Addr × Obj)} (hs : SubL n'' n) (h : ItemsRest prog w A E h₀ env target body Q s ws keep its m n'') : ItemsRest prog w A E h₀ env target body Q s ws keep its m n := by
  cases its with
  | nil => exact fun h' tk F N => h h' tk F (fun p hp => N p (hs.mem p hp))
  | cons a r => exact fun v h' tk ha F => allObj_mono (h v h' tk ha F) fun its hb N => hb (news_cut hs N)
/-- a loop over written values: every turn from the same word of frame and ledger -/
theorem items_J (names : List Str) (Led : List (Addr × Obj) → Prop) (R : Value → Prop) {m₀ : Str → Option Value} {n₀ : List (Addr × Obj)}
    (turn : ∀ v h tk m news, R v → Agree names m m₀ → Led news → Fr h₀ env.locals h m → AllObj ws (fun its => News h₀ env.locals h (its ++ news) →
      wpAny (model prog w) A (assign target env v) (fun _ s₂ => wpAny (model prog w) A (execs body env) (UnrPostW h₀ env.locals { s with heap := h, toks := tk } its (fun m' n' => SubL keep n' ∧ TurnIs names Led keep m₀ m' n') Q) E s₂) E { s with heap := h, toks := tk }))
    (fin : ∀ m news h tk, Agree names m m₀ → Led news → Fr h₀ env.locals h m → News h₀ env.locals h news → Q .next { s with heap := h, toks := tk })
    {vs : List Value} (hR : ∀ v ∈ vs, R v) (hL : Led n₀) : ItemsRest prog w A E h₀ env target body Q s ws keep (vs.map .val) m₀ n₀ := by
  have key : ∀ (vs : List Value) (m : Str → Option Value) (news : List (Addr × Obj)), (∀ v ∈ vs, R v) → Agree names m m₀ → Led news → ItemsRest prog w A E h₀ env target body Q s ws keep (vs.map .val) m news := by
    intro vs
    induction vs with
    | nil => intro m news _ hA hL; exact ItemsRest.zero fun h tk F N => fin m news h tk hA hL F N
    | cons v r ih =>
      intro m news hR hA hL
      refine ItemsRest.val fun h tk F => ?_
      refine allObj_mono (turn v h tk m news (hR v (.head _)) hA hL F) fun its hb hN => ?_
      refine wpAny_mono (hb hN) (fun _ s₂ h₂ => wpAny_mono h₂ (fun f s₃ p => ?_) fun _ _ e => e) fun _ _ e => e
      have nx : ∀ m' n', TurnIs names Led keep m₀ m' n' → ItemsRest prog w A E h₀ env target body Q s ws keep (r.map .val) m' n' := by
        rintro m' n' ⟨hA', n'', hs, hL'⟩
        exact items_cut hs (ih m' n'' (fun y hy => hR y (.tail _ hy)) hA' hL')
      cases f with
      | ret v => exact p
      | brk => exact p
      | next =>
        obtain ⟨h', tk', m', n', e, F', N', ho, hk, hJ'⟩ := p
        exact ⟨h', tk', m', n', e, F', N', ho, hk, nx m' n' hJ'⟩
      | cont =>
        obtain ⟨h', tk', m', n', e, F', N', ho, hk, hJ'⟩ := p
        exact ⟨h', tk', m', n', e, F', N', ho, hk, nx m' n' hJ'⟩
  exact key vs m₀ n₀ hR (agree_refl _ _) hL
/-- the same over three values -/
theorem items_3 (names : List Str) (Led : List (Addr × Obj) → Prop) {m₀ : Str → Option Value} {n₀ : List (Addr × Obj)} {v1 v2 v3 : Value}
    (t1 : ∀ h tk m news, Agree names m m₀ → Led news → Fr h₀ env.locals h m → AllObj ws (fun its => News h₀ env.locals h (its ++ news) →
      wpAny (model prog w) A (assign target env v1) (fun _ s₂ => wpAny (model prog w) A (execs body env) (UnrPostW h₀ env.locals { s with heap := h, toks := tk } its (fun m' n' => SubL keep n' ∧ TurnIs names Led keep m₀ m' n') Q) E s₂) E { s with heap := h, toks := tk }))
    (t2 : ∀ h tk m news, Agree names m m₀ → Led news → Fr h₀ env.locals h m → AllObj ws (fun its => News h₀ env.locals h (its ++ news) →
      wpAny (model prog w) A (assign target env v2) (fun _ s₂ => wpAny (model prog w) A (execs body env) (UnrPostW h₀ env.locals { s with heap := h, toks := tk } its (fun m' n' => SubL keep n' ∧ TurnIs names Led keep m₀ m' n') Q) E s₂) E { s with heap := h, toks := tk }))
    (t3 : ∀ h tk m news, Agree names m m₀ → Led news → Fr h₀ env.locals h m → AllObj ws (fun its => News h₀ env.locals h (its ++ news) →
      wpAny (model prog w) A (assign target env v3) (fun _ s₂ => wpAny (model prog w) A (execs body env) (UnrPostW h₀ env.locals { s with heap := h, toks := tk } its (fun m' n' => SubL keep n' ∧ TurnIs names Led keep m₀ m' n') Q) E s₂) E { s with heap := h, toks := tk }))
    (fin : ∀ m news h tk, Agree names m m₀ → Led news → Fr h₀ env.locals h m → News h₀ env.locals h news → Q .next { s with heap := h, toks := tk })
    (hL : Led n₀) : ItemsRest prog w A E h₀ env target body Q s ws keep ([v1, v2, v3].map .val) m₀ n₀ := by
  refine items_J names Led (fun v => v = v1 ∨ v = v2 ∨ v = v3) ?_ fin ?_ hL
  · rintro v h tk m news (rfl | rfl | rfl) hA hl F
    · exact t1 h tk m news hA hl F
    · exact t2 h tk m news hA hl F
    · exact t3 h tk m news hA hl F
  · intro v hv
    simpa using hv
/-- enumerate over a list of strs; each turn knows its place -/
theorem items_E (names : List Str) (Led : List (Addr × Obj) → Prop) (R : Str → Prop) {m₀ : Str → Option Value} {n₀ : List (Addr × Obj)} {vs₀ : List Value} {Ls₀ : List Str}
    (turn : ∀ (i : Nat) z t T ti h tk m news, R z → i < Ls₀.length → (i + 1 = Ls₀.length → ∃ ys, vs₀ = ys ++ [.str z t]) → Agree names m m₀ → Led news → IsTup h T #[.int (i : Int) ti, .str z t] → Fr h₀ env.locals h m → AllObj ws (fun its => News h₀ env.locals h (its ++ news) →
      wpAny (model prog w) A (assign target env (.ref T)) (fun _ s₂ => wpAny (model prog w) A (execs body env) (UnrPostW h₀ env.locals { s with heap := h, toks := tk } its (fun m' n' => SubL keep n' ∧ TurnIs names Led keep m₀ m' n') Q) E s₂) E { s with heap := h, toks := tk }))
    (fin : ∀ m news h tk, Agree names m m₀ → Led news → Fr h₀ env.locals h m → News h₀ env.locals h news → Q .next { s with heap := h, toks := tk })
    (hS : StrsAre vs₀ Ls₀) (hR : ∀ z ∈ Ls₀, R z) (hL : Led n₀) : ItemsRest prog w A E h₀ env target body Q s ws keep (enumItems 0 vs₀) m₀ n₀ := by
  have key : ∀ (vs : List Value) (Ls : List Str) (pre : List Value) (a : Nat) (m : Str → Option Value) (news : List (Addr × Obj)), vs₀ = pre ++ vs → a + Ls.length = Ls₀.length → StrsAre vs Ls → (∀ z ∈ Ls, R z) → Agree names m m₀ → Led news → ItemsRest prog w A E h₀ env target body Q s ws keep (enumItems a vs) m news := by
    intro vs
    induction vs with
    | nil => intro Ls pre a m news _ _ _ _ hA hL; exact ItemsRest.zero fun h tk F N => fin m news h tk hA hL F N
    | cons v r ih =>
      intro Ls pre a m news hv ha hS hR hA hL
      cases hS with
      | cons z t hr =>
        rename_i Lr
        rw [List.length_cons] at ha
        refine ItemsRest.pair fun T ti h tk hT F => ?_
        have hlast : a + 1 = Ls₀.length → ∃ ys, vs₀ = ys ++ [.str z t] := by
          intro e
          have : Lr.length = 0 := by omega
          have : r.length = 0 := by rw [hr.length]; exact this
          have : r = [] := List.length_eq_zero_iff.mp this
          exact ⟨pre, by rw [hv, this]⟩
        refine allObj_mono (turn a z t T ti h tk m news (hR z (.head _)) (by omega) hlast hA hL hT F) fun its hb hN => ?_
        refine wpAny_mono (hb hN) (fun _ s₂ h₂ => wpAny_mono h₂ (fun f s₃ p => ?_) fun _ _ e => e) fun _ _ e => e
        have nx : ∀ m' n', TurnIs names Led keep m₀ m' n' → ItemsRest prog w A E h₀ env target body Q s ws keep (enumItems (a + 1) r) m' n' := by
          rintro m' n' ⟨hA', n'', hs, hL'⟩
          exact items_cut hs (ih Lr (pre ++ [.str z t]) (a + 1) m' n'' (by rw [hv, List.append_assoc]; rfl) (by omega) hr (fun y hy => hR y (.tail _ hy)) hA' hL')
        cases f with
        | ret v => exact p
        | brk => exact p
        | next =>
          obtain ⟨h', tk', m', n', e, F', N', ho, hk, hJ'⟩ := p
          exact ⟨h', tk', m', n', e, F', N', ho, hk, nx m' n' hJ'⟩
        | cont =>
          obtain ⟨h', tk', m', n', e, F', N', ho, hk, hJ'⟩ := p
          exact ⟨h', tk', m', n', e, F', N', ho, hk, nx m' n' hJ'⟩
  exact key vs₀ Ls₀ [] 0 m₀ n₀ rfl (by omega) hS hR (agree_refl _ _) hL
end
section
variable {h₀ h' : Heap} {L : Addr} {m : Str → Option Value} {s : Shared} {news news' : List (Addr × Obj)} {tk' : Nat}
theorem knownB_sub {B b : Bool} (e : b = B) (F : Fr h₀ L h' m) (N : News h₀ L h' news') (hs : SubL news news') : KnownB B h₀ L m news s b { s with heap := h', toks := tk' } :=
  ⟨e, h', tk', rfl, F, fun p hp => N p (hs.mem p hp)⟩
end
end Mine
end
-- E3
section
set_option maxHeartbeats 4000000
open PySem PySem.W PySem.Calls PyProof.Rows
namespace Mine
theorem tells_max2 (w : World) (x : Str) (t : Tok) (hL : LineOk x) (hx : x.length ≤ 10000) (mx i : Int) (tm ti : Tok) (mu nq : Bool) (hm : 0 < mx) (hm2 : mx < 1000) (hi : 0 ≤ i) (hi2 : i < 1000) :
    Tells w 71 [.str x t, .int mx tm, .bool mu, .int i ti, .bool nq] 1 (fun _ _ => True) (RetTup (longR (lessS x spS) (wordsW (lessS x spS)) mx mu nq (bangB (lessS x spS) i))) := by
  rw [← long_eq hL]
  exact tells_max w x t hx mx i tm ti mu nq hm hm2 hi hi2
theorem pre64 {i : Nat} {x : Str} {t : Tok} {l : Addr} {ys : List Value} {Ls : List Str} {news : List (Addr × Obj)} (hS : StrsAre ys Ls) (hlast : i + 1 = Ls.length → ∃ zs, ys = zs ++ [.str x t]) (h5 : Ls.length ≤ 5) (hm : (l, LCg.lst ys) ∈ news) :
    ((i : Int) + 1 = (Ls.length : Int)) → ∃ (zs : List Value) (t' : Tok) (k : Nat), zs.length ≤ 100000 ∧ (l, ({ cls := .type "list", data := .seq (zs ++ [Value.str x t']).toArray k } : Obj)) ∈ news := by
  intro e
  obtain ⟨zs, rfl⟩ := hlast (by omega)
  have hl := hS.length
  rw [List.length_append] at hl
  exact ⟨zs, t, _, by omega, hm⟩
theorem ints_split {ys : List Value} {l : List Int} (h : IntsAre ys l) : (l = [] ∧ ys = []) ∨ ∃ i t ys' r, l = i :: r ∧ ys = .int i t :: ys' ∧ IntsAre ys' r := by
  cases h with
  | nil => exact .inl ⟨rfl, rfl⟩
  | cons i t h => exact .inr ⟨i, t, _, _, rfl, rfl, h⟩
theorem others_split {x y : Str} {ys : List Value} (h : IntsAre ys (othersL x y)) : (Kn (e101 x y) none ∧ ys = []) ∨ ∃ i t ys' r, Kn (e101 x y) (some (i, Str.ofString "E101 indentation contains mixed spaces and tabs")) ∧ ys = .int i t :: ys' ∧ IntsAre ys' r := by
  rcases ints_split h with ⟨e, rfl⟩ | ⟨i, t, ys', r, e, rfl, h'⟩
  · exact .inl ⟨kn_e101_nil e, rfl⟩
  · exact .inr ⟨i, t, ys', r, kn_e101_cons e, rfl, h'⟩
theorem tabs_split {x : Str} {ys : List Value} (h : IntsAre ys (tabsL x)) : (Kn (w191 x) none ∧ ys = []) ∨ ∃ i t ys' r, Kn (w191 x) (some (i, Str.ofString "W191 indentation contains tabs")) ∧ ys = .int i t :: ys' ∧ IntsAre ys' r := by
  rcases ints_split h with ⟨e, rfl⟩ | ⟨i, t, ys', r, e, rfl, h'⟩
  · exact .inl ⟨kn_w191_nil e, rfl⟩
  · exact .inr ⟨i, t, ys', r, kn_w191_cons e, rfl, h'⟩
section
variable {prog : Program} {w : World} {A : Around} {E : Value → Shared → Prop} {h₀ : Heap} {L : Addr} {s : Shared} {news : List (Addr × Obj)} {D : Addr}
theorem pair_0 {value slice : Expr} {a b : Value} {n : Nat} {u : Tok} {Q : Value → Shared → Prop} (N : News h₀ L s.heap news) (hm : (D, ({ cls := .type "tuple", data := .seq #[a, b] n } : Obj)) ∈ news) (h : Q a s)
    (hs : subscripted slice false (.ref D) (.int 0 u) = operate [.ref D, .int 0 u] (getItem (.ref D) (.int 0 u)) := by with_unfolding_all rfl) (hg : ∀ r, letTemporaryGo value (.ref D) r = pure () := by intro _; with_unfolding_all rfl) :
    wpAny (model prog w) A (subscriptTail value slice (.ref D) (.int 0 u)) Q E s := kim_tup (l := [a, b]) (j := 0) N hm rfl rfl (by decide) (by decide) rfl rfl h hs hg
theorem pair_1 {value slice : Expr} {a b : Value} {n : Nat} {u : Tok} {Q : Value → Shared → Prop} (N : News h₀ L s.heap news) (hm : (D, ({ cls := .type "tuple", data := .seq #[a, b] n } : Obj)) ∈ news) (h : Q b s)
    (hs : subscripted slice false (.ref D) (.int 1 u) = operate [.ref D, .int 1 u] (getItem (.ref D) (.int 1 u)) := by with_unfolding_all rfl) (hg : ∀ r, letTemporaryGo value (.ref D) r = pure () := by intro _; with_unfolding_all rfl) :
    wpAny (model prog w) A (subscriptTail value slice (.ref D) (.int 1 u)) Q E s := kim_tup (l := [a, b]) (j := 1) N hm rfl rfl (by decide) (by decide) rfl rfl h hs hg
end
/-- the ledger at a turn's start: two cells free -/
def LedO (p : Addr × Obj) (a b : Addr) (q : Addr × Obj) (n : List (Addr × Obj)) : Prop := ∃ (oA oB : Obj) (dA dB : Option Value), oA.data = .cell dA ∧ oB.data = .cell dB ∧ n = [p, (a, oA), (b, oB), q]
def LedS (p1 p2 p3 p4 : Addr × Obj) (a : Addr) (q1 q2 : Addr × Obj) (n : List (Addr × Obj)) : Prop := ∃ (oA : Obj) (dA : Option Value), oA.data = .cell dA ∧ n = [p1, p2, p3, p4, (a, oA), q1, q2]
def LedE (n₀ n : List (Addr × Obj)) : Prop := n = n₀
theorem ledO {p q : Addr × Obj} {a b : Addr} {oA oB : Obj} {dA dB : Option Value} (h1 : oA.data = .cell dA) (h2 : oB.data = .cell dB) : LedO p a b q [p, (a, oA), (b, oB), q] := ⟨oA, oB, dA, dB, h1, h2, rfl⟩
theorem ledS {p1 p2 p3 p4 q1 q2 : Addr × Obj} {a : Addr} {oA : Obj} {dA : Option Value} (h1 : oA.data = .cell dA) : LedS p1 p2 p3 p4 a q1 q2 [p1, p2, p3, p4, (a, oA), q1, q2] := ⟨oA, dA, h1, rfl⟩
theorem subL_cons {p : Addr × Obj} {r all : List (Addr × Obj)} (h : p ∈ all) (h' : SubL r all) : SubL (p :: r) all := ⟨h, h'⟩
theorem subL_nil {all : List (Addr × Obj)} : SubL [] all := trivial
section
variable {names : List Str} {keep : List (Addr × Obj)} {m₀ m' : Str → Option Value} {n' : List (Addr × Obj)}
theorem turn_O {p q : Addr × Obj} {a b : Addr} {oA oB : Obj} {dA dB : Option Value} (hA : Agree names m' m₀) (hs : SubL [p, (a, oA), (b, oB), q] n') (h1 : oA.data = .cell dA) (h2 : oB.data = .cell dB) : TurnIs names (LedO p a b q) keep m₀ m' n' :=
  ⟨hA, _, hs, ledO h1 h2⟩
theorem turn_S {p1 p2 p3 p4 q1 q2 : Addr × Obj} {a : Addr} {oA : Obj} {dA : Option Value} (hA : Agree names m' m₀) (hs : SubL [p1, p2, p3, p4, (a, oA), q1, q2] n') (h1 : oA.data = .cell dA) : TurnIs names (LedS p1 p2 p3 p4 a q1 q2) keep m₀ m' n' :=
  ⟨hA, _, hs, ledS h1⟩
theorem turn_E {n₀ : List (Addr × Obj)} (hA : Agree names m' m₀) (hs : SubL n₀ n') : TurnIs names (LedE n₀) keep m₀ m' n' := ⟨hA, _, hs, rfl⟩
end
theorem agree_setR {names : List Str} {m m₀ : Str → Option Value} {x : Str} {v : Option Value} (hx : x ∈ names) (h : Agree names m m₀) : Agree names m (fun y => if y = x then v else m₀ y) := by
  intro y hy
  have : y ≠ x := fun e => hy (e ▸ hx)
  show m y = (if y = x then v else m₀ y)
  rw [if_neg this]
  exact h y hy
theorem agree_both {names : List Str} {m m₀ : Str → Option Value} {x : Str} {v : Option Value} (h : Agree names m m₀) : Agree names (fun y => if y = x then v else m y) (fun y => if y = x then v else m₀ y) := by
  intro y hy
  show (if y = x then v else m y) = (if y = x then v else m₀ y)
  split
  · rfl
  · exact h y hy
section
variable {prog : Program} {w : World} {A : Around} {E : Value → Shared → Prop} {h₀ : Heap} {L : Addr} {s : Shared} {news : List (Addr × Obj)} {D : Addr} {ys : List Value}
theorem len_strs {Ls : List Str} {Q : Value → Shared → Prop} (N : News h₀ L s.heap news) (hS : StrsAre ys Ls) (hD : (D, LCg.lst ys) ∈ news) (hz : Ls.length ≤ 5) (h : Q (.int Ls.length (s.toks + 1)) { s with toks := s.toks + 1 + 1 }) :
    wpAny (model prog w) A (call (.builtin "len") [.ref D]) Q E s := len_any N hD hS.length (by omega) h
end
end Mine
end
-- D142
section
set_option maxHeartbeats 40000000
open PySem PySem.W PySem.Calls PyProof.Rows
namespace Mine
theorem r5_bounds (c : Int) : 0 ≤ c.fmod 5 ∧ c.fmod 5 < 5 := ⟨Int.fmod_nonneg_of_pos _ (by decide), Int.fmod_lt_of_pos _ (by decide)⟩
theorem r5_small (c : Int) : Builtin.Range.small 0 (1 + c.fmod 5) 1 = true := by
  have := r5_bounds c
  exact small_one (by omega) (by omega) (by omega) (by omega)
theorem r5_size (c : Int) : (1 + c.fmod 5 - 0).toNat ≤ sizeLine := by
  have := r5_bounds c
  rw [sizeLine_eq]; omega
theorem r5_lt {c : Int} {i : Nat} (h : i < (1 + c.fmod 5 - 0).toNat) : i < 5 := by
  have := r5_bounds c
  omega
theorem r5_len {c : Int} {Ls : List Str} (h : Ls.length = (1 + c.fmod 5 - 0).toNat) : 1 ≤ Ls.length ∧ Ls.length ≤ 5 := by
  have := r5_bounds c
  omega
section
theorem law_holds : PySem.Challenge.rw_bd0044_01.Holds := Mine.hd (by
  k_go0
  k_with_none
  k_with "call ref" => ((k_here; (with_reducible show wpAny _ _ (call (Value.ref 92) [Value.ref _, Value.int _ _] _) _ _ _); k_dflt (refine' Tells.use (tells_cell _ _ _ _ ?z1x269 ?z2x269) ?k1x269 ?k2x269 ?k3x269 ?k4x269 ?k5x269 ?kKx269 ?kPx269 ?kdx269 ?kux269 ?_; (case z1x269 => omega); (case z2x269 => omega); (case k1x269 => k_asm); (case k2x269 => k_asm); (case k3x269 => k_asm); (case k4x269 => k_asm); (case k5x269 => k_asm); (case kKx269 => first | exact rfl | assumption); (case kPx269 => first | exact True.intro | k_extra "pre"); (case kdx269 => ktr_room); (case kux269 => first | decide | ktr_units); intro c9w269 t9w269 h9w269 tk9w269 hc9w269 F9w269 N9w269); (try dsimp only); (try k_fold)))
  k_with "call ref" => ((k_here; (with_reducible show wpAny _ _ (call (Value.ref 106) [Value.ref _, Value.int _ _] _) _ _ _); k_dflt (refine' Tells.use (tells_line _ _ _ _ ?y1x270 ?y2x270) ?k1x270 ?k2x270 ?k3x270 ?k4x270 ?k5x270 ?kKx270 ?kPx270 ?kdx270 ?kux270 ?_; (case y1x270 => omega); (case y2x270 => omega); (case k1x270 => k_asm); (case k2x270 => k_asm); (case k3x270 => k_asm); (case k4x270 => k_asm); (case k5x270 => k_asm); (case kKx270 => first | exact rfl | assumption); (case kPx270 => first | exact True.intro | k_extra "pre"); (case kdx270 => ktr_room); (case kux270 => first | decide | ktr_units); intro r9w270 t9w270 h9w270 tk9w270 hr9w270 F9w270 N9w270); (try dsimp only); (try k_fold)))
  k_with "call ref" => ((k_here; (with_reducible show wpAny _ _ (call (Value.ref 118) [Value.str _ _] _) _ _ _); k_dflt (refine' Tells.use (tells_head _ _ _ ?w1x271) ?k1x271 ?k2x271 ?k3x271 ?k4x271 ?k5x271 ?kKx271 ?kPx271 ?kdx271 ?kux271 ?_; (case w1x271 => omega); (case k1x271 => k_asm); (case k2x271 => k_asm); (case k3x271 => k_asm); (case k4x271 => k_asm); (case k5x271 => k_asm); (case kKx271 => first | exact rfl | assumption); (case kPx271 => first | exact True.intro | k_extra "pre"); (case kdx271 => ktr_room); (case kux271 => first | decide | ktr_units); intro t9w271 h9w271 tk9w271 hl9w271 F9w271 N9w271); (try dsimp only); (try k_fold)))
  k_with "call ref" => ((k_here; (with_reducible show wpAny _ _ (call (Value.ref 43) [Value.str _ _, Value.str _ _] _) _ _ _); k_dflt (refine' Tells.use (tells_tabs_or_spaces _ _ _ _ _ ?z1x272 ?z2x272) ?k1x272 ?k2x272 ?k3x272 ?k4x272 ?k5x272 ?kKx272 ?kPx272 ?kdx272 ?kux272 ?_; (case z1x272 => omega); (case z2x272 => first | assumption | omega); (case k1x272 => k_asm); (case k2x272 => k_asm); (case k3x272 => k_asm); (case k4x272 => k_asm); (case k5x272 => k_asm); (case kKx272 => first | exact rfl | assumption); (case kPx272 => first | exact True.intro | k_extra "pre"); (case kdx272 => ktr_room); (case kux272 => first | decide | ktr_units); first | (refine rt_none (by with_reducible assumption) ?_; intro h9w272 tk9w272 F9w272 N9w272) | (refine rt_some (by with_reducible assumption) ?_; intro q9w272 ti9w272 tz9w272 h9w272 tk9w272 F9w272 N9w272 l9w272; k_lt l9w272) ); (try dsimp only); (try k_fold)))
  k_with "call ref" => ((k_here; (with_reducible show wpAny _ _ (call (Value.ref 50) [Value.str _ _] _) _ _ _); k_dflt (refine' Tells.use (tells_tabs_obsolete _ _ _ ?z1x273) ?k1x273 ?k2x273 ?k3x273 ?k4x273 ?k5x273 ?kKx273 ?kPx273 ?kdx273 ?kux273 ?_; (case z1x273 => omega); (case k1x273 => k_asm); (case k2x273 => k_asm); (case k3x273 => k_asm); (case k4x273 => k_asm); (case k5x273 => k_asm); (case kKx273 => first | exact rfl | assumption); (case kPx273 => first | exact True.intro | k_extra "pre"); (case kdx273 => ktr_room); (case kux273 => first | decide | ktr_units); first | (refine rt_none (by with_reducible assumption) ?_; intro h9w273 tk9w273 F9w273 N9w273) | (refine rt_some (by with_reducible assumption) ?_; intro q9w273 ti9w273 tz9w273 h9w273 tk9w273 F9w273 N9w273 l9w273; k_lt l9w273) ); (try dsimp only); (try k_fold)))
  k_with "call ref" => ((k_here; (with_reducible show wpAny _ _ (call (Value.ref 57) [Value.str _ _] _) _ _ _); k_dflt (refine' Tells.use (tells_trailing_whitespace _ _ _ ?z1x274) ?k1x274 ?k2x274 ?k3x274 ?k4x274 ?k5x274 ?kKx274 ?kPx274 ?kdx274 ?kux274 ?_; (case z1x274 => omega); (case k1x274 => k_asm); (case k2x274 => k_asm); (case k3x274 => k_asm); (case k4x274 => k_asm); (case k5x274 => k_asm); (case kKx274 => first | exact rfl | assumption); (case kPx274 => first | exact True.intro | k_extra "pre"); (case kdx274 => ktr_room); (case kux274 => first | decide | ktr_units); first | (refine rt_none (by with_reducible assumption) ?_; intro h9w274 tk9w274 F9w274 N9w274) | (refine rt_some (by with_reducible assumption) ?_; intro q9w274 ti9w274 tz9w274 h9w274 tk9w274 F9w274 N9w274 l9w274; k_lt l9w274) | (refine rt_fork (okR_behind _) ?_ ?_; (intro e9w274 h9w274 tk9w274 F9w274 N9w274); rotate_left; (intro i9w274 z9w274 ok9w274 e9w274 q9w274 ti9w274 tz9w274 h9w274 tk9w274 F9w274 N9w274 l9w274; k_lt l9w274); rotate_left)); (try dsimp only); (try k_fold)))
  k_with "call ref" => ((k_here; (with_reducible show wpAny _ _ (call (Value.ref 125) [Value.str _ _] _) _ _ _); k_dflt (refine' Tells.use (tells_law_behind _ _ _ ?z1x275) ?k1x275 ?k2x275 ?k3x275 ?k4x275 ?k5x275 ?kKx275 ?kPx275 ?kdx275 ?kux275 ?_; (case z1x275 => omega); (case k1x275 => k_asm); (case k2x275 => k_asm); (case k3x275 => k_asm); (case k4x275 => k_asm); (case k5x275 => k_asm); (case kKx275 => first | exact rfl | assumption); (case kPx275 => first | exact True.intro | k_extra "pre"); (case kdx275 => ktr_room); (case kux275 => first | decide | ktr_units); first | (refine rt_none (by with_reducible assumption) ?_; intro h9w275 tk9w275 F9w275 N9w275) | (refine rt_some (by with_reducible assumption) ?_; intro q9w275 ti9w275 tz9w275 h9w275 tk9w275 F9w275 N9w275 l9w275; k_lt l9w275) | (refine rt_fork (okR_behind _) ?_ ?_; (intro e9w275 h9w275 tk9w275 F9w275 N9w275); rotate_left; (intro i9w275 z9w275 ok9w275 e9w275 q9w275 ti9w275 tz9w275 h9w275 tk9w275 F9w275 N9w275 l9w275; k_lt l9w275); rotate_left)); (try dsimp only); (try k_fold)))
  k_with "call ref" => ((k_here; (with_reducible show wpAny _ _ (call (Value.ref 64) [Value.str _ _, Value.ref _, Value.int _ _, Value.int _ _] _) _ _ _); k_dflt (refine' Tells.use (tells_trailing_blank _ _ _ ?z1x276 _ _ _ _ _) ?k1x276 ?k2x276 ?k3x276 ?k4x276 ?k5x276 ?kKx276 ?kPx276 ?kdx276 ?kux276 ?_; (case z1x276 => omega); (case k1x276 => k_asm); (case k2x276 => k_asm); (case k3x276 => k_asm); (case k4x276 => k_asm); (case k5x276 => k_asm); (case kKx276 => first | exact rfl | assumption); (case kPx276 => first | exact True.intro | k_extra "pre"); (case kdx276 => ktr_room); (case kux276 => first | decide | ktr_units); first | (refine rt_none (by with_reducible assumption) ?_; intro h9w276 tk9w276 F9w276 N9w276) | (refine rt_some (by with_reducible assumption) ?_; intro q9w276 ti9w276 tz9w276 h9w276 tk9w276 F9w276 N9w276 l9w276; k_lt l9w276) | (refine rt_fork (okR_last _ _ _) ?_ ?_; (intro e9w276 h9w276 tk9w276 F9w276 N9w276); rotate_left; (intro i9w276 z9w276 ok9w276 e9w276 q9w276 ti9w276 tz9w276 h9w276 tk9w276 F9w276 N9w276 l9w276; k_lt l9w276); rotate_left)); (try dsimp only); (try k_fold)))
  k_with "call ref" => ((k_here; (with_reducible show wpAny _ _ (call (Value.ref 132) [Value.str _ _, Value.int _ _, Value.int _ _] _) _ _ _); k_dflt (refine' Tells.use (tells_law_last _ _ _ ?z1x277 _ _ _ _) ?k1x277 ?k2x277 ?k3x277 ?k4x277 ?k5x277 ?kKx277 ?kPx277 ?kdx277 ?kux277 ?_; (case z1x277 => omega); (case k1x277 => k_asm); (case k2x277 => k_asm); (case k3x277 => k_asm); (case k4x277 => k_asm); (case k5x277 => k_asm); (case kKx277 => first | exact rfl | assumption); (case kPx277 => first | exact True.intro | k_extra "pre"); (case kdx277 => ktr_room); (case kux277 => first | decide | ktr_units); first | (refine rt_none (by with_reducible assumption) ?_; intro h9w277 tk9w277 F9w277 N9w277) | (refine rt_some (by with_reducible assumption) ?_; intro q9w277 ti9w277 tz9w277 h9w277 tk9w277 F9w277 N9w277 l9w277; k_lt l9w277) | (refine rt_fork (okR_last _ _ _) ?_ ?_; (intro e9w277 h9w277 tk9w277 F9w277 N9w277); rotate_left; (intro i9w277 z9w277 ok9w277 e9w277 q9w277 ti9w277 tz9w277 h9w277 tk9w277 F9w277 N9w277 l9w277; k_lt l9w277); rotate_left)); (try dsimp only); (try k_fold)))
  k_with "call ref" => ((k_here; (with_reducible show wpAny _ _ (call (Value.ref 137) [Value.str _ _, Value.int _ _, Value.bool _, Value.int _ _, Value.bool _] _) _ _ _); k_dflt (refine' Tells.use (tells_long _ _ _ ?z1x278 _ _ _ _ _ _ ?z2x278 ?z3x278 ?z4x278 ?z5x278) ?k1x278 ?k2x278 ?k3x278 ?k4x278 ?k5x278 ?kKx278 ?kPx278 ?kdx278 ?kux278 ?_; (case z1x278 => omega); (case z2x278 => omega); (case z3x278 => omega); (case z4x278 => omega); (case z5x278 => omega); (case k1x278 => k_asm); (case k2x278 => k_asm); (case k3x278 => k_asm); (case k4x278 => k_asm); (case k5x278 => k_asm); (case kKx278 => first | exact rfl | assumption); (case kPx278 => first | exact True.intro | k_extra "pre"); (case kdx278 => ktr_room); (case kux278 => first | decide | ktr_units); first | (refine rt_none (by with_reducible assumption) ?_; intro h9w278 tk9w278 F9w278 N9w278) | (refine rt_some (by with_reducible assumption) ?_; intro q9w278 ti9w278 tz9w278 h9w278 tk9w278 F9w278 N9w278 l9w278; k_lt l9w278) | (refine rt_fork (okR_long _ _ _ _ _ _) ?_ ?_; (intro e9w278 h9w278 tk9w278 F9w278 N9w278); rotate_left; (intro i9w278 z9w278 ok9w278 e9w278 q9w278 ti9w278 tz9w278 h9w278 tk9w278 F9w278 N9w278 l9w278; k_lt l9w278); rotate_left)); (try dsimp only); (try k_fold)))
  k_with "call ref" => ((k_here; (with_reducible show wpAny _ _ (call (Value.ref 71) [Value.str _ _, Value.int _ _, Value.bool _, Value.int _ _, Value.bool _] _) _ _ _); k_dflt (refine' Tells.use (tells_max2 _ _ _ ?z0x279 ?z1x279 _ _ _ _ _ _ ?z2x279 ?z3x279 ?z4x279 ?z5x279) ?k1x279 ?k2x279 ?k3x279 ?k4x279 ?k5x279 ?kKx279 ?kPx279 ?kdx279 ?kux279 ?_; (case z0x279 => with_reducible assumption); (case z1x279 => omega); (case z2x279 => omega); (case z3x279 => omega); (case z4x279 => omega); (case z5x279 => omega); (case k1x279 => k_asm); (case k2x279 => k_asm); (case k3x279 => k_asm); (case k4x279 => k_asm); (case k5x279 => k_asm); (case kKx279 => first | exact rfl | assumption); (case kPx279 => first | exact True.intro | k_extra "pre"); (case kdx279 => ktr_room); (case kux279 => first | decide | ktr_units); first | (refine rt_none (by with_reducible assumption) ?_; intro h9w279 tk9w279 F9w279 N9w279) | (refine rt_some (by with_reducible assumption) ?_; intro q9w279 ti9w279 tz9w279 h9w279 tk9w279 F9w279 N9w279 l9w279; k_lt l9w279) | (refine rt_fork (okR_long _ _ _ _ _ _) ?_ ?_; (intro e9w279 h9w279 tk9w279 F9w279 N9w279); rotate_left; (intro i9w279 z9w279 ok9w279 e9w279 q9w279 ti9w279 tz9w279 h9w279 tk9w279 F9w279 N9w279 l9w279; k_lt l9w279); rotate_left)); (try dsimp only); (try k_fold)))
  k_with "CompSrc" => ((k_here; k_extra "lines comp"))
  k_with "CompEnd" => ((refine comp_end (by k_asm) (by k_asm) (by assumption) (by lcg_src) ?_; try dsimp only))
  k_with "MVal" => ((refine ⟨rfl, _, _, rfl, ?_⟩; assumption))
  k_with "exec For Tuple Call cons nil" => ((k_here; (rename Fr _ _ _ _ => lFw283); (with_unfolding_all refine' For_turns lFw283 ?_; k_whole)))
  k_with "call type:enumerate" => ((k_here; k_extra "enum"))
  k_with "exec Assign cons ListComp" => ((k_here; (with_reducible show wpAny _ _ (exec (Stmt.Assign [Expr.Name (Str.ofString "others") _] _ _) _) _ _ _); k_dflt (refine LCt.Assign_ListComp_T (F₀ := by k_asm) (by rfl) (by with_unfolding_all rfl) (by with_unfolding_all rfl) (by decide) (by rfl) (by decide) (by rfl) (by rfl) (by rfl) ?_)))
  k_with "exec Assign cons ListComp" => ((k_here; (with_reducible show wpAny _ _ (exec (Stmt.Assign [Expr.Name (Str.ofString "tabs") _] _ _) _) _ _ _); k_dflt (refine LCt.Assign_ListComp_T (F₀ := by k_asm) (by rfl) (by with_unfolding_all rfl) (by with_unfolding_all rfl) (by decide) (by rfl) (by decide) (by rfl) (by rfl) (by rfl) ?_)))
  k_with "CompSrcT" => (first | ((with_reducible show LCt.CompSrcT _ _ _ _ _ _ _ (Expr.Compare _ [CmpOp.NotEq] _ _) _ _ _ _ _ _ _); k_extra "others comp") | k_extra "tabs comp")
  k_with "MEl" => ((refine ⟨rfl, ?_, ⟨_, rfl⟩⟩; first | (unfold okE; assumption) | (unfold okT; assumption)))
  k_with "MNo" => ((refine ⟨rfl, ?_⟩; first | (unfold okE; assumption) | (unfold okT; assumption)))
  k_with "KnownB" => (k_dflt (exact knownB_sub rfl (by k_asm) (by k_asm) (by k_subL)))
  k_with "ItemsRest" => (first | ((with_reducible show ItemsRest _ _ _ _ _ _ (Expr.Name (Str.ofString "sign") _) _ _ _ _ _ _ _ _); k_extra "sign loop") | ((with_reducible show ItemsRest _ _ _ _ _ _ (Expr.Name (Str.ofString "most") _) _ _ _ _ _ _ _ _); k_extra "most loop") | ((with_reducible show ItemsRest _ _ _ _ _ _ (Expr.Name (Str.ofString "flags") _) _ _ _ _ _ _ _ _); k_extra "flags loop"))
  k_with "TurnIs" => (((with_reducible show TurnIs _ (LedE _) _ _ _ _); k_dflt (refine' turn_E ?_ ?tESx292; (case tESx292 => k_subL))))
  k_with "TurnIs" => (((with_reducible show TurnIs _ (LedS _ _ _ _ _ _ _) _ _ _ _); k_dflt (refine' turn_S ?_ ?tSSx293 ?tS1x293; (case tSSx293 => with_reducible (repeat' (first | exact subL_nil | refine subL_cons ?_ ?_ | exact List.mem_cons_self | refine List.mem_cons_of_mem _ ?_))); (case tS1x293 => assumption))))
  k_with "TurnIs" => (((with_reducible show TurnIs _ (LedO _ _ _ _) _ _ _ _); k_dflt (refine' turn_O ?_ ?tOSx294 ?tO1x294 ?tO2x294; (case tOSx294 => with_reducible (repeat' (first | exact subL_nil | refine subL_cons ?_ ?_ | exact List.mem_cons_self | refine List.mem_cons_of_mem _ ?_))); (case tO1x294 => assumption); (case tO2x294 => assumption))))
  k_with "UnrEndW" => (k_dflt ktu_end)
  k_with "Agree" => (with_reducible first | exact agree_refl _ _ | refine agree_set (by (repeat' (first | exact List.mem_cons_self | refine List.mem_cons_of_mem _ ?_)); done) ?_ | refine agree_setR (by (repeat' (first | exact List.mem_cons_self | refine List.mem_cons_of_mem _ ?_)); done) ?_ | refine agree_both ?_)
  k_with "compareOp NotEq ref ref" => ((k_here; k_dflt (first | (refine' ne_tup ?nNx297 ?n1x297 ?n2x297 ?nzx297 ?nux297 ?_; (case nNx297 => k_asm); (case n1x297 => k_mem); (case n2x297 => k_mem); (case nzx297 => first | exact OkZ.ok (by with_reducible assumption) | exact ok_of _); (case nux297 => first | decide | ktr_units)) | (refine' ne_nn ?mNx297 ?m1x297 ?m2x297 ?mux297 ?_; (case mNx297 => k_asm); (case m1x297 => k_mem); (case m2x297 => k_mem); (case mux297 => first | decide | ktr_units)) | (refine' ne_cn ?oNx297 ?o1x297 ?o2x297 ?oix297 ?oux297 ?_; (case oNx297 => k_asm); (case o1x297 => k_mem); (case o2x297 => k_mem); (case oix297 => assumption); (case oux297 => first | decide | ktr_units)))))
  k_with "subscriptTail Name Constant ref int" => ((k_here; (with_reducible show wpAny _ _ (subscriptTail (Expr.Name (Str.ofString "others") _) _ _ _) _ _ _); k_dflt (refine' item_0 ?i1x298 ?i2x298 ?_ ?i3x298 ?i4x298; (case i1x298 => k_asm); (case i2x298 => k_mem); (case i3x298 => with_unfolding_all rfl); (case i4x298 => (intro _; with_unfolding_all rfl)))))
  k_with "subscriptTail Name Constant ref int" => ((k_here; (with_reducible show wpAny _ _ (subscriptTail (Expr.Name (Str.ofString "tabs") _) _ _ _) _ _ _); k_dflt (refine' item_0 ?i1x299 ?i2x299 ?_ ?i3x299 ?i4x299; (case i1x299 => k_asm); (case i2x299 => k_mem); (case i3x299 => with_unfolding_all rfl); (case i4x299 => (intro _; with_unfolding_all rfl)))))
  k_with "subscriptTail Name Constant ref int" => ((k_here; (with_reducible show wpAny _ _ (subscriptTail (Expr.Name (Str.ofString "flags") _) _ _ (Value.int 0 _)) _ _ _); k_dflt (refine' pair_0 ?p1x300 ?p2x300 ?_ ?p3x300 ?p4x300; (case p1x300 => k_asm); (case p2x300 => k_mem); (case p3x300 => with_unfolding_all rfl); (case p4x300 => (intro _; with_unfolding_all rfl)))))
  k_with "subscriptTail Name Constant ref int" => ((k_here; (with_reducible show wpAny _ _ (subscriptTail (Expr.Name (Str.ofString "flags") _) _ _ (Value.int 1 _)) _ _ _); k_dflt (refine' pair_1 ?p1x301 ?p2x301 ?_ ?p3x301 ?p4x301; (case p1x301 => k_asm); (case p2x301 => k_mem); (case p3x301 => with_unfolding_all rfl); (case p4x301 => (intro _; with_unfolding_all rfl)))))
  k_with "call builtin:len" => ((k_here; (with_reducible show wpAny _ _ (call (Value.builtin "len") [Value.ref _]) _ _ _); k_dflt (refine' len_strs ?lNx302 ?lSx302 ?lDx302 ?lzx302 ?_; (case lNx302 => k_asm); (case lSx302 => assumption); (case lDx302 => k_mem); (case lzx302 => omega))))
  k_with "exec If" => (((with_reducible show wpAny _ _ (exec (Stmt.If (Expr.Compare (Expr.Call (Expr.Name (Str.ofString "tabs_or_spaces") _) _ _ _) _ _ _) _ _ _) _) _ _ _); (k_dflt (refine if_no (by k_asm) (by k_asm) ?_ ?_)); rotate_left; (intro h9w303 tk9w303 F9w303 N9w303; (try k_fold)); rotate_left))
  k_with "exec If" => (((with_reducible show wpAny _ _ (exec (Stmt.If (Expr.Compare (Expr.Call (Expr.Name (Str.ofString "tabs_obsolete") _) _ _ _) _ _ _) _ _ _) _) _ _ _); (k_dflt (refine if_no (by k_asm) (by k_asm) ?_ ?_)); rotate_left; (intro h9w304 tk9w304 F9w304 N9w304; (try k_fold)); rotate_left))
  k_with "exec If" => (((with_reducible show wpAny _ _ (exec (Stmt.If (Expr.Compare (Expr.Call (Expr.Name (Str.ofString "trailing_whitespace") _) _ _ _) _ _ _) _ _ _) _) _ _ _); (k_dflt (refine if_no (by k_asm) (by k_asm) ?_ ?_)); rotate_left; (intro h9w305 tk9w305 F9w305 N9w305; (try k_fold)); rotate_left))
  k_with "exec If" => (((with_reducible show wpAny _ _ (exec (Stmt.If (Expr.Compare (Expr.Call (Expr.Name (Str.ofString "trailing_blank_lines") _) _ _ _) _ _ _) _ _ _) _) _ _ _); (k_dflt (refine if_no (by k_asm) (by k_asm) ?_ ?_)); rotate_left; (intro h9w306 tk9w306 F9w306 N9w306; (try k_fold)); rotate_left))
  k_with "exec If" => (((with_reducible show wpAny _ _ (exec (Stmt.If (Expr.Compare (Expr.Call (Expr.Name (Str.ofString "maximum_line_length") _) _ _ _) _ _ _) _ _ _) _) _ _ _); (k_dflt (refine if_no (by k_asm) (by k_asm) ?_ ?_)); rotate_left; (intro h9w307 tk9w307 F9w307 N9w307; (try k_fold)); rotate_left))
  k_with "eval Name" => ((k_here; (with_reducible show wpAny _ _ (eval (Expr.Name (Str.ofString "head") _) (envOfC _ _ _ _ _)) _ _ _); k_dflt (refine' nameX_C ?c1x308 ?c2x308 ?c3x308 ?c4x308 ?_ ?c5x308 ?c6x308 ?c7x308; (case c5x308 => rfl); (case c6x308 => rfl); (case c7x308 => decide); (case c1x308 => k_asm); (case c2x308 => rfl); (case c3x308 => k_mem); (case c4x308 => assumption))))
  k_with "eval Name" => ((k_here; (with_reducible show wpAny _ _ (eval (Expr.Name (Str.ofString "sign") _) (envOfC _ _ _ _ _)) _ _ _); k_dflt (refine' nameX_C ?c1x309 ?c2x309 ?c3x309 ?c4x309 ?_ ?c5x309 ?c6x309 ?c7x309; (case c5x309 => rfl); (case c6x309 => rfl); (case c7x309 => decide); (case c1x309 => k_asm); (case c2x309 => rfl); (case c3x309 => k_mem); (case c4x309 => assumption))))
  k_with "pre" => exact ⟨_, _, by assumption, by assumption, by omega⟩
  k_with "lines comp" =>
    k_dflt (refine LCg.CompSrc.range (by rfl) (by k_asm) (by k_asm) (by assumption) (r5_small _) (by exact rangeSize_nat _ _) (r5_size _) ?_)
    intro g9
    refine' comp_strs LineOk ?lt9 ?lf9
    rotate_left
    intro ys9 Ls9 hS9 hA9 hn9
    obtain ⟨hn1, hn2⟩ := r5_len hn9
    rotate_left
    intro i9 v9 I9 oI9 C9 oC9 D9 m9 ys9 h9 tk9 E9 hi9 hv9 hC9 hx9 F9 N9 off9 ne9
    obtain ⟨t9, rfl⟩ := hv9
    have hb9 := r5_lt hi9
    all_goals (try k_fold)
  k_with "others comp" =>
    k_dflt (refine LCt.CompSrcT.range (by rfl) (by k_asm) (by k_asm) (by assumption) (small_one (by omega) (by omega) (by omega) (by omega)) (by exact rangeSize_nat _ _) (by rw [sizeLine_eq]; omega) ?_)
    intro g9
    refine' comp_ri (n := (headS z9).length) (by omega) (okE z9 y9) (fun i : Nat => (i : Int)) (fun i9 t9 I9 oI9 C9 oC9 D9 m9 yo9 h9 tk9 E9 hi9 hC9 hx9 F9 N9 off9 ne9 => ?_) (fun yo9 hI9 hl9 => ?_)
    rotate_left
    rcases others_split hI9 with ⟨hk9, rfl⟩ | ⟨i19, ti19, ys19, ns19, hk9, rfl, hn19⟩
    rotate_left 2
    all_goals (try k_fold)
  k_with "tabs comp" =>
    k_dflt (refine LCt.CompSrcT.range (by rfl) (by k_asm) (by k_asm) (by assumption) (small_one (by omega) (by omega) (by omega) (by omega)) (by exact rangeSize_nat _ _) (by rw [sizeLine_eq]; omega) ?_)
    intro g9
    refine' comp_ri (n := (headS z9).length) (by omega) (okT z9) (fun i : Nat => (i : Int)) (fun i9 t9 I9 oI9 C9 oC9 D9 m9 yo9 h9 tk9 E9 hi9 hC9 hx9 F9 N9 off9 ne9 => ?_) (fun yo9 hI9 hl9 => ?_)
    rotate_left
    rcases tabs_split hI9 with ⟨hk9, rfl⟩ | ⟨i19, ti19, ys19, ns19, hk9, rfl, hn19⟩
    rotate_left 2
    all_goals (try k_fold)
  k_with "sign loop" =>
    k_dflt (refine' items_J [Str.ofString "others", Str.ofString "due"] (LedS _ _ _ _ _ _ _) (fun v => ∃ y t, v = Value.str y t ∧ y.length = 1) ?_ ?_ ?sR ?sL)
    case sL =>
      k_dflt (refine' ledS ?eA)
      case eA => assumption
    case sR =>
      intro v9 hv9
      simp only [List.mem_cons, List.mem_nil_iff, or_false] at hv9
      rcases hv9 with rfl | rfl
      · exact ⟨_, _, rfl, by decide⟩
      · exact ⟨_, _, rfl, by decide⟩
    k_dflt (rintro v9 h9 tk9 m9 n9 ⟨y9, ty9, rfl, hy9⟩ hG9 ⟨oS9, dS9, hdS9, rfl⟩ F9)
    k_dflt (obtain ⟨o19, o29, rfl⟩ := agree_2 hG9)
    ktu_objs
    rotate_left
    k_dflt (rintro m9 n9 h9 tk9 hG9 ⟨oS9, dS9, hdS9, rfl⟩ F9 N9)
    k_dflt (obtain ⟨o19, o29, rfl⟩ := agree_2 hG9)
    rotate_left
    all_goals (try k_fold)
  k_with "most loop" =>
    k_dflt (refine' items_J [Str.ofString "most", Str.ofString "flags", Str.ofString "due"] (LedE _) (fun v => ∃ k t, v = Value.int k t ∧ 0 < k ∧ k < 1000) ?_ ?_ ?mR (show LedE _ _ from rfl))
    case mR =>
      intro v9 hv9
      simp only [List.mem_cons, List.mem_nil_iff, or_false] at hv9
      rcases hv9 with rfl | rfl | rfl
      · exact ⟨_, _, rfl, by decide, by decide⟩
      · exact ⟨_, _, rfl, by decide, by decide⟩
      · exact ⟨_, _, rfl, by decide, by decide⟩
    k_dflt (rintro v9 h9 tk9 m9 n9 ⟨k9, tm9, rfl, hk09, hk19⟩ hG9 rfl F9)
    k_dflt (obtain ⟨o19, o29, o39, rfl⟩ := agree_3 hG9)
    ktu_objs
    rotate_left
    k_dflt (rintro m9 n9 h9 tk9 hG9 rfl F9 N9)
    k_dflt (obtain ⟨o19, o29, o39, rfl⟩ := agree_3 hG9)
    rotate_left
    all_goals (try k_fold)
  k_with "flags loop" =>
    k_dflt (refine' items_3 [Str.ofString "flags", Str.ofString "due"] (LedE _) ?_ ?_ ?_ ?_ (show LedE _ _ from rfl))
    k_dflt (rintro h9 tk9 m9 n9 hG9 rfl F9)
    k_dflt (obtain ⟨o19, o29, rfl⟩ := agree_2 hG9)
    ktu_objs
    rotate_left
    k_dflt (rintro h9 tk9 m9 n9 hG9 rfl F9)
    k_dflt (obtain ⟨o19, o29, rfl⟩ := agree_2 hG9)
    ktu_objs
    rotate_left
    k_dflt (rintro h9 tk9 m9 n9 hG9 rfl F9)
    k_dflt (obtain ⟨o19, o29, rfl⟩ := agree_2 hG9)
    ktu_objs
    rotate_left
    k_dflt (rintro m9 n9 h9 tk9 hG9 rfl F9 N9)
    k_dflt (obtain ⟨o19, o29, rfl⟩ := agree_2 hG9)
    rotate_left
    all_goals (try k_fold)
  k_with "pre" =>
    first
      | exact ⟨_, _, by assumption, by assumption, by omega⟩
      | (refine' pre64 ?pS ?pL ?p5 ?pM
         case pM => k_mem
         case pS => assumption
         case pL => assumption
         case p5 => omega)
  k_with "enum" =>
    k_dflt (refine ktu_enum (vs := ys9) (by rfl) (by k_asm) (by k_asm) (by k_mem) rfl rfl rfl ?_)
    intro I9 lI9
    k_lt lI9
    k_dflt (refine' items_E [Str.ofString "line", Str.ofString "at", Str.ofString "flags", Str.ofString "most", Str.ofString "tabs", Str.ofString "due", Str.ofString "others"] (LedO _ _ _ _) LineOk ?_ ?_ hS9 hA9 ?eL)
    case eL =>
      k_dflt (refine' ledO ?eA ?eB)
      case eA => assumption
      case eB => assumption
    k_dflt (rintro i9 z9 t9 T9 ti9 h9 tk9 m9 n9 hz9 hi9 hlast9 hG9 ⟨oA9, oB9, dA9, dB9, hA99, hB99, rfl⟩ hT9 F9)
    k_dflt (obtain ⟨o19, o29, o39, o49, o59, o69, o79, rfl⟩ := agree_7 hG9)
    have hzl9 := hz9
    k_dflt (obtain ⟨_, _, _, _, _, hz10⟩ := hzl9)
    ktu_objs
    rotate_left
    k_dflt (rintro m9 n9 h9 tk9 hG9 ⟨oA9, oB9, dA9, dB9, hA99, hB99, rfl⟩ F9 N9)
    k_dflt (obtain ⟨o19, o29, o39, o49, o59, o69, o79, rfl⟩ := agree_7 hG9)
    rotate_left
    all_goals (try k_fold)
  all_goals (try k_fold)
  k_steps
)
end
end Mine
end
theorem PySem.Challenge.cw_bd0044_01_holds : PySem.Challenge.rw_bd0044_01.Holds := by
  exact Mine.law_holds
