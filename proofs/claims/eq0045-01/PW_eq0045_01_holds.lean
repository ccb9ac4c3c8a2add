import PyProof.Rows.All
import Wide.All
import OpenK.AllK
import Wide.FinOn
import PySem.Challenge.RW_eq0045_01
set_option Elab.async false
set_option maxRecDepth 100000
set_option maxHeartbeats 0
set_option rowWalk.seconds 0
section
open PySem PySem.W PyProof.Rows
set_option Elab.async false
set_option maxRecDepth 100000
set_option maxHeartbeats 0
namespace Mine
local macro_rules | `(tactic| o_head (kmHook $k $a $pf $ts)) => do
  if ts.raw.isOfKind `«term_::_» then `(tactic| o_head (kmHook $k $a $pf [172, 303, 375])) else Lean.Macro.throwUnsupported
open_top hd for PySem.Challenge.rw_eq0045_01
end Mine
end

section
open PySem PySem.W PyProof.Rows PySem.Calls PySem.Spec
set_option Elab.async false
set_option maxRecDepth 100000
namespace Mine
def drive : Nat → Sre.M → Option Sre.M
  | 0, _ => none
  | k + 1, m => if (m.runFor 4).outcome.isSome then some (m.runFor 4) else drive k (m.runFor 4)
def foundAt (code text : Array Nat) (start : Nat) (must : Bool) : Option (Option Sre.M) :=
  match drive 200 (Sre.forSearch code text 0 start text.size must) with
  | some m => match m.outcome with
    | some .matched => some (some m)
    | some .failed => some none
    | _ => none
  | none => none
def splitGo (code text : Array Nat) (most : Int) : Nat → Nat → Nat → Bool → Int → List (Nat × Nat) → Option (List (Nat × Nat))
  | 0, _, _, _, _, _ => none
  | k + 1, start, last, must, n, out =>
    if most != 0 && n ≥ most then some (out ++ [(last, text.size)]) else
    match foundAt code text start must with
    | some none => some (out ++ [(last, text.size)])
    | some (some m) => splitGo code text most k m.handed m.handed (m.handed == m.start) (n + 1) (out ++ [(last, m.start)])
    | none => none
theorem slot_split : Slot "re.Pattern" "split" "re.Pattern.split" :=
  .of (owner := "re.Pattern") (n := "split") (by rw [typeLookup_type, builtinLookup_eq_fast]; kernel_rfl) (by decide +kernel) (by decide +kernel) (by decide +kernel)
    (by first | exact .inl (by decide +kernel) | exact .inr (by decide +kernel)) (by rw [isSubtype_type]; kernel_rfl)
theorem type_split : typeOf (.builtin "re.Pattern.split") = pure (.type "method_descriptor") := by show builtinType _ = _; rw [builtinType_eq_fast]; kernel_rfl
theorem entry_split : entryFor table "re.Pattern.split" = some Builtin.«re.Pattern.split» := entryFor_of_tree (by kernel_rfl)
theorem pattern_attrs : PlainAttrs "re.Pattern" :=
  ⟨⟨"object.__getattribute__", by rw [typeLookup_type, builtinLookup_eq_fast]; kernel_rfl, by decide +kernel⟩, by rw [typeLookup_type, builtinLookup_eq_fast]; kernel_rfl⟩
theorem args_split_2 (a b : Value) : argsOk "re.Pattern.split" ⟨[a, b], []⟩ := by
  unfold argsOk; kernel_rfl
theorem args_split_3 (a b c : Value) : argsOk "re.Pattern.split" ⟨[a, b, c], []⟩ := by
  unfold argsOk; kernel_rfl

section
variable {M : Model} {A : Around} {E : Value → Shared → Prop} {s : Shared}
open PySem.Builtin.Re
theorem wp_drive : ∀ (k : Nat) {m m' : Sre.M} {turns : Nat} {Q : Sre.M → Shared → Prop}, drive k m = some m' → k ≤ turns → Q m' s → wpAny M A (reDrive turns m) Q E s
  | 0, _, _, _, _, h, _, _ => by cases h
  | k + 1, m, m', turns, Q, h, hk, hq => by
    obtain ⟨t, rfl⟩ : ∃ t, turns = t + 1 := ⟨turns - 1, by omega⟩
    unfold drive at h
    show wpAny M A (if (m.runFor 4).outcome.isSome = true then pure (m.runFor 4) else do rule "sre.turn"; reDrive t (m.runFor 4)) Q E s
    split at h
    · rename_i h1
      rw [if_pos h1]
      cases h
      exact wpAny_pure hq
    · rename_i h1
      rw [if_neg h1]
      exact wpAny_bind (wpAny_rule (wp_drive k h (by omega) hq))
theorem wp_rules {c : Nat → Bool} {tag : Nat → String} : ∀ (l : List Nat) {Q : PUnit → Shared → Prop}, Q ⟨⟩ s →
    wpAny M A (forIn l PUnit.unit (fun i (_ : PUnit) => if c i = true then do rule (tag i); pure (ForInStep.yield PUnit.unit) else pure (ForInStep.yield PUnit.unit))) Q E s
  | [], _, h => by simpa using wpAny_pure h
  | i :: l, Q, h => by
    rw [List.forIn_cons]
    refine wpAny_bind ?_
    split
    · exact wpAny_bind (wpAny_rule (wpAny_pure (wp_rules l h)))
    · exact wpAny_pure (wp_rules l h)
theorem wp_run {m m' : Sre.M} {r : Option Sre.M} {Q : Option Sre.M → Shared → Prop} (h : drive 200 m = some m')
    (ho : (match m'.outcome with | some .matched => some (some m') | some .failed => some none | _ => none) = some r) (hq : Q r s) : wpAny M A (reRunToEnd m) Q E s := by
  unfold reRunToEnd
  refine wpAny_bind (wp_drive 200 h (by decide) ?_)
  refine wpAny_bind ?_
  refine wp_rules (c := fun i => m'.seen.has i) (tag := fun i => Sre.names.getD i "") _ ?_
  split at ho
  · rename_i q; rw [q]; cases ho; exact wpAny_pure hq
  · rename_i q; rw [q]; cases ho; exact wpAny_pure hq
  · cases ho
theorem wp_found {t : ReTarget} {start : Nat} {must : Bool} {r : Option Sre.M} {Q : Option Sre.M → Shared → Prop} (hg : t.groups = 0) (hl : t.lim = t.text.size) (h : foundAt t.code t.text start must = some r) (hq : Q r s) :
    wpAny M A (reNextFound t start must) Q E s := by
  unfold reNextFound
  rw [hg, hl]
  unfold foundAt at h
  split at h
  · rename_i m' hd
    exact wp_run hd h hq
  · cases h
end

inductive Strs : List Value → List Str → Prop
  | nil : Strs [] []
  | cons {x : Str} {t : Tok} {vs : List Value} {xs : List Str} : Strs vs xs → Strs (.str x t :: vs) (x :: xs)
theorem Strs.append {a b : List Value} {x y : List Str} (h : Strs a x) (k : Strs b y) : Strs (a ++ b) (x ++ y) := by
  induction h with
  | nil => exact k
  | cons _ ih => exact .cons ih
theorem Strs.snoc {a : List Value} {x : List Str} {y : Str} {t : Tok} (h : Strs a x) : Strs (a ++ [.str y t]) (x ++ [y]) := h.append (.cons .nil)
theorem Strs.length {a : List Value} {x : List Str} (h : Strs a x) : a.length = x.length := by
  induction h with
  | nil => rfl
  | cons _ ih => simp [ih]
abbrev cutsOf (text : Array Nat) (l : List (Nat × Nat)) : List Str := l.map fun p => ⟨text.extract p.1 p.2⟩
section
open PySem.Builtin.Re
abbrev SplitSt := Array Value × Nat × Nat × Bool × Int × Bool
def splitTurn (t : ReTarget) (most : Int) (_ : Nat) (q : SplitSt) : Sem (ForInStep SplitSt) :=
  if (!q.snd.snd.snd.snd.snd) = true then do
    let r ← (if (most != 0 && decide (q.snd.snd.snd.snd.fst ≥ most)) = true then pure none else reNextFound t q.snd.fst q.snd.snd.snd.fst : Sem (Option Sre.M))
    match r with
    | none => pure (ForInStep.yield (q.fst, q.snd.fst, q.snd.snd.fst, q.snd.snd.snd.fst, q.snd.snd.snd.snd.fst, true))
    | some m => do
      let d ← reSlice t.text t.kind q.snd.snd.fst m.start
      let q1 ← forIn (List.range t.groups) (q.fst.push d) fun g q => do
        let d ← reMachineGroup t m (g + 1) (pure Value.none)
        pure (ForInStep.yield (q.push d))
      pure (ForInStep.yield (q1, m.handed, m.handed, m.handed == m.start, q.snd.snd.snd.snd.fst + 1, q.snd.snd.snd.snd.snd))
  else pure (ForInStep.yield (q.fst, q.snd.fst, q.snd.snd.fst, q.snd.snd.snd.fst, q.snd.snd.snd.snd.fst, q.snd.snd.snd.snd.snd))
def splitEnd (t : ReTarget) (q : SplitSt) : Sem Fin :=
  if (!q.snd.snd.snd.snd.snd) = true then do
    unsupported "internal:re:more-matches-than-can-be"
    let d ← reSlice t.text t.kind q.snd.snd.fst t.lim
    let l ← newList (q.fst.push d).toList
    ret l
  else do
    let d ← reSlice t.text t.kind q.snd.snd.fst t.lim
    let l ← newList (q.fst.push d).toList
    ret l
def splitRest (t : ReTarget) (most : Int) : Sem Fin := do
  let q ← forIn (List.range (reMostMatches t)) ((#[], 0, 0, false, 0, false) : SplitSt) (splitTurn t most)
  splitEnd t q
theorem split_eq0 (pat : Addr) (x : Value) : Builtin.«re.Pattern.split» ⟨[.ref pat, x], []⟩ = (do
    let most ← (pure 0 : Sem Int)
    let t ← reWholeTarget (.ref pat) x
    splitRest t most) := rfl
theorem split_eq1 (pat : Addr) (x y : Value) : Builtin.«re.Pattern.split» ⟨[.ref pat, x, y], []⟩ = (do
    let most ← reSsize y
    let t ← reWholeTarget (.ref pat) x
    splitRest t most) := rfl
variable {M : Model} {A : Around} {E : Value → Shared → Prop}
theorem wp_slice {text : Array Nat} {b e : Nat} {Q : Value → Shared → Prop} {s : Shared} (hz : text.size ≤ 1000) (h : Q (.str ⟨text.extract b e⟩ s.toks) { s with toks := s.toks + 1 }) : wpAny M A (reSlice text 0 b e) Q E s := by
  show wpAny M A (mkStr ⟨text.extract b e⟩) Q E s
  refine wpAny_mkStr h ?_
  show (text.extract b e).size ≤ sizeLine
  rw [sizeLine_eq, Array.size_extract]
  omega
theorem wp_over {t : ReTarget} {most : Int} {Q : SplitSt → Shared → Prop} : ∀ (l : List Nat) {q : SplitSt} {s : Shared}, q.snd.snd.snd.snd.snd = true → Q q s → wpAny M A (forIn l q (splitTurn t most)) Q E s
  | [], q, s, _, hq => by simpa using wpAny_pure hq
  | i :: l, q, s, h, hq => by
    rw [List.forIn_cons]
    refine wpAny_bind ?_
    unfold splitTurn
    rw [if_neg (by rw [h]; simp)]
    exact wpAny_pure (wp_over l h hq)
theorem wp_turnStop {t : ReTarget} {most : Int} {i : Nat} {vs : Array Value} {start last : Nat} {must : Bool} {n : Int} {s : Shared} {Q : ForInStep SplitSt → Shared → Prop} (hm : (most != 0 && decide (n ≥ most)) = true)
    (h : Q (.yield (vs, start, last, must, n, true)) s) : wpAny M A (splitTurn t most i (vs, start, last, must, n, false)) Q E s := by
  unfold splitTurn
  rw [if_pos (by rfl)]
  dsimp only
  rw [if_pos hm]
  exact wpAny_bind (wpAny_pure (wpAny_pure h))
theorem wp_turnNone {t : ReTarget} {most : Int} {i : Nat} {vs : Array Value} {start last : Nat} {must : Bool} {n : Int} {s : Shared} {Q : ForInStep SplitSt → Shared → Prop} (hm : ¬ (most != 0 && decide (n ≥ most)) = true)
    (hg : t.groups = 0) (hl : t.lim = t.text.size) (hf : foundAt t.code t.text start must = some none)
    (h : Q (.yield (vs, start, last, must, n, true)) s) : wpAny M A (splitTurn t most i (vs, start, last, must, n, false)) Q E s := by
  unfold splitTurn
  rw [if_pos (by rfl)]
  dsimp only
  rw [if_neg hm]
  exact wpAny_bind (wp_found hg hl hf (wpAny_pure h))
theorem wp_turnSome {t : ReTarget} {most : Int} {i : Nat} {vs : Array Value} {start last : Nat} {must : Bool} {n : Int} {s : Shared} {Q : ForInStep SplitSt → Shared → Prop} (hm : ¬ (most != 0 && decide (n ≥ most)) = true)
    (hg : t.groups = 0) (hl : t.lim = t.text.size) (hkd : t.kind = 0) (hz : t.text.size ≤ 1000) {m : Sre.M} (hf : foundAt t.code t.text start must = some (some m))
    (h : Q (.yield (vs.push (.str ⟨t.text.extract last m.start⟩ s.toks), m.handed, m.handed, m.handed == m.start, n + 1, false)) { s with toks := s.toks + 1 }) : wpAny M A (splitTurn t most i (vs, start, last, must, n, false)) Q E s := by
  unfold splitTurn
  rw [if_pos (by rfl)]
  dsimp only
  rw [if_neg hm]
  refine wpAny_bind (wp_found hg hl hf ?_)
  dsimp only
  rw [hkd, hg]
  refine wpAny_bind (wp_slice hz ?_)
  refine wpAny_bind ?_
  show wpAny M A (forIn [] _ _) _ _ _
  simp only [List.forIn_nil]
  exact wpAny_pure (wpAny_pure h)
theorem wp_splitLoop {t : ReTarget} {most : Int} (hg : t.groups = 0) (hl : t.lim = t.text.size) (hkd : t.kind = 0) (hz : t.text.size ≤ 1000) {Q : SplitSt → Shared → Prop} {parts : List (Nat × Nat)} :
    ∀ (k : Nat) (l : List Nat) (start last : Nat) (must : Bool) (n : Int) (out : List (Nat × Nat)) (vs : List Value) (s : Shared), k ≤ l.length → splitGo t.code t.text most k start last must n out = some parts → Strs vs (cutsOf t.text out) →
      (∀ vs' out' a b c d tk, Strs vs' (cutsOf t.text out') → parts = out' ++ [(b, t.text.size)] → Q (vs'.toArray, a, b, c, d, true) { s with toks := tk }) →
      wpAny M A (forIn l ((vs.toArray, start, last, must, n, false) : SplitSt) (splitTurn t most)) Q E s
  | 0, _, _, _, _, _, _, _, _, _, h, _, _ => by cases h
  | k + 1, [], _, _, _, _, _, _, _, hk, _, _, _ => by simp at hk
  | k + 1, i :: l, start, last, must, n, out, vs, s, hk, h, hv, hQ => by
    rw [List.forIn_cons]
    refine wpAny_bind ?_
    unfold splitGo at h
    split at h
    · rename_i hm
      cases h
      exact wp_turnStop hm (wp_over l rfl (hQ vs out _ _ _ _ s.toks hv rfl))
    · rename_i hm
      split at h
      · rename_i hf
        cases h
        exact wp_turnNone hm hg hl hf (wp_over l rfl (hQ vs out _ _ _ _ s.toks hv rfl))
      · rename_i m hf
        refine wp_turnSome hm hg hl hkd hz hf ?_
        show wpAny M A (forIn l _ (splitTurn t most)) _ _ _
        rw [show (vs.toArray.push (Value.str ⟨t.text.extract last m.start⟩ s.toks)) = (vs ++ [Value.str ⟨t.text.extract last m.start⟩ s.toks]).toArray by simp]
        refine wp_splitLoop hg hl hkd hz k l _ _ _ _ _ _ _ (by simpa using hk) h (by simpa using hv.snoc (t := s.toks)) fun vs' out' a b c d tk x y => ?_
        exact hQ vs' out' a b c d tk x y
      · cases h
theorem wp_splitRest {t : ReTarget} {most : Int} (hg : t.groups = 0) (hl : t.lim = t.text.size) (hkd : t.kind = 0) (hz : t.text.size ≤ 1000) {Q : PySem.Fin → Shared → Prop} {parts : List (Nat × Nat)} {s : Shared}
    (h : splitGo t.code t.text most (2 * t.text.size + 3) 0 0 false 0 [] = some parts) (hp : parts.length ≤ 1000)
    (hQ : ∀ vs tk, Strs vs (cutsOf t.text parts) → Q (.done (.ret (.ref s.heap.objs.size))) { s with heap := s.heap.push { cls := .type "list", data := .seq vs.toArray }, toks := tk }) : wpAny M A (splitRest t most) Q E s := by
  unfold splitRest
  refine wpAny_bind ?_
  refine wp_splitLoop hg hl hkd hz _ _ _ _ _ _ [] [] s (by unfold reMostMatches; simp) h .nil fun vs' out' a b c d tk x y => ?_
  unfold splitEnd
  rw [if_neg (by simp)]
  dsimp only
  rw [hkd, hl]
  refine wpAny_bind (wp_slice hz ?_)
  have hlen : (vs' ++ [Value.str ⟨t.text.extract b t.text.size⟩ tk]).length ≤ sizeLine := by
    rw [sizeLine_eq, List.length_append, x.length, List.length_map]
    rw [y, List.length_append] at hp
    simp at hp ⊢
    omega
  refine wpAny_bind ?_
  rw [show (vs'.toArray.push (Value.str ⟨t.text.extract b t.text.size⟩ tk)).toList = vs' ++ [Value.str ⟨t.text.extract b t.text.size⟩ tk] by simp]
  refine wpAny_newList (wpAny_pure ?_) hlen
  refine hQ (vs' ++ [Value.str ⟨t.text.extract b t.text.size⟩ tk]) _ ?_
  rw [y]
  simpa using x.snoc
end
end Mine
end

section
open PySem PySem.W PyProof.Rows PySem.Calls PySem.Spec
set_option Elab.async false
set_option maxRecDepth 100000
namespace Mine
def mimeCode : Array Nat := #[14, 4, 0, 1, 4294967295, 7, 5, 16, 47, 15, 31, 29, 24, 11, 0, 4294967295, 13, 6, 16, 32, 16, 9, 0, 1, 16, 59, 24, 11, 0, 4294967295, 13, 6, 16, 32, 16, 9, 0, 1, 15, 2, 0, 1]
def langCode : Array Nat := #[14, 9, 4, 1, 1, 16, 95, 16, 45, 0, 13, 6, 16, 95, 16, 45, 0, 1]
def splitStr (code : Array Nat) (x : Str) (most : Int) : Option (List Str) :=
  (splitGo code x.cps most (2 * x.cps.size + 3) 0 0 false 0 []).map (cutsOf x.cps)
/-- a compiled pattern lies at pat with this code -/
def PatAt (h : Heap) (pat : Addr) (code : Array Nat) : Prop :=
  ∃ po fs c co items n, h.get? pat = some po ∧ po.cls = .type "re.Pattern" ∧ po.dict = none ∧ po.data = .fields fs ∧ fs.getD 2 .none = .int 0 0 ∧ fs.getD 5 .none = .ref c ∧ fs.getD 6 .none = .int 0 0 ∧
    h.get? c = some co ∧ co.data = .seq items n ∧ (items.map Builtin.Re.reRawOf).map (·.toNat) = code
theorem PatAt.keeps {h h' : Heap} {pat : Addr} {code : Array Nat} (P : PatAt h pat code) (k : ∀ b o, h.get? b = some o → h'.get? b = some o) : PatAt h' pat code := by
  obtain ⟨po, fs, c, co, items, n, h1, h2, h3, h4, h5, h6, h7, h8, h9, h10⟩ := P
  exact ⟨po, fs, c, co, items, n, k _ _ h1, h2, h3, h4, h5, h6, h7, k _ _ h8, h9, h10⟩
theorem pat_mime : ∀ {w : World} {h : Heap}, (hd.heap_39 w.params).In h → (PySem.Challenge.rw_eq0045_01 = PySem.Challenge.rw_eq0045_01) → PatAt h 287 mimeCode := by
  w_top off
  k_fill
  intro w h X _
  refine ⟨_, _, _, _, _, _, X 287 _ (by k_is), rfl, rfl, rfl, rfl, rfl, rfl, X 286 _ (by k_is), rfl, ?_⟩
  decide +kernel
theorem pat_lang : ∀ {w : World} {h : Heap}, (hd.heap_39 w.params).In h → (PySem.Challenge.rw_eq0045_01 = PySem.Challenge.rw_eq0045_01) → PatAt h 349 langCode := by
  k_fill
  intro w h X _
  refine ⟨_, _, _, _, _, _, X 349 _ (by k_is), rfl, rfl, rfl, rfl, rfl, rfl, X 348 _ (by k_is), rfl, ?_⟩
  decide +kernel
section
open PySem.Builtin.Re
variable {prog : Program} {w : World} {A : Around} {E : Value → Shared → Prop} {s : Shared}
theorem wp_target {pat : Addr} {code : Array Nat} {x : Str} {t : Tok} {Q : ReTarget → Shared → Prop} (P : PatAt s.heap pat code)
    (h : ∀ r : ReTarget, r.code = code → r.text = x.cps → r.kind = 0 → r.groups = 0 → r.lim = x.cps.size → Q r s) : wpAny (model prog w) A (reWholeTarget (.ref pat) (.str x t)) Q E s := by
  obtain ⟨po, fs, c, co, items, n, h1, h2, h3, h4, h5, h6, h7, h8, h9, h10⟩ := P
  unfold reWholeTarget
  refine wpAny_bind (wpAny_fieldsOf h1 h4 ?_)
  refine wpAny_bind (m := reTextOf (.str x t)) ?_
  unfold reTextOf
  refine wpAny_bind (m := asStr? (.str x t)) (wpAny_pure ?_)
  refine wpAny_pure ?_
  dsimp only
  rw [h7]
  rw [if_neg (by decide), if_neg (by decide)]
  refine wpAny_bind (m := reNoCollectionInside (.str x t) 0) (wpAny_pure ?_)
  rw [h6]
  refine wpAny_bind (m := reRawItems (.ref c)) ?_
  unfold reRawItems
  refine wpAny_bind (wpAny_seqItems h8 h9 (wpAny_pure ?_))
  exact wpAny_pure (h _ h10 rfl rfl (by rw [h5]; rfl) rfl)
theorem wp_ssize {i : Int} {t : Tok} {Q : Int → Shared → Prop} (h1 : -(2 ^ 63) ≤ i) (h2 : i < 2 ^ 63) (h : Q i s) : wpAny (model prog w) A (reSsize (.int i t)) Q E s := by
  unfold reSsize
  refine wpAny_bind (m := asIndex (.int i t)) (wpAny_pure (a := i) ?_)
  dsimp only
  rw [if_neg (by simp only [Bool.or_eq_true, decide_eq_true_eq]; omega)]
  exact wpAny_pure h
/-- what split hands back: a new list of the parts -/
def SplitBack (s : Shared) (parts : List Str) (Q : Value → Shared → Prop) : Prop :=
  ∀ vs tk, Strs vs parts → Q (.ref s.heap.objs.size) { s with heap := s.heap.push { cls := .type "list", data := .seq vs.toArray }, toks := tk }
theorem call_split0 {pat : Addr} {code : Array Nat} {x : Str} {t : Tok} {parts : List Str} {Q : Value → Shared → Prop} (P : PatAt s.heap pat code) (hz : x.length ≤ 1000) (h : splitStr code x 0 = some parts) (hp : parts.length ≤ 1000)
    (hQ : SplitBack s parts Q) : wpAny (model prog w) A (call (.builtin "re.Pattern.split") [.ref pat, .str x t]) Q E s := by
  obtain ⟨ps, h1, rfl⟩ := Option.map_eq_some_iff.mp h
  have P' := P
  obtain ⟨po, _, _, _, _, _, g1, g2, _⟩ := P'
  refine wpAny_call_entry slot_split ⟨po, g1, g2⟩ entry_split ?_ (args_split_2 _ _)
  rw [split_eq0]
  refine wpAny_bind (wpAny_pure (wpAny_bind (wp_target P fun r r1 r2 r3 r4 r5 => ?_)))
  refine wp_splitRest r4 (by rw [r5, r2]) r3 (by rw [r2]; exact hz) (parts := ps) (by rw [r1, r2]; exact h1) (by simpa using hp) fun vs tk hv => ⟨_, rfl, ?_⟩
  exact hQ vs tk (by rw [← r2]; exact hv)
theorem call_split1 {pat : Addr} {code : Array Nat} {x : Str} {t u : Tok} {parts : List Str} {Q : Value → Shared → Prop} (P : PatAt s.heap pat code) (hz : x.length ≤ 1000) (h : splitStr code x 1 = some parts) (hp : parts.length ≤ 1000)
    (hQ : SplitBack s parts Q) : wpAny (model prog w) A (call (.builtin "re.Pattern.split") [.ref pat, .str x t, .int 1 u]) Q E s := by
  obtain ⟨ps, h1, rfl⟩ := Option.map_eq_some_iff.mp h
  have P' := P
  obtain ⟨po, _, _, _, _, _, g1, g2, _⟩ := P'
  refine wpAny_call_entry slot_split ⟨po, g1, g2⟩ entry_split ?_ (args_split_3 _ _ _)
  rw [split_eq1]
  refine wpAny_bind (wp_ssize (by decide) (by decide) (wpAny_bind (wp_target P fun r r1 r2 r3 r4 r5 => ?_)))
  refine wp_splitRest r4 (by rw [r5, r2]) r3 (by rw [r2]; exact hz) (parts := ps) (by rw [r1, r2]; exact h1) (by simpa using hp) fun vs tk hv => ⟨_, rfl, ?_⟩
  exact hQ vs tk (by rw [← r2]; exact hv)
theorem meth_split {pat : Addr} {code : Array Nat} {pl : Sem Bool} {Q : Value × List Value → Shared → Prop} (P : PatAt s.heap pat code)
    (h : Q (.builtin "re.Pattern.split", [.ref pat]) s) : wpAny (model prog w) A (getMethod (.ref pat) (Str.ofString "split") pl) Q E s := by
  obtain ⟨po, _, _, _, _, _, g1, g2, g3, _⟩ := P
  exact getMethod_builtin ⟨po, g1, g2⟩ pattern_attrs slot_split type_split (fun a e => by cases e; exact ⟨po, g1, g3⟩) h
variable {h₀ : Heap} {L : Addr} {m : Str → Option Value} {news : List (Addr × Obj)}
/-- in the words of frame and ledger -/
theorem splitBack_K {parts : List Str} {Q : Value → Shared → Prop} (F : Fr h₀ L s.heap m) (N : News h₀ L s.heap news)
    (h : ∀ l vs h' tk, Strs vs parts → Fr h₀ L h' m → News h₀ L h' ((l, listOf vs.toArray 0) :: news) → (∀ p ∈ news, p.1 < l) → Q (.ref l) { s with heap := h', toks := tk }) : SplitBack s parts Q := fun vs tk hv =>
  h _ vs _ tk hv (F.push _) (News.push F N _) fun p hp => Heap.lt_size (N p hp).1
end
end Mine
end

section
open PySem PySem.W PyProof.Rows PySem.Calls PySem.Spec
set_option Elab.async false
set_option maxRecDepth 100000
namespace Mine
/-- the generators stay bare -/
abbrev GOk (g g' : Array GenState) : Prop := AllBare g → AllBare g'
theorem GOk.refl (g : Array GenState) : GOk g g := fun x => x
theorem GOk.trans {a b c : Array GenState} (h : GOk a b) (k : GOk b c) : GOk a c := fun x => k (h x)
/-- the names that the law's head leaves loose -/
def looseL0 : List Str := [Str.ofString "ImmutableList", Str.ofString "Accept", Str.ofString "_mime_split_re", Str.ofString "MIMEAccept", Str.ofString "_locale_delim_re", Str.ofString "LanguageAccept", Str.ofString "_law_words", Str.ofString "_law_offers"]
noncomputable def looseL : List Str := looseW hd.view_39 looseL0 ++ (recsOf hd.view_39).map (·.name) ++ (litsOf hd.view_39).map (·.1) ++ (clssOf hd.view_39 (looseW hd.view_39 looseL0)).map (·.name)
/-- the contract of a call: args, the ledger it finds, what it hands back (the value, what it made) -/
def Spec (w : World) (D U : Nat) (f : Value) (args : List Value) (news : List (Addr × Obj)) (R : Value → List (Addr × Obj) → Prop) : Prop :=
  ∀ (mean : ExcName → Option Value) (mg mb : Str → Option Value) (gd : Option (List Code)) (cn : Str) (cs : Scope) (a : Addr) (ccd : Value) (cl : List (Str × Addr)) (outer : List Env) (A₀ : Around) (base h₀ : Heap) (L : Addr) (m : Str → Option Value) (s : Shared) (Q E : Value → Shared → Prop),
    Below A₀ base outer h₀ → Fr h₀ L s.heap m → (hd.heap_39 w.params).In h₀ → News h₀ L s.heap news → Top topProg looseL mean mg mb h₀ → cs.kind = .function →
    (∀ v tl h' g' tk', R v tl → Fr h₀ L h' m → News h₀ L h' (tl ++ news) → (∀ p ∈ news, ∀ q ∈ tl, p.1 < q.1) → GOk s.gens g' → Q v ⟨h', g', s.drawn, tk', s.os⟩) →
    wpAny (model PySem.Challenge.rw_eq0045_01.row.prog w) (ktrTop D U gd cn cs L a ccd cl outer) (call f args) Q E s
theorem wpAny_deep {α : Type} {M : Model} {hdl : Option Value} {d u d' u' : Nat} {fr : Option (List Env)} {gd : Option (List Code)} {t : Sem α} {Q : α → Shared → Prop} {E : Value → Shared → Prop} {s : Shared}
    (h : wpAny M { handled := hdl, depth := d', frames := fr, guards := gd, units := u' } t Q E s) (hd : d ≤ d') (hu : u ≤ u') : wpAny M { handled := hdl, depth := d, frames := fr, guards := gd, units := u } t Q E s :=
  fun Γ p hΓ => h Γ p ⟨hΓ.1, Nat.le_trans hΓ.2.1 hd, hΓ.2.2.1, hΓ.2.2.2.1, Nat.le_trans hΓ.2.2.2.2 hu⟩
theorem spec_use {w : World} {D U dp un : Nat} {f : Value} {args : List Value} {news : List (Addr × Obj)} {R : Value → List (Addr × Obj) → Prop} {mean : ExcName → Option Value} {mg mb : Str → Option Value} {gd : Option (List Code)} {cn : Str} {cs : Scope} {a : Addr} {ccd : Value} {cl : List (Str × Addr)} {outer : List Env} {A₀ : Around} {base h₀ : Heap} {L : Addr} {m : Str → Option Value} {s : Shared} {Q E : Value → Shared → Prop}
    (S : Spec w D U f args news R) (B : Below A₀ base outer h₀) (F : Fr h₀ L s.heap m) (X : (hd.heap_39 w.params).In h₀) (N : News h₀ L s.heap news) (T : Top topProg looseL mean mg mb h₀) (hk : cs.kind = .function) (hd : dp ≤ D) (hu : un ≤ U)
    (k : ∀ v tl h' g' tk', R v tl → Fr h₀ L h' m → News h₀ L h' (tl ++ news) → (∀ p ∈ news, ∀ q ∈ tl, p.1 < q.1) → GOk s.gens g' → Q v ⟨h', g', s.drawn, tk', s.os⟩) :
    wpAny (model PySem.Challenge.rw_eq0045_01.row.prog w) (ktrTop dp un gd cn cs L a ccd cl outer) (call f args) Q E s :=
  wpAny_deep (S mean mg mb gd cn cs a ccd cl outer A₀ base h₀ L m s Q E B F X N T hk k) hd hu
end Mine
end

section
open PySem PySem.W PyProof.Rows PySem.Calls PySem.Spec
set_option Elab.async false
set_option maxRecDepth 100000
set_option maxHeartbeats 0
set_option linter.unusedVariables false
namespace Mine
theorem pat_mime' {w : World} {h : Heap} (X : (hd.heap_39 w.params).In h) : PatAt h 287 mimeCode := pat_mime X rfl
theorem pat_lang' {w : World} {h : Heap} (X : (hd.heap_39 w.params).In h) : PatAt h 349 langCode := pat_lang X rfl
local macro_rules | `(tactic| walk_at "getMethod ref") => `(tactic| (k_here; (with_reducible show wpAny _ _ (getMethod (Value.ref 287) _ _) _ _ _); k_dflt (refine' meth_split (pat_mime' ?kx) ?_; (case kx => k_in))))
local macro_rules | `(tactic| walk_at "getMethod ref") => `(tactic| (k_here; (with_reducible show wpAny _ _ (getMethod (Value.ref 349) _ _) _ _ _); k_dflt (refine' meth_split (pat_lang' ?kx) ?_; (case kx => k_in))))
local macro_rules | `(tactic| walk_at "call builtin:re.Pattern.split") => `(tactic| (
  k_here
  k_dflt (first
    | refine' call_split0 (pat_mime' ?kx) ?kz ?ks ?kp (splitBack_K ?kF ?kN ?_)
    | refine' call_split0 (pat_lang' ?kx) ?kz ?ks ?kp (splitBack_K ?kF ?kN ?_)
    | refine' call_split1 (pat_mime' ?kx) ?kz ?ks ?kp (splitBack_K ?kF ?kN ?_)
    | refine' call_split1 (pat_lang' ?kx) ?kz ?ks ?kp (splitBack_K ?kF ?kN ?_))
  (case kx => k_in)
  (case ks => assumption)
  (case kz => first | assumption | omega)
  (case kp => assumption)
  (case kF => k_asm)
  (case kN => k_asm)
  intro l' vs' h' tk' hvs' F' N' l1
  try k_lt l1
  try k_sweep))
theorem norm_lang : ∀ {w : World} {news : List (Addr × Obj)} (x : Str) (t : Tok) (parts : List Str) (hx : x.length ≤ 300) (hs : splitStr langCode (Txt.lower x) 0 = some parts) (hp : parts.length ≤ 1000), Spec w 900 9000 (.ref 356) [.str x t] news (fun v tl => ∃ l vs, Strs vs parts ∧ v = .ref l ∧ tl = [(l, listOf vs.toArray 0)]) := by
  unfold Spec
  w_top off
  k_fill
  intro w news x t parts hx hs hp mean mg mb gd cn cs a ccd cl outer A₀ base h₀ L m s Q E B F X N T hk ret
  refine wpAny_call ?_
  k_dflt ktr_enter
  k_steps
  refine ret _ [(_, _)] _ _ _ ⟨_, _, by assumption, rfl, rfl⟩ (by k_asm) (by k_asm) (fun p hp q hq => ?_) (GOk.refl _)
  rw [List.mem_singleton.mp hq]
  rename_i l1 _ _ _ _
  exact l1 p hp
theorem norm_mime : ∀ {w : World} {news : List (Addr × Obj)} (x : Str) (t : Tok) (parts : List Str) (hx : x.length ≤ 300) (hs : splitStr mimeCode (Txt.lower x) 0 = some parts) (hp : parts.length ≤ 1000), Spec w 900 9000 (.ref 294) [.str x t] news (fun v tl => ∃ l vs, Strs vs parts ∧ v = .ref l ∧ tl = [(l, listOf vs.toArray 0)]) := by
  unfold Spec
  k_fill
  intro w news x t parts hx hs hp mean mg mb gd cn cs a ccd cl outer A₀ base h₀ L m s Q E B F X N T hk ret
  refine wpAny_call ?_
  k_dflt ktr_enter
  k_steps
  refine ret _ [(_, _)] _ _ _ ⟨_, _, by assumption, rfl, rfl⟩ (by k_asm) (by k_asm) (fun p hp q hq => ?_) (GOk.refl _)
  rw [List.mem_singleton.mp hq]
  rename_i l1 _ _ _ _
  exact l1 p hp
theorem vm0 : ∀ {w : World} {news : List (Addr × Obj)} (self : Value) (x y : Str) (t1 t2 : Tok) (hx : x.length ≤ 300) (hy : y.length ≤ 300), Spec w 900 9000 (.ref 191) [self, .str x t1, .str y t2] news (fun v tl => v = .bool (y == Str.ofString "*" || Txt.lower y == Txt.lower x) ∧ tl = []) := by
  unfold Spec
  k_fill
  intro w news self x y t1 t2 hx hy mean mg mb gd cn cs a ccd cl outer A₀ base h₀ L m s Q E B F X N T hk ret
  refine wpAny_call ?_
  k_dflt ktr_enter
  k_steps
  all_goals (
    refine ret _ [] _ _ _ ⟨?v, rfl⟩ ?f ?n (fun _ _ _ h9 => nomatch h9) ?g
    case f => k_asm
    case n => (simp only [List.nil_append]; k_asm)
    case g => exact GOk.refl _
    case v => simp_all)
end Mine
end

section
open PySem PySem.W PyProof.Rows PySem.Calls PySem.Spec
set_option Elab.async false
set_option maxRecDepth 100000
set_option linter.unusedVariables false
namespace Mine

section
variable {prog : Program} {w : World} {A : Around} {E : Value → Shared → Prop} {s : Shared} {K : Frag} {x C : Addr} {ox : Obj} {od : Option Obj}

theorem iter_inst {Q : Value → Shared → Prop} (X : K.In s.heap) (I : InstAt s.heap x ox C od) (hs : findIn K (.ref C) "__iter__" = some (some (.builtin "list.__iter__"))) (hm : mroIn K C (.type "list") = some true)
    (hQ : Q (.ref s.heap.objs.size) { s with heap := s.heap.push { cls := .type "list_iterator", data := .fields #[.ref x, .int 0 0] } }) :
    wpAny (model prog w) A (pyIter (.ref x)) Q E s := by
  have fin : wpAny (model prog w) A (call (.builtin "list.__iter__") [.ref x] >>= fun v => pure (some v)) (fun r s' => ∃ T r', r = some (Value.ref s.heap.objs.size) ∧ s'.TypeIs (.ref s.heap.objs.size) T ∧ typeLookup (.type T) "__next__" = pure (some r') ∧ Q (.ref s.heap.objs.size) s') E s := by
    refine wpAny_bind (wpAny_call (codeAny_call_builtin slot_list_iter.plain entry_list_iter (check_slot (i := "list.__iter__") (owner := "list") (n := "__iter__") (by decide +kernel) (by decide +kernel) (I.type.andThen (looks_mroIn X hm)) (args_list_iter _) ?_)))
    show wpAny _ _ (do ret (← newFields "list_iterator" [.ref x, rawInt 0])) _ _ s
    exact wpAny_bind (wpAny_newObj_type (wpAny_pure (wpAny_pure ⟨_, _, rfl, ⟨_, Heap.get?_push_size _ rfl, rfl⟩, slot_listiter_next.lookup, hQ⟩)))
  have one : ∀ refuse : Sem Value, wpAny (model prog w) A (callSpecialIfBoundUnlessNone? (.ref x) "__iter__" refuse) (fun r s' => ∃ T r', r = some (Value.ref s.heap.objs.size) ∧ s'.TypeIs (.ref s.heap.objs.size) T ∧ typeLookup (.type T) "__next__" = pure (some r') ∧ Q (.ref s.heap.objs.size) s') E s := by
    intro refuse
    simp only [callSpecialIfBoundUnlessNone?, bindSpecialIfBound?]
    refine wpAny_holding (wpAny_bind (wpAny_bind (wpAny_bind (I.type.here ((looks_findIn X hs).here ?_)))))
    refine wpAny_bind (wpAny_askSetting (wpAny_ite ?_))
    simp only [slot_list_iter.bind]
    have fin2 : wpAny (model prog w) A (if (Value.builtin "list.__iter__" == Value.none) = true then (refuse >>= fun v => pure (some v)) else (call (.builtin "list.__iter__") [.ref x] >>= fun v => pure (some v))) (fun r s' => ∃ T r', r = some (Value.ref s.heap.objs.size) ∧ s'.TypeIs (.ref s.heap.objs.size) T ∧ typeLookup (.type T) "__next__" = pure (some r') ∧ Q (.ref s.heap.objs.size) s') E s := by
      simp only [builtin_beq_none, Bool.false_eq_true, if_false]
      exact fin
    split
    · exact wpAny_bind (wpAny_pure (wpAny_pure fin2))
    · exact wpAny_tryCatch (wpAny_bind (wpAny_pure (wpAny_pure fin2)))
  unfold pyIter
  refine wpAny_bind (wpAny_bind (I.type.here ((looks_findIn X hs).here ?_)))
  show wpAny _ A (callSpecialIfBoundUnlessNone? (.ref x) "__iter__" _ >>= _) Q E s
  refine wpAny_bind (wpAny_mono (one _) (fun r s' hr => ?_) fun _ _ z => z)
  obtain ⟨T, r', rfl, hT, hl, hq⟩ := hr
  exact wpAny_bind (wpAny_specialOf hT hl (wpAny_pure hq))

def iterObj (l : Addr) (i : Nat) : Obj := { cls := .type "list_iterator", data := .fields #[.ref l, .int i 0] }
/-- a list's iterator, over any object with items -/
theorem next_item {it l : Addr} {i : Nat} {ol : Obj} {items : Array Value} {n : Nat} {v : Value} {Q : Option Value → Shared → Prop} (ho : s.heap.get? it = some (iterObj l i))
    (hol : s.heap.get? l = some ol) (hdl : ol.data = .seq items n) (hx : items[i]? = some v)
    (hQ : ∀ h', h'.get? it = some (iterObj l (i + 1)) → Heap.SameBut it s.heap h' → Q (some v) { s with heap := h' }) :
    wpAny (model prog w) A (pyNext (.ref it)) Q E s := by
  have hd : (iterObj l i).data = .fields #[.ref l, .int i 0] := rfl
  unfold pyNext
  refine wpAny_bind (wpAny_attempt (wpAny_callSpecial?_slot (name := Str.ofString "__next__") (T := "list_iterator") ⟨_, ho, rfl⟩ slot_listiter_next
    (wpAny_call_entry slot_listiter_next (T := "list_iterator") ⟨_, ho, rfl⟩ entry_listiter_next ?_ (args_listiter_next _))))
  show wpAny _ _ (field (.ref it) 0 >>= _) _ _ s
  refine wpAny_bind (wpAny_field ho hd (x := .ref l) rfl ?_)
  show wpAny _ _ (if (Value.ref l == Value.none) = true then _ else _) _ _ s
  rw [if_neg (show ¬ ((Value.ref l == Value.none) = true) from Bool.false_ne_true)]
  show wpAny _ _ (field (.ref it) 1 >>= _) _ _ s
  refine wpAny_bind (wpAny_field ho hd (x := .int i 0) rfl ?_)
  show wpAny _ _ (seqItems? (.ref l) >>= _) _ _ s
  refine wpAny_bind (wpAny_seqItems hol hdl ?_)
  simp only [Int.toNat_natCast, hx]
  refine wpAny_bind (wpAny_setField ho hd (by simp) (wpAny_pure ⟨v, rfl, wpAny_pure (hQ _ ?_ (Heap.SameBut.update ..))⟩))
  have e := Heap.get?_update_self (Obj.mapFields fun x => x.setIfInBounds 1 (rawInt ((i : Int) + 1))) ho (Obj.isFreed_of_fields (Obj.data_mapFields hd _))
  rw [e]
  rfl
theorem next_end {it l : Addr} {i : Nat} {ol : Obj} {items : Array Value} {n : Nat} {Q : Option Value → Shared → Prop} (hh : A.handled = none) (ho : s.heap.get? it = some (iterObj l i))
    (hol : s.heap.get? l = some ol) (hdl : ol.data = .seq items n) (hx : items[i]? = none)
    (hQ : ∀ h', Heap.ExtBut it s.heap h' → Q none { s with heap := h' }) : wpAny (model prog w) A (pyNext (.ref it)) Q E s := by
  have hd : (iterObj l i).data = .fields #[.ref l, .int i 0] := rfl
  unfold pyNext
  refine wpAny_bind (wpAny_attempt (wpAny_callSpecial?_slot (name := Str.ofString "__next__") (T := "list_iterator") ⟨_, ho, rfl⟩ slot_listiter_next
    (wpAny_call_entry slot_listiter_next (T := "list_iterator") ⟨_, ho, rfl⟩ entry_listiter_next ?_ (args_listiter_next _))))
  show wpAny _ _ (field (.ref it) 0 >>= _) _ _ s
  refine wpAny_bind (wpAny_field ho hd (x := .ref l) rfl ?_)
  show wpAny _ _ (if (Value.ref l == Value.none) = true then _ else _) _ _ s
  rw [if_neg (show ¬ ((Value.ref l == Value.none) = true) from Bool.false_ne_true)]
  show wpAny _ _ (field (.ref it) 1 >>= _) _ _ s
  refine wpAny_bind (wpAny_field ho hd (x := .int i 0) rfl ?_)
  show wpAny _ _ (seqItems? (.ref l) >>= _) _ _ s
  refine wpAny_bind (wpAny_seqItems hol hdl ?_)
  simp only [Int.toNat_natCast, hx]
  refine wpAny_bind (wpAny_rule (wpAny_bind (wpAny_setField ho hd (by simp) ?_)))
  show wpAny _ _ (newExc (.type "StopIteration") [] >>= _) _ _ _
  refine wpAny_bind ?_
  simp only [newExc, newTuple]
  refine wpAny_bind (wpAny_newObj_type ?_ (by size_fits))
  refine wpAny_bind (m := firstArgMember _ _) (wpAny_of_eq (a := Value.none) (by first | rfl | (simp only [firstArgMember]; rfl)) ?_)
  refine wpAny_newObj_type ?_ (by size_fits)
  simp only [raiseNew]
  refine wpAny_bind (wpAny_handled ?_)
  rw [show A.in1.handled = none from hh]
  refine wpAny_bind (wpAny_pure (wpAny_throw ?_))
  refine wpAny_bind (wpAny_isInstance (T := "StopIteration") (b := true) ⟨_, Heap.get?_push_size _ rfl, rfl⟩ isSubtype_stop ?_)
  exact wpAny_pure (hQ _ (((Heap.SameBut.update ..).extBut.push _).push _))

def Iter (prog : Program) (w : World) (A : Around) (h₀ : Heap) (L : Addr) (target : Expr) (it : Value) (n : Nat) (cells : Nat → List (Addr × Obj)) (keep : List (Addr × Obj)) (P : Nat → Value → List (Addr × Obj) → Prop) : Prop :=
  ∀ (i : Nat) (h : Heap) (g : Array GenState) (d : Drawn) (tk : Nat) (os : OsState) (m : Str → Option Value) (rest : List (Addr × Obj)) (Q : Value → Shared → Prop) (Qn : Shared → Prop) (E : Value → Shared → Prop), i ≤ n → Fr h₀ L h m → News h₀ L h (cells i ++ rest) → (∀ p ∈ keep, p ∈ rest) → (∀ p ∈ rest, ∀ q ∈ cells i, p.1 ≠ q.1) →
    (∀ v extra h' tk', i < n → P i v extra → Fr h₀ L h' m → News h₀ L h' (extra ++ (cells (i + 1) ++ rest)) → Q v ⟨h', g, d, tk', os⟩) →
    (∀ h' tk', i = n → Fr h₀ L h' m → News h₀ L h' rest → Qn ⟨h', g, d, tk', os⟩) →
    wpAny (model prog w) A (pyNext it) (fun r s₁ => match r with
      | none => Qn s₁
      | some v => wpAny (model prog w) A (letOwnedTupleGo target it v) (fun _ s₂ => Q v s₂) E s₁) E ⟨h, g, d, tk, os⟩

theorem Fr.but {h₀ h h' : Heap} {L I : Addr} {m : Str → Option Value} (F : Fr h₀ L h m) (hk : Heap.ExtBut I h h') (hL : I ≠ L) (hI : h₀.get? I = none) : Fr h₀ L h' m :=
  ⟨let ⟨o, es, ep, x, r⟩ := F.ns; ⟨o, es, ep, hk L o (Ne.symm hL) x, r⟩, fun b o e => hk b o (fun q => by rw [q, hI] at e; cases e) (F.keep b o e), F.above⟩
theorem News.but {h₀ h h' : Heap} {L I : Addr} {news : List (Addr × Obj)} (N : News h₀ L h news) (hk : Heap.ExtBut I h h') (off : ∀ p ∈ news, p.1 ≠ I) : News h₀ L h' news :=
  fun p hp => ⟨hk _ _ (off p hp) (N p hp).1, (N p hp).2⟩
theorem News.sub {h₀ h : Heap} {L : Addr} {news small : List (Addr × Obj)} (N : News h₀ L h news) (k : ∀ p ∈ small, p ∈ news) : News h₀ L h small := fun p hp => N p (k p hp)

theorem iter_list {h₀ : Heap} {target : Expr} {L it l : Addr} {ol : Obj} {vs : List Value} {n : Nat} (hh : A.handled = none) (hdl : ol.data = .seq vs.toArray n) :
    Iter prog w A h₀ L target (.ref it) vs.length (fun i => [(it, iterObj l i)]) [(l, ol)] (fun i v extra => vs[i]? = some v ∧ extra = []) := by
  intro i h g d tk os m rest Q Qn E hi F N hk hne k1 k2
  have hit : h.get? it = some (iterObj l i) := N.get List.mem_cons_self
  have hI := N _ (List.mem_cons_self (a := (it, iterObj l i)) (l := rest))
  have hol : h.get? l = some ol := N.get (List.mem_cons_of_mem _ (hk _ (List.mem_singleton.mpr rfl)))
  have Nr : News h₀ L h rest := News.sub N fun p hp => List.mem_cons_of_mem _ hp
  have off : ∀ p ∈ rest, p.1 ≠ it := fun p hp => hne p hp _ (List.mem_singleton.mpr rfl)
  by_cases hlt : i < vs.length
  · refine next_item (s := ⟨h, g, d, tk, os⟩) (v := vs[i]) hit hol hdl (by simp [hlt]) fun h' e1 hs => ?_
    refine letGo_listiter (t := l) (i := i + 1) ⟨_, e1, rfl, rfl⟩ ?_
    refine k1 _ [] _ _ hlt ⟨by simp [hlt], rfl⟩ (Fr.but F hs.extBut hI.2.1 hI.2.2) ?_
    intro p hp
    rcases List.mem_cons.mp hp with rfl | hp
    · exact ⟨e1, hI.2⟩
    · exact News.but Nr hs.extBut off p hp
  · refine next_end (s := ⟨h, g, d, tk, os⟩) hh hit hol hdl (by simp; omega) fun h' hs => ?_
    exact k2 _ _ (by omega) (Fr.but F hs hI.2.1 hI.2.2) (News.but Nr hs off)

def LoopBack (h₀ : Heap) (L : Addr) (s : Shared) (R : Result → Shared → Prop) (news : List (Addr × Obj)) (cells : Nat → List (Addr × Obj)) (i : Nat) (Inv : Nat → (Str → Option Value) → List (Addr × Obj) → Prop) (f : Flow) (s₃ : Shared) : Prop := match f with
  | .next | .cont => ∃ m' nx', Inv (i + 1) m' nx' ∧ Fr h₀ L s₃.heap m' ∧ News h₀ L s₃.heap (cells (i + 1) ++ (nx' ++ news)) ∧ (∀ p ∈ nx', ∀ q ∈ cells (i + 1), p.1 ≠ q.1) ∧ GOk s.gens s₃.gens ∧ s₃.drawn = s.drawn ∧ s₃.os = s.os
  | .brk => R (.ok .next) s₃
  | .ret v => R (.ok (.ret v)) s₃
def LoopBack' (n : Nat) (h₀ : Heap) (L : Addr) (s : Shared) (R : Result → Shared → Prop) (news : List (Addr × Obj)) (cells : Nat → List (Addr × Obj)) (i : Nat) (Inv : Nat → (Str → Option Value) → List (Addr × Obj) → Prop) (f : Flow) (s₃ : Shared) : Prop := match f with
  | .next | .cont => i < n ∧ ∃ m' nx', Inv (i + 1) m' nx' ∧ Fr h₀ L s₃.heap m' ∧ News h₀ L s₃.heap (cells (i + 1) ++ (nx' ++ news)) ∧ (∀ p ∈ nx', ∀ q ∈ cells (i + 1), p.1 ≠ q.1) ∧ GOk s.gens s₃.gens ∧ s₃.drawn = s.drawn ∧ s₃.os = s.os
  | .brk => R (.ok .next) s₃
  | .ret v => R (.ok (.ret v)) s₃
theorem for_loop {h₀ : Heap} {L : Addr} {target : Expr} {body : List Stmt} {env : Env} {it : Value} {n : Nat} {cells : Nat → List (Addr × Obj)} {keep : List (Addr × Obj)} {P : Nat → Value → List (Addr × Obj) → Prop} {R : Result → Shared → Prop}
    (IT : Iter prog w A h₀ L target it n cells keep P) (Inv : Nat → (Str → Option Value) → List (Addr × Obj) → Prop) {m₀ : Str → Option Value} {nx₀ news : List (Addr × Obj)}
    (F : Fr h₀ L s.heap m₀) (N : News h₀ L s.heap (cells 0 ++ (nx₀ ++ news))) (hk : ∀ p ∈ keep, p ∈ news) (hne : ∀ i, ∀ p ∈ news, ∀ q ∈ cells i, p.1 ≠ q.1) (hne₀ : ∀ p ∈ nx₀, ∀ q ∈ cells 0, p.1 ≠ q.1) (h0 : Inv 0 m₀ nx₀)
    (turn : ∀ i v extra m nx h g tk, i < n → P i v extra → Inv i m nx → Fr h₀ L h m → News h₀ L h (extra ++ (cells (i + 1) ++ (nx ++ news))) → GOk s.gens g →
      wpAny (model prog w) A (assign target env v) (fun _ s₂ => wpAny (model prog w) A (execs body env) (LoopBack h₀ L s R news cells i Inv) (fun _ _ => False) s₂) (fun _ _ => False) ⟨h, g, s.drawn, tk, s.os⟩)
    (fin : ∀ m nx h g tk, Inv n m nx → Fr h₀ L h m → News h₀ L h (nx ++ news) → GOk s.gens g → R (.ok .next) ⟨h, g, s.drawn, tk, s.os⟩) :
    codeAny (model prog w) A (.forLoop target it body [] env) R s := by
  refine codeAny_forLoop_any (fun k s' => ∃ i m nx h g tk, s' = ⟨h, g, s.drawn, tk, s.os⟩ ∧ i ≤ n ∧ k = n - i ∧ Inv i m nx ∧ Fr h₀ L h m ∧ News h₀ L h (cells i ++ (nx ++ news)) ∧ (∀ p ∈ nx, ∀ q ∈ cells i, p.1 ≠ q.1) ∧ GOk s.gens g) ?_ n ⟨0, m₀, nx₀, s.heap, s.gens, s.toks, rfl, Nat.zero_le _, by omega, h0, F, N, hne₀, GOk.refl _⟩
  rintro k s' ⟨i, m, nx, h, g, tk, rfl, hi, rfl, hI, F', N', hn', hg⟩
  refine wpAny_mono (IT i h g _ tk _ m (nx ++ news) (fun v s₂ => wpAny (model prog w) A (assign target env v) (fun _ s₂ => wpAny (model prog w) A (execs body env) (fun f s₃ => LoopBack' n h₀ L s R news cells i Inv f s₃) (fun _ _ => False) s₂) (fun _ _ => False) s₂) (fun s₁ => R (.ok .next) s₁ ) _ hi F' N' (fun p hp => List.mem_append_right _ (hk p hp)) (fun p hp q hq => ?_)
    (fun v extra h' tk' hlt hP F₁ N₁ => wpAny_mono (turn i v extra m nx h' g tk' hlt hP hI F₁ N₁ hg) (fun _ s₂ h₂ => wpAny_mono h₂ (fun f s₃ h₃ => by cases f <;> first | exact ⟨hlt, h₃⟩ | exact h₃) fun _ _ z => z) fun _ _ z => z) (fun h' tk' he F₁ N₁ => ?_)) (fun r s₁ hr => ?_) fun _ _ z => z
  · rcases List.mem_append.mp hp with hp | hp
    · exact hn' p hp q hq
    · exact hne i p hp q hq
  · subst he
    exact fin m nx h' g tk' hI F₁ N₁ hg
  · cases r with
    | none =>
      show wpAny _ _ (execs [] env) _ _ _
      exact wpAny_pure hr
    | some v =>
      refine wpAny_mono hr (fun _ s₁ h₁ => wpAny_mono h₁ (fun _ s₂ h₂ => wpAny_mono h₂ (fun f s₃ h₃ => ?_) fun _ _ z => z.elim) fun _ _ z => z.elim) fun _ _ z => z
      have back : (∃ m' nx', Inv (i + 1) m' nx' ∧ Fr h₀ L s₃.heap m' ∧ News h₀ L s₃.heap (cells (i + 1) ++ (nx' ++ news)) ∧ (∀ p ∈ nx', ∀ q ∈ cells (i + 1), p.1 ≠ q.1) ∧ GOk s.gens s₃.gens ∧ s₃.drawn = s.drawn ∧ s₃.os = s.os) → i < n →
          ∃ k', k' < n - i ∧ ∃ i' m nx h g tk, s₃ = ⟨h, g, s.drawn, tk, s.os⟩ ∧ i' ≤ n ∧ k' = n - i' ∧ Inv i' m nx ∧ Fr h₀ L h m ∧ News h₀ L h (cells i' ++ (nx ++ news)) ∧ (∀ p ∈ nx, ∀ q ∈ cells i', p.1 ≠ q.1) ∧ GOk s.gens g := by
        rintro ⟨m', nx', a1, a2, a3, a4, a5, a6, a7⟩ hlt
        obtain ⟨h3, g3, d3, tk3, os3⟩ := s₃
        dsimp only at a6 a7
        subst a6 a7
        exact ⟨n - (i + 1), by omega, i + 1, m', nx', h3, g3, tk3, rfl, by omega, rfl, a1, a2, a3, a4, a5⟩
      cases f with
      | next => exact back h₃.2 h₃.1
      | cont => exact back h₃.2 h₃.1
      | brk => exact h₃
      | ret v => exact h₃
end
end Mine
end

section
open PySem PySem.W PyProof.Rows PySem.Calls PySem.Spec
set_option Elab.async false
set_option maxRecDepth 100000
set_option linter.unusedVariables false
namespace Mine
section
variable {prog : Program} {w : World} {A : Around} {E : Value → Shared → Prop} {s : Shared} {K : Frag} {C : Addr} {h₀ : Heap} {L : Addr}

def TurnBack (h₀ : Heap) (L : Addr) (s : Shared) (Q : Flow → Shared → Prop) (news : List (Addr × Obj)) (it l : Addr) (i : Nat) (Inv : Nat → (Str → Option Value) → List (Addr × Obj) → Prop) (f : Flow) (s₃ : Shared) : Prop := match f with
  | .next | .cont => ∃ m' nx', Inv (i + 1) m' nx' ∧ Fr h₀ L s₃.heap m' ∧ News h₀ L s₃.heap ((it, iterObj l (i + 1)) :: (nx' ++ news)) ∧ (∀ p ∈ nx', p.1 ≠ it) ∧ GOk s.gens s₃.gens ∧ s₃.drawn = s.drawn ∧ s₃.os = s.os
  | .brk => Q .next s₃
  | .ret v => Q (.ret v) s₃

theorem for_at {target : Expr} {body : List Stmt} {env : Env} {l : Addr} {ol : Obj} {vs : List Value} {n : Nat} {m₀ : Str → Option Value} {nx₀ news : List (Addr × Obj)} {Q : Flow → Shared → Prop} {E' : Value → Shared → Prop}
    (F : Fr h₀ L s.heap m₀) (N : News h₀ L s.heap (nx₀ ++ news)) (hol : (l, ol) ∈ news) (hdl : ol.data = .seq vs.toArray n) (hh : A.handled = none)
    (Inv : Nat → (Str → Option Value) → List (Addr × Obj) → Prop) (h0 : Inv 0 m₀ nx₀)
    (turn : ∀ it i v m nx h g tk, vs[i]? = some v → Inv i m nx → Fr h₀ L h m → News h₀ L h ((it, iterObj l (i + 1)) :: (nx ++ news)) → GOk s.gens g →
      wpAny (model prog w) A (assign target env v) (fun _ s₂ => wpAny (model prog w) A (execs body env) (TurnBack h₀ L s Q news it l i Inv) (fun _ _ => False) s₂) (fun _ _ => False) ⟨h, g, s.drawn, tk, s.os⟩)
    (fin : ∀ m nx h g tk, Inv vs.length m nx → Fr h₀ L h m → News h₀ L h (nx ++ news) → GOk s.gens g → Q .next ⟨h, g, s.drawn, tk, s.os⟩) :
    codeAny (model prog w) A (.forLoop target (.ref s.heap.objs.size) body [] env) (fun r s' => match r with | .ok f => Q f s' | .error e => E' e s')
      { s with heap := s.heap.push { cls := .type "list_iterator", data := .fields #[.ref l, .int 0 0] } } := by
  have below : ∀ p ∈ nx₀ ++ news, p.1 ≠ s.heap.objs.size := fun p hp => Nat.ne_of_lt (Heap.lt_size (N p hp).1)
  refine for_loop (s := { s with heap := s.heap.push { cls := .type "list_iterator", data := .fields #[.ref l, .int 0 0] } }) (iter_list (n := n) (ol := ol) hh hdl) Inv (m₀ := m₀) (nx₀ := nx₀) (news := news) (F.push _) (News.push F N (iterObj l 0)) (fun p hp => by rw [List.mem_singleton.mp hp]; exact hol)
    (fun i p hp q hq => by rw [List.mem_singleton.mp hq]; exact below p (List.mem_append_right _ hp)) (fun p hp q hq => by rw [List.mem_singleton.mp hq]; exact below p (List.mem_append_left _ hp)) h0
    (fun i v extra m nx h g tk hi hP hI F₁ N₁ hg => ?_) (fun m nx h g tk hI F₁ N₁ hg => fin m nx h g tk hI F₁ N₁ hg)
  obtain ⟨hv, rfl⟩ := hP
  refine wpAny_mono (turn s.heap.objs.size i v m nx h g tk hv hI F₁ N₁ hg) (fun _ s₂ h₂ => wpAny_mono h₂ (fun f s₃ h₃ => ?_) fun _ _ z => z.elim) fun _ _ z => z.elim
  have back : (∃ m' nx', Inv (i + 1) m' nx' ∧ Fr h₀ L s₃.heap m' ∧ News h₀ L s₃.heap ((s.heap.objs.size, iterObj l (i + 1)) :: (nx' ++ news)) ∧ (∀ p ∈ nx', p.1 ≠ s.heap.objs.size) ∧ GOk s.gens s₃.gens ∧ s₃.drawn = s.drawn ∧ s₃.os = s.os) →
      ∃ m' nx', Inv (i + 1) m' nx' ∧ Fr h₀ L s₃.heap m' ∧ News h₀ L s₃.heap ([(s.heap.objs.size, iterObj l (i + 1))] ++ (nx' ++ news)) ∧ (∀ p ∈ nx', ∀ q ∈ [(s.heap.objs.size, iterObj l (i + 1))], p.1 ≠ q.1) ∧ GOk s.gens s₃.gens ∧ s₃.drawn = s.drawn ∧ s₃.os = s.os := by
    rintro ⟨m', nx', a1, a2, a3, a4, a5⟩
    exact ⟨m', nx', a1, a2, a3, fun p hp q hq => by rw [List.mem_singleton.mp hq]; exact a4 p hp, a5⟩
  cases f with
  | next => exact back h₃
  | cont => exact back h₃
  | brk => exact h₃
  | ret v => exact h₃

theorem for_inst {target : Expr} {body : List Stmt} {cn x : Str} {cs : Scope} {a : Addr} {ccd : Value} {pos pos1 : Pos} {l d : Addr} {ol od : Obj} {vs : List Value} {n : Nat} {m₀ : Str → Option Value} {nx₀ news : List (Addr × Obj)} {Q : Flow → Shared → Prop}
    (X : K.In h₀) (hs : findIn K (.ref C) "__iter__" = some (some (.builtin "list.__iter__"))) (hmr : mroIn K C (.type "list") = some true)
    (F : Fr h₀ L s.heap m₀) (N : News h₀ L s.heap (nx₀ ++ news)) (hx : m₀ x = some (.ref l)) (hol : (l, ol) ∈ news) (hcl : ol.cls = .ref C) (hdi : ol.dict = some d) (hod : (d, od) ∈ news) (hdl : ol.data = .seq vs.toArray n) (hh : A.handled = none)
    (Inv : Nat → (Str → Option Value) → List (Addr × Obj) → Prop) (h0 : Inv 0 m₀ nx₀)
    (turn : ∀ it i v m nx h g tk, vs[i]? = some v → Inv i m nx → Fr h₀ L h m → News h₀ L h ((it, iterObj l (i + 1)) :: (nx ++ news)) → GOk s.gens g →
      wpAny (model prog w) A (assign target (envOf cn cs L a ccd) v) (fun _ s₂ => wpAny (model prog w) A (execs body (envOf cn cs L a ccd)) (TurnBack h₀ L s Q news it l i Inv) (fun _ _ => False) s₂) (fun _ _ => False) ⟨h, g, s.drawn, tk, s.os⟩)
    (fin : ∀ m nx h g tk, Inv vs.length m nx → Fr h₀ L h m → News h₀ L h (nx ++ news) → GOk s.gens g → Q .next ⟨h, g, s.drawn, tk, s.os⟩)
    (hk : cs.kind = .function := by rfl) (hlc : (envOf cn cs L a ccd).kindOf x = some .local := by rfl) (hdb : (x == ("__debug__" : Str)) = false := by decide) :
    wpAny (model prog w) A (exec (.For target (.Name x pos1) body [] pos) (envOf cn cs L a ccd)) Q E s := by
  refine wpAny_For (ld F hx ?_ hk hlc hdb)
  have I : InstAt s.heap l ol C (some od) := ⟨N.get (List.mem_append_right _ hol), hcl, by unfold notCls; rw [hdl], by rw [hdi]; exact N.get (List.mem_append_right _ hod)⟩
  exact iter_inst (X.keeps F.keep) I hs hmr (for_at F N hol hdl hh Inv h0 turn fin)

theorem for_list {target : Expr} {body : List Stmt} {cn x : Str} {cs : Scope} {a : Addr} {ccd : Value} {pos pos1 : Pos} {l : Addr} {ol : Obj} {vs : List Value} {n : Nat} {m₀ : Str → Option Value} {nx₀ news : List (Addr × Obj)} {Q : Flow → Shared → Prop}
    (F : Fr h₀ L s.heap m₀) (N : News h₀ L s.heap (nx₀ ++ news)) (hx : m₀ x = some (.ref l)) (hol : (l, ol) ∈ news) (hcl : ol.cls = .type "list") (hdl : ol.data = .seq vs.toArray n) (hh : A.handled = none)
    (Inv : Nat → (Str → Option Value) → List (Addr × Obj) → Prop) (h0 : Inv 0 m₀ nx₀)
    (turn : ∀ it i v m nx h g tk, vs[i]? = some v → Inv i m nx → Fr h₀ L h m → News h₀ L h ((it, iterObj l (i + 1)) :: (nx ++ news)) → GOk s.gens g →
      wpAny (model prog w) A (assign target (envOf cn cs L a ccd) v) (fun _ s₂ => wpAny (model prog w) A (execs body (envOf cn cs L a ccd)) (TurnBack h₀ L s Q news it l i Inv) (fun _ _ => False) s₂) (fun _ _ => False) ⟨h, g, s.drawn, tk, s.os⟩)
    (fin : ∀ m nx h g tk, Inv vs.length m nx → Fr h₀ L h m → News h₀ L h (nx ++ news) → GOk s.gens g → Q .next ⟨h, g, s.drawn, tk, s.os⟩)
    (hk : cs.kind = .function := by rfl) (hlc : (envOf cn cs L a ccd).kindOf x = some .local := by rfl) (hdb : (x == ("__debug__" : Str)) = false := by decide) :
    wpAny (model prog w) A (exec (.For target (.Name x pos1) body [] pos) (envOf cn cs L a ccd)) Q E s := by
  refine wpAny_For (ld F hx ?_ hk hlc hdb)
  exact wpAny_pyIter_list (items := vs.toArray) ⟨ol, N.get (List.mem_append_right _ hol), hcl, n, hdl⟩ (for_at F N hol hdl hh Inv h0 turn fin)
end
end Mine
end

section
open PySem PySem.W PyProof.Rows PySem.Calls PySem.Spec
set_option Elab.async false
set_option maxRecDepth 100000
set_option linter.unusedVariables false
namespace Mine
theorem canon_list_ga : (Manifest.canonical "list.__getattribute__" != "object.__getattribute__") = false := by decide +kernel
section
variable {prog : Program} {w : World} {A : Around} {E : Value → Shared → Prop} {s : Shared} {K : Frag} {x C L : Addr} {h₀ : Heap} {m : Str → Option Value} {ox : Obj} {od : Option Obj} {es : List DictEntry} {n : Nat} {name : Str}

theorem method_seq {pl : Sem Bool} {Q : Value × List Value → Shared → Prop} {f : Addr} (F : Fr h₀ L s.heap m) (X₀ : K.In h₀) (I : InstAt s.heap x ox C (some (W.dictOf es n)))
    (hga : findIn K (.ref C) "__getattribute__" = some (some (.builtin "list.__getattribute__"))) (hk : findIn K (.ref C) "__getattr__" = some none)
    (hf : findIn K (.ref C) name = some (some (.ref f))) (ht : typeIn K (.ref f) = some (.type "function")) (hl : getL name es = some none) (h : Q (.ref f, [.ref x]) s) : wpAny (model prog w) A (getMethod (.ref x) name pl) Q E s := by
  have X := X₀.keeps F.keep
  have hcan := canon_list_ga
  unfold getMethod specialOf
  refine wpAny_bind (wpAny_bind (I.type.here ((looks_findIn X hga).here ?_)))
  dsimp only
  rw [hcan, if_neg (by decide)]
  refine wpAny_bind (wpAny_bind (I.type.here ((looks_findIn X hk).here ?_)))
  refine wpAny_bind (wpAny_bind (I.type.here ((looks_findIn X hf).here (wpAny_bind ((looks_typeIn X ht).here ?_)))))
  rw [if_neg (by decide +kernel)]
  refine wpAny_bind (wpAny_loadPart I.at_ ?_)
  have hd := I.dict
  cases e : ox.dict with
  | none => exact wpAny_bind (wpAny_rule (wpAny_pure h))
  | some dx =>
    rw [e] at hd
    refine wpAny_bind (wpAny_bind (wpAny_loadPart hd ?_))
    have a : lookIn name (W.dictOf es n) = some none := by rw [lookIn_dict, hl]
    rw [nsLook_of a]
    refine wpAny_pure ?_
    exact wpAny_bind (wpAny_rule (wpAny_pure h))
end
theorem inst_seq {h₀ h : Heap} {L x C dx : Addr} {news : List (Addr × Obj)} {od : Obj} {its : Array Value} {n : Nat} {sl : Array (Option Value)} (N : News h₀ L h news) (h1 : (x, (⟨.ref C, some dx, .seq its n, sl⟩ : Obj)) ∈ news) (h2 : (dx, od) ∈ news) :
    InstAt h x ⟨.ref C, some dx, .seq its n, sl⟩ C (some od) := ⟨(N _ h1).1, rfl, rfl, (N _ h2).1⟩
theorem Fr.as {h₀ h : Heap} {L : Addr} {m m' : Str → Option Value} (F : Fr h₀ L h m) (e : m = m') : Fr h₀ L h m' := e ▸ F
end Mine
end

section
open PySem PySem.W PyProof.Rows PySem.Calls PySem.Spec
set_option Elab.async false
set_option maxRecDepth 100000
set_option maxHeartbeats 0
set_option linter.unusedVariables false
namespace Mine
def norm (x : Str) : Str := Txt.replace (Txt.lower x) (Str.ofString "_") (Str.ofString "-")
def fit0 (x y : Str) : Int := if x == Str.ofString "*" then 0 else if norm x == norm y then 1 else -1
def mainT (x : Str) : Str := (Txt.split (Txt.replace x (Str.ofString "_") (Str.ofString "-")) (Str.ofString "-")).headD (Str.ofString "")
theorem fit_0 : ∀ {w : World} {news : List (Addr × Obj)} (k : Int) (u : Tok) (x y : Str) (t1 t2 : Tok) (hk1 : k ≠ 1) (hx : x.length ≤ 300) (hy : y.length ≤ 300), Spec w 900 9000 (.ref 405) [.int k u, .str x t1, .str y t2] news (fun v tl => (∃ t, v = .int (fit0 x y) t) ∧ tl = []) := by
  unfold Spec
  w_top off
  k_fill
  intro w news k u x y t1 t2 hk1 hx hy mean mg mb gd cn cs a ccd cl outer A₀ base h₀ L m s Q E B F X N T hk ret
  refine wpAny_call ?_
  k_dflt ktr_enter
  rename Fr _ _ _ _ => F1
  replace F1 := Fr.as F1 (m' := fun z9 => List.lookup z9 [(Str.ofString "offer", .str y t2), (Str.ofString "wish", .str x t1), (Str.ofString "kind", .int k u)]) rfl
  iterate 8 (first | (k_unfold; (try dsimp only)) | walk1 | (dsimp only; walk1))
  · k_steps
    all_goals (
      refine ret _ [] _ _ _ ⟨⟨_, congrArg (fun z => Value.int z _) ?v⟩, rfl⟩ ?f ?n (fun _ _ _ h9 => nomatch h9) ?g
      case f => k_asm
      case n => (simp only [List.nil_append]; k_asm)
      case g => exact GOk.refl _
      case v => (unfold fit0 norm; simp_all))
  · exfalso
    first | omega | simp_all
def MainTOk (x : Str) : Prop := x.length ≤ 300 ∧ (Txt.replace x (Str.ofString "_") (Str.ofString "-")).length ≤ 300 ∧ ∃ rs, Txt.split (Txt.replace x (Str.ofString "_") (Str.ofString "-")) (Str.ofString "-") = mainT x :: rs ∧ rs.length ≤ 300
/-- a contract of a call that leaves the generators alone -/
def Spec0 (w : World) (D U : Nat) (f : Value) (args : List Value) (news : List (Addr × Obj)) (R : Value → List (Addr × Obj) → Prop) : Prop :=
  ∀ (mean : ExcName → Option Value) (mg mb : Str → Option Value) (gd : Option (List Code)) (cn : Str) (cs : Scope) (a : Addr) (ccd : Value) (cl : List (Str × Addr)) (outer : List Env) (A₀ : Around) (base h₀ : Heap) (L : Addr) (m : Str → Option Value) (s : Shared) (Q E : Value → Shared → Prop),
    Below A₀ base outer h₀ → Fr h₀ L s.heap m → (hd.heap_39 w.params).In h₀ → News h₀ L s.heap news → Top topProg looseL mean mg mb h₀ → cs.kind = .function →
    (∀ v tl h' tk', R v tl → Fr h₀ L h' m → News h₀ L h' (tl ++ news) → (∀ p ∈ news, ∀ q ∈ tl, p.1 < q.1) → Q v ⟨h', s.gens, s.drawn, tk', s.os⟩) →
    wpAny (model PySem.Challenge.rw_eq0045_01.row.prog w) (ktrTop D U gd cn cs L a ccd cl outer) (call f args) Q E s
theorem spec0_use {w : World} {D U dp un : Nat} {f : Value} {args : List Value} {news : List (Addr × Obj)} {R : Value → List (Addr × Obj) → Prop} {mean : ExcName → Option Value} {mg mb : Str → Option Value} {gd : Option (List Code)} {cn : Str} {cs : Scope} {a : Addr} {ccd : Value} {cl : List (Str × Addr)} {outer : List Env} {A₀ : Around} {base h₀ : Heap} {L : Addr} {m : Str → Option Value} {s : Shared} {Q E : Value → Shared → Prop}
    (S : Spec0 w D U f args news R) (B : Below A₀ base outer h₀) (F : Fr h₀ L s.heap m) (X : (hd.heap_39 w.params).In h₀) (N : News h₀ L s.heap news) (T : Top topProg looseL mean mg mb h₀) (hk : cs.kind = .function) (hd : dp ≤ D) (hu : un ≤ U)
    (k : ∀ v tl h' tk', R v tl → Fr h₀ L h' m → News h₀ L h' (tl ++ news) → (∀ p ∈ news, ∀ q ∈ tl, p.1 < q.1) → Q v ⟨h', s.gens, s.drawn, tk', s.os⟩) :
    wpAny (model PySem.Challenge.rw_eq0045_01.row.prog w) (ktrTop dp un gd cn cs L a ccd cl outer) (call f args) Q E s :=
  wpAny_deep (S mean mg mb gd cn cs a ccd cl outer A₀ base h₀ L m s Q E B F X N T hk k) hd hu
theorem main_0 : ∀ {w : World} {news : List (Addr × Obj)} (x : Str) (t1 : Tok) (ok : MainTOk x), Spec0 w 900 9000 (.ref 426) [.str x t1] news (fun v tl => (∃ t, v = .str (mainT x) t) ∧ tl = []) := by
  unfold Spec0
  k_fill
  intro w news x t1 ok mean mg mb gd cn cs a ccd cl outer A₀ base h₀ L m s Q E B F X N T hk ret
  obtain ⟨hx, hr, rs, hrs, hrl⟩ := ok
  refine wpAny_call ?_
  k_dflt ktr_enter
  rename Fr _ _ _ _ => F1
  replace F1 := Fr.as F1 (m' := fun z9 => List.lookup z9 [(Str.ofString "tag", .str x t1)]) rfl
  k_steps
  rename List.map _ _ = _ => hl9
  rename _ = some _ => hy9
  rw [hl9, hrs] at hy9
  cases hy9
  refine ret _ [] _ _ ⟨⟨_, rfl⟩, rfl⟩ (by k_asm) ?n (fun _ _ _ h9 => nomatch h9)
  simp only [List.nil_append]
  exact News.sub (by with_reducible assumption) (fun p9 h9 => List.mem_cons_of_mem _ h9)
end Mine
end

section
open PySem PySem.W PyProof.Rows PySem.Calls PySem.Spec
set_option Elab.async false
set_option maxRecDepth 100000
set_option maxHeartbeats 0
set_option linter.unusedVariables false
namespace Mine
local macro_rules | `(tactic| walk_at "eval Dict") => `(tactic| (k_here; k_dflt (refine' kdn_str ?q ?F ?N ?b ?a ?l ?e ?n ?_; (case q => rfl); (case F => k_asm); (case N => first | k_asm | exact News.nil); (case b => exact Top.nolimit (by k_asm)); (case a => rfl); (case l => rfl); (case e => exact List.cons_ne_nil _ _); (case n => exact Nat.le_of_ble_eq_true rfl)); intro d' h' o' F' N' l1 lo' hd'; (try k_lt l1)))
abbrev T3 (m s l : Str) (t u z : Tok) : Obj := ⟨.type "tuple", none, .seq #[.str m t, .str s u, .str l z] 0, #[]⟩
def typeTab : List (Str × Str × Str × Str) := [(Str.ofString "text/html", Str.ofString "text", Str.ofString "html", Str.ofString ""),
  (Str.ofString "Text/HTML ;level=1", Str.ofString "text", Str.ofString "html", Str.ofString "1"),
  (Str.ofString "text/*", Str.ofString "text", Str.ofString "*", Str.ofString ""),
  (Str.ofString "*/*", Str.ofString "*", Str.ofString "*", Str.ofString ""),
  (Str.ofString "image/png", Str.ofString "image", Str.ofString "png", Str.ofString ""),
  (Str.ofString "*/html", Str.ofString "none", Str.ofString "none", Str.ofString ""),
  (Str.ofString "text/plain", Str.ofString "text", Str.ofString "plain", Str.ofString ""),
  (Str.ofString "text/html; level=1", Str.ofString "text", Str.ofString "html", Str.ofString "1"),
  (Str.ofString "text/html;Level=2", Str.ofString "text", Str.ofString "html", Str.ofString "2"),
  (Str.ofString "text/HTML; level=2", Str.ofString "text", Str.ofString "html", Str.ofString "2")]
theorem types_0 : ∀ {w : World} {news : List (Addr × Obj)}, Spec w 900 9000 (.ref 398) [] news (fun v tl => ∃ d o kvs, v = .ref d ∧ (d, o) ∈ tl ∧ Obj.IsDictOf (PySem.strKind PySem.Challenge.rw_eq0045_01.row.prog w) o kvs ∧ ∀ r ∈ typeTab, ∃ a t u z, valueAt kvs r.1 = some (.ref a) ∧ (a, T3 r.2.1 r.2.2.1 r.2.2.2 t u z) ∈ tl) := by
  unfold Spec
  w_top off
  k_fill
  intro w news mean mg mb gd cn cs a ccd cl outer A₀ base h₀ L m s Q E B F X N T hk ret
  refine wpAny_call ?_
  k_dflt ktr_enter
  k_steps
  rename ∀ p ∈ news, _ => l9
  with_reducible rename News h₀ L _ _ => n9
  refine ret _ [(_, _), (_, _), (_, _), (_, _), (_, _), (_, _), (_, _), (_, _), (_, _), (_, _), (_, _)] _ _ _ ?v (by k_asm) n9 ?l (GOk.refl _)
  case v =>
   refine' ⟨_, _, _, rfl, ?dm, ?di, ?rows⟩
   case di => with_reducible assumption
   case dm => (repeat (first | exact .head _ | apply List.Mem.tail))
   case rows =>
    intro r hr
    unfold typeTab at hr
    (repeat (rcases List.mem_cons.mp hr with hr | hr; (subst hr; exact ⟨_, _, _, _, rfl, by repeat (first | exact .head _ | apply List.Mem.tail)⟩)))
    cases hr
  case l =>
    intro p9 hp9 q9 hq9
    have h0 : @LT.lt Nat _ p9.1 _ := l9 p9 hp9
    simp only [List.mem_cons, List.not_mem_nil, or_false] at hq9
    rcases hq9 with rfl | rfl | rfl | rfl | rfl | rfl | rfl | rfl | rfl | rfl | rfl
    all_goals (show @LT.lt Nat _ _ _; dsimp only; omega)
end Mine
end

section
open PySem PySem.W PyProof.Rows PySem.Calls PySem.Spec
set_option Elab.async false
set_option maxRecDepth 100000
set_option maxHeartbeats 0
set_option linter.unusedVariables false
namespace Mine
local macro_rules | `(tactic| walk_at "none 0") => `(tactic| fail)

theorem Strs.one {vs : List Value} {a : Str} (h : Strs vs [a]) : ∃ t, vs = [.str a t] := by
  cases h with | cons h => cases h; exact ⟨_, rfl⟩
theorem Strs.two {vs : List Value} {a b : Str} (h : Strs vs [a, b]) : ∃ t u, vs = [.str a t, .str b u] := by
  cases h with | cons h => cases h with | cons h => cases h; exact ⟨_, _, rfl⟩
theorem Strs.three {vs : List Value} {a b c : Str} (h : Strs vs [a, b, c]) : ∃ t u z, vs = [.str a t, .str b u, .str c z] := by
  cases h with | cons h => cases h with | cons h => cases h with | cons h => cases h; exact ⟨_, _, _, rfl⟩
theorem st_canLayAll0 : ∀ ns : List Str, ns.all PyData.strOk = true → PyData.canLayAll0 (ns.map PyData.str) = true
  | [], _ => rfl
  | _ :: r, h => by
    simp only [List.all_cons, Bool.and_eq_true] at h
    simp [PyData.canLayAll0, PyData.canLay0, st_canLayAll0 r h.2, h.1]
theorem st_depthAll : ∀ ns : List Str, PyData.depthAll (ns.map PyData.str) = 0
  | [] => rfl
  | _ :: r => by simp [PyData.depthAll, PyData.depth, st_depthAll r]
theorem st_shaped (ns : List Str) (h : ns.all PyData.strOk = true) : SeqAt.shaped (.list (ns.map PyData.str)) = true := by
  simp [SeqAt.shaped, PyData.canLay0, PyData.depth, st_canLayAll0 _ h, st_depthAll]
theorem st_sameAll : ∀ ns ms : List Str, PySem.Spec.sameAll (ns.map PyData.str) (ms.map PyData.str) = decide (ns = ms)
  | [], [] => by simp [PySem.Spec.sameAll]
  | [], _ :: _ => by simp [PySem.Spec.sameAll]
  | _ :: _, [] => by simp [PySem.Spec.sameAll]
  | a :: r, b :: t => by
    simp only [List.map_cons, PySem.Spec.sameAll, PySem.Spec.same, st_sameAll r t]
    by_cases h : a = b <;> by_cases h' : r = t <;> simp [h, h']
theorem st_same (ns ms : List Str) : PySem.Spec.same (.list (ns.map PyData.str)) (.list (ms.map PyData.str)) = decide (ns = ms) := by
  simp only [PySem.Spec.same]; exact st_sameAll ns ms
theorem st_carried : ∀ {vs : List Value} {ns : List Str}, Strs vs ns → CarriedAll vs (ns.map PyData.str)
  | _, _, .nil => .nil
  | _, _, .cons r => .cons (.str _ _) (st_carried r)
theorem st_eq {prog : Program} {w : World} {A : Around} {E : Value → Shared → Prop} {s : Shared} {a b : Addr} {xs ys : List Value} {ns ms : List Str} {Q : Value → Shared → Prop} {h₀ : Heap} {L : Addr} {news : List (Addr × Obj)} {n n' : Nat} (N : News h₀ L s.heap news)
    (ha : (a, W.listOf xs.toArray n) ∈ news) (hb : (b, W.listOf ys.toArray n') ∈ news) (hi : Strs xs ns) (hj : Strs ys ms) (oi : ns.all PyData.strOk = true) (oj : ms.all PyData.strOk = true) (hu : A.units + 64 < cLine) (h : Q (.bool (decide (ns = ms))) s) :
    wpAny (model prog w) A (compareOp .Eq (.ref a) (.ref b)) Q E s :=
  eq_dataH_same (reads_newData (News.isList N ha) (st_carried hi)) (reads_newData (News.isList N hb) (st_carried hj)) (st_shaped _ oi) (st_shaped _ oj) hu (SeqAt.noMix_of_shape (.list .str) rfl _ _ (list_map_has fun _ => rfl) (list_map_has fun _ => rfl)) (by rw [st_same]; exact h)
local macro_rules | `(tactic| k_mem) => `(tactic| first | (with_reducible assumption) | assumption)
local macro_rules | `(tactic| k_inst) => `(tactic| (refine' inst_seq ?N ?h1 ?h2; (case N => k_asm); (case h1 => k_mem); (case h2 => k_mem)))
local macro_rules | `(tactic| walk_at "getMethod ref") => `(tactic| (k_here; k_dflt (refine' method_seq ?k1 ?k2 ?k3 ?k4 ?k5 ?k6 ?k7 ?k8 ?_; (case k1 => k_asm); (case k2 => k_asm); (case k3 => k_inst); (case k4 => k_is); (case k5 => k_is); (case k6 => k_is); (case k7 => k_is); (case k8 => k_get); k_whole)))
local macro_rules | `(tactic| k_asm) => `(tactic| ((with_reducible show GOk _ _); first | exact GOk.refl _ | (intro x9; solve_by_elim)))
local macro_rules | `(tactic| k_asm) => `(tactic| ((with_reducible show News _ _ _ _); first | (with_reducible assumption) | (refine News.sub (by with_reducible assumption) (fun p9 h9 => ?_); (repeat (first | exact h9 | apply List.mem_cons_of_mem | apply List.mem_append_right)); done) | (refine News.sub (by assumption) (fun p9 h9 => ?_); (repeat (first | exact h9 | apply List.mem_cons_of_mem | apply List.mem_append_right)); done)))

local macro_rules | `(tactic| walk_at "compareOp Eq ref ref") => `(tactic| (k_here; (with_reducible show wpAny _ _ (compareOp CmpOp.Eq (Value.ref _) (Value.ref _)) _ _ _); k_dflt (refine st_eq (by k_asm) (by k_mem) (by k_mem) (by assumption) (by assumption) (by assumption) (by assumption) (by ke_room) ?_)))
local macro_rules | `(tactic| walk_at "call ref") => `(tactic| (
  k_here
  (with_reducible show wpAny _ _ (call (Value.ref 356) _ _) _ _ _)
  k_dflt (refine' spec_use (norm_lang _ _ _ ?k1 ?k2 ?k3) ?kB ?kF ?kX ?kN ?kT ?kK ?kD ?kU ?_)
  (case k2 => assumption)
  (case k1 => assumption)
  (case k3 => assumption)
  (case kB => k_asm)
  (case kF => k_asm)
  (case kX => k_asm)
  (case kN => k_asm)
  (case kT => k_asm)
  (case kK => rfl)
  (case kD => exact Nat.le_of_ble_eq_true rfl)
  (case kU => exact Nat.le_of_ble_eq_true rfl)
  k_whole
  (intro v tl h' g' tk' hR F' N' hlt hg)
  (obtain ⟨l9, vs9, e0, e1, e2⟩ := hR)
  subst e1
  subst e2
  (simp only [List.nil_append, List.cons_append] at N')
  (replace hlt := fun p hp => hlt p hp _ List.mem_cons_self)
  try k_lt hlt
  try k_sweep))
theorem vm2 : ∀ {w : World} {news : List (Addr × Obj)} (self : Value) (x y : Str) (t1 t2 : Tok) (px py : List Str) (hx : x.length ≤ 300) (hsx : splitStr langCode (Txt.lower x) 0 = some px) (hpx : px.length ≤ 1000) (hox : px.all PyData.strOk = true) (hy : y.length ≤ 300) (hsy : splitStr langCode (Txt.lower y) 0 = some py) (hpy : py.length ≤ 1000) (hoy : py.all PyData.strOk = true), Spec w 850 8500 (.ref 371) [self, .str x t1, .str y t2] news (fun v tl => v = .bool (y == Str.ofString "*" || decide (px = py)) ∧ tl = []) := by
  unfold Spec
  w_top off
  k_fill
  intro w news self x y t1 t2 px py hx hsx hpx hox hy hsy hpy hoy mean mg mb gd cn cs a ccd cl outer A₀ base h₀ L m s Q E B F X N T hk ret
  refine wpAny_call ?_
  k_dflt ktr_enter
  k_steps
  all_goals (
    refine ret _ [] _ _ _ ⟨?v, rfl⟩ ?f ?n (fun _ _ _ h9 => nomatch h9) ?g
    case f => k_asm
    case n => (simp only [List.nil_append]; k_asm)
    case g => k_asm
    case v => simp_all)
end Mine
end

section
open PySem PySem.W PyProof.Rows PySem.Calls PySem.Spec
set_option Elab.async false
set_option maxRecDepth 100000
set_option maxHeartbeats 0
set_option linter.unusedVariables false
namespace Mine
/-- the wishes that an object holds -/
def Pairs (news : List (Addr × Obj)) : List Value → List (Str × Int) → Prop
  | [], [] => True
  | v :: vs, p :: ps => (∃ a t u n, v = .ref a ∧ (a, (⟨.type "tuple", none, .seq #[.str p.1 t, .int p.2 u] n, #[]⟩ : Obj)) ∈ news) ∧ Pairs news vs ps
  | _, _ => False
theorem Pairs.len {news : List (Addr × Obj)} : ∀ {vs : List Value} {ps : List (Str × Int)}, Pairs news vs ps → vs.length = ps.length
  | [], [], _ => rfl
  | _ :: _, _ :: _, h => congrArg (· + 1) (Pairs.len h.2)
  | [], _ :: _, h => h.elim
  | _ :: _, [], h => h.elim
theorem Pairs.at {news : List (Addr × Obj)} : ∀ {vs : List Value} {ps : List (Str × Int)} {i : Nat} {v : Value}, Pairs news vs ps → vs[i]? = some v →
    ∃ p a t u n, ps[i]? = some p ∧ v = .ref a ∧ (a, (⟨.type "tuple", none, .seq #[.str p.1 t, .int p.2 u] n, #[]⟩ : Obj)) ∈ news
  | _ :: _, p :: _, 0, _, h, e => by
    obtain ⟨a, t, u, n, rfl, hm⟩ := h.1
    simp only [List.getElem?_cons_zero, Option.some.injEq] at e
    exact ⟨p, a, t, u, n, rfl, e.symm, hm⟩
  | _ :: _, _ :: _, i + 1, _, h, e => by
    simp only [List.getElem?_cons_succ] at e ⊢
    exact Pairs.at h.2 e
  | [], [], _, _, _, e => by simp at e
  | [], _ :: _, _, _, h, _ => h.elim
  | _ :: _, [], _, _, h, _ => h.elim
theorem Pairs.mono {news news' : List (Addr × Obj)} (k : ∀ p ∈ news, p ∈ news') : ∀ {vs : List Value} {ps : List (Str × Int)}, Pairs news vs ps → Pairs news' vs ps
  | [], [], _ => trivial
  | _ :: _, _ :: _, h => ⟨let ⟨a, t, u, n, e, hm⟩ := h.1; ⟨a, t, u, n, e, k _ hm⟩, Pairs.mono k h.2⟩
  | [], _ :: _, h => h.elim
  | _ :: _, [], h => h.elim
def firstM (M : Str → Bool) (ws : List (Str × Int)) : Option (Str × Int) := ws.find? fun p => M p.1
def upd2 (a b : Str) (o1 o2 : Option Value) (m₀ : Str → Option Value) : Str → Option Value := fun y => if y = b then o2 else if y = a then o1 else m₀ y
theorem upd2_in (a b : Str) (m₀ : Str → Option Value) : m₀ = upd2 a b (m₀ a) (m₀ b) m₀ := by
  funext y; unfold upd2
  split
  · rename_i h; rw [h]
  · split
    · rename_i h; rw [h]
    · rfl
theorem upd2_step (a b : Str) (o1 o2 v1 v2 : Option Value) (m₀ : Str → Option Value) : (fun y => if y = b then v2 else if y = a then v1 else upd2 a b o1 o2 m₀ y) = upd2 a b v1 v2 m₀ := by
  funext y; unfold upd2
  split
  · rfl
  · split
    · rfl
    · rfl
theorem find_none_upto {M : Str → Bool} {ws : List (Str × Int)} (h : ∀ j p, j < ws.length → ws[j]? = some p → M p.1 = false) : firstM M ws = none := by
  unfold firstM
  rw [List.find?_eq_none]
  intro p hp
  obtain ⟨j, hj, e⟩ := List.getElem_of_mem hp
  have := h j p hj (by rw [List.getElem?_eq_getElem hj, e])
  simp [this]
theorem find_at {M : Str → Bool} : ∀ {ws : List (Str × Int)} {i : Nat} {p : Str × Int}, (∀ j q, j < i → ws[j]? = some q → M q.1 = false) → ws[i]? = some p → M p.1 = true → firstM M ws = some p
  | [], i, p, _, e, _ => by simp at e
  | r :: ws, 0, p, _, e, hm => by
    simp only [List.getElem?_cons_zero, Option.some.injEq] at e
    subst e
    unfold firstM
    simp [List.find?_cons, hm]
  | r :: ws, i + 1, p, h, e, hm => by
    have h0 : M r.1 = false := h 0 r (Nat.succ_pos _) rfl
    have := find_at (ws := ws) (i := i) (p := p) (fun j q hj hq => h (j + 1) q (Nat.succ_lt_succ hj) hq) e hm
    unfold firstM at this ⊢
    simp only [List.find?_cons, h0]
    exact this
theorem News.sub1 {h₀ h : Heap} {L D : Addr} {o : Obj} {rest news : List (Addr × Obj)} (N : News h₀ L h ((D, o) :: rest)) (k : ∀ p ∈ news, p ∈ rest) : News h₀ L h ([(D, o)] ++ news) := fun p hp => by
  rcases List.mem_cons.mp hp with rfl | hp
  · exact N _ List.mem_cons_self
  · exact N p (List.mem_cons_of_mem _ (k p hp))
theorem allLt_mem {d : Nat} {l : List (Addr × Obj)} (h : AllLt d l) : ∀ p ∈ l, p.1 < d := by
  induction l with
  | nil => intro p hp; exact absurd hp List.not_mem_nil
  | cons q l ih =>
    intro p hp
    have h1 := h.1
    have h2 := h.2
    rcases List.mem_cons.mp hp with e | hp
    · rw [e]; exact h1
    · exact ih h2 p hp
theorem Spec.weak {w : World} {D U D' U' : Nat} {f : Value} {args : List Value} {news : List (Addr × Obj)} {R : Value → List (Addr × Obj) → Prop} (S : Spec w D U f args news R) (hd : D' ≤ D) (hu : U' ≤ U) : Spec w D' U' f args news R :=
  fun mean mg mb gd cn cs a ccd cl outer A₀ base h₀ L m s Q E B F X N T hk k => spec_use S B F X N T hk hd hu k
/-- what is asked of a class, that the searching methods serve it -/
structure ClsOk (w : World) (C fm : Addr) (M : Str → Str → Bool) (Ok : Str → Str → Prop) : Prop where
  ga : findIn (hd.heap_39 w.params) (.ref C) "__getattribute__" = some (some (.builtin "list.__getattribute__"))
  gt : findIn (hd.heap_39 w.params) (.ref C) "__getattr__" = some none
  it : findIn (hd.heap_39 w.params) (.ref C) "__iter__" = some (some (.builtin "list.__iter__"))
  mr : mroIn (hd.heap_39 w.params) C (.type "list") = some true
  fv : findIn (hd.heap_39 w.params) (.ref C) (Str.ofString "_value_matches") = some (some (.ref fm))
  tv : typeIn (hd.heap_39 w.params) (.ref fm) = some (.type "function")
  kv : keepIn (hd.heap_39 w.params) (.ref fm) = true
  bs : findIn (hd.heap_39 w.params) (.ref C) (Str.ofString "_best_single_match") = some (some (.ref 261))
  qu : findIn (hd.heap_39 w.params) (.ref C) (Str.ofString "quality") = some (some (.ref 205))
  ix : findIn (hd.heap_39 w.params) (.ref C) (Str.ofString "index") = some (some (.ref 226))
  vm : ∀ {news : List (Addr × Obj)} (self : Value) (x y : Str) (t1 t2 : Tok) (ok : Ok x y), Spec w 850 8500 (.ref fm) [self, .str x t1, .str y t2] news (fun v tl => v = .bool (M x y) ∧ tl = [])
section
local macro_rules | `(tactic| walk_at "none 0") => `(tactic| fail)
local macro_rules | `(tactic| walk_at "none 1") => `(tactic| fail)
local macro_rules | `(tactic| k_mem) => `(tactic| first | (with_reducible assumption) | assumption)
local macro_rules | `(tactic| k_inst) => `(tactic| (refine' inst_seq ?N ?h1 ?h2; (case N => k_asm); (case h1 => k_mem); (case h2 => k_mem)))
local macro_rules | `(tactic| walk_at "getMethod ref") => `(tactic| (k_here; k_dflt (refine' method_seq ?k1 ?k2 ?k3 ?k4 ?k5 ?k6 ?k7 ?k8 ?_; (case k1 => k_asm); (case k2 => k_asm); (case k3 => k_inst); (case k4 => with_reducible assumption); (case k5 => with_reducible assumption); (case k6 => with_reducible assumption); (case k7 => first | (with_reducible assumption) | k_is); (case k8 => k_get); k_whole)))
local macro_rules | `(tactic| walk_at "callWith ref") => `(tactic| (k_here; k_dflt (refine' callWith_K ?k1 ?k2 ?_; (case k1 => k_asm); (case k2 => with_reducible assumption); k_whole)))
local macro_rules | `(tactic| k_asm) => `(tactic| ((with_reducible show GOk _ _); first | exact GOk.refl _ | (intro x9; solve_by_elim)))
local macro_rules | `(tactic| k_asm) => `(tactic| ((with_reducible show News _ _ _ _); first | (with_reducible assumption) | (refine News.sub (by with_reducible assumption) (fun p9 h9 => ?_); (repeat (first | exact h9 | apply List.mem_cons_of_mem | apply List.mem_append_right)); done) | (refine News.sub (by assumption) (fun p9 h9 => ?_); (repeat (first | exact h9 | apply List.mem_cons_of_mem | apply List.mem_append_right)); done)))
local macro_rules | `(tactic| walk_at "call ref") => `(tactic| (
  k_here
  (with_reducible show wpAny _ _ (call (Value.ref _) [_, Value.str _ _, Value.str _ _] _) _ _ _)
  k_dflt (refine' spec_use (ClsOk.vm ?kH _ _ _ _ _ ?k1) ?kB ?kF ?kX ?kN ?kT ?kK ?kD ?kU ?_)
  (case kH => with_reducible assumption)
  (case kB => k_asm)
  (case kF => k_asm)
  (case kX => k_asm)
  (case kN => k_asm)
  (case kT => k_asm)
  (case k1 => with_reducible assumption)
  (case kK => rfl)
  (case kD => exact Nat.le_of_ble_eq_true rfl)
  (case kU => exact Nat.le_of_ble_eq_true rfl)
  k_whole
  (intro v tl h' g' tk' hR F' N' hlt hg)
  (obtain ⟨e1, e2⟩ := hR)
  subst e1
  subst e2
  (simp only [List.nil_append] at N')
  clear hlt
  try k_sweep))
theorem quality_G : ∀ {w : World} {news : List (Addr × Obj)} {C fm : Addr} {M : Str → Str → Bool} {Ok : Str → Str → Prop} (hC : ClsOk w C fm M Ok) (self d : Addr) (vs : List Value) (n : Nat) (hh : Int) (tt : Tok) (pv : Value) (ws : List (Str × Int)) (x : Str) (t1 : Tok) (hself : (self, (⟨.ref C, some d, .seq vs.toArray n, #[]⟩ : Obj)) ∈ news) (hdd : (d, W.dictOf [⟨hh, .str (Str.ofString "provided") tt, pv⟩] 1) ∈ news) (hp : Pairs news vs ws) (hw : ∀ p ∈ ws, Ok x p.1), Spec w 800 8000 (.ref 205) [.ref self, .str x t1] news (fun v tl => (match firstM (M x) ws with | some q => (∃ t, v = .int q.2 t) ∧ tl = [] | none => (∃ t, v = .int 0 t) ∧ tl = [])) := by
  unfold Spec
  w_top off
  k_fill
  intro w news C fm M Ok hC self d vs n hh tt pv ws x t1 hself hdd hp hw mean mg mb gd cn cs a ccd cl outer A₀ base h₀ L m s Q E B F X N T hk ret
  obtain ⟨hga, hgt, hit, hmr, hvm, hvt, hkv, hbs, hqu, hix, _⟩ := id hC
  refine wpAny_call ?_
  k_dflt ktr_enter
  rename Fr _ _ _ _ => F1
  replace F1 := Fr.as F1 (m' := fun z9 => List.lookup z9 [(Str.ofString "key", .str x t1), (Str.ofString "self", .ref self)]) rfl
  iterate 1 (first | (k_unfold; (try dsimp only)) | walk1 | (dsimp only; walk1))
  refine for_inst (K := Mine.hd.heap_39 w.params) (C := C) (nx₀ := []) (news := news) (by assumption) (by assumption) (by assumption) (by assumption) (by assumption) rfl hself rfl rfl hdd rfl rfl
    (fun i m nx => nx = [] ∧ (∃ o1 o2, m = upd2 (Str.ofString "item") (Str.ofString "quality") o1 o2 _) ∧ ∀ j p, j < i → ws[j]? = some p → M x p.1 = false) ⟨rfl, ⟨_, _, upd2_in _ _ _⟩, fun j p hj => absurd hj (Nat.not_lt_zero _)⟩ ?_ ?_
  · rintro it i v _ _ h g tk hv ⟨rfl, ⟨o1, o2, rfl⟩, hno⟩ F₁ N₁ hg
    obtain ⟨p, a, t, u, n', hpi, rfl, hm⟩ := Pairs.at hp hv
    have hok := hw p (List.mem_of_getElem? hpi)
    simp only [List.nil_append] at N₁
    unfold upd2 at F₁
    k_steps
    · unfold TurnBack
      dsimp only
      k_steps
      have hM : M x p.1 = true := by assumption
      refine ret _ [] _ _ _ ?v ?f ?n (fun _ _ _ h9 => nomatch h9) ?g
      case f => k_asm
      case n => (simp only [List.nil_append]; k_asm)
      case g => k_asm
      case v => (rw [find_at (M := M x) hno hpi hM]; exact ⟨⟨u, rfl⟩, rfl⟩)
    · unfold TurnBack
      dsimp only
      refine ⟨_, [], ⟨rfl, ⟨?o1, ?o2, ?e⟩, ?nn⟩, (by k_asm), (by simp only [List.nil_append]; k_asm), (fun _ h9 => nomatch h9), (by k_asm), rfl, rfl⟩
      case e => exact upd2_step _ _ _ _ _ _ _
      case nn =>
        intro j q hj hq
        rcases Nat.lt_succ_iff_lt_or_eq.mp hj with hj | rfl
        · exact hno j q hj hq
        · rw [hpi] at hq
          obtain rfl := Option.some.inj hq
          first | assumption | exact Bool.eq_false_iff.mpr (by assumption) | simp_all
  · rintro _ _ h g tk ⟨rfl, ⟨o1, o2, rfl⟩, hno⟩ F₁ N₁ hg
    simp only [List.nil_append] at N₁
    unfold upd2 at F₁
    k_steps
    have hN : firstM (M x) ws = none := find_none_upto (fun j q hj hq => hno j q (by rw [Pairs.len hp]; exact hj) hq)
    refine ret _ [] _ _ _ ?v ?f ?n (fun _ _ _ h9 => nomatch h9) ?g
    case f => k_asm
    case n => (simp only [List.nil_append]; k_asm)
    case g => k_asm
    case v => (rw [hN]; exact ⟨⟨_, rfl⟩, rfl⟩)

theorem contains_G : ∀ {w : World} {news : List (Addr × Obj)} {C fm : Addr} {M : Str → Str → Bool} {Ok : Str → Str → Prop} (hC : ClsOk w C fm M Ok) (self d : Addr) (vs : List Value) (n : Nat) (hh : Int) (tt : Tok) (pv : Value) (ws : List (Str × Int)) (x : Str) (t1 : Tok) (hself : (self, (⟨.ref C, some d, .seq vs.toArray n, #[]⟩ : Obj)) ∈ news) (hdd : (d, W.dictOf [⟨hh, .str (Str.ofString "provided") tt, pv⟩] 1) ∈ news) (hp : Pairs news vs ws) (hw : ∀ p ∈ ws, Ok x p.1), Spec w 800 8000 (.ref 212) [.ref self, .str x t1] news (fun v tl => (match firstM (M x) ws with | some q => v = .bool true ∧ tl = [] | none => v = .bool false ∧ tl = [])) := by
  unfold Spec
  k_fill
  intro w news C fm M Ok hC self d vs n hh tt pv ws x t1 hself hdd hp hw mean mg mb gd cn cs a ccd cl outer A₀ base h₀ L m s Q E B F X N T hk ret
  obtain ⟨hga, hgt, hit, hmr, hvm, hvt, hkv, hbs, hqu, hix, _⟩ := id hC
  refine wpAny_call ?_
  k_dflt ktr_enter
  rename Fr _ _ _ _ => F1
  replace F1 := Fr.as F1 (m' := fun z9 => List.lookup z9 [(Str.ofString "value", .str x t1), (Str.ofString "self", .ref self)]) rfl
  iterate 1 (first | (k_unfold; (try dsimp only)) | walk1 | (dsimp only; walk1))
  refine for_inst (K := Mine.hd.heap_39 w.params) (C := C) (nx₀ := []) (news := news) (by assumption) (by assumption) (by assumption) (by assumption) (by assumption) rfl hself rfl rfl hdd rfl rfl
    (fun i m nx => nx = [] ∧ (∃ o1 o2, m = upd2 (Str.ofString "item") (Str.ofString "_quality") o1 o2 _) ∧ ∀ j p, j < i → ws[j]? = some p → M x p.1 = false) ⟨rfl, ⟨_, _, upd2_in _ _ _⟩, fun j p hj => absurd hj (Nat.not_lt_zero _)⟩ ?_ ?_
  · rintro it i v _ _ h g tk hv ⟨rfl, ⟨o1, o2, rfl⟩, hno⟩ F₁ N₁ hg
    obtain ⟨p, a, t, u, n', hpi, rfl, hm⟩ := Pairs.at hp hv
    have hok := hw p (List.mem_of_getElem? hpi)
    simp only [List.nil_append] at N₁
    unfold upd2 at F₁
    k_steps
    · unfold TurnBack
      dsimp only
      k_steps
      have hM : M x p.1 = true := by assumption
      refine ret _ [] _ _ _ ?v ?f ?n (fun _ _ _ h9 => nomatch h9) ?g
      case f => k_asm
      case n => (simp only [List.nil_append]; k_asm)
      case g => k_asm
      case v => (rw [find_at (M := M x) hno hpi hM]; exact ⟨rfl, rfl⟩)
    · unfold TurnBack
      dsimp only
      refine ⟨_, [], ⟨rfl, ⟨?o1, ?o2, ?e⟩, ?nn⟩, (by k_asm), (by simp only [List.nil_append]; k_asm), (fun _ h9 => nomatch h9), (by k_asm), rfl, rfl⟩
      case e => exact upd2_step _ _ _ _ _ _ _
      case nn =>
        intro j q hj hq
        rcases Nat.lt_succ_iff_lt_or_eq.mp hj with hj | rfl
        · exact hno j q hj hq
        · rw [hpi] at hq
          obtain rfl := Option.some.inj hq
          first | assumption | exact Bool.eq_false_iff.mpr (by assumption) | simp_all
  · rintro _ _ h g tk ⟨rfl, ⟨o1, o2, rfl⟩, hno⟩ F₁ N₁ hg
    simp only [List.nil_append] at N₁
    unfold upd2 at F₁
    k_steps
    have hN : firstM (M x) ws = none := find_none_upto (fun j q hj hq => hno j q (by rw [Pairs.len hp]; exact hj) hq)
    refine ret _ [] _ _ _ ?v ?f ?n (fun _ _ _ h9 => nomatch h9) ?g
    case f => k_asm
    case n => (simp only [List.nil_append]; k_asm)
    case g => k_asm
    case v => (rw [hN]; exact ⟨rfl, rfl⟩)

theorem bsm_G : ∀ {w : World} {news : List (Addr × Obj)} {C fm : Addr} {M : Str → Str → Bool} {Ok : Str → Str → Prop} (hC : ClsOk w C fm M Ok) (self d : Addr) (vs : List Value) (n : Nat) (hh : Int) (tt : Tok) (pv : Value) (ws : List (Str × Int)) (x : Str) (t1 : Tok) (hself : (self, (⟨.ref C, some d, .seq vs.toArray n, #[]⟩ : Obj)) ∈ news) (hdd : (d, W.dictOf [⟨hh, .str (Str.ofString "provided") tt, pv⟩] 1) ∈ news) (hp : Pairs news vs ws) (hw : ∀ p ∈ ws, Ok x p.1), Spec w 800 8000 (.ref 261) [.ref self, .str x t1] news (fun v tl => (match firstM (M x) ws with | some q => ∃ a t u, v = .ref a ∧ tl = [(a, (⟨.type "tuple", none, .seq #[.str q.1 t, .int q.2 u], #[]⟩ : Obj))] | none => v = .none ∧ tl = [])) := by
  unfold Spec
  k_fill
  intro w news C fm M Ok hC self d vs n hh tt pv ws x t1 hself hdd hp hw mean mg mb gd cn cs a ccd cl outer A₀ base h₀ L m s Q E B F X N T hk ret
  obtain ⟨hga, hgt, hit, hmr, hvm, hvt, hkv, hbs, hqu, hix, _⟩ := id hC
  refine wpAny_call ?_
  k_dflt ktr_enter
  rename Fr _ _ _ _ => F1
  replace F1 := Fr.as F1 (m' := fun z9 => List.lookup z9 [(Str.ofString "match", .str x t1), (Str.ofString "self", .ref self)]) rfl
  iterate 1 (first | (k_unfold; (try dsimp only)) | walk1 | (dsimp only; walk1))
  refine for_inst (K := Mine.hd.heap_39 w.params) (C := C) (nx₀ := []) (news := news) (by assumption) (by assumption) (by assumption) (by assumption) (by assumption) rfl hself rfl rfl hdd rfl rfl
    (fun i m nx => nx = [] ∧ (∃ o1 o2, m = upd2 (Str.ofString "client_item") (Str.ofString "quality") o1 o2 _) ∧ ∀ j p, j < i → ws[j]? = some p → M x p.1 = false) ⟨rfl, ⟨_, _, upd2_in _ _ _⟩, fun j p hj => absurd hj (Nat.not_lt_zero _)⟩ ?_ ?_
  · rintro it i v _ _ h g tk hv ⟨rfl, ⟨o1, o2, rfl⟩, hno⟩ F₁ N₁ hg
    obtain ⟨p, a, t, u, n', hpi, rfl, hm⟩ := Pairs.at hp hv
    have hok := hw p (List.mem_of_getElem? hpi)
    simp only [List.nil_append] at N₁
    unfold upd2 at F₁
    k_steps
    · unfold TurnBack
      dsimp only
      k_steps
      have hM : M x p.1 = true := by assumption
      refine ret _ [(?da, ?ob)] _ _ _ ?v ?f ?n ?l ?g
      case f => k_asm
      case n => (refine News.sub1 (by assumption) (fun p9 h9 => ?_); repeat (first | exact h9 | apply List.mem_cons_of_mem))
      case g => k_asm
      case l => (intro p9 hp9 q9 hq9; rw [List.mem_singleton.mp hq9]; (with_reducible rename _ ∧ AllLt _ _ => l9); exact allLt_mem l9.2 p9 hp9)
      case v => (rw [find_at (M := M x) hno hpi hM]; exact ⟨_, _, _, rfl, rfl⟩)
    · unfold TurnBack
      dsimp only
      refine ⟨_, [], ⟨rfl, ⟨?o1, ?o2, ?e⟩, ?nn⟩, (by k_asm), (by simp only [List.nil_append]; k_asm), (fun _ h9 => nomatch h9), (by k_asm), rfl, rfl⟩
      case e => exact upd2_step _ _ _ _ _ _ _
      case nn =>
        intro j q hj hq
        rcases Nat.lt_succ_iff_lt_or_eq.mp hj with hj | rfl
        · exact hno j q hj hq
        · rw [hpi] at hq
          obtain rfl := Option.some.inj hq
          first | assumption | exact Bool.eq_false_iff.mpr (by assumption) | simp_all
  · rintro _ _ h g tk ⟨rfl, ⟨o1, o2, rfl⟩, hno⟩ F₁ N₁ hg
    simp only [List.nil_append] at N₁
    unfold upd2 at F₁
    k_steps
    have hN : firstM (M x) ws = none := find_none_upto (fun j q hj hq => hno j q (by rw [Pairs.len hp]; exact hj) hq)
    refine ret _ [] _ _ _ ?v ?f ?n (fun _ _ _ h9 => nomatch h9) ?g
    case f => k_asm
    case n => (simp only [List.nil_append]; k_asm)
    case g => k_asm
    case v => (rw [hN]; exact ⟨rfl, rfl⟩)

end
def qualOf (M : Str → Bool) (ws : List (Str × Int)) : Int := match firstM M ws with | some q => q.2 | none => 0
theorem Spec.mono {w : World} {D U : Nat} {f : Value} {args : List Value} {news : List (Addr × Obj)} {R R' : Value → List (Addr × Obj) → Prop} (S : Spec w D U f args news R) (k : ∀ v tl, R v tl → R' v tl) : Spec w D U f args news R' :=
  fun mean mg mb gd cn cs a ccd cl outer A₀ base h₀ L m s Q E B F X N T hk ret => S mean mg mb gd cn cs a ccd cl outer A₀ base h₀ L m s Q E B F X N T hk fun v tl h' g' tk' hR => ret v tl h' g' tk' (k v tl hR)
theorem qualityI_G : ∀ {w : World} {news : List (Addr × Obj)} {C fm : Addr} {M : Str → Str → Bool} {Ok : Str → Str → Prop} (hC : ClsOk w C fm M Ok) (self d : Addr) (vs : List Value) (n : Nat) (hh : Int) (tt : Tok) (pv : Value) (ws : List (Str × Int)) (x : Str) (t1 : Tok) (hself : (self, (⟨.ref C, some d, .seq vs.toArray n, #[]⟩ : Obj)) ∈ news) (hdd : (d, W.dictOf [⟨hh, .str (Str.ofString "provided") tt, pv⟩] 1) ∈ news) (hp : Pairs news vs ws) (hw : ∀ p ∈ ws, Ok x p.1), Spec w 800 8000 (.ref 205) [.ref self, .str x t1] news (fun v tl => (∃ t, v = .int (qualOf (M x) ws) t) ∧ tl = []) := by
  intro w news C fm M Ok hC self d vs n hh tt pv ws x t1 hself hdd hp hw
  refine Spec.mono (quality_G hC self d vs n hh tt pv ws x t1 hself hdd hp hw) (fun v tl h => ?_)
  unfold qualOf
  cases hf : firstM (M x) ws with
  | none => rw [hf] at h; exact h
  | some q => rw [hf] at h; exact h
section
local macro_rules | `(tactic| walk_at "none 0") => `(tactic| fail)
local macro_rules | `(tactic| walk_at "none 1") => `(tactic| fail)
local macro_rules | `(tactic| walk_at "none 2") => `(tactic| fail)
local macro_rules | `(tactic| k_mem) => `(tactic| first | (with_reducible assumption) | assumption)
local macro_rules | `(tactic| k_inst) => `(tactic| (refine' inst_seq ?N ?h1 ?h2; (case N => k_asm); (case h1 => k_mem); (case h2 => k_mem)))
local macro_rules | `(tactic| walk_at "getMethod ref") => `(tactic| (k_here; k_dflt (refine' method_seq ?k1 ?k2 ?k3 ?k4 ?k5 ?k6 ?k7 ?k8 ?_; (case k1 => k_asm); (case k2 => k_asm); (case k3 => k_inst); (case k4 => with_reducible assumption); (case k5 => with_reducible assumption); (case k6 => with_reducible assumption); (case k7 => first | (with_reducible assumption) | k_is); (case k8 => k_get); k_whole)))
local macro_rules | `(tactic| walk_at "callWith ref") => `(tactic| (k_here; k_dflt (refine' callWith_K ?k1 ?k2 ?_; (case k1 => k_asm); (case k2 => with_reducible assumption); k_whole)))
local macro_rules | `(tactic| k_asm) => `(tactic| ((with_reducible show GOk _ _); first | exact GOk.refl _ | (intro x9; solve_by_elim)))
local macro_rules | `(tactic| k_asm) => `(tactic| ((with_reducible show News _ _ _ _); first | (with_reducible assumption) | (refine News.sub (by with_reducible assumption) (fun p9 h9 => ?_); (repeat (first | exact h9 | apply List.mem_cons_of_mem | apply List.mem_append_right)); done) | (refine News.sub (by assumption) (fun p9 h9 => ?_); (repeat (first | exact h9 | apply List.mem_cons_of_mem | apply List.mem_append_right)); done)))
local macro_rules | `(tactic| walk_at "call ref") => `(tactic| (
  k_here
  (with_reducible show wpAny _ _ (call (Value.ref 205) _ _) _ _ _)
  k_dflt (refine' spec_use (qualityI_G ?kH _ _ _ _ _ _ _ _ _ _ ?k1 ?k2 ?k3 ?k4) ?kB ?kF ?kX ?kN ?kT ?kK ?kD ?kU ?_)
  (case kB => k_asm)
  (case kF => k_asm)
  (case kX => k_asm)
  (case kN => k_asm)
  (case kT => k_asm)
  (case kH => with_reducible assumption)
  (case k1 => k_dflt k_mem)
  (case k2 => k_dflt k_mem)
  (case k3 => (refine Pairs.mono (fun p9 h9 => ?_) (by with_reducible assumption); repeat (first | exact h9 | apply List.mem_cons_of_mem | apply List.mem_append_right)))
  (case k4 => with_reducible assumption)
  (case kK => rfl)
  (case kD => exact Nat.le_of_ble_eq_true rfl)
  (case kU => exact Nat.le_of_ble_eq_true rfl)
  k_whole
  (intro v tl h' g' tk' hR F' N' hlt hg)
  (obtain ⟨⟨t9, e1⟩, e2⟩ := hR)
  subst e1
  subst e2
  (simp only [List.nil_append] at N')
  clear hlt
  try k_sweep))
theorem getitem_G : ∀ {w : World} {news : List (Addr × Obj)} {C fm : Addr} {M : Str → Str → Bool} {Ok : Str → Str → Prop} (hC : ClsOk w C fm M Ok) (self d : Addr) (vs : List Value) (n : Nat) (hh : Int) (tt : Tok) (pv : Value) (ws : List (Str × Int)) (x : Str) (t1 : Tok) (hself : (self, (⟨.ref C, some d, .seq vs.toArray n, #[]⟩ : Obj)) ∈ news) (hdd : (d, W.dictOf [⟨hh, .str (Str.ofString "provided") tt, pv⟩] 1) ∈ news) (hp : Pairs news vs ws) (hw : ∀ p ∈ ws, Ok x p.1), Spec w 750 7500 (.ref 198) [.ref self, .str x t1] news (fun v tl => (∃ t, v = .int (qualOf (M x) ws) t) ∧ tl = []) := by
  unfold Spec
  k_fill
  intro w news C fm M Ok hC self d vs n hh tt pv ws x t1 hself hdd hp hw mean mg mb gd cn cs a ccd cl outer A₀ base h₀ L m s Q E B F X N T hk ret
  obtain ⟨hga, hgt, hit, hmr, hvm, hvt, hkv, hbs, hqu, hix, _⟩ := id hC
  refine wpAny_call ?_
  k_dflt ktr_enter
  rename Fr _ _ _ _ => F1
  replace F1 := Fr.as F1 (m' := fun z9 => List.lookup z9 [(Str.ofString "key", .str x t1), (Str.ofString "self", .ref self)]) rfl
  k_steps
  refine ret _ [] _ _ _ ?v ?f ?n (fun _ _ _ h9 => nomatch h9) ?g
  case f => k_asm
  case n => (simp only [List.nil_append]; k_asm)
  case g => k_asm
  case v => exact ⟨⟨_, rfl⟩, rfl⟩
end
end Mine
end

section
open PySem PySem.W PyProof.Rows PySem.Calls PySem.Spec
set_option Elab.async false
set_option maxRecDepth 100000
set_option maxHeartbeats 0
set_option linter.unusedVariables false
namespace Mine
theorem Spec.shrink {w : World} {D U : Nat} {f : Value} {args : List Value} {news : List (Addr × Obj)} {R R' : Value → List (Addr × Obj) → Prop} (S : Spec w D U f args news R) (k : ∀ v tl, R v tl → ∃ tl', R' v tl' ∧ ∀ q ∈ tl', q ∈ tl) : Spec w D U f args news R' :=
  fun mean mg mb gd cn cs a ccd cl outer A₀ base h₀ L m s Q E B F X N T hk ret => S mean mg mb gd cn cs a ccd cl outer A₀ base h₀ L m s Q E B F X N T hk fun v tl h' g' tk' hR F' N' hlt hg => by
    obtain ⟨tl', hR', hs⟩ := k v tl hR
    exact ret v tl' h' g' tk' hR' F' (News.sub N' fun p hp => (List.mem_append.mp hp).elim (fun h => List.mem_append_left _ (hs p h)) fun h => List.mem_append_right _ h) (fun p hp q hq => hlt p hp q (hs q hq)) hg
theorem types_at {w : World} {news : List (Addr × Obj)} {x y : Str} {r r' : Str × Str × Str} (hx : (x, r) ∈ typeTab) (hy : (y, r') ∈ typeTab) : Spec w 900 9000 (.ref 398) [] news (fun v tl => ∃ d o kvs a b t1 t2 t3 u1 u2 u3, v = .ref d ∧ tl = [(d, o), (a, T3 r.1 r.2.1 r.2.2 t1 t2 t3), (b, T3 r'.1 r'.2.1 r'.2.2 u1 u2 u3)] ∧ Obj.IsDictOf (PySem.strKind PySem.Challenge.rw_eq0045_01.row.prog w) o kvs ∧ valueAt kvs x = some (.ref a) ∧ valueAt kvs y = some (.ref b)) := by
  refine Spec.shrink types_0 fun v tl h => ?_
  obtain ⟨d, o, kvs, rfl, h1, h2, h3⟩ := h
  obtain ⟨a, t1, t2, t3, ha, hma⟩ := h3 _ hx
  obtain ⟨b, u1, u2, u3, hb, hmb⟩ := h3 _ hy
  refine ⟨_, ⟨d, o, kvs, a, b, t1, t2, t3, u1, u2, u3, rfl, rfl, h2, ha, hb⟩, fun q hq => ?_⟩
  simp only [List.mem_cons, List.not_mem_nil, or_false] at hq
  rcases hq with rfl | rfl | rfl
  · exact h1
  · exact hma
  · exact hmb
def fit1 (r r' : Str × Str × Str) : Int := if r.1 == Str.ofString "*" then 0 else if r.1 != r'.1 then -1 else if r.2.1 == Str.ofString "*" then 1 else if (r.2.1, r.2.2) ≠ (r'.2.1, r'.2.2) then -1 else if r.2.2 != Str.ofString "" then 3 else 2
theorem strok_tab : ∀ r ∈ typeTab, PyData.strOk r.2.2.1 = true ∧ PyData.strOk r.2.2.2 = true := by decide +kernel
theorem ne_pair {prog : Program} {w : World} {A : Around} {E : Value → Shared → Prop} {s : Shared} {a b : Addr} {s1 l1 s2 l2 : Str} {t1 t2 u1 u2 : Tok} {Q : Value → Shared → Prop} (ha : s.heap.get? a = some (⟨.type "tuple", none, .seq #[.str s1 t1, .str l1 t2] 0, #[]⟩ : Obj)) (hb : s.heap.get? b = some (⟨.type "tuple", none, .seq #[.str s2 u1, .str l2 u2] 0, #[]⟩ : Obj))
    (o1 : PyData.strOk s1 = true ∧ PyData.strOk l1 = true) (o2 : PyData.strOk s2 = true ∧ PyData.strOk l2 = true) (hu : A.units + 64 < cLine) (h : Q (.bool (decide ((s1, l1) ≠ (s2, l2)))) s) : wpAny (model prog w) A (compareOp .NotEq (.ref a) (.ref b)) Q E s := by
  refine ne_dataH (da := .tuple [.str s1, .str l1]) (db := .tuple [.str s2, .str l2]) (reads_tuple_at ha rfl rfl (.cons (.str _ _) (.cons (.str _ _) .nil))) (reads_tuple_at hb rfl rfl (.cons (.str _ _) (.cons (.str _ _) .nil))) ?_ ?_ hu ?_
  · simp [SeqAt.shaped, PyData.canLay0, PyData.canLayAll0, PyData.depth, PyData.depthAll, o1.1, o1.2]
  · simp [SeqAt.shaped, PyData.canLay0, PyData.canLayAll0, PyData.depth, PyData.depthAll, o2.1, o2.2]
  · have e : (!PyData.eqv (.tuple [.str s1, .str l1]) (.tuple [.str s2, .str l2])) = decide ((s1, l1) ≠ (s2, l2)) := by
      simp only [PyData.eqv, PyData.eqvAll, Bool.and_true]
      by_cases h1 : s1 = s2 <;> by_cases h2 : l1 = l2 <;> simp [h1, h2]
    rw [e]; exact h
theorem types_at2 {w : World} {news : List (Addr × Obj)} {x y : Str} {r r' : Str × Str × Str} (hxy : (x, r) ∈ typeTab ∧ (y, r') ∈ typeTab) : Spec w 900 9000 (.ref 398) [] news (fun v tl => ∃ d o kvs a b t1 t2 t3 u1 u2 u3, v = .ref d ∧ tl = [(d, o), (a, T3 r.1 r.2.1 r.2.2 t1 t2 t3), (b, T3 r'.1 r'.2.1 r'.2.2 u1 u2 u3)] ∧ Obj.IsDictOf (PySem.strKind PySem.Challenge.rw_eq0045_01.row.prog w) o kvs ∧ valueAt kvs x = some (.ref a) ∧ valueAt kvs y = some (.ref b)) := types_at hxy.1 hxy.2
section
local macro_rules | `(tactic| walk_at "none 0") => `(tactic| fail)
local macro_rules | `(tactic| walk_at "none 1") => `(tactic| fail)
local macro_rules | `(tactic| walk_at "none 2") => `(tactic| fail)
local macro_rules | `(tactic| walk_at "none 3") => `(tactic| fail)
local macro_rules | `(tactic| k_asm) => `(tactic| ((with_reducible show GOk _ _); first | exact GOk.refl _ | (intro x9; solve_by_elim)))
local macro_rules | `(tactic| walk_at "subscriptTail") => `(tactic| (k_here; (with_reducible show wpAny _ _ (subscriptTail _ _ (Value.ref _) (Value.str _ _)) _ _ _); k_dflt (refine' kdt_tail (knd := PySem.strKind _ _) ?kN ?kM ?kD (kdt_getItem (knd := PySem.strKind _ _) ?kN2 ?kM2 ?kD2 (strKind_is _ _ _ _) ?kV ?_); (case kD => with_reducible assumption); (case kD2 => with_reducible assumption); (case kV => with_reducible assumption); (case kN => k_asm); (case kN2 => k_asm); (case kM => k_mem); (case kM2 => k_mem); k_whole)))
local macro_rules | `(tactic| walk_at "compareOp NotEq ref ref") => `(tactic| (k_here; (with_reducible show wpAny _ _ (compareOp CmpOp.NotEq (Value.ref _) (Value.ref _)) _ _ _); k_dflt (refine ne_pair (News.get (by k_asm) (by k_mem)) (News.get (by k_asm) (by k_mem)) (by with_reducible assumption) (by with_reducible assumption) (by ke_room) ?_)))
local macro_rules | `(tactic| walk_at "call ref") => `(tactic| (
  k_here
  (with_reducible show wpAny _ _ (call (Value.ref 398) _ _) _ _ _)
  k_dflt (refine' spec_use (types_at2 ?k1) ?kB ?kF ?kX ?kN ?kT ?kK ?kD ?kU ?_)
  (case kB => k_asm)
  (case kF => k_asm)
  (case kX => k_asm)
  (case kN => k_asm)
  (case kT => k_asm)
  (case k1 => with_reducible assumption)
  (case kK => rfl)
  (case kD => exact Nat.le_of_ble_eq_true rfl)
  (case kU => exact Nat.le_of_ble_eq_true rfl)
  k_whole
  (intro v tl h' g' tk' hR F' N' hlt hg)
  (obtain ⟨d9, o9, kvs9, a9, b9, t91, t92, t93, u91, u92, u93, e1, e2, hdi9, hva9, hvb9⟩ := hR)
  subst e1
  subst e2
  clear hlt
  try k_sweep))
theorem fit_1 : ∀ {w : World} {news : List (Addr × Obj)} (u : Tok) (x y : Str) (t1 t2 : Tok) (m1 s1 l1 m2 s2 l2 : Str) (hxy : (x, (m1, s1, l1)) ∈ typeTab ∧ (y, (m2, s2, l2)) ∈ typeTab), Spec w 850 8500 (.ref 405) [.int 1 u, .str x t1, .str y t2] news (fun v tl => (∃ t, v = .int (fit1 (m1, s1, l1) (m2, s2, l2)) t) ∧ tl = []) := by
  unfold Spec
  w_top off
  k_fill
  intro w news u x y t1 t2 m1 s1 l1 m2 s2 l2 hxy mean mg mb gd cn cs a ccd cl outer A₀ base h₀ L m s Q E B F X N T hk ret
  have ok1 := strok_tab _ hxy.1
  have ok2 := strok_tab _ hxy.2
  dsimp only at ok1 ok2
  refine wpAny_call ?_
  k_dflt ktr_enter
  rename Fr _ _ _ _ => F1
  replace F1 := Fr.as F1 (m' := fun z9 => List.lookup z9 [(Str.ofString "offer", .str y t2), (Str.ofString "wish", .str x t1), (Str.ofString "kind", .int 1 u)]) rfl
  k_steps
  all_goals (
    refine ret _ [] _ _ _ ⟨⟨_, congrArg (fun z => Value.int z _) ?v⟩, rfl⟩ ?f ?n (fun _ _ _ h9 => nomatch h9) ?g
    case f => k_asm
    case n => (simp only [List.nil_append]; exact News.sub (by with_reducible assumption) (fun p9 h9 => by repeat (first | exact h9 | apply List.mem_cons_of_mem)))
    case g => k_asm
    case v => (unfold fit1; simp_all))
end
/-- what _law_fit gives for one kind -/
def FitSpec (w : World) (k : Int) (Ft : Str → Str → Int) (Okf : Str → Str → Prop) : Prop := ∀ {news : List (Addr × Obj)} (u : Tok) (x y : Str) (t1 t2 : Tok), Okf x y → Spec w 850 8500 (.ref 405) [.int k u, .str x t1, .str y t2] news (fun v tl => (∃ t, v = .int (Ft x y) t) ∧ tl = [])
def Okf0 (x y : Str) : Prop := x.length ≤ 300 ∧ y.length ≤ 300
def InTab (x : Str) : Prop := ∃ r, typeTab.lookup x = some r ∧ (x, r) ∈ typeTab
def Okf1 (x y : Str) : Prop := InTab x ∧ InTab y
def fitM (x y : Str) : Int := match typeTab.lookup x, typeTab.lookup y with
  | some r, some r' => fit1 r r'
  | _, _ => -1
theorem fitS0 {w : World} : FitSpec w 0 fit0 Okf0 := fun u x y t1 t2 ok => Spec.weak (fit_0 0 u x y t1 t2 (by decide) ok.1 ok.2) (by decide) (by decide)
theorem fitS2 {w : World} : FitSpec w 2 fit0 Okf0 := fun u x y t1 t2 ok => Spec.weak (fit_0 2 u x y t1 t2 (by decide) ok.1 ok.2) (by decide) (by decide)
theorem fitS1 {w : World} : FitSpec w 1 fitM Okf1 := fun u x y t1 t2 ok => by
  obtain ⟨⟨r, h1, h2⟩, r', h3, h4⟩ := ok
  have e : fitM x y = fit1 r r' := by unfold fitM; rw [h1, h3]
  rw [e]
  exact fit_1 u x y t1 t2 r.1 r.2.1 r.2.2 r'.1 r'.2.1 r'.2.2 ⟨h2, h4⟩
end Mine
end

section
open PySem PySem.W PyProof.Rows PySem.Calls PySem.Spec
set_option Elab.async false
set_option maxRecDepth 100000
set_option linter.unusedVariables false
namespace Mine
/-- two values, as a comparison of tuples meets them -/
structure CmpAt (M : Model) (A : Around) (s : Shared) (op : CmpOp) (x y : Value) (e r : Bool) : Prop where
  eq : ∀ (Q : Bool → Shared → Prop) (E : Value → Shared → Prop), Q e s → wpAny M A (eqBool x y) Q E s
  cmp : e = false → ∀ (Q : Value → Shared → Prop) (E : Value → Shared → Prop), Q (.bool r) s → wpAny M A (richCompare op x y) Q E s
inductive CmpAll (M : Model) (A : Around) (s : Shared) (op : CmpOp) : List Value → List Value → List (Bool × Bool) → Prop
  | nilL {ys} : CmpAll M A s op [] ys []
  | nilR {xs} : CmpAll M A s op xs [] []
  | cons {x y xs ys e r l} : CmpAt M A s op x y e r → CmpAll M A s op xs ys l → CmpAll M A s op (x :: xs) (y :: ys) ((e, r) :: l)
def lexB : List (Bool × Bool) → Bool → Bool
  | [], d => d
  | (e, r) :: l, d => if e then lexB l d else r
section
variable {prog : Program} {w : World} {A : Around} {E : Value → Shared → Prop} {s : Shared}
theorem tup_gt_tree {xs ys : List Value} {a b : Addr} {n n' : Nat} {l : List (Bool × Bool)} {P : PySem.Fin → Shared → Prop} (ha : s.heap.get? a = some { cls := .type "tuple", data := .seq xs.toArray n }) (hb : s.heap.get? b = some { cls := .type "tuple", data := .seq ys.toArray n' })
    (hc : CmpAll (model prog w) A s .Gt xs ys l) (h : P (.done (.ret (.bool (lexB l (decide (xs.length > ys.length)))))) s) :
    wpAny (model prog w) A (Builtin.«tuple.__gt__» ⟨[.ref a, .ref b], []⟩) P E s := by
  show wpAny _ _ (isInstance (.ref b) (.type "tuple") >>= _) _ _ s
  refine wpAny_bind (wpAny_isInstance (T := "tuple") ⟨_, hb, rfl⟩ isSubtype_tuple_tuple ?_)
  simp only [Bool.not_true, Bool.false_eq_true, if_false]
  refine wpAny_bind (wpAny_tupleItemsOf ha rfl ?_)
  refine wpAny_bind (wpAny_tupleItemsOf hb rfl ?_)
  refine wpAny_bind ?_
  refine wpAny_forIn_list _
    (fun rest r s' => r.1 = none ∧ s' = s ∧ ∃ xs' ys' l', rest = List.zip xs' ys' ∧ CmpAll (model prog w) A s .Gt xs' ys' l' ∧ lexB l' (decide (xs'.length > ys'.length)) = lexB l (decide (xs.length > ys.length)) ∧ (xs'.length > ys'.length ↔ xs.length > ys.length))
    _ ?_ ?_ _ _ ⟨rfl, rfl, xs, ys, l, rfl, hc, rfl, Iff.rfl⟩
  · rintro ⟨u, v⟩ rest r s' ⟨hr, rfl, xs', ys', l', hz, hc', hl, hlen⟩
    cases hc' with
    | nilL => simp at hz
    | nilR => simp at hz
    | @cons x y xs'' ys'' e r' l'' h1 h2 =>
      simp only [List.zip_cons_cons, List.cons.injEq, Prod.mk.injEq] at hz
      obtain ⟨⟨rfl, rfl⟩, rfl⟩ := hz
      refine wpAny_bind (h1.eq _ _ ?_)
      cases e with
      | true =>
        simp only [Bool.not_true, Bool.false_eq_true, if_false]
        exact wpAny_pure ⟨rfl, rfl, xs'', ys'', l'', rfl, h2, by rw [← hl]; simp [lexB], by rw [← hlen]; simp⟩
      | false =>
        simp only [Bool.not_false, if_true]
        refine wpAny_bind ?_
        have hr' : lexB l (decide (xs.length > ys.length)) = r' := by rw [← hl]; simp [lexB]
        rw [hr'] at h
        exact wpAny_rule (wpAny_bind (h1.cmp rfl _ _ (wpAny_bind (wpAny_pure (wpAny_pure (wpAny_pure h))))))
  · rintro ⟨r1, r2⟩ s' ⟨hr, rfl, xs', ys', l', hz, hc', hl, hlen⟩
    simp only at hr
    subst hr
    refine wpAny_pure ?_
    have e : lexB l (decide (xs.length > ys.length)) = decide (xs.length > ys.length) := by
      rw [← hl]
      cases hc' with
      | nilL => simp only [lexB]; simp only [hlen]
      | nilR => simp only [lexB]; simp only [hlen]
      | cons _ _ => simp at hz
    rw [e] at h
    show P (.done (.ret (.bool (decide (xs.toArray.size > ys.toArray.size))))) s'
    rw [List.size_toArray, List.size_toArray]
    exact h
theorem tup_lt_tree {xs ys : List Value} {a b : Addr} {n n' : Nat} {l : List (Bool × Bool)} {P : PySem.Fin → Shared → Prop} (ha : s.heap.get? a = some { cls := .type "tuple", data := .seq xs.toArray n }) (hb : s.heap.get? b = some { cls := .type "tuple", data := .seq ys.toArray n' })
    (hc : CmpAll (model prog w) A s .Lt xs ys l) (h : P (.done (.ret (.bool (lexB l (decide (xs.length < ys.length)))))) s) :
    wpAny (model prog w) A (Builtin.«tuple.__lt__» ⟨[.ref a, .ref b], []⟩) P E s := by
  show wpAny _ _ (isInstance (.ref b) (.type "tuple") >>= _) _ _ s
  refine wpAny_bind (wpAny_isInstance (T := "tuple") ⟨_, hb, rfl⟩ isSubtype_tuple_tuple ?_)
  simp only [Bool.not_true, Bool.false_eq_true, if_false]
  refine wpAny_bind (wpAny_tupleItemsOf ha rfl ?_)
  refine wpAny_bind (wpAny_tupleItemsOf hb rfl ?_)
  refine wpAny_bind ?_
  refine wpAny_forIn_list _
    (fun rest r s' => r.1 = none ∧ s' = s ∧ ∃ xs' ys' l', rest = List.zip xs' ys' ∧ CmpAll (model prog w) A s .Lt xs' ys' l' ∧ lexB l' (decide (xs'.length < ys'.length)) = lexB l (decide (xs.length < ys.length)) ∧ (xs'.length < ys'.length ↔ xs.length < ys.length))
    _ ?_ ?_ _ _ ⟨rfl, rfl, xs, ys, l, rfl, hc, rfl, Iff.rfl⟩
  · rintro ⟨u, v⟩ rest r s' ⟨hr, rfl, xs', ys', l', hz, hc', hl, hlen⟩
    cases hc' with
    | nilL => simp at hz
    | nilR => simp at hz
    | @cons x y xs'' ys'' e r' l'' h1 h2 =>
      simp only [List.zip_cons_cons, List.cons.injEq, Prod.mk.injEq] at hz
      obtain ⟨⟨rfl, rfl⟩, rfl⟩ := hz
      refine wpAny_bind (h1.eq _ _ ?_)
      cases e with
      | true =>
        simp only [Bool.not_true, Bool.false_eq_true, if_false]
        exact wpAny_pure ⟨rfl, rfl, xs'', ys'', l'', rfl, h2, by rw [← hl]; simp [lexB], by rw [← hlen]; simp⟩
      | false =>
        simp only [Bool.not_false, if_true]
        refine wpAny_bind ?_
        have hr' : lexB l (decide (xs.length < ys.length)) = r' := by rw [← hl]; simp [lexB]
        rw [hr'] at h
        exact wpAny_rule (wpAny_bind (h1.cmp rfl _ _ (wpAny_bind (wpAny_pure (wpAny_pure (wpAny_pure h))))))
  · rintro ⟨r1, r2⟩ s' ⟨hr, rfl, xs', ys', l', hz, hc', hl, hlen⟩
    simp only at hr
    subst hr
    refine wpAny_pure ?_
    have e : lexB l (decide (xs.length < ys.length)) = decide (xs.length < ys.length) := by
      rw [← hl]
      cases hc' with
      | nilL => simp only [lexB]; simp only [hlen]
      | nilR => simp only [lexB]; simp only [hlen]
      | cons _ _ => simp at hz
    rw [e] at h
    show P (.done (.ret (.bool (decide (xs.toArray.size < ys.toArray.size))))) s'
    rw [List.size_toArray, List.size_toArray]
    exact h
theorem tup_gt {xs ys : List Value} {a b : Addr} {m m' : Nat} {l : List (Bool × Bool)} {Q : Value → Shared → Prop} (ha : s.heap.get? a = some { cls := .type "tuple", data := .seq xs.toArray m }) (hb : s.heap.get? b = some { cls := .type "tuple", data := .seq ys.toArray m' })
    (hc : CmpAll (model prog w) A.in1 s .Gt xs ys l) (hu : A.units < cLine) (h : Q (.bool (lexB l (decide (xs.length > ys.length)))) s) :
    wpAny (model prog w) A (richCompare .Gt (.ref a) (.ref b)) Q E s :=
  wpAny_richCompare_same_room (T := "tuple") ⟨_, ha, rfl⟩ ⟨_, hb, rfl⟩ PySem.F.slot_tuple_gt (wpAny_call_entry PySem.F.slot_tuple_gt (T := "tuple") ⟨_, ha, rfl⟩ PySem.F.entry_tuple_gt (tup_gt_tree ha hb hc ⟨_, rfl, (fun q => by cases q), h⟩) (PySem.F.args_tuple_gt_2 _ _)) hu
theorem tup_lt {xs ys : List Value} {a b : Addr} {m m' : Nat} {l : List (Bool × Bool)} {Q : Value → Shared → Prop} (ha : s.heap.get? a = some { cls := .type "tuple", data := .seq xs.toArray m }) (hb : s.heap.get? b = some { cls := .type "tuple", data := .seq ys.toArray m' })
    (hc : CmpAll (model prog w) A.in1 s .Lt xs ys l) (hu : A.units < cLine) (h : Q (.bool (lexB l (decide (xs.length < ys.length)))) s) :
    wpAny (model prog w) A (richCompare .Lt (.ref a) (.ref b)) Q E s :=
  wpAny_richCompare_same_room (T := "tuple") ⟨_, ha, rfl⟩ ⟨_, hb, rfl⟩ PySem.F.slot_tuple_lt (wpAny_call_entry PySem.F.slot_tuple_lt (T := "tuple") ⟨_, ha, rfl⟩ PySem.F.entry_tuple_lt (tup_lt_tree ha hb hc ⟨_, rfl, (fun q => by cases q), h⟩) (PySem.F.args_tuple_lt_2 _ _)) hu

theorem eqBool_bool {p q : Bool} {Q : Bool → Shared → Prop} (h : Q (p == q) s) : wpAny (model prog w) A (eqBool (.bool p) (.bool q)) Q E s := by
  unfold eqBool
  try with_reducible refine wpAny_holding ?_
  show wpAny _ _ (if (Value.bool p == Value.bool q) = true then _ else _) Q E s
  by_cases hab : (Value.bool p == Value.bool q) = true
  · rw [if_pos hab]
    have e : p = q := by have := eq_of_beq hab; injection this
    subst e
    exact wpAny_bind (wpAny_rule (wpAny_pure (by simpa using h)))
  · rw [if_neg hab]
    refine wpAny_bind (m := richCompare .Eq (.bool p) (.bool q)) (PyProof.Rows.eq_bool (c := p) (d := q) (wpAny_truthy_bool h))
theorem cmp_bool_gt (p q : Bool) : CmpAt (model prog w) A s .Gt (.bool p) (.bool q) (p == q) (p && !q) where
  eq := fun Q E h => eqBool_bool h
  cmp := fun _ Q E h => by
    refine gt_bool (A := A) (E := E) ?_
    have : decide (b2i p > b2i q) = (p && !q) := by cases p <;> cases q <;> rfl
    rw [this]; exact h
/-- lists of truth values -/
def bools (l : List Bool) : List Value := l.map Value.bool
def pairsB : List Bool → List Bool → List (Bool × Bool)
  | p :: ps, q :: qs => (p == q, p && !q) :: pairsB ps qs
  | _, _ => []
theorem cmpAll_bools : ∀ ps qs : List Bool, CmpAll (model prog w) A s .Gt (bools ps) (bools qs) (pairsB ps qs)
  | [], _ => .nilL
  | _ :: _, [] => .nilR
  | p :: ps, q :: qs => .cons (cmp_bool_gt p q) (cmpAll_bools ps qs)
/-- the first list goes ahead of the second -/
def lexGt : List Bool → List Bool → Bool
  | [], _ => false
  | _ :: _, [] => true
  | p :: ps, q :: qs => if p == q then lexGt ps qs else p && !q
theorem lexGt_eq : ∀ ps qs : List Bool, lexB (pairsB ps qs) (decide ((bools ps).length > (bools qs).length)) = lexGt ps qs
  | [], _ => by simp [pairsB, lexB, lexGt, bools]
  | _ :: _, [] => by simp [pairsB, lexB, lexGt, bools]
  | p :: ps, q :: qs => by
    have ih := lexGt_eq ps qs
    simp only [pairsB, lexB, lexGt]
    split
    · rw [← ih]; simp [bools]
    · rfl
theorem gt_bools {ps qs : List Bool} {a b : Addr} {m m' : Nat} {Q : Value → Shared → Prop} (ha : s.heap.get? a = some { cls := .type "tuple", data := .seq (bools ps).toArray m }) (hb : s.heap.get? b = some { cls := .type "tuple", data := .seq (bools qs).toArray m' })
    (hu : A.units < cLine) (h : Q (.bool (lexGt ps qs)) s) : wpAny (model prog w) A (compareOp .Gt (.ref a) (.ref b)) Q E s :=
  tup_gt ha hb (cmpAll_bools ps qs) hu (by rw [lexGt_eq]; exact h)
end
end Mine
end

section
open PySem PySem.W PyProof.Rows
set_option Elab.async false
set_option maxRecDepth 100000
set_option linter.unusedVariables false
namespace Mine
/-! the plain law: no program in sight -/
abbrev Score := Option (Int × Int)
/-- one pair of whole numbers goes ahead of another -/
def gtI (p q : Int × Int) : Bool := if p.1 == q.1 then decide (p.2 > q.2) else decide (p.1 > q.1)
def sStep (fit : Str → Int) (b : Score) (p : Str × Int) : Score := if decide (0 ≤ fit p.1) && (match b with
  | none => true
  | some (bq, bf) => gtI (fit p.1, p.2) (bf, bq)) then some (p.2, fit p.1) else b
def scoreOf (fit : Str → Int) (ws : List (Str × Int)) : Score := ws.foldl (sStep fit) none
def scoresOf (F : Str → Str → Int) (ws : List (Str × Int)) (xs : List Str) : List Score := xs.map fun x => scoreOf (fun w => F w x) ws
def bStep (sc : List Score) (b : Int) (k : Nat) : Int := match sc[k]? with
  | some (some (q, f)) => if decide (q > 0) && (decide (b < 0) || (match sc[b.toNat]? with
    | some (some r) => gtI (q, f) r
    | _ => false)) then k else b
  | _ => b
def bestIx (sc : List Score) : Int := (List.range sc.length).foldl (bStep sc) (-1)
theorem gtI_iff {a b c d : Int} : gtI (a, b) (c, d) = true ↔ a > c ∨ (a = c ∧ b > d) := by
  unfold gtI
  by_cases h : a = c
  · subst h; simp
  · simp [h]
/-- the pair stands for the greatest fit, then the greatest quality -/
def IsMax (fit : Str → Int) (ws : List (Str × Int)) (b : Score) : Prop := match b with
  | none => ∀ p ∈ ws, fit p.1 < 0
  | some (q, f) => (∃ p ∈ ws, p.2 = q ∧ fit p.1 = f) ∧ 0 ≤ f ∧ ∀ p ∈ ws, 0 ≤ fit p.1 → fit p.1 < f ∨ (fit p.1 = f ∧ p.2 ≤ q)
theorem IsMax.uniq {fit : Str → Int} {ws : List (Str × Int)} {b c : Score} (h : IsMax fit ws b) (k : IsMax fit ws c) : b = c := by
  cases b with
  | none =>
    cases c with
    | none => rfl
    | some c =>
      obtain ⟨⟨p, hp, h1, h2⟩, h3, _⟩ := k
      have := h p hp
      omega
  | some b =>
    cases c with
    | none =>
      obtain ⟨⟨p, hp, h1, h2⟩, h3, _⟩ := h
      have := k p hp
      omega
    | some c =>
      obtain ⟨q, f⟩ := b
      obtain ⟨q', f'⟩ := c
      obtain ⟨⟨p, hp, h1, h2⟩, h3, h4⟩ := h
      obtain ⟨⟨p', hp', k1, k2⟩, k3, k4⟩ := k
      have e1 := h4 p' hp' (by omega)
      have e2 := k4 p hp (by omega)
      have : q = q' ∧ f = f' := by omega
      rw [this.1, this.2]
theorem IsMax.perm {fit : Str → Int} {ws vs : List (Str × Int)} {b : Score} (h : IsMax fit ws b) (e : ∀ p, p ∈ ws ↔ p ∈ vs) : IsMax fit vs b := by
  cases b with
  | none => exact fun p hp => h p ((e p).mpr hp)
  | some b =>
    obtain ⟨⟨p, hp, h1⟩, h2, h3⟩ := h
    exact ⟨⟨p, (e p).mp hp, h1⟩, h2, fun p hp => h3 p ((e p).mpr hp)⟩
theorem sStep_none {fit : Str → Int} {p : Str × Int} : sStep fit none p = if 0 ≤ fit p.1 then some (p.2, fit p.1) else none := by
  unfold sStep
  simp
theorem sStep_some {fit : Str → Int} {p : Str × Int} {bq bf : Int} : sStep fit (some (bq, bf)) p = if 0 ≤ fit p.1 ∧ (fit p.1 > bf ∨ (fit p.1 = bf ∧ p.2 > bq)) then some (p.2, fit p.1) else some (bq, bf) := by
  unfold sStep
  dsimp only
  simp only [Bool.and_eq_true, decide_eq_true_eq, gtI_iff]
theorem IsMax.step {fit : Str → Int} {ws : List (Str × Int)} {b : Score} (h : IsMax fit ws b) (p : Str × Int) : IsMax fit (ws ++ [p]) (sStep fit b p) := by
  cases b with
  | none =>
    rw [sStep_none]
    by_cases hf : 0 ≤ fit p.1
    · rw [if_pos hf]
      refine ⟨⟨p, List.mem_append_right _ List.mem_cons_self, rfl, rfl⟩, hf, fun r hr h0 => ?_⟩
      rcases List.mem_append.mp hr with hr | hr
      · have := h r hr; omega
      · rw [List.mem_singleton.mp hr]; exact .inr ⟨rfl, Int.le_refl _⟩
    · rw [if_neg hf]
      intro r hr
      rcases List.mem_append.mp hr with hr | hr
      · exact h r hr
      · rw [List.mem_singleton.mp hr]; omega
  | some b =>
    obtain ⟨bq, bf⟩ := b
    obtain ⟨⟨r, hr, h1, h2⟩, h3, h4⟩ := h
    rw [sStep_some]
    split
    · rename_i hc
      refine ⟨⟨p, List.mem_append_right _ List.mem_cons_self, rfl, rfl⟩, hc.1, fun r hr h0 => ?_⟩
      rcases List.mem_append.mp hr with hr | hr
      · have := h4 r hr h0; omega
      · rw [List.mem_singleton.mp hr]; exact .inr ⟨rfl, Int.le_refl _⟩
    · rename_i hc
      simp only [not_and, not_or] at hc
      refine ⟨⟨r, List.mem_append_left _ hr, h1, h2⟩, h3, fun r hr h0 => ?_⟩
      rcases List.mem_append.mp hr with hr | hr
      · exact h4 r hr h0
      · have e := List.mem_singleton.mp hr
        subst e
        have := hc h0
        omega
theorem scoreOf_take {fit : Str → Int} {ws : List (Str × Int)} : IsMax fit ws (scoreOf fit ws) := by
  have key : ∀ (vs us : List (Str × Int)) (b : Score), IsMax fit us b → IsMax fit (us ++ vs) (vs.foldl (sStep fit) b) := by
    intro vs
    induction vs with
    | nil => intro us b h; simpa using h
    | cons p vs ih =>
      intro us b h
      have := ih (us ++ [p]) (sStep fit b p) (h.step p)
      simpa using this
  have := key ws [] none (fun p hp => absurd hp List.not_mem_nil)
  exact this
theorem scoreOf_perm {fit : Str → Int} {ws vs : List (Str × Int)} (e : ∀ p, p ∈ ws ↔ p ∈ vs) : scoreOf fit ws = scoreOf fit vs :=
  (scoreOf_take.perm e).uniq scoreOf_take
/-- the first wish that matches -/
def firstW (M : Str → Bool) : List (Str × Int) → Option (Str × Int) := fun ws => ws.find? fun p => M p.1
theorem first_score {fit : Str → Int} {M : Str → Bool} {ss : List (Str × Int)} (hM : ∀ p ∈ ss, (M p.1 = true ↔ 0 ≤ fit p.1))
    (hs : ss.Pairwise fun a b => 0 ≤ fit a.1 → 0 ≤ fit b.1 → fit b.1 < fit a.1 ∨ (fit b.1 = fit a.1 ∧ b.2 ≤ a.2)) : scoreOf fit ss = (firstW M ss).map fun p => (p.2, fit p.1) := by
  refine IsMax.uniq scoreOf_take ?_
  induction ss with
  | nil => exact fun p hp => absurd hp List.not_mem_nil
  | cons a r ih =>
    have hr := ih (fun p hp => hM p (List.mem_cons_of_mem _ hp)) (List.pairwise_cons.mp hs).2
    have ha := (List.pairwise_cons.mp hs).1
    unfold firstW at hr ⊢
    rw [List.find?_cons]
    cases hm : M a.1 with
    | true =>
      have h0 := (hM a List.mem_cons_self).mp hm
      refine ⟨⟨a, List.mem_cons_self, rfl, rfl⟩, h0, fun p hp hp0 => ?_⟩
      rcases List.mem_cons.mp hp with rfl | hp
      · exact .inr ⟨rfl, Int.le_refl _⟩
      · exact ha p hp h0 hp0
    | false =>
      have h0 : ¬ 0 ≤ fit a.1 := fun q => by
        have := (hM a List.mem_cons_self).mpr q
        rw [hm] at this; cases this
      dsimp only
      cases hf : List.find? (fun p => M p.1) r with
      | none =>
        rw [hf] at hr
        intro p hp
        rcases List.mem_cons.mp hp with rfl | hp
        · omega
        · exact hr p hp
      | some b =>
        rw [hf] at hr
        obtain ⟨⟨p, hp, h1⟩, h2, h3⟩ := hr
        refine ⟨⟨p, List.mem_cons_of_mem _ hp, h1⟩, h2, fun p hp hp0 => ?_⟩
        rcases List.mem_cons.mp hp with rfl | hp
        · omega
        · exact h3 p hp hp0
end Mine
end

section
open PySem PySem.W PyProof.Rows
set_option Elab.async false
set_option maxRecDepth 100000
set_option linter.unusedVariables false
namespace Mine
/-- the run of a tree of questions -/
def kasRun {α : Type} (lt : Nat → Nat → Bool) : KasT α → α
  | .ret a => a
  | .ask i j k => kasRun lt (k (lt i j))
theorem kasRun_bind {α β : Type} (lt : Nat → Nat → Bool) (f : α → KasT β) : ∀ t : KasT α, kasRun lt (t.bind f) = kasRun lt (f (kasRun lt t))
  | .ret a => rfl
  | .ask i j k => kasRun_bind lt f (k (lt i j))
theorem kasWp_run {α : Type} {cmp : Nat → Nat → (Bool → Shared → Prop) → Shared → Prop} {lt : Nat → Nat → Bool} {I : Shared → Prop}
    (hc : ∀ i j (C : Bool → Shared → Prop) s, I s → (∀ s', I s' → C (lt i j) s') → cmp i j C s) : ∀ (t : KasT α) (Q : α → Shared → Prop) (s : Shared), I s → (∀ s', I s' → Q (kasRun lt t) s') → t.kasWp cmp Q s
  | .ret a, Q, s, hI, h => h s hI
  | .ask i j k, Q, s, hI, h => hc i j _ s hI fun s' hI' => kasWp_run hc (k (lt i j)) Q s' hI' h
structure Weak (lt : Nat → Nat → Bool) : Prop where
  asym : ∀ i j, lt i j = true → lt j i = false
  trans : ∀ i j k, lt j i = false → lt k j = false → lt k i = false
section
variable {lt : Nat → Nat → Bool}
/-- at most -/
abbrev Le (lt : Nat → Nat → Bool) (a b : Nat) : Prop := lt b a = false
theorem Weak.refl (W : Weak lt) (a : Nat) : Le lt a a := by
  cases h : lt a a with
  | false => exact h
  | true => have := W.asym a a h; rw [h] at this; cases this
abbrev G (p : Array Nat) (i : Nat) : Nat := p.getD i 0
def Up (lt : Nat → Nat → Bool) (p : Array Nat) (k : Nat) : Prop := ∀ i j, i ≤ j → j < k → Le lt (G p i) (G p j)
def Down (lt : Nat → Nat → Bool) (p : Array Nat) (k : Nat) : Prop := ∀ i j, i ≤ j → j < k → Le lt (G p j) (G p i)
def Same (lt : Nat → Nat → Bool) (p : Array Nat) (a b : Nat) : Prop := ∀ i j, a ≤ i → i < b → a ≤ j → j < b → Le lt (G p i) (G p j)
theorem G_rev {p : Array Nat} {i j : Nat} (hj : j ≤ p.size) (k : Nat) : G (kas_rev p i j) k = if i ≤ k ∧ k < j then G p (i + j - 1 - k) else G p k := by
  unfold G kas_rev
  rw [Array.getD_eq_getD_getElem?, getElem?_mirror_all hj, Array.getD_eq_getD_getElem?, Array.getD_eq_getD_getElem?]
  split <;> rfl
theorem size_rev (p : Array Nat) (i j : Nat) : (kas_rev p i j).size = p.size := mirror_size _ _ _ _
theorem perm_rev (p : Array Nat) (i j : Nat) : (kas_rev p i j).Perm p := mirror_perm _ _ _ _
theorem G_bubble {p : Array Nat} {src d : Nat} (hs : src < p.size) (hd : d ≤ src) (k : Nat) : G (bubble p src d) k = if k = src - d then G p src else if src - d < k ∧ k ≤ src then G p (k - 1) else G p k := by
  unfold G
  rw [Array.getD_eq_getD_getElem?, getElem?_bubble hs d hd, Array.getD_eq_getD_getElem?, Array.getD_eq_getD_getElem?, Array.getD_eq_getD_getElem?]
  repeat' split
  all_goals rfl
theorem Up.next (W : Weak lt) {p : Array Nat} {n : Nat} (h : Up lt p n) (h1 : 1 ≤ n) (hn : Le lt (G p (n - 1)) (G p n)) : Up lt p (n + 1) := by
  intro i j hij hj
  by_cases e : j = n
  · subst e
    by_cases e2 : i = j
    · subst e2; exact W.refl _
    · exact W.trans _ _ _ (h i (j - 1) (by omega) (by omega)) hn
  · exact h i j hij (by omega)
theorem Down.next (W : Weak lt) {p : Array Nat} {n : Nat} (h : Down lt p n) (h1 : 1 ≤ n) (hn : Le lt (G p n) (G p (n - 1))) : Down lt p (n + 1) := by
  intro i j hij hj
  by_cases e : j = n
  · subst e
    by_cases e2 : i = j
    · subst e2; exact W.refl _
    · exact W.trans _ _ _ hn (h i (j - 1) (by omega) (by omega))
  · exact h i j hij (by omega)
theorem Down.rev (W : Weak lt) {p : Array Nat} {n : Nat} (h : Down lt p n) (hn : n ≤ p.size) : Up lt (kas_rev p 0 n) n := by
  intro i j hij hj
  rw [G_rev hn, G_rev hn, if_pos (by omega), if_pos (by omega)]
  exact h _ _ (by omega) (by omega)
/-- a stretch of equals turned round -/
theorem Same.rev {p : Array Nat} {a b : Nat} (h : Same lt p a b) (hb : b ≤ p.size) (k : Nat) (W : Weak lt) : Le lt (G (kas_rev p a b) k) (G p k) ∧ Le lt (G p k) (G (kas_rev p a b) k) := by
  rw [G_rev hb]
  split
  · exact ⟨h _ _ (by omega) (by omega) (by omega) (by omega), h _ _ (by omega) (by omega) (by omega) (by omega)⟩
  · exact ⟨W.refl _, W.refl _⟩
theorem Down.same (W : Weak lt) {p q : Array Nat} {n : Nat} (h : Down lt p n) (e : ∀ k, Le lt (G q k) (G p k) ∧ Le lt (G p k) (G q k)) : Down lt q n := fun i j hij hj => W.trans _ _ _ (e j).1 (W.trans _ _ _ (h i j hij hj) (e i).2)
theorem asc_run (W : Weak lt) (p : Array Nat) : ∀ (f n : Nat), 1 ≤ n → Up lt p n → ∃ m, kasRun lt (kas_asc p f n) = m ∧ n ≤ m ∧ m ≤ n + f ∧ Up lt p m ∧ (m < n + f → lt (G p m) (G p (m - 1)) = true)
  | 0, n, h1, h => ⟨n, rfl, Nat.le_refl _, Nat.le_refl _, h, fun q => absurd q (by omega)⟩
  | f + 1, n, h1, h => by
    show ∃ m, kasRun lt (if lt (G p n) (G p (n - 1)) = true then KasT.ret n else kas_asc p f (n + 1)) = m ∧ _
    by_cases c : lt (G p n) (G p (n - 1)) = true
    · rw [if_pos c]
      exact ⟨n, rfl, Nat.le_refl _, by omega, h, fun _ => c⟩
    · rw [if_neg c]
      have c' : Le lt (G p (n - 1)) (G p n) := by simpa using c
      obtain ⟨m, e, a, b, d, g⟩ := asc_run W p f (n + 1) (by omega) (h.next W h1 c')
      exact ⟨m, e, by omega, by omega, d, fun q => g (by omega)⟩
theorem desc_run (W : Weak lt) : ∀ (f : Nat) (p : Array Nat) (n q : Nat), q + 1 ≤ n → n + f ≤ p.size → Down lt p n → Same lt p (n - (q + 1)) n → ∃ p' m q', kasRun lt (kas_desc f p n q) = (p', m, q') ∧ n ≤ m ∧ m ≤ n + f ∧ q' + 1 ≤ m ∧ p'.size = p.size ∧ p'.Perm p ∧ Down lt p' m ∧ Same lt p' (m - (q' + 1)) m
  | 0, p, n, q, h1, h2, h, hs => ⟨p, n, q, rfl, Nat.le_refl _, Nat.le_refl _, h1, rfl, Array.Perm.refl _, h, hs⟩
  | f + 1, p, n, q, h1, h2, h, hs => by
    show ∃ p' m q', kasRun lt (if lt (G p n) (G p (n - 1)) = true then (if q > 0 then kas_desc f (kas_rev p (n - (q + 1)) n) (n + 1) 0 else kas_desc f p (n + 1) 0) else KasT.ask (G p (n - 1)) (G p n) fun d => if d = true then KasT.ret (p, n, q) else kas_desc f p (n + 1) (q + 1)) = (p', m, q') ∧ _
    have one : ∀ p : Array Nat, Same lt p (n + 1 - (0 + 1)) (n + 1) := fun p i j a b c d => by
      have : i = j := by omega
      subst this; exact W.refl _
    by_cases c : lt (G p n) (G p (n - 1)) = true
    · rw [if_pos c]
      have cl := W.asym _ _ c
      split
      · rename_i hq
        have e := fun k => hs.rev (by omega) k W
        have hz := size_rev p (n - (q + 1)) n
        have hd : Down lt (kas_rev p (n - (q + 1)) n) (n + 1) := (h.next W (by omega) cl).same W e
        obtain ⟨p', m, q', r, a1, a2, a3, a4, a5, a6, a7⟩ := desc_run W f (kas_rev p (n - (q + 1)) n) (n + 1) 0 (by omega) (by rw [hz]; omega) hd (one _)
        exact ⟨p', m, q', r, by omega, by omega, a3, a4.trans hz, a5.trans (perm_rev _ _ _), a6, a7⟩
      · obtain ⟨p', m, q', r, a1, a2, a3, a4, a5, a6, a7⟩ := desc_run W f p (n + 1) 0 (by omega) (by omega) (h.next W (by omega) cl) (one _)
        exact ⟨p', m, q', r, by omega, by omega, a3, a4, a5, a6, a7⟩
    · rw [if_neg c]
      show ∃ p' m q', kasRun lt (if lt (G p (n - 1)) (G p n) = true then KasT.ret (p, n, q) else kas_desc f p (n + 1) (q + 1)) = (p', m, q') ∧ _
      by_cases d : lt (G p (n - 1)) (G p n) = true
      · rw [if_pos d]
        exact ⟨p, n, q, rfl, Nat.le_refl _, by omega, h1, rfl, Array.Perm.refl _, h, hs⟩
      · rw [if_neg d]
        have c' : Le lt (G p (n - 1)) (G p n) := by simpa using c
        have d' : Le lt (G p n) (G p (n - 1)) := by simpa using d
        obtain ⟨p', m, q', r, a1, a2, a3, a4, a5, a6, a7⟩ := desc_run W f p (n + 1) (q + 1) (by omega) (by omega) (h.next W (by omega) d') (fun i j b1 b2 b3 b4 => by
          by_cases ei : i = n
          · by_cases ej : j = n
            · rw [ei, ej]; exact W.refl _
            · rw [ei]; exact W.trans _ _ _ d' (hs (n - 1) j (by omega) (by omega) (by omega) (by omega))
          · by_cases ej : j = n
            · rw [ej]; exact W.trans _ _ _ (hs i (n - 1) (by omega) (by omega) (by omega) (by omega)) c'
            · exact hs i j (by omega) (by omega) (by omega) (by omega))
        exact ⟨p', m, q', r, by omega, by omega, a3, a4, a5, a6, a7⟩
theorem tail3_run (W : Weak lt) {p : Array Nat} {n nrem : Nat} (h1 : 1 ≤ n) (hn : n ≤ nrem) (hz : nrem = p.size) (h : Down lt p n) : ∃ m p', kasRun lt (kas_tail3 n nrem p) = (m, p') ∧ 1 ≤ m ∧ m ≤ nrem ∧ p'.size = p.size ∧ p'.Perm p ∧ Up lt p' m := by
  unfold kas_tail3
  rw [kasRun_bind]
  obtain ⟨m, e, a, b, d, _⟩ := asc_run W (kas_rev p 0 n) (nrem - n) n h1 (h.rev W (by omega))
  rw [e]
  exact ⟨m, _, rfl, by omega, by omega, size_rev _ _ _, perm_rev _ _ _, d⟩
theorem descPart_run (W : Weak lt) {p : Array Nat} {n nrem : Nat} (h1 : 1 ≤ n) (hn : n < nrem) (hz : nrem = p.size) (h : Down lt p (n + 1)) : ∃ m p', kasRun lt (kas_descPart n nrem p) = (m, p') ∧ 1 ≤ m ∧ m ≤ nrem ∧ p'.size = p.size ∧ p'.Perm p ∧ Up lt p' m := by
  unfold kas_descPart
  rw [kasRun_bind]
  obtain ⟨p', m, q', r, a1, a2, a3, a4, a5, a6, a7⟩ := desc_run W (nrem - (n + 1)) p (n + 1) 0 (by omega) (by omega) h (fun i j a b c d => by
      have : i = j := by omega
      subst this; exact W.refl _)
  rw [r]
  dsimp only
  split
  · have e := fun k => a7.rev (by omega) k W
    obtain ⟨m2, p2, r2, b1, b2, b3, b4, b5⟩ := tail3_run W (p := kas_rev p' (m - (q' + 1)) m) (n := m) (nrem := nrem) (by omega) (by omega) (by rw [size_rev, a4]; exact hz) (a6.same W e)
    exact ⟨m2, p2, r2, b1, b2, b3.trans ((size_rev _ _ _).trans a4), b4.trans ((perm_rev _ _ _).trans a5), b5⟩
  · obtain ⟨m2, p2, r2, b1, b2, b3, b4, b5⟩ := tail3_run W (p := p') (n := m) (nrem := nrem) (by omega) (by omega) (by rw [a4]; exact hz) a6
    exact ⟨m2, p2, r2, b1, b2, b3.trans a4, b4.trans a5, b5⟩
theorem Up.one (W : Weak lt) (p : Array Nat) : Up lt p 1 := fun i j a b => by
  have : i = j := by omega
  subst this; exact W.refl _
theorem count_run (W : Weak lt) {p : Array Nat} {nrem : Nat} (h1 : 1 ≤ nrem) (hz : nrem = p.size) : ∃ m p', kasRun lt (kas_count nrem p) = (m, p') ∧ 1 ≤ m ∧ m ≤ nrem ∧ p'.size = p.size ∧ p'.Perm p ∧ Up lt p' m := by
  unfold kas_count
  rw [kasRun_bind]
  obtain ⟨n, e, a, b, d, g⟩ := asc_run W p (nrem - 1) 1 (Nat.le_refl _) (Up.one W p)
  rw [e]
  split
  · exact ⟨n, p, rfl, a, by omega, rfl, Array.Perm.refl _, d⟩
  · rename_i hne
    have hlt : n < nrem := by
      have : n ≠ nrem := fun q => hne (by simp [q])
      omega
    have hl := g (by omega)
    split
    · show ∃ m p', kasRun lt (if lt (G p 0) (G p (n - 1)) = true then KasT.ret (n, p) else kas_descPart n nrem (kas_rev p 0 n)) = (m, p') ∧ _
      by_cases c : lt (G p 0) (G p (n - 1)) = true
      · rw [if_pos c]
        exact ⟨n, p, rfl, a, by omega, rfl, Array.Perm.refl _, d⟩
      · rw [if_neg c]
        have c' : Le lt (G p (n - 1)) (G p 0) := by simpa using c
        have hs : Same lt p 0 n := fun i j _ hi _ hj => W.trans _ _ _ (d i (n - 1) (by omega) (by omega)) (W.trans _ _ _ c' (d 0 j (by omega) hj))
        have e := fun k => hs.rev (by omega) k W
        have hd0 : Down lt p n := fun i j _ hj => hs j i (by omega) hj (by omega) (by omega)
        have hd : Down lt p (n + 1) := hd0.next W a (W.asym _ _ hl)
        obtain ⟨m2, p2, r2, b1, b2, b3, b4, b5⟩ := descPart_run W (p := kas_rev p 0 n) a hlt (by rw [size_rev]; exact hz) (hd.same W e)
        exact ⟨m2, p2, r2, b1, b2, b3.trans (size_rev _ _ _), b4.trans (perm_rev _ _ _), b5⟩
    · have hn1 : n = 1 := by omega
      subst hn1
      have hd : Down lt p (1 + 1) := Down.next W (fun i j a b => by
        have : i = j := by omega
        subst this; exact W.refl _) (Nat.le_refl _) (W.asym _ _ hl)
      exact descPart_run W a hlt hz hd
theorem place_run (W : Weak lt) {p : Array Nat} {k : Nat} (hu : Up lt p k) : ∀ (f l r : Nat), l ≤ r → r ≤ k → r - l ≤ f → (∀ i, i < l → Le lt (G p i) (G p k)) → (∀ i, r ≤ i → i < k → Le lt (G p k) (G p i)) →
    ∃ x, kasRun lt (kas_place p k f l r) = x ∧ x ≤ k ∧ (∀ i, i < x → Le lt (G p i) (G p k)) ∧ (∀ i, x ≤ i → i < k → Le lt (G p k) (G p i))
  | 0, l, r, h1, h2, h3, ha, hb => ⟨l, rfl, by omega, ha, fun i hi => hb i (by omega)⟩
  | f + 1, l, r, h1, h2, h3, ha, hb => by
    unfold kas_place
    by_cases e : l ≥ r
    · rw [if_pos e]
      exact ⟨l, rfl, by omega, ha, fun i hi => hb i (by omega)⟩
    · rw [if_neg e]
      show ∃ x, kasRun lt (if lt (G p k) (G p ((l + r) / 2)) = true then kas_place p k f l ((l + r) / 2) else kas_place p k f ((l + r) / 2 + 1) r) = x ∧ _
      by_cases c : lt (G p k) (G p ((l + r) / 2)) = true
      · rw [if_pos c]
        exact place_run W hu f l ((l + r) / 2) (by omega) (by omega) (by omega) ha fun i hi hk => W.trans _ _ _ (W.asym _ _ c) (hu _ _ hi hk)
      · rw [if_neg c]
        have c' : Le lt (G p ((l + r) / 2)) (G p k) := by simpa using c
        exact place_run W hu f ((l + r) / 2 + 1) r (by omega) h2 (by omega) (fun i hi => W.trans _ _ _ (hu i ((l + r) / 2) (by omega) (by omega)) c') hb
theorem bin_run (W : Weak lt) : ∀ (f : Nat) (p : Array Nat) (k : Nat), 1 ≤ k → k + f ≤ p.size → Up lt p k → ∃ p', kasRun lt (kas_bin f p k) = p' ∧ p'.size = p.size ∧ p'.Perm p ∧ Up lt p' (k + f)
  | 0, p, k, h1, h2, h => ⟨p, rfl, rfl, Array.Perm.refl _, h⟩
  | f + 1, p, k, h1, h2, h => by
    unfold kas_bin
    rw [kasRun_bind]
    obtain ⟨x, e, hx, ha, hb⟩ := place_run W h k 0 k (by omega) (by omega) (by omega) (fun i hi => absurd hi (by omega)) (fun i hi hk => absurd hi (by omega))
    rw [e]
    have hG := fun j => G_bubble (p := p) (src := k) (d := k - x) (by omega) (by omega) j
    have hu : Up lt (bubble p k (k - x)) (k + 1) := by
      intro i j hij hj
      rw [hG, hG]
      have ex : k - (k - x) = x := by omega
      rw [ex]
      by_cases ei : i = x
      · rw [if_pos ei]
        by_cases ej : j = x
        · rw [if_pos ej]; exact W.refl _
        · rw [if_neg ej, if_pos (by omega)]; exact hb _ (by omega) (by omega)
      · rw [if_neg ei]
        by_cases ej : j = x
        · rw [if_pos ej, if_neg (by omega)]; exact ha _ (by omega)
        · rw [if_neg ej]
          by_cases gi : x < i
          · rw [if_pos (by omega), if_pos (by omega)]; exact h _ _ (by omega) (by omega)
          · rw [if_neg (by omega)]
            by_cases gj : x < j
            · rw [if_pos (by omega)]; exact h _ _ (by omega) (by omega)
            · rw [if_neg (by omega)]; exact h _ _ (by omega) (by omega)
    have hz : (bubble p k (k - x)).size = p.size := bubble_size _ _ _
    obtain ⟨p', r, a1, a2, a3⟩ := bin_run W f (bubble p k (k - x)) (k + 1) (by omega) (by rw [hz]; omega) hu
    exact ⟨p', r, a1.trans hz, a2.trans (bubble_perm _ _ _), by rw [show k + (f + 1) = k + 1 + f by omega]; exact a3⟩
theorem sort_run (W : Weak lt) {n : Nat} (h1 : 1 ≤ n) : ∃ p, kasRun lt (kas_sort n) = p ∧ p.size = n ∧ p.toList.Perm (List.range n) ∧ p.toList.Pairwise (fun a b => Le lt a b) := by
  have key : ∃ p, kasRun lt (kas_sort n) = p ∧ p.size = n ∧ p.Perm (List.toArray (List.range n)) ∧ Up lt p n := by
    have hz0 : (List.toArray (List.range n)).size = n := by simp
    unfold kas_sort
    rw [kasRun_bind]
    obtain ⟨m, p, r, a1, a2, a3, a4, a5⟩ := count_run W (p := List.toArray (List.range n)) h1 hz0.symm
    rw [r]
    dsimp only
    by_cases c : m < n
    · rw [if_pos c, Nat.max_eq_left a1]
      obtain ⟨p', r', b1, b2, b3⟩ := bin_run W (n - m) p m a1 (by rw [a3, hz0]; omega) a5
      refine ⟨p', r', b1.trans (a3.trans hz0), b2.trans a4, ?_⟩
      rw [show m + (n - m) = n by omega] at b3
      exact b3
    · rw [if_neg c]
      have : m = n := by omega
      subst this
      exact ⟨p, rfl, a3.trans hz0, a4, a5⟩
  obtain ⟨p, e, hz, hp, hu⟩ := key
  refine ⟨p, e, hz, hp.toList, ?_⟩
  rw [List.pairwise_iff_getElem]
  intro i j hi hj hij
  have := hu i j (by omega) (by rw [Array.length_toList, hz] at hj; exact hj)
  rw [Array.length_toList] at hi hj
  simpa [G, Array.getD_eq_getD_getElem?, hi, hj] using this
end
end Mine
end

section
open PySem PySem.W PyProof.Rows
set_option Elab.async false
set_option maxRecDepth 100000
set_option linter.unusedVariables false
namespace Mine
/-- the first list goes behind the second -/
def lexLt : List Bool → List Bool → Bool
  | [], [] => false
  | [], _ :: _ => true
  | _ :: _, [] => false
  | p :: ps, q :: qs => if p == q then lexLt ps qs else !p && q
theorem lexLt_asym : ∀ a b : List Bool, lexLt a b = true → lexLt b a = false
  | [], [], h => by cases h
  | [], _ :: _, _ => rfl
  | _ :: _, [], h => by cases h
  | p :: ps, q :: qs, h => by
    simp only [lexLt] at h ⊢
    cases p <;> cases q <;> simp_all
    all_goals exact lexLt_asym ps qs h
theorem lexLt_total : ∀ a b : List Bool, lexLt a b = false → lexLt b a = false → a = b
  | [], [], _, _ => rfl
  | [], _ :: _, h, _ => by cases h
  | _ :: _, [], _, h => by cases h
  | p :: ps, q :: qs, h, k => by
    simp only [lexLt] at h k
    cases p <;> cases q <;> simp_all
    all_goals exact lexLt_total ps qs h k
theorem lexLt_trans : ∀ a b c : List Bool, lexLt a b = true → lexLt b c = true → lexLt a c = true
  | [], [], _, h, _ => by cases h
  | [], _ :: _, [], _, k => by cases k
  | [], _ :: _, _ :: _, _, _ => rfl
  | _ :: _, [], _, h, _ => by cases h
  | _ :: _, _ :: _, [], _, k => by cases k
  | p :: ps, q :: qs, r :: rs, h, k => by
    simp only [lexLt] at h k ⊢
    cases p <;> cases q <;> cases r <;> simp_all
    all_goals exact lexLt_trans ps qs rs h k
theorem lexLt_irrefl (a : List Bool) : lexLt a a = false := by
  cases h : lexLt a a with
  | false => rfl
  | true => have := lexLt_asym a a h; rw [h] at this; cases this
abbrev Key := List Bool × Int
def keyLt (a b : Key) : Bool := if a.1 == b.1 then decide (a.2 < b.2) else lexLt a.1 b.1
theorem keyLt_asym (a b : Key) (h : keyLt a b = true) : keyLt b a = false := by
  unfold keyLt at h ⊢
  by_cases e : a.1 = b.1
  · have e1 : (a.1 == b.1) = true := by simp [e]
    have e2 : (b.1 == a.1) = true := by simp [e]
    rw [e1] at h; rw [e2]
    simp only [if_true, decide_eq_true_eq, decide_eq_false_iff_not] at h ⊢
    omega
  · have e1 : (a.1 == b.1) = false := by simpa using e
    have e2 : (b.1 == a.1) = false := by simpa using fun q => e q.symm
    rw [e1] at h; rw [e2]
    simp only [Bool.false_eq_true, if_false] at h ⊢
    exact lexLt_asym _ _ h
theorem keyLe_trans (a b c : Key) (h : keyLt b a = false) (k : keyLt c b = false) : keyLt c a = false := by
  unfold keyLt at h k ⊢
  by_cases e1 : b.1 = a.1
  · by_cases e2 : c.1 = b.1
    · have f1 : (b.1 == a.1) = true := by simp [e1]
      have f2 : (c.1 == b.1) = true := by simp [e2]
      have f3 : (c.1 == a.1) = true := by simp [e1, e2]
      rw [f1] at h; rw [f2] at k; rw [f3]
      simp only [if_true, decide_eq_false_iff_not] at h k ⊢
      omega
    · have f2 : (c.1 == b.1) = false := by simpa using e2
      have f3 : (c.1 == a.1) = false := by rw [← e1]; exact f2
      rw [f2] at k; rw [f3, ← e1]
      exact k
  · by_cases e2 : c.1 = b.1
    · have f1 : (b.1 == a.1) = false := by simpa using e1
      have f3 : (c.1 == a.1) = false := by rw [e2]; exact f1
      rw [f1] at h; rw [f3, e2]
      exact h
    · have f1 : (b.1 == a.1) = false := by simpa using e1
      have f2 : (c.1 == b.1) = false := by simpa using e2
      rw [f1] at h; rw [f2] at k
      simp only [Bool.false_eq_true, if_false] at h k
      have hab : lexLt a.1 b.1 = true := by
        cases q : lexLt a.1 b.1 with
        | true => rfl
        | false => exact absurd (lexLt_total _ _ h q) e1
      have hbc : lexLt b.1 c.1 = true := by
        cases q : lexLt b.1 c.1 with
        | true => rfl
        | false => exact absurd (lexLt_total _ _ k q) e2
      have hac := lexLt_trans _ _ _ hab hbc
      have f3 : (c.1 == a.1) = false := by
        cases q : (c.1 == a.1) with
        | false => rfl
        | true =>
          have : c.1 = a.1 := by simpa using q
          rw [this, lexLt_irrefl] at hac
          cases hac
      rw [f3]
      exact lexLt_asym _ _ hac
theorem weak_keys (keys : List Key) : Weak fun i j => keyLt (keys.getD i ([], 0)) (keys.getD j ([], 0)) where
  asym := fun i j h => keyLt_asym _ _ h
  trans := fun i j k h1 h2 => keyLe_trans _ _ _ h1 h2
theorem getD_reverse {α : Type} (l : List α) (d : α) {i : Nat} (h : i < l.length) : l.reverse.getD i d = l.getD (l.length - 1 - i) d := by
  simp [List.getD, List.getElem?_reverse h]
/-- what sorting by keys, the greatest first, leaves: places, the order of their keys -/
theorem rev_sorted {keys : List Key} {vs : List Value} {p : Array Nat} {n : Nat} (hk : keys.length = n) (hv : vs.length = n) (hp : p.toList.Perm (List.range n)) (hs : p.toList.Pairwise fun a b => Le (fun i j => keyLt (keys.reverse.getD i ([], 0)) (keys.reverse.getD j ([], 0))) a b) :
    ∃ σ : List Nat, σ.Perm (List.range n) ∧ (p.toList.map fun i => vs.reverse.getD i Value.none).reverse = σ.map (fun i => vs.getD i Value.none) ∧ σ.Pairwise fun i j => keyLt (keys.getD i ([], 0)) (keys.getD j ([], 0)) = false := by
  have hlt : ∀ i ∈ p.toList, i < n := fun i hi => List.mem_range.mp (hp.mem_iff.mp hi)
  refine ⟨(p.toList.map fun i => n - 1 - i).reverse, ?_, ?_, ?_⟩
  · refine (List.reverse_perm _).trans ?_
    refine (hp.map _).trans ?_
    have e : ((List.range n).map fun i => n - 1 - i) = (List.range n).reverse := by
      apply List.ext_getElem
      · simp
      · intro i h1 h2
        simp
    rw [e]
    exact List.reverse_perm _
  · rw [← List.map_reverse, List.map_reverse, List.map_reverse, List.map_map]
    congr 1
    refine List.map_congr_left fun i hi => ?_
    have := hlt i hi
    rw [getD_reverse _ _ (by rw [hv]; exact this), hv]
    rfl
  · rw [List.pairwise_reverse, List.pairwise_map]
    refine List.Pairwise.imp_of_mem (fun {a b} ha hb h => ?_) hs
    have h1 := hlt a ha
    have h2 := hlt b hb
    unfold Le at h
    dsimp only at h
    rw [getD_reverse _ _ (by rw [hk]; exact h2), getD_reverse _ _ (by rw [hk]; exact h1), hk] at h
    exact h
end Mine
end

section
open PySem PySem.W PyProof.Rows PySem.Calls PySem.Spec
set_option Elab.async false
set_option maxRecDepth 100000
set_option linter.unusedVariables false
namespace Mine
theorem mem_appR {α : Type} {a : α} {as bs : List α} (h : a ∈ bs) : List.Mem a (as ++ bs) := List.mem_append_right as h
/-! the tables of codes that the program's lambdas and generators fill -/
def TabOk (ln col : Int) (qual : Str) (ps : Array Value) (cds : List (Addr × Obj)) : Prop :=
  ps = #[] ∨ ∃ c' oc vs t, ps = #[rawInt ln, rawInt col, .ref c'] ∧ (c', oc) ∈ cds ∧ oc.data = .fields vs ∧ vs[1]? = some (.str qual t)
theorem TabOk.mono {ln col : Int} {qual : Str} {ps : Array Value} {cds cds' : List (Addr × Obj)} (h : TabOk ln col qual ps cds) (k : ∀ p ∈ cds, p ∈ cds') : TabOk ln col qual ps cds' := by
  rcases h with h | ⟨c', oc, vs, t, h1, h2, h3⟩
  · exact .inl h
  · exact .inr ⟨c', oc, vs, t, h1, k _ h2, h3⟩
/-- no object of the list is one of the tables -/
def NT (l : List (Addr × Obj)) : Prop := ∀ p ∈ l, p.2.cls ≠ .none ∨ (p.1 ≠ 172 ∧ p.1 ≠ 303 ∧ p.1 ≠ 375)
theorem NT.nil : NT [] := fun _ h => nomatch h
theorem NT.cons {p : Addr × Obj} {l : List (Addr × Obj)} (h : p.2.cls ≠ .none) (k : NT l) : NT (p :: l) := fun q hq => by
  rcases List.mem_cons.mp hq with rfl | hq
  · exact .inl h
  · exact k q hq
theorem NT.app {l r : List (Addr × Obj)} (h : NT l) (k : NT r) : NT (l ++ r) := fun q hq => (List.mem_append.mp hq).elim (h q) (k q)
/-- codes that were made on the way -/
def CodeL (cds : List (Addr × Obj)) : Prop := ∀ p ∈ cds, (p.1 ≠ 172 ∧ p.1 ≠ 303 ∧ p.1 ≠ 375) ∧ ∃ vs q t, p.2.data = .fields vs ∧ vs[1]? = some (.str q t)
def TabS (tb : List (Addr × Obj)) : Prop := ∃ p1 p2 p3 cds, tb = (172, tabObj p1) :: (303, tabObj p2) :: (375, tabObj p3) :: cds ∧
  TabOk 59 40 (Str.ofString "Accept.__init__.<locals>.<lambda>") p1 cds ∧ TabOk 153 21 (Str.ofString "MIMEAccept._specificity.<locals>.<genexpr>") p2 cds ∧ TabOk 202 24 (Str.ofString "LanguageAccept.best_match.<locals>.<genexpr>") p3 cds ∧ CodeL cds
/-- the tables within a ledger -/
inductive Pull (tb : List (Addr × Obj)) : List (Addr × Obj) → List (Addr × Obj) → Prop
  | here {r} : Pull tb (tb ++ r) r
  | cons {x l r} : Pull tb l r → Pull tb (x :: l) (x :: r)
  | app {l' l r} : Pull tb l r → Pull tb (l' ++ l) (l' ++ r)
theorem Pull.mem {tb l r : List (Addr × Obj)} (h : Pull tb l r) : ∀ p, p ∈ l ↔ p ∈ tb ++ r := by
  induction h with
  | here => exact fun p => Iff.rfl
  | cons _ ih => intro p; simp only [List.mem_cons, List.mem_append, ih]; constructor <;> rintro (h | h | h) <;> simp [h]
  | app _ ih => intro p; simp only [List.mem_append, ih]; constructor <;> rintro (h | h | h) <;> simp [h]
theorem TabS.ne {h₀ h : Heap} {L : Addr} {tb led : List (Addr × Obj)} (TS : TabS tb) (N : News h₀ L h led) (hm : ∀ p ∈ tb, p ∈ led) {it l : Addr} {i : Nat} (hi : (it, iterObj l i) ∈ led) : ∀ p ∈ tb, p.1 ≠ it := fun p hp q => by
  have e : some p.2 = some (iterObj l i) := by rw [← (N p (hm p hp)).1, q]; exact (N _ hi).1
  have e' := Option.some.inj e
  obtain ⟨p1, p2, p3, cds, rfl, _, _, _, hc⟩ := TS
  have tabNe : ∀ ps, tabObj ps ≠ iterObj l i := fun ps h => by
    have := congrArg Obj.cls h
    simp [iterObj] at this
  rcases List.mem_cons.mp hp with rfl | hp
  · exact tabNe _ e'
  rcases List.mem_cons.mp hp with rfl | hp
  · exact tabNe _ e'
  rcases List.mem_cons.mp hp with rfl | hp
  · exact tabNe _ e'
  obtain ⟨_, vs, q9, t, h1, h2⟩ := hc p hp
  rw [e'] at h1
  have : vs = #[.ref l, .int i 0] := by
    simp [iterObj] at h1
    exact h1.symm
  rw [this] at h2
  simp at h2
/-- the contract of a call that may fill the tables -/
def SpecT (w : World) (D U : Nat) (f : Value) (args : List Value) (news : List (Addr × Obj)) (R : Value → List (Addr × Obj) → Prop) : Prop :=
  ∀ (mean : ExcName → Option Value) (mg mb : Str → Option Value) (gd : Option (List Code)) (cn : Str) (cs : Scope) (a : Addr) (ccd : Value) (cl : List (Str × Addr)) (outer : List Env) (A₀ : Around) (base h₀ : Heap) (L : Addr) (m : Str → Option Value) (s : Shared) (Q E : Value → Shared → Prop) (tb : List (Addr × Obj)),
    Below A₀ base outer h₀ → Fr h₀ L s.heap m → (hd.heap_39 w.params).In h₀ → News h₀ L s.heap (tb ++ news) → TabS tb → NT news → Top topProg looseL mean mg mb h₀ → cs.kind = .function →
    (∀ v tl tb' h' g' tk', R v tl → Fr h₀ L h' m → News h₀ L h' (tl ++ (tb' ++ news)) → TabS tb' → NT tl → (∀ p ∈ news, ∀ q ∈ tl, p.1 < q.1) → GOk s.gens g' → Q v ⟨h', g', s.drawn, tk', s.os⟩) →
    wpAny (model PySem.Challenge.rw_eq0045_01.row.prog w) (ktrTop D U gd cn cs L a ccd cl outer) (call f args) Q E s
theorem specT_use {w : World} {D U dp un : Nat} {f : Value} {args : List Value} {led news : List (Addr × Obj)} {R : Value → List (Addr × Obj) → Prop} {mean : ExcName → Option Value} {mg mb : Str → Option Value} {gd : Option (List Code)} {cn : Str} {cs : Scope} {a : Addr} {ccd : Value} {cl : List (Str × Addr)} {outer : List Env} {A₀ : Around} {base h₀ : Heap} {L : Addr} {m : Str → Option Value} {s : Shared} {Q E : Value → Shared → Prop} {tb : List (Addr × Obj)}
    (S : SpecT w D U f args news R) (B : Below A₀ base outer h₀) (F : Fr h₀ L s.heap m) (X : (hd.heap_39 w.params).In h₀) (N : News h₀ L s.heap led) (TS : TabS tb) (P : Pull tb led news) (NN : NT news) (T : Top topProg looseL mean mg mb h₀) (hk : cs.kind = .function) (hd : dp ≤ D) (hu : un ≤ U)
    (k : ∀ v tl tb' h' g' tk', R v tl → Fr h₀ L h' m → News h₀ L h' (tl ++ (tb' ++ news)) → TabS tb' → NT tl → (∀ p ∈ news, ∀ q ∈ tl, p.1 < q.1) → GOk s.gens g' → Q v ⟨h', g', s.drawn, tk', s.os⟩) :
    wpAny (model PySem.Challenge.rw_eq0045_01.row.prog w) (ktrTop dp un gd cn cs L a ccd cl outer) (call f args) Q E s :=
  wpAny_deep (S mean mg mb gd cn cs a ccd cl outer A₀ base h₀ L m s Q E tb B F X (fun p hp => N p ((P.mem p).mpr hp)) TS NN T hk k) hd hu
theorem Spec.toT {w : World} {D U : Nat} {f : Value} {args : List Value} {news : List (Addr × Obj)} {R : Value → List (Addr × Obj) → Prop} (S : ∀ tb, Spec w D U f args (tb ++ news) R) (h : ∀ v tl, R v tl → NT tl) : SpecT w D U f args news R :=
  fun mean mg mb gd cn cs a ccd cl outer A₀ base h₀ L m s Q E tb B F X N TS NN T hk k => S tb mean mg mb gd cn cs a ccd cl outer A₀ base h₀ L m s Q E B F X N T hk
    fun v tl h' g' tk' hR F' N' hlt hg => k v tl tb h' g' tk' hR F' N' TS (h v tl hR) (fun p hp => hlt p (List.mem_append_right _ hp)) hg
theorem SpecT.weak {w : World} {D U D' U' : Nat} {f : Value} {args : List Value} {news : List (Addr × Obj)} {R : Value → List (Addr × Obj) → Prop} (S : SpecT w D U f args news R) (hd : D' ≤ D) (hu : U' ≤ U) : SpecT w D' U' f args news R :=
  fun mean mg mb gd cn cs a ccd cl outer A₀ base h₀ L m s Q E tb B F X N TS NN T hk k => wpAny_deep (S mean mg mb gd cn cs a ccd cl outer A₀ base h₀ L m s Q E tb B F X N TS NN T hk k) hd hu
end Mine
end

section
open PySem PySem.W PyProof.Rows PySem.Calls PySem.Spec
set_option Elab.async false
set_option maxRecDepth 100000
set_option linter.unusedVariables false
namespace Mine
theorem bl_canLayAll0 : ∀ ns : List Bool, PyData.canLayAll0 (ns.map PyData.bool) = true
  | [] => rfl
  | _ :: r => by simp [PyData.canLayAll0, PyData.canLay0, bl_canLayAll0 r]
theorem bl_depthAll : ∀ ns : List Bool, PyData.depthAll (ns.map PyData.bool) = 0
  | [] => rfl
  | _ :: r => by simp [PyData.depthAll, PyData.depth, bl_depthAll r]
theorem bl_shaped (ns : List Bool) : SeqAt.shaped (.tuple (ns.map PyData.bool)) = true := by
  simp [SeqAt.shaped, PyData.canLay0, PyData.depth, bl_canLayAll0, bl_depthAll]
theorem bl_sameAll : ∀ ns ms : List Bool, PySem.Spec.sameAll (ns.map PyData.bool) (ms.map PyData.bool) = (ns == ms)
  | [], [] => by simp [PySem.Spec.sameAll]
  | [], _ :: _ => by simp [PySem.Spec.sameAll]
  | _ :: _, [] => by simp [PySem.Spec.sameAll]
  | a :: r, b :: t => by
    simp only [List.map_cons, PySem.Spec.sameAll, PySem.Spec.same, bl_sameAll r t]
    cases a <;> cases b <;> simp
theorem bl_same (ns ms : List Bool) : PySem.Spec.same (.tuple (ns.map PyData.bool)) (.tuple (ms.map PyData.bool)) = (ns == ms) := by
  simp only [PySem.Spec.same]; exact bl_sameAll ns ms
theorem bl_carried : ∀ ns : List Bool, CarriedAll (bools ns) (ns.map PyData.bool)
  | [] => .nil
  | _ :: r => .cons (.bool _) (bl_carried r)
theorem bl_has (ns : List Bool) : (Shape.tuples .bool).has (.tuple (ns.map PyData.bool)) = true := by
  induction ns with
  | nil => rfl
  | cons a r ih => simpa [Shape.has] using ih
section
variable {prog : Program} {w : World} {A : Around} {E : Value → Shared → Prop} {s : Shared}
theorem eqBool_bools {ps qs : List Bool} {a b : Addr} {n k : Nat} {Q : Bool → Shared → Prop} (ha : s.heap.get? a = some { cls := .type "tuple", data := .seq (bools ps).toArray n }) (hb : s.heap.get? b = some { cls := .type "tuple", data := .seq (bools qs).toArray k })
    (hu : A.units + 64 < cLine) (h : Q (ps == qs) s) : wpAny (model prog w) A (eqBool (.ref a) (.ref b)) Q E s := by
  unfold eqBool
  try with_reducible refine wpAny_holding ?_
  show wpAny _ _ (if (Value.ref a == Value.ref b) = true then _ else _) Q E s
  by_cases hab : (Value.ref a == Value.ref b) = true
  · rw [if_pos hab]
    have e : a = b := by have := eq_of_beq hab; injection this
    subst e
    rw [ha] at hb
    have e2 : (bools ps).toArray = (bools qs).toArray := by
      injection hb with hb
      injection hb with _ _ hb _
      injection hb with hb _
    have e3 : ps = qs := by
      have := congrArg Array.toList e2
      simp only [bools] at this
      exact (List.map_inj_right (fun _ _ h => by injection h)).mp this
    subst e3
    exact wpAny_bind (wpAny_rule (wpAny_pure (by simpa using h)))
  · rw [if_neg hab]
    refine wpAny_bind (m := richCompare .Eq (.ref a) (.ref b)) ?_
    exact eq_dataH_same (reads_newDataT ⟨_, ha, rfl, _, rfl⟩ (bl_carried ps)) (reads_newDataT ⟨_, hb, rfl, _, rfl⟩ (bl_carried qs)) (bl_shaped _) (bl_shaped _) hu (SeqAt.noMix_of_shape (.tuples .bool) rfl _ _ (bl_has _) (bl_has _)) (by rw [bl_same]; exact wpAny_truthy_bool h)
/-- a key as sorting meets it -/
def IsKey (led : List (Addr × Obj)) (k : Value) (key : Key) : Prop := ∃ a n b n' u, k = .ref a ∧ (a, (⟨.type "tuple", none, .seq #[.ref b, .int key.2 u] n, #[]⟩ : Obj)) ∈ led ∧ (b, (⟨.type "tuple", none, .seq (bools key.1).toArray n', #[]⟩ : Obj)) ∈ led
theorem cmp_bool_lt (p q : Bool) : CmpAt (model prog w) A s .Lt (.bool p) (.bool q) (p == q) (!p && q) where
  eq := fun Q E h => eqBool_bool h
  cmp := fun _ Q E h => by
    refine lt_bool (A := A) (E := E) ?_
    have : decide (b2i p < b2i q) = (!p && q) := by cases p <;> cases q <;> rfl
    rw [this]; exact h
def pairsL : List Bool → List Bool → List (Bool × Bool)
  | p :: ps, q :: qs => (p == q, !p && q) :: pairsL ps qs
  | _, _ => []
theorem cmpAll_boolsL : ∀ ps qs : List Bool, CmpAll (model prog w) A s .Lt (bools ps) (bools qs) (pairsL ps qs)
  | [], _ => .nilL
  | _ :: _, [] => .nilR
  | p :: ps, q :: qs => .cons (cmp_bool_lt p q) (cmpAll_boolsL ps qs)
theorem lexLt_eq : ∀ ps qs : List Bool, lexB (pairsL ps qs) (decide ((bools ps).length < (bools qs).length)) = lexLt ps qs
  | [], [] => by simp [pairsL, lexB, lexLt, bools]
  | [], _ :: _ => by simp [pairsL, lexB, lexLt, bools]
  | _ :: _, [] => by simp [pairsL, lexB, lexLt, bools]
  | p :: ps, q :: qs => by
    have ih := lexLt_eq ps qs
    simp only [pairsL, lexB, lexLt]
    split
    · rw [← ih]; simp [bools]
    · rfl
theorem eqBool_int' {a b : Int} {t u : Tok} {Q : Bool → Shared → Prop} (h : Q (a == b) s) : wpAny (model prog w) A (eqBool (.int a t) (.int b u)) Q E s := by
  unfold eqBool
  try with_reducible refine wpAny_holding ?_
  show wpAny _ _ (if (Value.int a t == Value.int b u) = true then _ else _) Q E s
  by_cases hab : (Value.int a t == Value.int b u) = true
  · rw [if_pos hab]
    have e : a = b := by have := eq_of_beq hab; injection this
    subst e
    exact wpAny_bind (wpAny_rule (wpAny_pure (by simpa using h)))
  · rw [if_neg hab]
    refine wpAny_bind (m := richCompare .Eq (.int a t) (.int b u)) (PySem.P.eq_int (wpAny_truthy_bool h))
/-- two keys compared as sorting compares tuples -/
theorem keyLt_run {h₀ : Heap} {L : Addr} {led : List (Addr × Obj)} {x y : Value} {kx ky : Key} {Q : Bool → Shared → Prop} (N : News h₀ L s.heap led) (hx : IsKey led x kx) (hy : IsKey led y ky) (hu : A.units + 64 < cLine)
    (h : Q (keyLt kx ky) s) : wpAny (model prog w) A (keyLt' (tuples' false) x y) Q E s := by
  obtain ⟨a, n, b, n', u, rfl, h1, h2⟩ := hx
  obtain ⟨a', m, b', m', u', rfl, k1, k2⟩ := hy
  refine kat_lt (N _ h1).1 rfl (N _ k1).1 rfl ?_
  refine kat_cons (eqBool_bools (N _ h2).1 (N _ k2).1 hu ?_)
  unfold keyLt at h
  refine kat_go (fun e => kat_yes ?_) (fun e => kat_no ?_)
  · rw [e] at h
    simp only [if_true] at h
    refine kat_cons (eqBool_int' ?_)
    refine kat_go (fun e2 => kat_yes (kat_nil ?_)) (fun e2 => kat_no ?_)
    · have : kx.2 = ky.2 := by simpa using e2
      rw [show decide (#[Value.ref b, Value.int kx.2 u].size < #[Value.ref b', Value.int ky.2 u'].size) = decide (kx.2 < ky.2) by rw [this]; simp]
      exact h
    · refine kat_one _ _ (cmp_ofLt ?_)
      refine PySem.P.lt_int ?_
      exact h
  · rw [e] at h
    simp only [Bool.false_eq_true, if_false] at h
    refine kat_one _ _ (cmp_ofLt ?_)
    exact tup_lt (N _ h2).1 (N _ k2).1 (cmpAll_boolsL _ _) (by omega) (by rw [lexLt_eq]; exact h)
end
end Mine
end

section
open PySem PySem.W PyProof.Rows PySem.Calls PySem.Spec
set_option Elab.async false
set_option maxRecDepth 100000
set_option maxHeartbeats 0
set_option linter.unusedVariables false
namespace Mine
theorem cmp_int_gt {prog : Program} {w : World} {A : Around} {s : Shared} (p q : Int) (t u : Tok) : CmpAt (model prog w) A s .Gt (.int p t) (.int q u) (p == q) (decide (p > q)) where
  eq := fun Q E h => eqBool_int' h
  cmp := fun _ Q E h => PySem.P.gt_int h
abbrev T2 (q f : Int) (t u : Tok) (n : Nat) : Obj := ⟨.type "tuple", none, .seq #[.int q t, .int f u] n, #[]⟩
theorem gt_ints {prog : Program} {w : World} {A : Around} {E : Value → Shared → Prop} {s : Shared} {p1 p2 q1 q2 : Int} {a b : Addr} {t u t' u' : Tok} {m m' : Nat} {Q : Value → Shared → Prop} (ha : s.heap.get? a = some (T2 p1 p2 t u m)) (hb : s.heap.get? b = some (T2 q1 q2 t' u' m'))
    (hu : A.units < cLine) (h : Q (.bool (gtI (p1, p2) (q1, q2))) s) : wpAny (model prog w) A (compareOp .Gt (.ref a) (.ref b)) Q E s := by
  refine tup_gt (xs := [.int p1 t, .int p2 u]) (ys := [.int q1 t', .int q2 u']) ha hb (.cons (cmp_int_gt _ _ _ _) (.cons (cmp_int_gt _ _ _ _) .nilL)) hu ?_
  have e : lexB [(p1 == q1, decide (p1 > q1)), (p2 == q2, decide (p2 > q2))] (decide ([Value.int p1 t, Value.int p2 u].length > [Value.int q1 t', Value.int q2 u'].length)) = gtI (p1, p2) (q1, q2) := by
    unfold gtI
    simp only [lexB]
    by_cases h1 : p1 = q1
    · by_cases h2 : p2 = q2
      · simp [h1, h2]
      · simp [h1, h2]
    · simp [h1]
  rw [e]; exact h
/-- what the scores are in the state -/
def Scs (news : List (Addr × Obj)) : List Value → List Score → Prop
  | [], [] => True
  | v :: vs, c :: cs => (match c with
    | none => v = .none
    | some (q, f) => ∃ a t u n, v = .ref a ∧ (a, T2 q f t u n) ∈ news) ∧ Scs news vs cs
  | _, _ => False
theorem Scs.len {news : List (Addr × Obj)} : ∀ {vs : List Value} {cs : List Score}, Scs news vs cs → vs.length = cs.length
  | [], [], _ => rfl
  | _ :: _, _ :: _, h => congrArg (· + 1) (Scs.len h.2)
  | [], _ :: _, h => h.elim
  | _ :: _, [], h => h.elim
theorem Scs.mono {news news' : List (Addr × Obj)} (k : ∀ p ∈ news, p ∈ news') : ∀ {vs : List Value} {cs : List Score}, Scs news vs cs → Scs news' vs cs
  | [], [], _ => trivial
  | _ :: _, none :: _, h => ⟨h.1, Scs.mono k h.2⟩
  | _ :: _, some (_, _) :: _, h => ⟨let ⟨a, t, u, n, h1, h2⟩ := h.1; ⟨a, t, u, n, h1, k _ h2⟩, Scs.mono k h.2⟩
  | [], _ :: _, h => h.elim
  | _ :: _, [], h => h.elim
theorem Scs.none_at {news : List (Addr × Obj)} : ∀ {vs : List Value} {cs : List Score} {i : Nat}, Scs news vs cs → cs[i]? = some none → vs[i]? = some .none
  | _ :: _, c :: _, 0, h, e => by
    simp only [List.getElem?_cons_zero, Option.some.injEq] at e ⊢
    subst e; exact h.1
  | _ :: _, _ :: _, i + 1, h, e => by
    simp only [List.getElem?_cons_succ] at e ⊢
    exact Scs.none_at h.2 e
  | [], [], _, _, e => by simp at e
  | [], _ :: _, _, h, _ => h.elim
  | _ :: _, [], _, h, _ => h.elim
theorem Scs.some_at {news : List (Addr × Obj)} : ∀ {vs : List Value} {cs : List Score} {i : Nat} {q f : Int}, Scs news vs cs → cs[i]? = some (some (q, f)) → ∃ a t u n, vs[i]? = some (.ref a) ∧ (a, T2 q f t u n) ∈ news
  | _ :: _, c :: _, 0, _, _, h, e => by
    simp only [List.getElem?_cons_zero, Option.some.injEq] at e ⊢
    subst e
    obtain ⟨a, t, u, n, h1, h2⟩ := h.1
    exact ⟨a, t, u, n, h1, h2⟩
  | _ :: _, _ :: _, i + 1, _, _, h, e => by
    simp only [List.getElem?_cons_succ] at e ⊢
    exact Scs.some_at h.2 e
  | [], [], _, _, _, _, e => by simp at e
  | [], _ :: _, _, _, _, h, _ => h.elim
  | _ :: _, [], _, _, _, h, _ => h.elim
theorem Scs.snoc {news : List (Addr × Obj)} {v : Value} {c : Score} : ∀ {vs : List Value} {cs : List Score}, Scs news vs cs → (match c with
    | none => v = .none
    | some (q, f) => ∃ a t u n, v = .ref a ∧ (a, T2 q f t u n) ∈ news) → Scs news (vs ++ [v]) (cs ++ [c])
  | [], [], _, h => ⟨h, trivial⟩
  | _ :: _, _ :: _, h, k => ⟨h.1, Scs.snoc h.2 k⟩
  | [], _ :: _, h, _ => h.elim
  | _ :: _, [], h, _ => h.elim
theorem item_l {prog : Program} {w : World} {A : Around} {E : Value → Shared → Prop} {s : Shared} {value slice : PySem.Expr} {l : Addr} {led : List (Addr × Obj)} {h₀ : Heap} {L : Addr} {vs : List Value} {n : Nat} {k : Int} {u : Tok} {v : Value} {Q : Value → Shared → Prop}
    (N : News h₀ L s.heap led) (hm : (l, W.listOf vs.toArray n) ∈ led) (h0 : 0 ≤ k ∧ k < 2 ^ 60) (hx : vs[k.toNat]? = some v) (h : Q v s)
    (hs : subscripted slice false (.ref l) (.int k u) = operate [.ref l, .int k u] (getItem (.ref l) (.int k u)) := by with_unfolding_all rfl) :
    wpAny (model prog w) A (subscriptTail value slice (.ref l) (.int k u)) Q E s :=
  have hl := News.isList N hm
  tail_any hl.typeIs slot_list_getitem.lookup (wpAny_getItem_list hl h0.1 (by omega) (by simpa using hx) h) hs
theorem len_l {prog : Program} {w : World} {A : Around} {E : Value → Shared → Prop} {s : Shared} {l : Addr} {led : List (Addr × Obj)} {h₀ : Heap} {L : Addr} {vs : List Value} {n c : Nat} {Q : Value → Shared → Prop}
    (N : News h₀ L s.heap led) (hm : (l, W.listOf vs.toArray n) ∈ led) (hv : vs.length = c) (hc : c ≤ 1000) (h : Q (.int c (s.toks + 1)) { s with toks := s.toks + 1 + 1 }) : wpAny (model prog w) A (call (.builtin "len") [.ref l]) Q E s := by
  have e : (vs.toArray.size : Int) = c := by simp [hv]
  exact len_list (News.isList N hm) (by omega) (by rw [e]; exact h)
theorem bStep_none {sc : List Score} {i : Nat} {b : Int} (h : sc[i]? = some none) : bStep sc b i = b := by unfold bStep; rw [h]
theorem bStep_low {sc : List Score} {i : Nat} {b q f : Int} (h : sc[i]? = some (some (q, f))) (hq : ¬ 0 < q) : bStep sc b i = b := by
  unfold bStep; rw [h]
  have : decide (q > 0) = false := by simpa using hq
  simp only [this, Bool.false_and, Bool.false_eq_true, if_false]
theorem bStep_first {sc : List Score} {i : Nat} {q f : Int} (h : sc[i]? = some (some (q, f))) (hq : 0 < q) : bStep sc (-1) i = i := by
  unfold bStep; rw [h]
  have : decide (q > 0) = true := by simpa using hq
  simp only [this, Bool.true_and, show decide ((-1 : Int) < 0) = true from rfl, Bool.true_or, if_true]
theorem bStep_more {sc : List Score} {i j : Nat} {q f q' f' : Int} (h : sc[i]? = some (some (q, f))) (hq : 0 < q) (hj : sc[j]? = some (some (q', f'))) : bStep sc (j : Int) i = if gtI (q, f) (q', f') = true then (i : Int) else (j : Int) := by
  unfold bStep; rw [h]
  have a1 : decide (q > 0) = true := by simpa using hq
  have a2 : decide ((j : Int) < 0) = false := by simp
  simp only [a1, a2, Bool.true_and, Bool.false_or, Int.toNat_natCast, hj]
theorem rangeSize_0 (n : Nat) : Builtin.Range.rangeSize 0 (n : Int) 1 = (n : Int) := by rw [rangeSize_one]; split <;> omega
section
local macro_rules | `(tactic| walk_at "none 0") => `(tactic| fail)
local macro_rules | `(tactic| walk_at "none 1") => `(tactic| fail)
local macro_rules | `(tactic| walk_at "none 2") => `(tactic| fail)
local macro_rules | `(tactic| walk_at "none 3") => `(tactic| fail)
local macro_rules | `(tactic| k_mem) => `(tactic| first | (with_reducible assumption) | assumption)
local macro_rules | `(tactic| walk_at "subscriptTail") => `(tactic| (k_here; (with_reducible show wpAny _ _ (subscriptTail _ _ (Value.ref _) (Value.int _ _)) _ _ _); k_dflt (refine' item_l ?kN ?kM ?k0 ?kx ?_; (case kx => with_reducible assumption); (case kN => k_asm); (case kM => k_mem); (case k0 => with_reducible assumption); k_whole)))
local macro_rules | `(tactic| walk_at "subscriptTail Name") => `(tactic| (k_here; (with_reducible show wpAny _ _ (subscriptTail _ _ (Value.ref _) (Value.int _ _)) _ _ _); k_dflt (refine' item_l ?kN ?kM ?k0 ?kx ?_; (case kx => with_reducible assumption); (case kN => k_asm); (case kM => k_mem); (case k0 => with_reducible assumption); k_whole)))
local macro_rules | `(tactic| walk_at "subscriptTail Subscript") => `(tactic| (k_here; (with_reducible show wpAny _ _ (subscriptTail _ _ (Value.ref _) (Value.int _ _)) _ _ _); k_dflt (refine' item_tupleT ?t ?a ?b ?c ?d ?_; (case t => exact News.isTup (by k_asm) (by k_mem)); (case a => decide); (case b => decide); (case c => rfl); (case d => rfl); k_whole)))
local macro_rules | `(tactic| walk_at "compareOp Gt ref ref") => `(tactic| (k_here; (with_reducible show wpAny _ _ (compareOp CmpOp.Gt (Value.ref _) (Value.ref _)) _ _ _); k_dflt (refine gt_ints (News.get (by k_asm) (by first | k_mem | exact List.mem_append_left _ (by with_reducible assumption))) (News.get (by k_asm) (by first | k_mem | exact List.mem_append_left _ (by with_reducible assumption))) (by ke_room) ?_)))
theorem lbest : ∀ {w : World} {news : List (Addr × Obj)} (sl : Addr) (vs : List Value) (n : Nat) (sc : List Score) (hsl : (sl, W.listOf vs.toArray n) ∈ news) (hsc : Scs news vs sc) (hl : sc.length ≤ 6), Spec w 850 8500 (.ref 419) [.ref sl] news (fun v tl => (∃ t, v = .int (bestIx sc) t) ∧ tl = []) := by
  unfold Spec
  w_top off
  k_fill
  intro w news sl vs n sc hsl hsc hl mean mg mb gd cn cs a ccd cl outer A₀ base h₀ L m s Q E B F X N T hk ret
  have hlen := hsc.len
  refine wpAny_call ?_
  k_dflt ktr_enter
  rename Fr _ _ _ _ => F1
  replace F1 := Fr.as F1 (m' := fun z9 => List.lookup z9 [(Str.ofString "scores", .ref sl)]) rfl
  iterate 18 (first | (k_unfold; (try dsimp only)) | walk1 | (dsimp only; walk1))
  refine len_l (by k_asm) hsl hlen (Nat.le_trans hl (by decide)) ?_
  iterate 1 (first | (k_unfold; (try dsimp only)) | walk1 | (dsimp only; walk1))
  refine range1_rows (by k_asm) (by k_asm) (fun h1 tk1 t1 u1 v1 hr F2 N2 _ => ?_)
  dsimp only
  have bix : bestIx sc = (rangeKs 0 sc.length).foldl (fun a k => bStep sc a k.toNat) (-1) := by
    unfold bestIx rangeKs
    rw [List.foldl_map]
    simp
  refine iter_rangeS (σ := Int) (fun a m nx => nx = news ∧ (∃ t, m (Str.ofString "best") = some (.int a t)) ∧ (∀ z, z ≠ Str.ofString "k" → z ≠ Str.ofString "best" → m z = List.lookup z [(Str.ofString "scores", .ref sl)]) ∧ (a = -1 ∨ ∃ (j : Nat) (q f : Int), a = j ∧ j < 7 ∧ sc[j]? = some (some (q, f)))) (fun a k => bStep sc a k.toNat) (-1) rfl hr (small_one (by decide) (by decide) (by omega) (by omega)) (rangeSize_0 _) F2 N2 ⟨rfl, ⟨_, rfl⟩, fun z h1 h2 => ?_, .inl rfl⟩ ?_ ?_
  · simp [h1, h2]
  · clear F2 N2
    rintro k t a m₁ nx h tk own hk hoff ⟨rfl, ⟨ta, hb⟩, hm, ha⟩ F₁ N₁
    obtain ⟨hk0, hk1⟩ := mem_rangeKs hk
    replace F₁ := Fr.as F₁ (map_one hb hm)
    have hlt : k.toNat < sc.length := by omega
    have hkk : 0 ≤ k ∧ k < 2 ^ 60 := ⟨by omega, by omega⟩
    have hce := List.getElem?_eq_getElem hlt
    cases hc : sc[k.toNat] with
    | none =>
      rw [hc] at hce
      have hx9 := hsc.none_at hce
      have e : bStep sc a k.toNat = a := bStep_none hce
      k_steps
      with_reducible rename News _ _ _ (nx ++ own) => n9
      refine InvEndN.intro (by k_asm) n9 (nx := nx) ⟨rfl, ?bb, ?mm, ?aa⟩ rfl (fun p hp => List.mem_append_left _ hp) (fun p hp => List.mem_append_right _ hp)
      case mm => (intro z h1 h2; simp [h1, h2])
      case bb => (rw [e]; first | exact ⟨_, if_pos rfl⟩ | exact ⟨_, (if_neg (by decide)).trans (if_pos rfl)⟩)
      case aa => (rw [e]; exact ha)
    | some p =>
      obtain ⟨q, f⟩ := p
      rw [hc] at hce
      obtain ⟨ak, tq, tf, nn, hx9, hm9⟩ := hsc.some_at hce
      have hk9 : ((k.toNat : Nat) : Int) = k := by omega
      rcases ha with rfl | ⟨j, q', f', rfl, hj, hsj⟩
      · k_steps
        · have e : bStep sc (-1) k.toNat = k := by rw [bStep_first hce (by assumption)]; exact hk9
          with_reducible rename News _ _ _ (nx ++ own) => n9
          refine InvEndN.intro (by k_asm) n9 (nx := nx) ⟨rfl, ?bb, ?mm, ?aa⟩ rfl (fun p hp => List.mem_append_left _ hp) (fun p hp => List.mem_append_right _ hp)
          case mm => (intro z h1 h2; simp [h1, h2])
          case bb => (rw [e]; first | exact ⟨_, if_pos rfl⟩ | exact ⟨_, (if_neg (by decide)).trans (if_pos rfl)⟩)
          case aa => (rw [e]; exact .inr ⟨k.toNat, q, f, hk9.symm, by omega, hce⟩)
        · have e : bStep sc (-1) k.toNat = -1 := bStep_low hce (by assumption)
          with_reducible rename News _ _ _ (nx ++ own) => n9
          refine InvEndN.intro (by k_asm) n9 (nx := nx) ⟨rfl, ?bb, ?mm, ?aa⟩ rfl (fun p hp => List.mem_append_left _ hp) (fun p hp => List.mem_append_right _ hp)
          case mm => (intro z h1 h2; simp [h1, h2])
          case bb => (rw [e]; first | exact ⟨_, if_pos rfl⟩ | exact ⟨_, (if_neg (by decide)).trans (if_pos rfl)⟩)
          case aa => (rw [e]; exact .inl rfl)
      · obtain ⟨aj, tq', tf', nn', hx8, hm8⟩ := hsc.some_at hsj
        have hjj : 0 ≤ (j : Int) ∧ (j : Int) < 2 ^ 60 := ⟨by omega, by omega⟩
        have hx8' : vs[(j : Int).toNat]? = some (.ref aj) := by rw [Int.toNat_natCast]; exact hx8
        by_cases hq9 : 0 < q
        · cases hg9 : gtI (q, f) (q', f') with
          | true =>
            have e : bStep sc j k.toNat = k := by rw [bStep_more hce hq9 hsj, if_pos hg9]; exact hk9
            k_steps
            with_reducible rename News _ _ _ (nx ++ own) => n9
            refine InvEndN.intro (by k_asm) n9 (nx := nx) ⟨rfl, ?bb, ?mm, ?aa⟩ rfl (fun p hp => List.mem_append_left _ hp) (fun p hp => List.mem_append_right _ hp)
            case mm => (intro z h1 h2; simp [h1, h2])
            case bb => (rw [e]; first | exact ⟨_, if_pos rfl⟩ | exact ⟨_, (if_neg (by decide)).trans (if_pos rfl)⟩)
            case aa => (rw [e]; exact .inr ⟨k.toNat, q, f, hk9.symm, by omega, hce⟩)
          | false =>
            have e : bStep sc j k.toNat = j := by rw [bStep_more hce hq9 hsj, if_neg (by rw [hg9]; decide)]
            k_steps
            with_reducible rename News _ _ _ (nx ++ own) => n9
            refine InvEndN.intro (by k_asm) n9 (nx := nx) ⟨rfl, ?bb, ?mm, ?aa⟩ rfl (fun p hp => List.mem_append_left _ hp) (fun p hp => List.mem_append_right _ hp)
            case mm => (intro z h1 h2; simp [h1, h2])
            case bb => (rw [e]; first | exact ⟨_, if_pos rfl⟩ | exact ⟨_, (if_neg (by decide)).trans (if_pos rfl)⟩)
            case aa => (rw [e]; exact .inr ⟨j, q', f', rfl, hj, hsj⟩)
        · have e : bStep sc j k.toNat = j := bStep_low hce hq9
          k_steps
          with_reducible rename News _ _ _ (nx ++ own) => n9
          refine InvEndN.intro (by k_asm) n9 (nx := nx) ⟨rfl, ?bb, ?mm, ?aa⟩ rfl (fun p hp => List.mem_append_left _ hp) (fun p hp => List.mem_append_right _ hp)
          case mm => (intro z h1 h2; simp [h1, h2])
          case bb => (rw [e]; first | exact ⟨_, if_pos rfl⟩ | exact ⟨_, (if_neg (by decide)).trans (if_pos rfl)⟩)
          case aa => (rw [e]; exact .inr ⟨j, q', f', rfl, hj, hsj⟩)
  · rintro m₁ nx h tk ⟨rfl, ⟨ta, hb⟩, hm, ha⟩ F₁ N₁
    rw [← bix] at hb
    have hm2 : m₁ = fun z => if z = Str.ofString "k" then m₁ (Str.ofString "k") else if z = Str.ofString "best" then some (.int (bestIx sc) ta) else List.lookup z [(Str.ofString "scores", .ref sl)] := by
      funext z
      by_cases h1 : z = Str.ofString "k"
      · simp [h1]
      · by_cases h2 : z = Str.ofString "best"
        · subst h2; rw [if_neg (by decide), if_pos rfl]; exact hb
        · simp only [h1, h2, if_false]; exact hm z h1 h2
    replace F₁ := Fr.as F₁ hm2
    k_steps
    refine ret _ [] _ _ _ ⟨⟨_, rfl⟩, rfl⟩ (by k_asm) (by k_asm) (fun _ _ _ h9 => nomatch h9) (GOk.refl _)
end
end Mine
end

section
open PySem PySem.W PyProof.Rows PySem.Calls PySem.Spec
set_option Elab.async false
set_option maxRecDepth 100000
set_option maxHeartbeats 0
set_option linter.unusedVariables false
namespace Mine

def Sp0 (x : Str) : List Bool := [x != Str.ofString "*"]
/-- the best offer so far: its text, its quality, how closely it fits -/
abbrev Best := Option (Str × Int × List Bool)
def stepB (M : Str → Str → Bool) (Sp : Str → List Bool) (ws : List (Str × Int)) (st : Best) (x : Str) : Best := match firstM (M x) ws with
  | none => st
  | some (c, q) => if q ≤ 0 then st else match st with
    | none => some (x, q, Sp c)
    | some (_, bq, bs) => if q < bq then st else if q > bq then some (x, q, Sp c) else if lexGt (Sp c) bs then some (x, q, Sp c) else st
def bestOf (M : Str → Str → Bool) (Sp : Str → List Bool) (ws : List (Str × Int)) (xs : List Str) : Best := xs.foldl (stepB M Sp ws) none

def ovr (l : List (Str × Option Value)) (m₀ : Str → Option Value) : Str → Option Value := fun y => match l.lookup y with
  | some o => o
  | none => m₀ y
theorem ovr_of {m m₀ : Str → Option Value} (names : List Str) (h : ∀ y, y ∉ names → m y = m₀ y) : m = ovr (names.map fun n => (n, m n)) m₀ := by
  funext y
  unfold ovr
  by_cases hy : y ∈ names
  · have : (names.map fun n => (n, m n)).lookup y = some (m y) := by
      clear h
      induction names with
      | nil => exact absurd hy List.not_mem_nil
      | cons n r ih =>
        rw [List.map_cons, List.lookup_cons]
        by_cases e : y = n
        · subst e; simp
        · have : (y == n) = false := by simpa using e
          rw [this]
          exact ih ((List.mem_cons.mp hy).resolve_left e)
    rw [this]
  · have : (names.map fun n => (n, m n)).lookup y = none := by
      have h' := hy
      clear h hy
      induction names with
      | nil => rfl
      | cons n r ih =>
        rw [List.map_cons, List.lookup_cons]
        have e : y ≠ n := fun e => h' (e ▸ List.mem_cons_self)
        have : (y == n) = false := by simpa using e
        rw [this]
        exact ih fun q => h' (List.mem_cons_of_mem _ q)
    rw [this]
    exact h y hy
theorem ovr_out {l : List (Str × Option Value)} {m₀ : Str → Option Value} {y : Str} (h : ∀ p ∈ l, y ≠ p.1) : ovr l m₀ y = m₀ y := by
  unfold ovr
  have : l.lookup y = none := by
    induction l with
    | nil => rfl
    | cons p r ih =>
      rw [List.lookup_cons]
      have e : (y == p.1) = false := by simpa using h p List.mem_cons_self
      rw [e]
      exact ih fun q hq => h q (List.mem_cons_of_mem _ hq)
  rw [this]
theorem News.sub2 {h₀ h : Heap} {L D it : Addr} {o oi : Obj} {big rest : List (Addr × Obj)} (N : News h₀ L h ((D, o) :: big)) (k : ∀ p ∈ (it, oi) :: rest, p ∈ big) : News h₀ L h ((it, oi) :: ([(D, o)] ++ rest)) := fun p hp => by
  rcases List.mem_cons.mp hp with rfl | hp
  · exact N _ (List.mem_cons_of_mem _ (k _ List.mem_cons_self))
  · rcases List.mem_cons.mp hp with rfl | hp
    · exact N _ List.mem_cons_self
    · exact N _ (List.mem_cons_of_mem _ (k _ (List.mem_cons_of_mem _ hp)))
abbrev bmNames : List Str := [Str.ofString "best_specificity", Str.ofString "best_quality", Str.ofString "result", Str.ofString "server_item", Str.ofString "match", Str.ofString "client_item", Str.ofString "quality", Str.ofString "specificity"]
def BmInv (M : Str → Str → Bool) (Sp : Str → List Bool) (ws : List (Str × Int)) (xs : List Str) (dflt : Value) (m₀ : Str → Option Value) (i : Nat) (m : Str → Option Value) (nx : List (Addr × Obj)) : Prop :=
  (∀ y, y ∉ bmNames → m y = m₀ y) ∧ match bestOf M Sp ws (xs.take i) with
    | none => TabS nx ∧ (∃ a, m (Str.ofString "best_specificity") = some (.ref a)) ∧ (∃ t, m (Str.ofString "best_quality") = some (.int (-1) t)) ∧ m (Str.ofString "result") = some dflt
    | some (x, q, bs) => 0 < q ∧ ∃ a k t u tb, TabS tb ∧ nx = (a, (⟨.type "tuple", none, .seq (bools bs).toArray k, #[]⟩ : Obj)) :: tb ∧ m (Str.ofString "best_specificity") = some (.ref a) ∧ m (Str.ofString "best_quality") = some (.int q t) ∧ m (Str.ofString "result") = some (.str x u)
theorem Strs.at {vs : List Value} {xs : List Str} (h : Strs vs xs) : ∀ {i : Nat} {v : Value}, vs[i]? = some v → ∃ x t, xs[i]? = some x ∧ v = .str x t := by
  induction h with
  | nil => intro i v e; simp at e
  | cons r ih =>
    intro i v e
    cases i with
    | zero => simp only [List.getElem?_cons_zero, Option.some.injEq] at e ⊢; exact ⟨_, _, rfl, e.symm⟩
    | succ i => simp only [List.getElem?_cons_succ] at e ⊢; exact ih e
theorem bestOf_step (M : Str → Str → Bool) (Sp : Str → List Bool) (ws : List (Str × Int)) {xs : List Str} {i : Nat} {x : Str} (h : xs[i]? = some x) : bestOf M Sp ws (xs.take (i + 1)) = stepB M Sp ws (bestOf M Sp ws (xs.take i)) x := by
  unfold bestOf
  rw [List.take_add_one, h]
  simp [List.foldl_append]
theorem News.upd {h₀ h : Heap} {L a it : Addr} {o oi : Obj} {b : Addr × Obj} {tb rest news : List (Addr × Obj)} (N : News h₀ L h ((a, o) :: (tb ++ (b :: (it, oi) :: rest)))) (k : ∀ p ∈ news, p ∈ rest) : News h₀ L h ((it, oi) :: (((a, o) :: tb) ++ news)) := fun p hp => by
  refine N p ?_
  simp only [List.mem_cons, List.mem_append] at hp ⊢
  rcases hp with hp | (hp | hp) | hp
  · exact .inr (.inr (.inr (.inl hp)))
  · exact .inl hp
  · exact .inr (.inl hp)
  · exact .inr (.inr (.inr (.inr (k p hp))))
theorem firstM_all {M : Str → Bool} {ws : List (Str × Int)} {q : Str × Int} {P : Str → Prop} (h : firstM M ws = some q) (k : ∀ p ∈ ws, P p.1) : P q.1 := k q (List.mem_of_find?_eq_some h)
/-- SpecT, for the code of the call itself -/
def SpecTK (w : World) (D U : Nat) (f : Value) (args : List Value) (news : List (Addr × Obj)) (R : Value → List (Addr × Obj) → Prop) : Prop :=
  ∀ (mean : ExcName → Option Value) (mg mb : Str → Option Value) (gd : Option (List Code)) (cn : Str) (cs : Scope) (a : Addr) (ccd : Value) (cl : List (Str × Addr)) (outer : List Env) (A₀ : Around) (base h₀ : Heap) (L : Addr) (m : Str → Option Value) (s : Shared) (Q E : Value → Shared → Prop) (tb : List (Addr × Obj)),
    Below A₀ base outer h₀ → Fr h₀ L s.heap m → (hd.heap_39 w.params).In h₀ → News h₀ L s.heap (tb ++ news) → TabS tb → NT news → Top topProg looseL mean mg mb h₀ → cs.kind = .function →
    (∀ v tl tb' h' g' tk', R v tl → Fr h₀ L h' m → News h₀ L h' (tl ++ (tb' ++ news)) → TabS tb' → NT tl → (∀ p ∈ news, ∀ q ∈ tl, p.1 < q.1) → GOk s.gens g' → Q v ⟨h', g', s.drawn, tk', s.os⟩) →
    codeAny (model PySem.Challenge.rw_eq0045_01.row.prog w) (ktrTop D U gd cn cs L a ccd cl outer) (.call f ⟨args, []⟩) (fun r s' => match r with | .ok (.ret v) => Q v s' | .ok _ => False | .error e => E e s') s
theorem codeAny_deep {M : Model} {hdl : Option Value} {d u d' u' : Nat} {fr : Option (List Env)} {gd : Option (List Code)} {c : Code} {R : Result → Shared → Prop} {s : Shared}
    (h : codeAny M { handled := hdl, depth := d', frames := fr, guards := gd, units := u' } c R s) (hd : d ≤ d') (hu : u ≤ u') : codeAny M { handled := hdl, depth := d, frames := fr, guards := gd, units := u } c R s :=
  fun Γ p hc hΓ => h Γ p hc ⟨hΓ.1, Nat.le_trans hΓ.2.1 hd, hΓ.2.2.1, hΓ.2.2.2.1, Nat.le_trans hΓ.2.2.2.2 hu⟩
theorem SpecTK.toT {w : World} {D U : Nat} {f : Value} {args : List Value} {news : List (Addr × Obj)} {R : Value → List (Addr × Obj) → Prop} (S : SpecTK w D U f args news R) : SpecT w D U f args news R :=
  fun mean mg mb gd cn cs a ccd cl outer A₀ base h₀ L m s Q E tb B F X N TS NN T hk k => wpAny_call (S mean mg mb gd cn cs a ccd cl outer A₀ base h₀ L m s Q E tb B F X N TS NN T hk k)
/-- a call of a bound method object -/
theorem specTK_bound {w : World} {D U dp un : Nat} {f q : Addr} {x : Value} {args : List Value} {led news : List (Addr × Obj)} {R : Value → List (Addr × Obj) → Prop} {mean : ExcName → Option Value} {mg mb : Str → Option Value} {gd : Option (List Code)} {cn : Str} {cs : Scope} {a : Addr} {ccd : Value} {cl : List (Str × Addr)} {outer : List Env} {A₀ : Around} {base h₀ : Heap} {L : Addr} {m : Str → Option Value} {s : Shared} {Q E : Value → Shared → Prop} {tb : List (Addr × Obj)}
    (S : SpecTK w D U (.ref f) (x :: args) news R) (B : Below A₀ base outer h₀) (F : Fr h₀ L s.heap m) (X : (hd.heap_39 w.params).In h₀) (N : News h₀ L s.heap led) (hq : (q, methodObj (.ref f) x) ∈ led) (TS : TabS tb) (P : Pull tb led news) (NN : NT news) (T : Top topProg looseL mean mg mb h₀) (hk : cs.kind = .function) (hd : dp ≤ D) (hu : un ≤ U)
    (k : ∀ v tl tb' h' g' tk', R v tl → Fr h₀ L h' m → News h₀ L h' (tl ++ (tb' ++ news)) → TabS tb' → NT tl → (∀ p ∈ news, ∀ q ∈ tl, p.1 < q.1) → GOk s.gens g' → Q v ⟨h', g', s.drawn, tk', s.os⟩) :
    wpAny (model PySem.Challenge.rw_eq0045_01.row.prog w) (ktrTop dp un gd cn cs L a ccd cl outer) (call (.ref q) args) Q E s :=
  wpAny_call (ks_codeAny_call_bound (N _ hq).1 (codeAny_deep (S mean mg mb gd cn cs a ccd cl outer A₀ base h₀ L m s Q E tb B F X (fun p hp => N p ((P.mem p).mpr hp)) TS NN T hk k) hd hu))
abbrev bindsBM (self ml d : Value) : List (Str × Value) := [(Str.ofString "self", self), (Str.ofString "matches", ml), (Str.ofString "default", d)]
theorem binds_or {s : Shared} {fn : FuncData} {as : List Value} {self ml dflt : Value} (has : as = [self, ml, dflt] ∨ (as = [self, ml] ∧ dflt = .none)) (h1 : BindsTo s fn ⟨[self, ml, dflt], []⟩ (bindsBM self ml dflt)) (h2 : BindsTo s fn ⟨[self, ml], []⟩ (bindsBM self ml .none)) : BindsTo s fn ⟨as, []⟩ (bindsBM self ml dflt) := by
  rcases has with rfl | ⟨rfl, rfl⟩
  · exact h1
  · exact h2
structure SpcOk (w : World) (C fs : Addr) (Sp : Str → List Bool) (Oks : Str → Prop) : Prop where
  ff : findIn (hd.heap_39 w.params) (.ref C) (Str.ofString "_specificity") = some (some (.ref fs))
  tf : typeIn (hd.heap_39 w.params) (.ref fs) = some (.type "function")
  kf : keepIn (hd.heap_39 w.params) (.ref fs) = true
  sp : ∀ {news : List (Addr × Obj)} (self : Value) (x : Str) (t1 : Tok) (ok : Oks x), SpecT w 850 8500 (.ref fs) [self, .str x t1] news (fun v tl => ∃ a k, v = .ref a ∧ tl = [(a, (⟨.type "tuple", none, .seq (bools (Sp x)).toArray k, #[]⟩ : Obj))])
section
local macro_rules | `(tactic| walk_at "none 0") => `(tactic| fail)
local macro_rules | `(tactic| walk_at "none 1") => `(tactic| fail)
local macro_rules | `(tactic| walk_at "none 2") => `(tactic| fail)
local macro_rules | `(tactic| walk_at "none 3") => `(tactic| fail)
local macro_rules | `(tactic| k_mem) => `(tactic| first | (with_reducible assumption) | assumption)
local macro_rules | `(tactic| k_inst) => `(tactic| (refine' inst_seq ?N ?h1 ?h2; (case N => k_asm); (case h1 => k_mem); (case h2 => k_mem)))
local macro_rules | `(tactic| walk_at "getMethod ref") => `(tactic| (k_here; k_dflt (refine' method_seq ?k1 ?k2 ?k3 ?k4 ?k5 ?k6 ?k7 ?k8 ?_; (case k1 => k_asm); (case k2 => k_asm); (case k3 => k_inst); (case k4 => with_reducible assumption); (case k5 => with_reducible assumption); (case k6 => with_reducible assumption); (case k7 => first | (with_reducible assumption) | k_is); (case k8 => k_get); k_whole)))
local macro_rules | `(tactic| walk_at "callWith ref") => `(tactic| (k_here; k_dflt (refine' callWith_K ?k1 ?k2 ?_; (case k1 => k_asm); (case k2 => with_reducible assumption); k_whole)))
local macro_rules | `(tactic| k_asm) => `(tactic| ((with_reducible show GOk _ _); first | exact GOk.refl _ | (intro x9; solve_by_elim)))
local macro_rules | `(tactic| k_asm) => `(tactic| ((with_reducible show News _ _ _ _); first | (with_reducible assumption) | (refine News.sub (by with_reducible assumption) (fun p9 h9 => ?_); (repeat (first | exact h9 | apply List.mem_cons_of_mem | apply List.mem_append_right)); done) | (refine News.sub (by assumption) (fun p9 h9 => ?_); (repeat (first | exact h9 | apply List.mem_cons_of_mem | apply List.mem_append_right)); done)))
local macro_rules | `(tactic| ktr_enter) => `(tactic| (
  refine' code_def ?k1 ?k2 ?k3 ?k4 ?k5 ?kA ?kF ?kK ?k6 ?k7 ?k8 ?k9 ?kB ?_ ?c2 ?c3 ?c4 ?c5
  (case kA => exact rfl)
  (case kF => exact rfl)
  (case kK => assumption)
  (case k1 => k_asm)
  (case k2 => k_asm)
  (case k3 => k_asm)
  (case k4 => k_asm)
  (case k5 => k_asm)
  (case k6 => k_is)
  (case k7 => k_is)
  (case k8 => ktr_room)
  (case k9 => exact binds_or (by with_reducible assumption) (binds_K (by k_in) rfl (by k_is) rfl rfl rfl) (binds_K (by k_in) rfl (by k_is) rfl rfl rfl))
  (case c5 => decide)
  (case kB => exact locs rfl)
  (case c2 => exact rfl)
  (case c3 => exact rfl)
  (case c4 => exact rfl)
  k_whole
  intro g' L' h' FG' F' N' B' X' T'
  (try dsimp only)
  (try k_fold)))
local macro_rules | `(tactic| walk_at "compareOp Gt ref ref") => `(tactic| (k_here; (with_reducible show wpAny _ _ (compareOp CmpOp.Gt (Value.ref _) (Value.ref _)) _ _ _); k_dflt (refine gt_bools (News.get (by k_asm) (by k_mem)) (News.get (by k_asm) (by k_mem)) (by ke_room) ?_)))
local macro_rules | `(tactic| walk_at "call ref") => `(tactic| (
  k_here
  (with_reducible show wpAny _ _ (call (Value.ref 261) _ _) _ _ _)
  k_dflt (refine' spec_use (bsm_G ?kH _ _ _ _ _ _ _ _ _ _ ?k1 ?k2 ?k3 ?k4) ?kB ?kF ?kX ?kN ?kT ?kK ?kD ?kU ?_)
  (case kB => k_asm)
  (case kF => k_asm)
  (case kX => k_asm)
  (case kN => k_asm)
  (case kT => k_asm)
  (case kH => with_reducible assumption)
  (case k1 => k_dflt k_mem)
  (case k2 => k_dflt k_mem)
  (case k3 => (refine Pairs.mono (fun p9 h9 => ?_) (by with_reducible assumption); repeat (first | exact h9 | apply List.mem_cons_of_mem | apply List.mem_append_right)))
  (case k4 => with_reducible assumption)
  (case kK => rfl)
  (case kD => exact Nat.le_of_ble_eq_true rfl)
  (case kU => exact Nat.le_of_ble_eq_true rfl)
  k_whole
  (intro v tl h' g' tk' hR F' N' hlt hg)
  split at hR
  (all_goals (first | (obtain ⟨e1, e2⟩ := hR; subst e1; subst e2; simp only [List.nil_append] at N'; clear hlt; try k_sweep) | (obtain ⟨a9, t9, u9, e1, e2⟩ := hR; subst e1; subst e2; simp only [List.nil_append, List.cons_append] at N'; (replace hlt := fun p hp => hlt p hp _ List.mem_cons_self); (try k_lt hlt); try k_sweep)))))
local macro_rules | `(tactic| k_mem) => `(tactic| ((with_reducible (first | refine List.mem_append_right _ ?_ | refine mem_appR ?_)); k_mem))
local macro_rules | `(tactic| walk_at "call ref") => `(tactic| (
  k_here
  (with_reducible show wpAny _ _ (call (Value.ref _) [_, Value.str _ _] _) _ _ _)
  k_dflt (refine' specT_use (SpcOk.sp ?kH _ _ _ ?k1) ?kB ?kF ?kX ?kN ?kTS ?kP ?kNN ?kT ?kK ?kD ?kU ?_)
  (case kB => k_asm)
  (case kF => k_asm)
  (case kX => k_asm)
  (case kN => k_asm)
  (case kTS => with_reducible assumption)
  (case kP => (repeat (first | exact Pull.here | apply Pull.cons | apply Pull.app)))
  (case kT => k_asm)
  (case kH => with_reducible assumption)
  (case k1 => exact firstM_all (by with_reducible assumption) (by with_reducible assumption))
  (case kNN => (repeat (first | (with_reducible assumption) | exact NT.nil | (refine NT.cons (by intro h9; cases h9) ?_) | refine NT.app ?_ ?_)))
  (case kK => rfl)
  (case kD => exact Nat.le_of_ble_eq_true rfl)
  (case kU => exact Nat.le_of_ble_eq_true rfl)
  k_whole
  (intro v tl tb9 h' g' tk' hR F' N' TS9 NT9 hlt hg)
  (obtain ⟨a9, k9, e1, e2⟩ := hR)
  subst e1
  subst e2
  (simp only [List.nil_append, List.cons_append] at N')
  clear NT9
  (replace hlt := fun p hp => hlt p hp _ List.mem_cons_self)
  try k_lt hlt
  try k_sweep))
theorem best_K : ∀ {w : World} {news : List (Addr × Obj)} {C fm : Addr} {M : Str → Str → Bool} {Ok : Str → Str → Prop} (hC : ClsOk w C fm M Ok) {fs : Addr} {Sp : Str → List Bool} {Oks : Str → Prop} (hS : SpcOk w C fs Sp Oks) (self d ml : Addr) (vs os : List Value) (n k : Nat) (hh : Int) (tt : Tok) (pv dflt : Value) (as : List Value) (has : as = [.ref self, .ref ml, dflt] ∨ (as = [.ref self, .ref ml] ∧ dflt = .none)) (ws : List (Str × Int)) (xs : List Str) (hself : (self, (⟨.ref C, some d, .seq vs.toArray n, #[]⟩ : Obj)) ∈ news) (hdd : (d, W.dictOf [⟨hh, .str (Str.ofString "provided") tt, pv⟩] 1) ∈ news) (hp : Pairs news vs ws) (hml : (ml, W.listOf os.toArray k) ∈ news) (hos : Strs os xs) (hw : ∀ x ∈ xs, ∀ p ∈ ws, Ok x p.1) (hsp : ∀ p ∈ ws, Oks p.1), SpecTK w 700 7000 (.ref 269) as news (fun v tl => (match bestOf M Sp ws xs with | none => v = dflt | some (x, _, _) => ∃ t, v = .str x t) ∧ tl = []) := by
  unfold SpecTK
  w_top off
  k_fill
  intro w news C fm M Ok hC fs Sp Oks hS self d ml vs os n k hh tt pv dflt as has ws xs hself hdd hp hml hos hw hsp mean mg mb gd cn cs a ccd cl outer A₀ base h₀ L m s Q E tb0 B F X N TS NN T hk ret
  obtain ⟨hga, hgt, hit, hmr, hvm, hvt, hkv, hbs, hqu, hix, _⟩ := id hC
  obtain ⟨hff, htf, hkf, _⟩ := id hS
  k_dflt ktr_enter
  rename Fr _ _ _ _ => F1
  replace F1 := Fr.as F1 (m' := (fun z9 => List.lookup z9 [(Str.ofString "default", dflt), (Str.ofString "matches", .ref ml), (Str.ofString "self", .ref self)])) rfl
  iterate 22 (first | (k_unfold; (try dsimp only)) | walk1 | (dsimp only; walk1))
  refine for_list (nx₀ := tb0) (news := news) (by assumption) (by k_asm) rfl hml rfl rfl rfl
    (BmInv M Sp ws xs dflt (fun z9 => List.lookup z9 [(Str.ofString "default", dflt), (Str.ofString "matches", .ref ml), (Str.ofString "self", .ref self)])) ?_ ?_ ?_
  · refine ⟨fun y hy => ?_, TS, ⟨_, rfl⟩, ⟨_, rfl⟩, rfl⟩
    simp only [bmNames, List.mem_cons, List.not_mem_nil, or_false, not_or] at hy
    simp only [hy, if_false]
  · clear TS
    rintro it i v m nx h g tk hv ⟨hA, hB⟩ F₁ N₁ hg
    obtain ⟨x, tx, hx, rfl⟩ := Strs.at hos hv
    have hok := hw x (List.mem_of_getElem? hx)
    have hst := bestOf_step M Sp ws hx
    replace F₁ := Fr.as F₁ (ovr_of bmNames hA)
    cases hb : bestOf M Sp ws (xs.take i) with
    | none =>
      rw [hb] at hB hst
      obtain ⟨ts, ⟨a0, h1⟩, ⟨t0, h2⟩, h3⟩ := hB
      simp only [List.map, h1, h2, h3] at F₁
      k_steps
      all_goals (unfold TurnBack; dsimp only)
      · have e9 : bestOf M Sp ws (xs.take (i + 1)) = none := by
         rw [hst]
         simp [stepB, *]
        with_reducible rename TabS _ => ts9
        with_reducible rename News _ _ _ _ => n9
        refine' ⟨_, _, ⟨fun y hy => ?ag, ?st⟩, (by k_asm), ?nn, ?ne, (by k_asm), rfl, rfl⟩
        case st => (rw [e9]; refine ⟨?_, ⟨_, rfl⟩, ⟨_, rfl⟩, rfl⟩; with_reducible assumption)
        case nn => (refine News.sub (by with_reducible assumption) (fun p9 h9 => ?_); simp only [List.mem_cons, List.mem_append, List.not_mem_nil, or_false] at h9 ⊢; grind)
        case ne => exact TabS.ne ts9 n9 (fun p9 h9 => by simp [h9]) (it := it) (l := ml) (i := i + 1) (by simp)
        case ag => (simp only [bmNames, List.mem_cons, List.not_mem_nil, or_false, not_or] at hy; simp only [hy, if_false]; exact ovr_out (by simp [hy]))
      · with_reducible rename _ ∧ _ ∧ AllLt _ _ => hl9
        with_reducible rename firstM _ _ = some _ => hf9
        with_reducible rename TabS _ => ts9
        with_reducible rename News _ _ _ _ => n9
        refine' ⟨_, (_, _) :: _, ⟨fun y hy => ?ag, ?st⟩, (by k_asm), ?nn, ?ne, (by k_asm), rfl, rfl⟩
        case nn => (refine' News.upd ?ua1 ?uo1; (case ua1 => with_reducible assumption); (case uo1 => (intro p9 h9; first | exact h9 | exact List.mem_cons_of_mem _ h9)))
        case st => (rw [hst]; simp only [stepB, hf9]; rw [if_neg (by assumption)]; exact ⟨by omega, _, _, _, _, _, ts9, rfl, rfl, rfl, rfl⟩)
        case ne =>
          intro p9 hp9
          rcases List.mem_cons.mp hp9 with e9 | hp9
          · rw [e9]; exact Nat.ne_of_gt (by dsimp only; omega)
          · exact TabS.ne ts9 n9 (fun p9 h9 => by simp [h9]) (it := it) (l := ml) (i := i + 1) (by simp) p9 hp9
        case ag => (simp only [bmNames, List.mem_cons, List.not_mem_nil, or_false, not_or] at hy; simp only [hy, if_false]; exact ovr_out (by simp [hy]))
      · have e9 : bestOf M Sp ws (xs.take (i + 1)) = none := by
         rw [hst]
         simp [stepB, *]
        with_reducible rename TabS _ => ts9
        with_reducible rename News _ _ _ _ => n9
        refine' ⟨_, _, ⟨fun y hy => ?ag, ?st⟩, (by k_asm), ?nn, ?ne, (by k_asm), rfl, rfl⟩
        case st => (rw [e9]; refine ⟨?_, ⟨_, rfl⟩, ⟨_, rfl⟩, rfl⟩; with_reducible assumption)
        case nn => (refine News.sub (by with_reducible assumption) (fun p9 h9 => ?_); simp only [List.mem_cons, List.mem_append, List.not_mem_nil, or_false] at h9 ⊢; grind)
        case ne => exact TabS.ne ts9 n9 (fun p9 h9 => by simp [h9]) (it := it) (l := ml) (i := i + 1) (by simp)
        case ag => (simp only [bmNames, List.mem_cons, List.not_mem_nil, or_false, not_or] at hy; simp only [hy, if_false]; exact ovr_out (by simp [hy]))
    | some b =>
      obtain ⟨xb, qb, bs⟩ := b
      rw [hb] at hB hst
      obtain ⟨hq, a0, k0, t0, u0, tb, ts, rfl, h1, h2, h3⟩ := hB
      simp only [List.map, h1, h2, h3] at F₁
      simp only [List.cons_append] at N₁
      have h0ne : a0 ≠ it := fun q => by
        have z1 := N₁.get (a := a0) (List.mem_cons_of_mem _ List.mem_cons_self)
        have z2 := N₁.get (a := it) List.mem_cons_self
        rw [q, z2] at z1
        have z := congrArg Obj.cls (Option.some.inj z1)
        simp [iterObj] at z
      k_steps
      all_goals (unfold TurnBack; dsimp only)
      · have e9 : bestOf M Sp ws (xs.take (i + 1)) = some (xb, qb, bs) := by
         rw [hst]
         simp [stepB, *]
        with_reducible rename TabS _ => ts9
        with_reducible rename News _ _ _ _ => n9
        refine' ⟨_, (a0, (⟨.type "tuple", none, .seq (bools bs).toArray k0, #[]⟩ : Obj)) :: _, ⟨fun y hy => ?ag, ?st⟩, (by k_asm), ?nn, ?ne, (by k_asm), rfl, rfl⟩
        case st => (rw [e9]; refine ⟨hq, _, _, _, _, _, ?_, rfl, rfl, rfl, rfl⟩; with_reducible assumption)
        case nn => (refine News.sub (by with_reducible assumption) (fun p9 h9 => ?_); simp only [List.mem_cons, List.mem_append, List.not_mem_nil, or_false] at h9 ⊢; grind)
        case ne =>
          intro p9 hp9
          rcases List.mem_cons.mp hp9 with e9 | hp9
          · rw [e9]; exact h0ne
          · exact TabS.ne ts9 n9 (fun p9 h9 => by simp [h9]) (it := it) (l := ml) (i := i + 1) (by simp) p9 hp9
        case ag => (simp only [bmNames, List.mem_cons, List.not_mem_nil, or_false, not_or] at hy; simp only [hy, if_false]; exact ovr_out (by simp [hy]))
      · have e9 : bestOf M Sp ws (xs.take (i + 1)) = some (xb, qb, bs) := by
         rw [hst]
         simp [stepB, *]
        with_reducible rename TabS _ => ts9
        with_reducible rename News _ _ _ _ => n9
        refine' ⟨_, (a0, (⟨.type "tuple", none, .seq (bools bs).toArray k0, #[]⟩ : Obj)) :: _, ⟨fun y hy => ?ag, ?st⟩, (by k_asm), ?nn, ?ne, (by k_asm), rfl, rfl⟩
        case st => (rw [e9]; refine ⟨hq, _, _, _, _, _, ?_, rfl, rfl, rfl, rfl⟩; with_reducible assumption)
        case nn => (refine News.sub (by with_reducible assumption) (fun p9 h9 => ?_); simp only [List.mem_cons, List.mem_append, List.not_mem_nil, or_false] at h9 ⊢; grind)
        case ne =>
          intro p9 hp9
          rcases List.mem_cons.mp hp9 with e9 | hp9
          · rw [e9]; exact h0ne
          · exact TabS.ne ts9 n9 (fun p9 h9 => by simp [h9]) (it := it) (l := ml) (i := i + 1) (by simp) p9 hp9
        case ag => (simp only [bmNames, List.mem_cons, List.not_mem_nil, or_false, not_or] at hy; simp only [hy, if_false]; exact ovr_out (by simp [hy]))
      · with_reducible rename _ ∧ _ ∧ AllLt _ _ => hl9
        with_reducible rename firstM _ _ = some _ => hf9
        with_reducible rename TabS _ => ts9
        with_reducible rename News _ _ _ _ => n9
        refine' ⟨_, (_, _) :: _, ⟨fun y hy => ?ag, ?st⟩, (by k_asm), ?nn, ?ne, (by k_asm), rfl, rfl⟩
        case nn => (refine' News.upd ?ua5 ?uo5; (case ua5 => with_reducible assumption); (case uo5 => (intro p9 h9; first | exact h9 | exact List.mem_cons_of_mem _ h9)))
        case st => 
          have e9 := hst
          simp only [stepB, hf9] at e9
          rw [e9, if_neg (by assumption), if_neg (by assumption)]
          first
            | (rw [if_pos (by assumption)]; exact ⟨by omega, _, _, _, _, _, ts9, rfl, rfl, rfl, rfl⟩)
            | (rw [if_neg (by assumption), if_pos (by assumption)]; exact ⟨by omega, _, _, _, _, _, ts9, rfl, rfl, rfl, rfl⟩)
        case ne =>
          intro p9 hp9
          rcases List.mem_cons.mp hp9 with e9 | hp9
          · rw [e9]; exact Nat.ne_of_gt (by dsimp only; omega)
          · exact TabS.ne ts9 n9 (fun p9 h9 => by simp [h9]) (it := it) (l := ml) (i := i + 1) (by simp) p9 hp9
        case ag => (simp only [bmNames, List.mem_cons, List.not_mem_nil, or_false, not_or] at hy; simp only [hy, if_false]; exact ovr_out (by simp [hy]))
      · with_reducible rename _ ∧ _ ∧ AllLt _ _ => hl9
        with_reducible rename firstM _ _ = some _ => hf9
        with_reducible rename TabS _ => ts9
        with_reducible rename News _ _ _ _ => n9
        refine' ⟨_, (_, _) :: _, ⟨fun y hy => ?ag, ?st⟩, (by k_asm), ?nn, ?ne, (by k_asm), rfl, rfl⟩
        case nn => (refine' News.upd ?ua6 ?uo6; (case ua6 => with_reducible assumption); (case uo6 => (intro p9 h9; first | exact h9 | exact List.mem_cons_of_mem _ h9)))
        case st => 
          have e9 := hst
          simp only [stepB, hf9] at e9
          rw [e9, if_neg (by assumption), if_neg (by assumption)]
          first
            | (rw [if_pos (by assumption)]; exact ⟨by omega, _, _, _, _, _, ts9, rfl, rfl, rfl, rfl⟩)
            | (rw [if_neg (by assumption), if_pos (by assumption)]; exact ⟨by omega, _, _, _, _, _, ts9, rfl, rfl, rfl, rfl⟩)
        case ne =>
          intro p9 hp9
          rcases List.mem_cons.mp hp9 with e9 | hp9
          · rw [e9]; exact Nat.ne_of_gt (by dsimp only; omega)
          · exact TabS.ne ts9 n9 (fun p9 h9 => by simp [h9]) (it := it) (l := ml) (i := i + 1) (by simp) p9 hp9
        case ag => (simp only [bmNames, List.mem_cons, List.not_mem_nil, or_false, not_or] at hy; simp only [hy, if_false]; exact ovr_out (by simp [hy]))
      · have e9 : bestOf M Sp ws (xs.take (i + 1)) = some (xb, qb, bs) := by
         rw [hst]
         simp [stepB, *]
        with_reducible rename TabS _ => ts9
        with_reducible rename News _ _ _ _ => n9
        refine' ⟨_, (a0, (⟨.type "tuple", none, .seq (bools bs).toArray k0, #[]⟩ : Obj)) :: _, ⟨fun y hy => ?ag, ?st⟩, (by k_asm), ?nn, ?ne, (by k_asm), rfl, rfl⟩
        case st => (rw [e9]; refine ⟨hq, _, _, _, _, _, ?_, rfl, rfl, rfl, rfl⟩; with_reducible assumption)
        case nn => (refine News.sub (by with_reducible assumption) (fun p9 h9 => ?_); simp only [List.mem_cons, List.mem_append, List.not_mem_nil, or_false] at h9 ⊢; grind)
        case ne =>
          intro p9 hp9
          rcases List.mem_cons.mp hp9 with e9 | hp9
          · rw [e9]; exact h0ne
          · exact TabS.ne ts9 n9 (fun p9 h9 => by simp [h9]) (it := it) (l := ml) (i := i + 1) (by simp) p9 hp9
        case ag => (simp only [bmNames, List.mem_cons, List.not_mem_nil, or_false, not_or] at hy; simp only [hy, if_false]; exact ovr_out (by simp [hy]))
      · have e9 : bestOf M Sp ws (xs.take (i + 1)) = some (xb, qb, bs) := by
         rw [hst]
         simp [stepB, *]
        with_reducible rename TabS _ => ts9
        with_reducible rename News _ _ _ _ => n9
        refine' ⟨_, (a0, (⟨.type "tuple", none, .seq (bools bs).toArray k0, #[]⟩ : Obj)) :: _, ⟨fun y hy => ?ag, ?st⟩, (by k_asm), ?nn, ?ne, (by k_asm), rfl, rfl⟩
        case st => (rw [e9]; refine ⟨hq, _, _, _, _, _, ?_, rfl, rfl, rfl, rfl⟩; with_reducible assumption)
        case nn => (refine News.sub (by with_reducible assumption) (fun p9 h9 => ?_); simp only [List.mem_cons, List.mem_append, List.not_mem_nil, or_false] at h9 ⊢; grind)
        case ne =>
          intro p9 hp9
          rcases List.mem_cons.mp hp9 with e9 | hp9
          · rw [e9]; exact h0ne
          · exact TabS.ne ts9 n9 (fun p9 h9 => by simp [h9]) (it := it) (l := ml) (i := i + 1) (by simp) p9 hp9
        case ag => (simp only [bmNames, List.mem_cons, List.not_mem_nil, or_false, not_or] at hy; simp only [hy, if_false]; exact ovr_out (by simp [hy]))
  · clear TS
    rintro m nx h g tk ⟨hA, hB⟩ F₁ N₁ hg
    rw [Strs.length hos, List.take_length] at hB
    replace F₁ := Fr.as F₁ (ovr_of bmNames hA)
    cases hb : bestOf M Sp ws xs with
    | none =>
      rw [hb] at hB
      obtain ⟨ts, ⟨a0, h1⟩, ⟨t0, h2⟩, h3⟩ := hB
      simp only [List.map, h1, h2, h3] at F₁
      k_steps
      with_reducible rename TabS _ => ts9
      refine ret _ [] _ _ _ _ ?v ?f ?n ts9 NT.nil (fun _ _ _ h9 => nomatch h9) ?g
      case f => k_asm
      case n => (refine News.sub (by with_reducible assumption) (fun p9 h9 => ?_); simp only [List.mem_cons, List.mem_append, List.not_mem_nil, or_false] at h9 ⊢; grind)
      case g => k_asm
      case v => (rw [hb]; exact ⟨rfl, rfl⟩)
    | some b =>
      obtain ⟨xb, qb, bs⟩ := b
      rw [hb] at hB
      obtain ⟨hq, a0, k0, t0, u0, tb, ts, rfl, h1, h2, h3⟩ := hB
      simp only [List.map, h1, h2, h3] at F₁
      simp only [List.cons_append] at N₁
      k_steps
      with_reducible rename TabS _ => ts9
      refine ret _ [] _ _ _ _ ?v ?f ?n ts9 NT.nil (fun _ _ _ h9 => nomatch h9) ?g
      case f => k_asm
      case n => (refine News.sub (by with_reducible assumption) (fun p9 h9 => ?_); simp only [List.mem_cons, List.mem_append, List.not_mem_nil, or_false] at h9 ⊢; grind)
      case g => k_asm
      case v => (rw [hb]; exact ⟨⟨_, rfl⟩, rfl⟩)
theorem best_G {w : World} {news : List (Addr × Obj)} {C fm : Addr} {M : Str → Str → Bool} {Ok : Str → Str → Prop} (hC : ClsOk w C fm M Ok) {fs : Addr} {Sp : Str → List Bool} {Oks : Str → Prop} (hS : SpcOk w C fs Sp Oks) (self d ml : Addr) (vs os : List Value) (n k : Nat) (hh : Int) (tt : Tok) (pv dflt : Value) (as : List Value) (has : as = [.ref self, .ref ml, dflt] ∨ (as = [.ref self, .ref ml] ∧ dflt = .none)) (ws : List (Str × Int)) (xs : List Str) (hself : (self, (⟨.ref C, some d, .seq vs.toArray n, #[]⟩ : Obj)) ∈ news) (hdd : (d, W.dictOf [⟨hh, .str (Str.ofString "provided") tt, pv⟩] 1) ∈ news) (hp : Pairs news vs ws) (hml : (ml, W.listOf os.toArray k) ∈ news) (hos : Strs os xs) (hw : ∀ x ∈ xs, ∀ p ∈ ws, Ok x p.1) (hsp : ∀ p ∈ ws, Oks p.1) : SpecT w 700 7000 (.ref 269) as news (fun v tl => (match bestOf M Sp ws xs with | none => v = dflt | some (x, _, _) => ∃ t, v = .str x t) ∧ tl = []) :=
  (best_K hC hS self d ml vs os n k hh tt pv dflt as has ws xs hself hdd hp hml hos hw hsp).toT
end
end Mine
end

section
open PySem PySem.W PyProof.Rows PySem.Calls PySem.Spec
set_option Elab.async false
set_option maxRecDepth 100000
set_option maxHeartbeats 0
set_option linter.unusedVariables false
namespace Mine
theorem lookup_at {x y : Str} {v : Value} {l : List (Str × Value)} : List.lookup y ((x, v) :: l) = if y = x then some v else List.lookup y l := by
  by_cases h : y = x
  · subst h; simp [List.lookup]
  · have : (y == x) = false := by simpa using h
    simp [List.lookup, h, this]
theorem for_listM {prog : Program} {w : World} {A : Around} {E : Value → Shared → Prop} {s : Shared} {h₀ : Heap} {L : Addr} {target : PySem.Expr} {body : List Stmt} {cn x : Str} {cs : Scope} {a : Addr} {ccd : Value} {pos pos1 : Pos} {l : Addr} {ol : Obj} {vs : List Value} {n : Nat} {m₀ : Str → Option Value} {nx₀ news : List (Addr × Obj)} {Q : Flow → Shared → Prop}
    (F : Fr h₀ L s.heap m₀) (N : News h₀ L s.heap (nx₀ ++ news)) (hx : m₀ x = some (.ref l)) (hol : (l, ol) ∈ news) (hcl : ol.cls = .type "list") (hdl : ol.data = .seq vs.toArray n) (hh : A.handled = none)
    (Inv : (Str → Option Value) → Nat → (Str → Option Value) → List (Addr × Obj) → Prop) (h0 : Inv m₀ 0 m₀ nx₀)
    (turn : ∀ it i v m nx h g tk, vs[i]? = some v → Inv m₀ i m nx → Fr h₀ L h m → News h₀ L h ((it, iterObj l (i + 1)) :: (nx ++ news)) → GOk s.gens g →
      wpAny (model prog w) A (assign target (envOf cn cs L a ccd) v) (fun _ s₂ => wpAny (model prog w) A (execs body (envOf cn cs L a ccd)) (TurnBack h₀ L s Q news it l i (Inv m₀)) (fun _ _ => False) s₂) (fun _ _ => False) ⟨h, g, s.drawn, tk, s.os⟩)
    (fin : ∀ m nx h g tk, Inv m₀ vs.length m nx → Fr h₀ L h m → News h₀ L h (nx ++ news) → GOk s.gens g → Q .next ⟨h, g, s.drawn, tk, s.os⟩)
    (hk : cs.kind = .function := by rfl) (hlc : (envOf cn cs L a ccd).kindOf x = some .local := by rfl) (hdb : (x == ("__debug__" : Str)) = false := by decide) :
    wpAny (model prog w) A (exec (.For target (.Name x pos1) body [] pos) (envOf cn cs L a ccd)) Q E s := for_list F N hx hol hcl hdl hh (Inv m₀) h0 turn fin hk hlc hdb
theorem News.ne_cls {h₀ h : Heap} {L a b : Addr} {oa ob : Obj} {led : List (Addr × Obj)} (N : News h₀ L h led) (ha : (a, oa) ∈ led) (hb : (b, ob) ∈ led) (hc : oa.cls ≠ ob.cls) : a ≠ b := fun q => by
  have z1 := N.get ha
  have z2 := N.get hb
  rw [q, z2] at z1
  exact hc (congrArg Obj.cls (Option.some.inj z1)).symm
theorem mem_swap2 {α : Type} {a b p : α} {l : List α} (h : p ∈ a :: b :: l) : p ∈ b :: a :: l := by simp only [List.mem_cons] at h ⊢; grind
theorem mem_up4 {α : Type} {a b c d p : α} {l : List α} (h : p ∈ c :: l) : p ∈ a :: b :: c :: d :: l := by simp only [List.mem_cons] at h ⊢; grind
theorem mem_rot3 {α : Type} {a b c p : α} {l : List α} (h : p ∈ a :: b :: c :: l) : p ∈ b :: c :: a :: l := by simp only [List.mem_cons] at h ⊢; grind
theorem mem_rot3' {α : Type} {a b c p : α} {l : List α} (h : p ∈ c :: a :: b :: l) : p ∈ a :: b :: c :: l := by simp only [List.mem_cons] at h ⊢; grind
theorem scoreOf_step (fit : Str → Int) (ws : List (Str × Int)) {i : Nat} {p : Str × Int} (h : ws[i]? = some p) : scoreOf fit (ws.take (i + 1)) = sStep fit (scoreOf fit (ws.take i)) p := by
  unfold scoreOf
  rw [List.take_add_one, h]
  simp [List.foldl_append]
theorem scoresOf_step (Ft : Str → Str → Int) (ws : List (Str × Int)) {xs : List Str} {i : Nat} {x : Str} (h : xs[i]? = some x) : scoresOf Ft ws (xs.take (i + 1)) = scoresOf Ft ws (xs.take i) ++ [scoreOf (fun w => Ft w x) ws] := by
  unfold scoresOf
  rw [List.take_add_one, h]
  simp
abbrev inNames : List Str := [Str.ofString "best", Str.ofString "wish", Str.ofString "quality", Str.ofString "fit"]
abbrev outNames : List Str := [Str.ofString "offer", Str.ofString "best", Str.ofString "wish", Str.ofString "quality", Str.ofString "fit"]
def InInv (news : List (Addr × Obj)) (fit : Str → Int) (ws : List (Str × Int)) (m₀ : Str → Option Value) (i : Nat) (m : Str → Option Value) (nx : List (Addr × Obj)) : Prop :=
  (∀ y, y ∉ inNames → m y = m₀ y) ∧ match scoreOf fit (ws.take i) with
    | none => nx = [] ∧ m (Str.ofString "best") = some .none
    | some (q, f) => ∃ a t u n, nx = [(a, T2 q f t u n)] ∧ m (Str.ofString "best") = some (.ref a) ∧ ∀ p ∈ news, p.1 < a
def OutInv (news : List (Addr × Obj)) (Ft : Str → Str → Int) (ws : List (Str × Int)) (xs : List Str) (D : Addr) (m₀ : Str → Option Value) (i : Nat) (m : Str → Option Value) (nx : List (Addr × Obj)) : Prop :=
  (∀ y, y ∉ outNames → m y = m₀ y) ∧ ∃ vs n tups, nx = (D, W.listOf vs.toArray n) :: tups ∧ (∀ p ∈ tups, p.2.cls = .type "tuple") ∧ (∀ q ∈ tups, ∀ p ∈ news, p.1 < q.1) ∧ Scs tups vs (scoresOf Ft ws (xs.take i))
section
local macro_rules | `(tactic| walk_at "none 0") => `(tactic| fail)
local macro_rules | `(tactic| walk_at "none 1") => `(tactic| fail)
local macro_rules | `(tactic| walk_at "none 2") => `(tactic| fail)
local macro_rules | `(tactic| walk_at "none 3") => `(tactic| fail)
local macro_rules | `(tactic| walk_at "none 4") => `(tactic| fail)
local macro_rules | `(tactic| walk_at "none 5") => `(tactic| fail)
local macro_rules | `(tactic| k_mem) => `(tactic| first | (with_reducible assumption) | assumption)
local macro_rules | `(tactic| k_mem) => `(tactic| ((with_reducible (first | refine List.mem_append_right _ ?_ | refine mem_appR ?_)); k_mem))
local macro_rules | `(tactic| k_asm) => `(tactic| ((with_reducible show GOk _ _); first | exact GOk.refl _ | (intro x9; solve_by_elim)))
local macro_rules | `(tactic| k_asm) => `(tactic| ((with_reducible show News _ _ _ _); first | (with_reducible assumption) | (refine News.sub (by with_reducible assumption) (fun p9 h9 => ?_); (repeat (first | exact h9 | apply List.mem_cons_of_mem | apply List.mem_append_right)); done) | (refine News.sub (by assumption) (fun p9 h9 => ?_); (repeat (first | exact h9 | apply List.mem_cons_of_mem | apply List.mem_append_right)); done)))
local macro_rules | `(tactic| walk_at "call builtin:list.append") => `(tactic| (k_here; (with_reducible show wpAny _ _ (call (Value.builtin _) [Value.ref _, _]) _ _ _); k_dflt (refine' append_K ?k1 ?k2 (Upd.head ?k3) ?_ ?z; (case k1 => k_asm); (case k2 => with_reducible assumption); (case k3 => with_reducible assumption); (case z => with_reducible assumption); k_whole); intro h' F' N'))
local macro_rules | `(tactic| walk_at "compareOp Gt ref ref") => `(tactic| (k_here; (with_reducible show wpAny _ _ (compareOp CmpOp.Gt (Value.ref _) (Value.ref _)) _ _ _); k_dflt (refine gt_ints (News.get (by k_asm) (by k_mem)) (News.get (by k_asm) (by k_mem)) (by ke_room) ?_)))
local macro_rules | `(tactic| walk_at "subscriptTail Name") => `(tactic| (k_here; (with_reducible show wpAny _ _ (subscriptTail _ _ (Value.ref _) (Value.int _ _)) _ _ _); k_dflt (refine' item_tupleT ?t ?a ?b ?c ?d ?_; (case t => exact News.isTup (by k_asm) (by k_mem)); (case a => decide); (case b => decide); (case c => rfl); (case d => rfl); k_whole)))
local macro_rules | `(tactic| walk_at "call ref") => `(tactic| (
  k_here
  (with_reducible show wpAny _ _ (call (Value.ref 405) _ _) _ _ _)
  k_dflt (refine' spec_use ((by with_reducible assumption : FitSpec _ _ _ _) _ _ _ _ _ ?k1) ?kB ?kF ?kX ?kN ?kT ?kK ?kD ?kU ?_)
  (case kB => k_asm)
  (case kF => k_asm)
  (case kX => k_asm)
  (case kN => k_asm)
  (case kT => k_asm)
  (case k1 => with_reducible assumption)
  (case kK => rfl)
  (case kD => exact Nat.le_of_ble_eq_true rfl)
  (case kU => exact Nat.le_of_ble_eq_true rfl)
  k_whole
  (intro v tl h' g' tk' hR F' N' hlt hg)
  (obtain ⟨⟨t9, e1⟩, e2⟩ := hR)
  subst e1
  subst e2
  (simp only [List.nil_append] at N')
  clear hlt
  try k_sweep))
theorem lscores : ∀ {w : World} {news : List (Addr × Obj)} {k : Int} {Ft : Str → Str → Int} {Okf : Str → Str → Prop} (hF : FitSpec w k Ft Okf) (u : Tok) (wl ol : Addr) (wv ov : List Value) (nw no : Nat) (ws : List (Str × Int)) (xs : List Str) (hwl : (wl, W.listOf wv.toArray nw) ∈ news) (hol : (ol, W.listOf ov.toArray no) ∈ news) (hp : Pairs news wv ws) (hos : Strs ov xs) (hok : ∀ x ∈ xs, ∀ p ∈ ws, Okf p.1 x) (hlx : xs.length ≤ 6), Spec w 800 8000 (.ref 412) [.int k u, .ref wl, .ref ol] news (fun v tl => ∃ D vs n tups, v = .ref D ∧ tl = (D, W.listOf vs.toArray n) :: tups ∧ Scs tups vs (scoresOf Ft ws xs)) := by
  unfold Spec
  w_top off
  k_fill
  intro w news k Ft Okf hF u wl ol wv ov nw no ws xs hwl hol hp hos hok hlx mean mg mb gd cn cs a ccd cl outer A₀ base h₀ L m s Q E B F X N T hk ret
  refine wpAny_call ?_
  k_dflt ktr_enter
  rename Fr _ _ _ _ => F1
  replace F1 := Fr.as F1 (m' := fun z9 => List.lookup z9 [(Str.ofString "offers", .ref ol), (Str.ofString "wishes", .ref wl), (Str.ofString "kind", .int k u)]) rfl
  iterate 7 (first | (k_unfold; (try dsimp only)) | walk1 | (dsimp only; walk1))
  rename ∀ p ∈ news, _ => lD
  rename_i D _ _ FA NA
  iterate 1 (first | (k_unfold; (try dsimp only)) | walk1 | (dsimp only; walk1))
  have hDn : ∀ p ∈ news, p.1 ≠ D := fun p hp => Nat.ne_of_lt (lD p hp)
  refine for_list (nx₀ := [(D, W.listOf #[] 0)]) (news := news) (by assumption) (by assumption) rfl hol rfl rfl rfl
    (OutInv news Ft ws xs D (fun z9 => List.lookup z9 [(Str.ofString "out", .ref D), (Str.ofString "offers", .ref ol), (Str.ofString "wishes", .ref wl), (Str.ofString "kind", .int k u)])) ?_ ?_ ?_
  · refine ⟨fun y hy => ?_, [], 0, [], rfl, (fun _ h => nomatch h), (fun _ h => nomatch h), trivial⟩
    simp [lookup_at]
  · rintro it i v m nx h g tk hv ⟨hA, vs, n, tups, rfl, hcl, hlt9, hsc⟩ F₁ N₁ hg
    obtain ⟨x, tx, hx, rfl⟩ := Strs.at hos hv
    have hokx := hok x (List.mem_of_getElem? hx)
    have hst := scoresOf_step Ft ws hx
    replace F₁ := Fr.as F₁ (ovr_of outNames hA)
    simp only [List.map] at F₁
    simp only [List.cons_append] at N₁
    iterate 7 (first | (k_unfold; (try dsimp only)) | walk1 | (dsimp only; walk1))
    rename_i FA NA
    dsimp only
    iterate 2 (first | (k_unfold; (try dsimp only)) | walk1 | (dsimp only; walk1))
    have hitD : it ≠ D := News.ne_cls NA (.head _) (.tail _ (.head _)) (by simp [iterObj, W.listOf])
    have hDit : D ≠ it := Ne.symm hitD
    have htit : ∀ p ∈ tups, p.1 ≠ it := fun p9 h9 => News.ne_cls NA (.tail _ (.tail _ (List.mem_append_left _ h9))) (.head _) (by rw [hcl p9 h9]; simp [iterObj])
    have htD : ∀ p ∈ tups, p.1 ≠ D := fun p9 h9 => News.ne_cls NA (.tail _ (.tail _ (List.mem_append_left _ h9))) (.tail _ (.head _)) (by rw [hcl p9 h9]; simp [W.listOf])
    have hvl : vs.toArray.size ≤ 6 := by
      have e1 := hsc.len
      unfold scoresOf at e1
      rw [List.length_map] at e1
      rw [List.size_toArray, e1]
      exact Nat.le_trans (List.length_take_le' _ _) hlx
    replace hvl : vs.toArray.size ≤ sizeLine := Nat.le_trans hvl (by decide)
    refine for_listM (nx₀ := []) (news := (it, iterObj ol (i + 1)) :: (D, W.listOf vs.toArray n) :: (tups ++ news)) FA NA rfl (.tail _ (.tail _ (List.mem_append_right _ hwl))) rfl rfl rfl (InInv news (fun w => Ft w x) ws) ?_ ?_ ?_
    · exact ⟨fun _ _ => rfl, rfl, rfl⟩
    · rintro it2 i2 v2 m2 nx2 h2 g2 tk2 hv2 ⟨hA2, hB2⟩ F₂ N₂ hg2
      obtain ⟨p, a2, t2, u2, n2, hpi, rfl, hm2⟩ := Pairs.at hp hv2
      have hok2 := hokx p (List.mem_of_getElem? hpi)
      have hst2 := scoreOf_step (fun w => Ft w x) ws hpi
      clear FA NA
      replace F₂ := Fr.as F₂ (ovr_of inNames hA2)
      cases hb : scoreOf (fun w => Ft w x) (ws.take i2) with
      | none =>
        rw [hb] at hB2 hst2
        obtain ⟨rfl, h1⟩ := hB2
        simp only [List.map, h1] at F₂
        simp only [List.nil_append] at N₂
        rw [sStep_none] at hst2
        by_cases hf : 0 ≤ Ft p.1 x
        · rw [if_pos hf] at hst2
          k_steps
          all_goals (unfold TurnBack; dsimp only)
          with_reducible rename News _ _ _ _ => n9
          refine ⟨_, [(_, _)], ⟨fun y hy => ?ag, ?st⟩, (by k_asm), News.sub2 n9 (fun p9 h9 => h9), ?ne, (by k_asm), rfl, rfl⟩
          case st => (with_reducible rename _ ∧ _ => l9; rw [hst2]; exact ⟨_, _, _, _, rfl, rfl, fun p9 h9 => allLt_mem l9.2.2.2 p9 (List.mem_append_right _ h9)⟩)
          case ne => (intro p9 hp9; rw [List.mem_singleton.mp hp9]; exact Nat.ne_of_gt (by dsimp only; omega))
          case ag => (simp only [inNames, List.mem_cons, List.not_mem_nil, or_false, not_or] at hy; simp only [hy, if_false]; refine (ovr_out (by simp [hy])).trans ?_; simp only [hy, if_false])
        · rw [if_neg hf] at hst2
          k_steps
          all_goals (unfold TurnBack; dsimp only)
          with_reducible rename News _ _ _ _ => n9
          refine' ⟨_, [], ⟨fun y hy => ?ag, ?st⟩, (by k_asm), ?nn, (fun _ h9 => nomatch h9), (by k_asm), rfl, rfl⟩
          case nn => exact n9
          case st => (rw [hst2]; exact ⟨rfl, rfl⟩)
          case ag => (simp only [inNames, List.mem_cons, List.not_mem_nil, or_false, not_or] at hy; simp only [hy, if_false]; refine (ovr_out (by simp [hy])).trans ?_; simp only [hy, if_false])
      | some b =>
        obtain ⟨bq, bf⟩ := b
        rw [hb] at hB2 hst2
        obtain ⟨a8, t8, u8, n8, rfl, h1, hl8⟩ := hB2
        simp only [List.map, h1] at F₂
        simp only [List.cons_append, List.nil_append] at N₂
        have h0ne : a8 ≠ it2 := fun q => by
          have z1 := N₂.get (a := a8) (List.mem_cons_of_mem _ List.mem_cons_self)
          have z2 := N₂.get (a := it2) List.mem_cons_self
          rw [q, z2] at z1
          have z := congrArg Obj.cls (Option.some.inj z1)
          simp [iterObj] at z
        rw [sStep_some] at hst2
        by_cases hf : 0 ≤ Ft p.1 x
        · cases hg9 : gtI (Ft p.1 x, p.2) (bf, bq) with
          | true =>
            rw [if_pos ⟨hf, gtI_iff.mp hg9⟩] at hst2
            k_steps
            all_goals (unfold TurnBack; dsimp only)
            with_reducible rename News _ _ _ _ => n9
            refine ⟨_, [(_, _)], ⟨fun y hy => ?ag, ?st⟩, (by k_asm), News.sub2 n9 (fun p9 h9 => mem_up4 h9), ?ne, (by k_asm), rfl, rfl⟩
            case st => (with_reducible rename _ ∧ _ => l9; rw [hst2]; exact ⟨_, _, _, _, rfl, rfl, fun p9 h9 => allLt_mem l9.2.2.2.2.2.2 p9 (List.mem_append_right _ h9)⟩)
            case ne => (intro p9 hp9; rw [List.mem_singleton.mp hp9]; exact Nat.ne_of_gt (by dsimp only; omega))
            case ag => (simp only [inNames, List.mem_cons, List.not_mem_nil, or_false, not_or] at hy; simp only [hy, if_false]; refine (ovr_out (by simp [hy])).trans ?_; simp only [hy, if_false])
          | false =>
            rw [if_neg (fun q => by rw [gtI_iff.mpr q.2] at hg9; cases hg9)] at hst2
            k_steps
            all_goals (unfold TurnBack; dsimp only)
            with_reducible rename News _ _ _ _ => n9
            refine' ⟨_, [(a8, T2 bq bf t8 u8 n8)], ⟨fun y hy => ?ag, ?st⟩, (by k_asm), ?nn, ?ne, (by k_asm), rfl, rfl⟩
            case nn => (refine News.sub n9 (fun p9 h9 => ?_); repeat (first | exact h9 | apply List.mem_cons_of_mem))
            case st => (rw [hst2]; exact ⟨_, _, _, _, rfl, rfl, hl8⟩)
            case ne => (intro p9 hp9; rw [List.mem_singleton.mp hp9]; exact h0ne)
            case ag => (simp only [inNames, List.mem_cons, List.not_mem_nil, or_false, not_or] at hy; simp only [hy, if_false]; refine (ovr_out (by simp [hy])).trans ?_; simp only [hy, if_false])
        · rw [if_neg (fun q => hf q.1)] at hst2
          k_steps
          all_goals (unfold TurnBack; dsimp only)
          with_reducible rename News _ _ _ _ => n9
          refine' ⟨_, [(a8, T2 bq bf t8 u8 n8)], ⟨fun y hy => ?ag, ?st⟩, (by k_asm), ?nn, ?ne, (by k_asm), rfl, rfl⟩
          case nn => (refine News.sub n9 (fun p9 h9 => ?_); repeat (first | exact h9 | apply List.mem_cons_of_mem))
          case st => (rw [hst2]; exact ⟨_, _, _, _, rfl, rfl, hl8⟩)
          case ne => (intro p9 hp9; rw [List.mem_singleton.mp hp9]; exact h0ne)
          case ag => (simp only [inNames, List.mem_cons, List.not_mem_nil, or_false, not_or] at hy; simp only [hy, if_false]; refine (ovr_out (by simp [hy])).trans ?_; simp only [hy, if_false])
    · rintro m2 nx2 h2 g2 tk2 ⟨hA2, hB2⟩ F₂ N₂ hg2
      rw [hp.len, List.take_length] at hB2
      clear FA NA
      replace F₂ := Fr.as F₂ (ovr_of inNames hA2)
      cases hb : scoreOf (fun w => Ft w x) ws with
      | none =>
        rw [hb] at hB2 hst
        obtain ⟨rfl, h1⟩ := hB2
        simp only [List.map, h1] at F₂
        simp only [List.nil_append] at N₂
        have N₃ : News _ _ h2 ((D, W.listOf vs.toArray n) :: (it, iterObj ol (i + 1)) :: (tups ++ news)) := News.sub N₂ (fun p9 h9 => mem_swap2 h9)
        clear N₂
        have hup : ∀ p ∈ (it, iterObj ol (i + 1)) :: (tups ++ news), p.1 ≠ D := fun p9 h9 => (List.mem_cons.mp h9).elim (fun e9 => by rw [e9]; exact hitD) fun h9 => (List.mem_append.mp h9).elim (htD p9) (hDn p9)
        k_steps
        all_goals (unfold TurnBack; dsimp only)
        with_reducible rename News _ _ _ _ => N4
        rw [List.push_toArray] at N4
        refine' ⟨_, (D, W.listOf (vs ++ [Value.none]).toArray (n + 1)) :: tups, ⟨fun y hy => ?ag, _, _, _, rfl, hcl, hlt9, ?sc⟩, (by k_asm), ?nn, ?ne, (by k_asm), rfl, rfl⟩
        case nn => exact News.sub N4 (fun p9 h9 => mem_swap2 h9)
        case sc => (rw [hst]; exact Scs.snoc (c := none) hsc rfl)
        case ne => exact (fun p9 h9 => (List.mem_cons.mp h9).elim (fun e9 => by rw [e9]; exact hDit) fun h9 => htit p9 h9)
        case ag => (simp only [outNames, List.mem_cons, List.not_mem_nil, or_false, not_or] at hy; refine (ovr_out (by simp [hy])).trans ?_; simp only [hy, if_false]; refine (ovr_out (by simp [hy])).trans ?_; simp only [hy, if_false])
      | some b =>
        obtain ⟨bq, bf⟩ := b
        rw [hb] at hB2 hst
        obtain ⟨a8, t8, u8, n8, rfl, h1, hl8⟩ := hB2
        simp only [List.map, h1] at F₂
        simp only [List.cons_append, List.nil_append] at N₂
        have N₃ : News _ _ h2 ((D, W.listOf vs.toArray n) :: (a8, T2 bq bf t8 u8 n8) :: (it, iterObj ol (i + 1)) :: (tups ++ news)) := News.sub N₂ (fun p9 h9 => mem_rot3 h9)
        have h8D : a8 ≠ D := News.ne_cls N₂ (.head _) (.tail _ (.tail _ (.head _))) (by simp [W.listOf])
        have h8it : a8 ≠ it := News.ne_cls N₂ (.head _) (.tail _ (.head _)) (by simp [iterObj])
        clear N₂
        have hup : ∀ p ∈ (a8, T2 bq bf t8 u8 n8) :: (it, iterObj ol (i + 1)) :: (tups ++ news), p.1 ≠ D := fun p9 h9 => (List.mem_cons.mp h9).elim (fun e9 => by rw [e9]; exact h8D) fun h9 => (List.mem_cons.mp h9).elim (fun e9 => by rw [e9]; exact hitD) fun h9 => (List.mem_append.mp h9).elim (htD p9) (hDn p9)
        k_steps
        all_goals (unfold TurnBack; dsimp only)
        with_reducible rename News _ _ _ _ => N4
        rw [List.push_toArray] at N4
        refine' ⟨_, (D, W.listOf (vs ++ [Value.ref a8]).toArray (n + 1)) :: (a8, T2 bq bf t8 u8 n8) :: tups, ⟨fun y hy => ?ag, _, _, _, rfl, ?hd, ?hl, ?sc⟩, (by k_asm), ?nn, ?ne, (by k_asm), rfl, rfl⟩
        case nn => exact News.sub N4 (fun p9 h9 => mem_rot3' h9)
        case sc => (rw [hst]; exact Scs.snoc (c := some (bq, bf)) (Scs.mono (fun _ h9 => .tail _ h9) hsc) ⟨_, _, _, _, rfl, .head _⟩)
        case hd => exact (fun p9 h9 => (List.mem_cons.mp h9).elim (fun e9 => by rw [e9]) (hcl p9))
        case hl => exact (fun q9 h9 => (List.mem_cons.mp h9).elim (fun e9 => by rw [e9]; exact hl8) (hlt9 q9))
        case ne => exact (fun p9 h9 => (List.mem_cons.mp h9).elim (fun e9 => by rw [e9]; exact hDit) fun h9 => (List.mem_cons.mp h9).elim (fun e9 => by rw [e9]; exact h8it) fun h9 => htit p9 h9)
        case ag => (simp only [outNames, List.mem_cons, List.not_mem_nil, or_false, not_or] at hy; refine (ovr_out (by simp [hy])).trans ?_; simp only [hy, if_false]; refine (ovr_out (by simp [hy])).trans ?_; simp only [hy, if_false])
  · rintro m₁ nx h g tk ⟨hA, vs, n, tups, rfl, hcl, hlt9, hsc⟩ F₁ N₁ hg
    rw [Strs.length hos, List.take_length] at hsc
    replace F₁ := Fr.as F₁ (ovr_of outNames hA)
    simp only [List.map] at F₁
    simp only [List.cons_append] at N₁
    k_steps
    refine ret _ ((D, W.listOf vs.toArray n) :: tups) _ _ _ ⟨D, vs, n, tups, rfl, rfl, hsc⟩ (by k_asm) ?nn ?ll (by k_asm)
    case nn => (with_reducible rename News h₀ L _ _ => n9; simpa only [List.cons_append] using n9)
    case ll => exact (fun p9 hp9 q9 hq9 => (List.mem_cons.mp hq9).elim (fun e9 => by rw [e9]; exact lD p9 hp9) fun hq9 => hlt9 q9 hq9 p9 hp9)
end
end Mine
end

section
open PySem PySem.W PyProof.Rows PySem.Calls PySem.Spec
set_option Elab.async false
set_option maxRecDepth 100000
set_option linter.unusedVariables false
namespace Mine
open PyProof.Rows.LCg in
theorem compEnd_mono {h₀ : Heap} {L : Addr} {m : Str → Option Value} {s₁ : Shared} {I C D : Addr} {oI oC oD : Obj} {S : List (Addr × Obj) → Prop} {R R' : Value → List (Addr × Obj) → Prop} {y : Value} {s₂ : Shared}
    (h : CompEnd h₀ L m s₁ I oI C oC D oD S R y s₂) (k : ∀ news', R y news' → R' y news') : CompEnd h₀ L m s₁ I oI C oC D oD S R' y s₂ := by
  obtain ⟨h', tk, news', a, b, c, d, e, f⟩ := h
  exact ⟨h', tk, news', a, b, c, d, e, k _ f⟩
open PyProof.Rows.LCg in
/-- a comprehension over any number of items, by an invariant -/
theorem compRest_inv {prog : Program} {w : World} {A : Around} {h₀ : Heap} {L : Addr} {m : Str → Option Value} {env : Env} {elt : Expr} {x : Str} {scope : Scope} {cl : List (Str × Addr)} {s : Shared} {S : List (Addr × Obj) → Prop} {P : Nat → Value → Prop}
    {Fin : List Value → List (Addr × Obj) → Prop} {n : Nat} (J : Nat → List Value → List (Addr × Obj) → Prop)
    (turn : ∀ i ys news v I oI C oC D m₂ h tk (E' : Value → Shared → Prop), i < n → J i ys news → P i v → NsObj oC m₂ → m₂ x = some v → Fr h₀ L h m → News h₀ L h ((I, oI) :: (C, oC) :: (D, lst ys) :: news) → Off3 I C D news → ((@Ne Nat I C) ∧ (@Ne Nat I D) ∧ (@Ne Nat C D)) →
      wpAny (model prog w) A (eval elt (compEnvC scope cl C env)) (CompEnd h₀ L m { s with heap := h, toks := tk } I oI C oC D (lst ys) S (fun y news' => J (i + 1) (ys ++ [y]) news')) E' { s with heap := h, toks := tk })
    (fin : ∀ ys news, J n ys news → Fin ys news) : ∀ k i ys news, i + k = n → J i ys news → CompRest prog w A h₀ L m env elt x scope cl s S P Fin k i ys news
  | 0, i, ys, news, e, hJ => CompRest.zero (fin ys news ((show i = n by omega) ▸ hJ))
  | k + 1, i, ys, news, e, hJ => CompRest.succ fun v I oI C oC D m₂ h tk E' hP hC hx F N off ne =>
      wpAny_mono (turn i ys news v I oI C oC D m₂ h tk E' (by omega) hJ hP hC hx F N off ne) (fun y s₂ h₂ => compEnd_mono h₂ fun news' hJ' => compRest_inv J turn fin k (i + 1) (ys ++ [y]) news' (by omega) hJ') fun _ _ z => z
end Mine
end

section
open PySem PySem.W PyProof.Rows PySem.Calls PySem.Spec
set_option Elab.async false
set_option maxRecDepth 100000
set_option linter.unusedVariables false
namespace Mine
open PyProof.Rows.LCg
/-- the iterator of a list, over any object with items -/
theorem walks_seq {prog : Program} {w : World} {A : Around} (hh : A.handled = none) (I l : Addr) (hne : l ≠ I) (vs : List Value) :
    Walks prog w A I [I, l] [I] vs.length (fun i v => vs[i]? = some v) (fun i h => h.get? I = some (iterObj l i) ∧ ∃ ol n, h.get? l = some ol ∧ ol.data = .seq vs.toArray n) where
  sub := fun b hb => by rw [List.mem_singleton.mp hb]; exact .head _
  frame := fun i h h' st hk => ⟨hk I (.head _) _ st.1, let ⟨ol, n, e, d⟩ := st.2; ⟨ol, n, hk l (.tail _ (.head _)) _ e, d⟩⟩
  item := fun i s Q E hi st hQ => by
    obtain ⟨h1, ol, n, h2, h3⟩ := st
    refine next_item (v := vs[i]) h1 h2 h3 (by simp [hi]) fun h' e hs => ?_
    refine hQ _ h' s.toks (by simp [hi]) ⟨e, ol, n, hs.extBut _ _ hne h2, h3⟩ fun b o hb e' => hs.extBut b o (fun q => hb (by simp [q])) e'
  done := fun s Q E st hQ => by
    obtain ⟨h1, ol, n, h2, h3⟩ := st
    exact next_end hh h1 h2 h3 (by simp) fun h' he => hQ h' s.toks fun b o hb e => he b o (fun q => hb (by simp [q])) e
  self := fun i s Q E st hQ => wpAny_pyIter_listiter ⟨_, st.1, rfl, rfl⟩ hQ
section
variable {prog : Program} {w : World} {A : Around} {E : Value → Shared → Prop} {s : Shared} {h₀ : Heap} {L : Addr} {m : Str → Option Value} {env : Env}
/-- a comprehension over an object with items -/
theorem comp_seq {elt iter : Expr} {x : Str} {px : Pos} {scope : Scope} {cl : List (Str × Addr)} {pos : Pos} {Q : Value → Shared → Prop} (F₀ : Fr h₀ L s.heap m)
    (hclos : closureFor scope env = pure cl) (hcell : ∀ y ∈ scope.names, y.2 ≠ .cell) (hkind : scope.kind = .function)
    (hnames : ∀ y ∈ scope.names, y.2 = .local → scope.names.lookup y.1 = some .local) (hx : scope.names.lookup x = some .local)
    (h : wpAny (model prog w) A (eval iter env) (fun xv s₁ => ∃ l ol vs n news, xv = .ref l ∧ A.handled = none ∧ Fr h₀ L s₁.heap m ∧ News h₀ L s₁.heap news ∧ (l, ol) ∈ news ∧ ol.data = .seq (List.toArray vs) n ∧ vs.length ≤ sizeLine ∧
      (∀ (Q' : Value → Shared → Prop) E', Q' (.ref s₁.heap.objs.size) { s₁ with heap := s₁.heap.push { cls := .type "list_iterator", data := .fields #[.ref l, .int 0 0] } } → wpAny (model prog w) A (pyIter (.ref l)) Q' E' s₁) ∧
      ∀ s₂ : Shared, (∃ h, s₂ = { s₁ with heap := h }) → CompRest prog w A h₀ L m env elt x scope cl s₂ (fun nw => (l, ol) ∈ nw) (fun i v => vs[i]? = some v) (FinE h₀ L m s₂ Q) vs.length 0 [] news) E s)
    (hs : ∀ x, foldedSetIterable iter env x = pure x := by intro _; rfl) :
    wpAny (model prog w) A (eval (.ListComp elt [⟨.Name x px, iter, [], 0⟩] scope pos) env) Q E s := by
  rw [eval_ListComp]
  refine wpAny_comprehension_free (use := none) rfl hs hclos hkind hnames (wpAny_mono h (fun xv s₁ h₁ => ?_) fun _ _ e => e)
  obtain ⟨l, ol, vs, n, news, rfl, hh, F, N, hm, hd, hsz, it, R⟩ := h₁
  have hl := (N _ hm).1
  have hlt : l < s₁.heap.objs.size := Heap.lt_size hl
  refine it _ _ ?_
  have up : ∀ b o, s₁.heap.get? b = some o → (s₁.heap.push { cls := .type "list_iterator", data := .fields #[.ref l, .int 0 0] }).get? b = some o := fun b o e => Heap.get?_push_of_some _ e
  refine block_U (S := fun nw => (l, ol) ∈ nw) (walks_seq hh s₁.heap.objs.size l (Nat.ne_of_lt hlt) vs) hsz (fun i h st => ⟨_, st.1⟩) (fun i h h' o nw st e e' k Nn S => ⟨by rw [e', ← e]; exact st.1, ol, n, (Nn _ S).1, hd⟩) hcell hkind hx ⟨Heap.get?_push_size _ rfl, ol, n, up _ _ hl, hd⟩ (fun b hb => ?_)
    (F.keeps up) (N.grown up) (Nat.ne_of_lt F.ns.lt) (next_is_new F) (fun p hp => Nat.ne_of_lt (Heap.lt_size (N p hp).1)) hm (R _ ⟨_, rfl⟩) ?_
  · show b < (s₁.heap.push _).objs.size
    rw [Heap.size_push]
    rcases List.mem_cons.mp hb with rfl | hb
    · exact Nat.lt_succ_self _
    · rw [List.mem_singleton.mp hb]; exact Nat.lt_succ_of_lt hlt
  · intro D C h tk m' ys news' F' N' o1 hn hC₀ hD₀ hCL hDL hCD offC fin
    refine ⟨m', hn, fun h'' hs'' => fin D h'' tk (F'.change hs'' hCL hC₀) (fun p hp => ?_) o1⟩
    refine ⟨hs''.extBut _ _ ?_ (N' p hp).1, (N' p hp).2⟩
    rcases List.mem_cons.mp hp with rfl | hp
    · exact Ne.symm hCD
    · exact offC p hp
end
end Mine
end

section
open PySem PySem.W PyProof.Rows PySem.Calls PySem.Spec
set_option Elab.async false
set_option maxRecDepth 100000
set_option linter.unusedVariables false
namespace Mine
theorem chd1 : ∀ {w : World} {h : Heap}, (hd.heap_39 w.params).In h → (PySem.Challenge.rw_eq0045_01 = PySem.Challenge.rw_eq0045_01) → CodeHd h 176 172 := by
  w_top off
  k_fill
  intro w h X _
  exact codeHd_of_K X (by kernel_rfl)
theorem chd2 : ∀ {w : World} {h : Heap}, (hd.heap_39 w.params).In h → (PySem.Challenge.rw_eq0045_01 = PySem.Challenge.rw_eq0045_01) → CodeHd h 307 303 := by
  k_fill
  intro w h X _
  exact codeHd_of_K X (by kernel_rfl)
theorem chd3 : ∀ {w : World} {h : Heap}, (hd.heap_39 w.params).In h → (PySem.Challenge.rw_eq0045_01 = PySem.Challenge.rw_eq0045_01) → CodeHd h 377 375 := by
  k_fill
  intro w h X _
  exact codeHd_of_K X (by kernel_rfl)
/-- no object of a ledger lies where a table lies -/
theorem NT.ne {h₀ h : Heap} {L P : Addr} {ps : Array Value} {l led : List (Addr × Obj)} (hn : NT l) (N : News h₀ L h led) (hm : (P, tabObj ps) ∈ led) (hl : ∀ p ∈ l, p ∈ led) (hP : P = 172 ∨ P = 303 ∨ P = 375) : ∀ p ∈ l, p.1 ≠ P := fun p hp q => by
  rcases hn p hp with k | ⟨k1, k2, k3⟩
  · have e1 := (N p (hl p hp)).1
    rw [q, (N _ hm).1] at e1
    exact k ((congrArg Obj.cls (Option.some.inj e1)).symm)
  · rcases hP with rfl | rfl | rfl
    · exact k1 q
    · exact k2 q
    · exact k3 q
theorem TabS.above {tb led : List (Addr × Obj)} {c : Addr} (TS : TabS tb) (h : ∀ p ∈ led, p.1 < c) (k : ∀ p ∈ tb, p ∈ led) : c ≠ 172 ∧ c ≠ 303 ∧ c ≠ 375 := by
  obtain ⟨p1, p2, p3, cds, rfl, _⟩ := TS
  exact ⟨Nat.ne_of_gt (h _ (k _ (.head _))), Nat.ne_of_gt (h _ (k _ (.tail _ (.head _)))), Nat.ne_of_gt (h _ (k _ (.tail _ (.tail _ (.head _)))))⟩
theorem NT.consA {p : Addr × Obj} {l : List (Addr × Obj)} (h : p.1 ≠ 172 ∧ p.1 ≠ 303 ∧ p.1 ≠ 375) (k : NT l) : NT (p :: l) := fun q hq => by
  rcases List.mem_cons.mp hq with rfl | hq
  · exact .inr h
  · exact k q hq
section
variable {prog : Program} {w : World} {A : Around} {E : Value → Shared → Prop} {s : Shared} {h₀ : Heap} {L a : Addr} {m mg mb : Str → Option Value} {cn : Str} {cs : Scope} {cl : List (Str × Addr)} {tb led rest : List (Addr × Obj)}
  {p : Program} {loose : List Str} {mean : ExcName → Option Value} {params : Arguments} {body : Expr} {scope : Scope} {pos : Pos} {clos : List (Str × Addr)}
/-- the lambda of Accept.__init__ is made: for the first time or again -/
theorem mk_lam {Q : Value → Shared → Prop} (F : Fr h₀ L s.heap m) (N : News h₀ L s.heap led) (X : (hd.heap_39 w.params).In h₀) (T : Top p loose mean mg mb h₀) (TS : TabS tb) (P : Pull tb led rest) (NN : NT rest)
    (hl : pos.line = 59) (hc : pos.col = 40) (hdef : defaultsOf params (envX cn cs L a (.ref 176) cl) = ([], [])) (hcl : closureFor scope (envX cn cs L a (.ref 176) cl) = pure clos) (hq : cn ++ ".<locals>." ++ "<lambda>" = Str.ofString "Accept.__init__.<locals>.<lambda>")
    (h : ∀ f c' ctv h' tk tb' oc vs t, Fr h₀ L h' m → News h₀ L h' ((f, kla_obj "<lambda>" (Str.ofString "Accept.__init__.<locals>.<lambda>") params body scope clos ((mg "__name__").getD .none) c' ctv) :: (tb' ++ rest)) → TabS tb' → (c', oc) ∈ tb' → oc.data = .fields vs → vs[1]? = some (.str (Str.ofString "Accept.__init__.<locals>.<lambda>") t) →
      (∀ q ∈ tb' ++ rest, q.1 < f) → (c' ≠ 172 ∧ c' ≠ 303 ∧ c' ≠ 375) → Q (.ref f) { s with heap := h', toks := tk }) :
    wpAny (model prog w) A (eval (.Lambda params body scope pos) (envX cn cs L a (.ref 176) cl)) Q E s := by
  refine kla_eval hdef ?_
  rw [show (envX cn cs L a (.ref 176) cl).qual ++ "<lambda>" = Str.ofString "Accept.__init__.<locals>.<lambda>" from hq]
  have N' : News h₀ L s.heap (tb ++ rest) := fun q hq => N q ((P.mem q).mpr hq)
  obtain ⟨p1, p2, p3, cds, rfl, t1, t2, t3, hcd⟩ := TS
  have C := chd1 X rfl
  have m172 : (172, tabObj p1) ∈ ((172, tabObj p1) :: (303, tabObj p2) :: (375, tabObj p3) :: cds) ++ rest := .head _
  have nrest : ∀ q ∈ rest, q.1 ≠ 172 := NN.ne N' m172 (fun q hq => List.mem_append_right _ hq) (.inl rfl)
  rcases t1 with rfl | ⟨c', oc, vs, t, rfl, hm, hd1, hd2⟩
  · refine kla_nest (g := fun o' => (172, o') :: (303, tabObj p2) :: (375, tabObj p3) :: (cds ++ rest)) F N' T C rfl (UpdF.head fun q hq => ?_) trivial rfl hcl fun f c' oc vs t ctv h' tk F' N₂ hd1 hd2 l1 l2 => ?_
    · rcases List.mem_cons.mp hq with rfl | hq
      · exact fun q => nomatch (show (303 : Nat) = 172 from q)
      rcases List.mem_cons.mp hq with rfl | hq
      · exact fun q => nomatch (show (375 : Nat) = 172 from q)
      rcases List.mem_append.mp hq with hq | hq
      · exact (hcd q hq).1.1
      · exact nrest q hq
    · have b1 := l1 _ m172
      have b2 := l1 (303, tabObj p2) (.tail _ (.head _))
      have b3 := l1 (375, tabObj p3) (.tail _ (.tail _ (.head _)))
      dsimp only at b1 b2 b3
      have mem : ∀ q, q ∈ ((172, tabObj (#[] ++ #[rawInt pos.line, rawInt pos.col, .ref c'])) :: (303, tabObj p2) :: (375, tabObj p3) :: (c', oc) :: cds) ++ rest → q ∈ (c', oc) :: (172, tabObj (#[] ++ #[rawInt pos.line, rawInt pos.col, .ref c'])) :: (303, tabObj p2) :: (375, tabObj p3) :: (cds ++ rest) := fun q hq => by
        simp only [List.cons_append, List.mem_cons, List.mem_append] at hq ⊢
        rcases hq with hq | hq | hq | hq | hq | hq
        · exact .inr (.inl hq)
        · exact .inr (.inr (.inl hq))
        · exact .inr (.inr (.inr (.inl hq)))
        · exact .inl hq
        · exact .inr (.inr (.inr (.inr (.inl hq))))
        · exact .inr (.inr (.inr (.inr (.inr hq))))
      refine h f c' ctv h' tk _ oc vs t F' (fun q hq => ?_) ⟨#[] ++ #[rawInt pos.line, rawInt pos.col, .ref c'], p2, p3, (c', oc) :: cds, rfl, .inr ⟨c', oc, vs, t, ?_, .head _, hd1, hd2⟩, t2.mono fun q hq => .tail _ hq, t3.mono fun q hq => .tail _ hq, ?_⟩ (.tail _ (.tail _ (.tail _ (.head _)))) hd1 hd2 ?_ ⟨Nat.ne_of_gt b1, Nat.ne_of_gt b2, Nat.ne_of_gt b3⟩
      · rcases List.mem_cons.mp hq with rfl | hq
        · exact N₂ _ (.head _)
        · exact N₂ q (.tail _ (mem q hq))
      · rw [hl, hc]; rfl
      · intro q hq
        rcases List.mem_cons.mp hq with rfl | hq
        · exact ⟨⟨Nat.ne_of_gt b1, Nat.ne_of_gt b2, Nat.ne_of_gt b3⟩, vs, _, t, hd1, hd2⟩
        · exact hcd q hq
      · intro q hq
        have hq' := mem q hq
        rcases List.mem_cons.mp hq' with rfl | hq'
        · exact l2
        · rcases List.mem_cons.mp hq' with rfl | hq'
          · exact Nat.lt_trans b1 l2
          · exact Nat.lt_trans (l1 q (.tail _ hq')) l2
  · refine kla_hit (c' := c') F N' T C rfl m172 trivial ?_ hcl fun f ctv h' tk F' N₂ l1 => ?_
    · show (if (59 : Int) == pos.line && (40 : Int) == pos.col then some (Value.ref c') else _) = _
      rw [hl, hc]; rfl
    · exact h f c' ctv h' tk _ oc vs t F' N₂ ⟨_, p2, p3, cds, rfl, .inr ⟨c', oc, vs, t, rfl, hm, hd1, hd2⟩, t2, t3, hcd⟩ (.tail _ (.tail _ (.tail _ hm))) hd1 hd2 l1 (hcd _ hm).1
end
end Mine
end

section
open PySem PySem.W PyProof.Rows PySem.Calls PySem.Spec
set_option Elab.async false
set_option maxRecDepth 100000
set_option linter.unusedVariables false
namespace Mine
/-- which table, which code, which place in the text -/
structure Which (P c : Addr) (ln col : Int) (qual : Str) : Prop where
  one : (P = 303 ∧ c = 307 ∧ ln = 153 ∧ col = 21 ∧ qual = Str.ofString "MIMEAccept._specificity.<locals>.<genexpr>") ∨ (P = 375 ∧ c = 377 ∧ ln = 202 ∧ col = 24 ∧ qual = Str.ofString "LanguageAccept.best_match.<locals>.<genexpr>")
/-- one table drawn out of the three -/
theorem TabS.split {tb : List (Addr × Obj)} (TS : TabS tb) {P c : Addr} {ln col : Int} {qual : Str} (Wh : Which P c ln col qual) : ∃ ps pre post, tb = pre ++ (P, tabObj ps) :: post ∧ TabOk ln col qual ps (pre ++ post) ∧ (∀ q ∈ pre ++ post, q.1 ≠ P) ∧ (172, 303, 375) = (172, 303, 375) ∧
    (∀ c', c' ≠ 172 ∧ c' ≠ 303 ∧ c' ≠ 375 → ∀ oc vs t, oc.data = .fields vs → vs[1]? = some (.str qual t) → TabS (pre ++ (P, tabObj (ps ++ #[rawInt ln, rawInt col, .ref c'])) :: (post ++ [(c', oc)])) ∨ ps ≠ #[]) := by
  obtain ⟨p1, p2, p3, cds, rfl, t1, t2, t3, hc⟩ := TS
  rcases Wh.one with ⟨rfl, rfl, rfl, rfl, rfl⟩ | ⟨rfl, rfl, rfl, rfl, rfl⟩
  · refine ⟨p2, [(172, tabObj p1)], (375, tabObj p3) :: cds, rfl, t2.mono fun q hq => .tail _ (.tail _ hq), fun q hq => ?_, rfl, fun c' hne oc vs t h1 h2 => ?_⟩
    · rcases List.mem_cons.mp hq with rfl | hq
      · exact fun q => nomatch (show (172 : Nat) = 303 from q)
      rcases List.mem_cons.mp hq with rfl | hq
      · exact fun q => nomatch (show (375 : Nat) = 303 from q)
      · exact (hc q hq).1.2.1
    · by_cases e : p2 = #[]
      · subst e
        refine .inl ⟨p1, #[] ++ #[rawInt 153, rawInt 21, .ref c'], p3, cds ++ [(c', oc)], rfl, t1.mono fun q hq => List.mem_append_left _ hq, .inr ⟨c', oc, vs, t, rfl, List.mem_append_right _ (.head _), h1, h2⟩, t3.mono fun q hq => List.mem_append_left _ hq, fun q hq => ?_⟩
        rcases List.mem_append.mp hq with hq | hq
        · exact hc q hq
        · rw [List.mem_singleton.mp hq]; exact ⟨hne, vs, _, t, h1, h2⟩
      · exact .inr e
  · refine ⟨p3, [(172, tabObj p1), (303, tabObj p2)], cds, rfl, t3.mono fun q hq => .tail _ (.tail _ hq), fun q hq => ?_, rfl, fun c' hne oc vs t h1 h2 => ?_⟩
    · rcases List.mem_cons.mp hq with rfl | hq
      · exact fun q => nomatch (show (172 : Nat) = 375 from q)
      rcases List.mem_cons.mp hq with rfl | hq
      · exact fun q => nomatch (show (303 : Nat) = 375 from q)
      · exact (hc q hq).1.2.2
    · by_cases e : p3 = #[]
      · subst e
        refine .inl ⟨p1, p2, #[] ++ #[rawInt 202, rawInt 24, .ref c'], cds ++ [(c', oc)], rfl, t1.mono fun q hq => List.mem_append_left _ hq, t2.mono fun q hq => List.mem_append_left _ hq, .inr ⟨c', oc, vs, t, rfl, List.mem_append_right _ (.head _), h1, h2⟩, fun q hq => ?_⟩
        rcases List.mem_append.mp hq with hq | hq
        · exact hc q hq
        · rw [List.mem_singleton.mp hq]; exact ⟨hne, vs, _, t, h1, h2⟩
      · exact .inr e
section
variable {prog : Program} {w : World} {A : Around} {E : Value → Shared → Prop} {s : Shared} {h₀ : Heap} {L a P c : Addr} {m mg mb : Str → Option Value} {cn : Str} {cs : Scope} {cl : List (Str × Addr)} {tb rest : List (Addr × Obj)}
  {p : Program} {loose : List Str} {mean : ExcName → Option Value} {scope : Scope} {pos : Pos} {ln col : Int} {qual : Str}
/-- the code of a generator is made: for the first time or again -/
theorem gen_code {Q : Value → Shared → Prop} (Wh : Which P c ln col qual) (C : CodeHd h₀ c P) (F : Fr h₀ L s.heap m) (N : News h₀ L s.heap (tb ++ rest)) (TS : TabS tb) (NN : NT rest) (hl : (pos.line : Int) = ln) (hc : (pos.col : Int) = col) (hcn : cn ++ ".<locals>." ++ "<genexpr>" = qual)
    (h : ∀ c' h' tk tb', Fr h₀ L h' m → News h₀ L h' (tb' ++ rest) → TabS tb' → Heap.ExtBut P s.heap h' → s.heap.objs.size ≤ h'.objs.size → (∀ q ∈ tb', q ∈ tb ∨ q.1 = P ∨ s.heap.objs.size ≤ q.1) → Q (.ref c') { s with heap := h', toks := tk }) :
    wpAny (model prog w) A (genexprCode (envX cn cs L a (.ref c) cl) pos ((envX cn cs L a (.ref c) cl).qual ++ "<genexpr>") scope) Q E s := by
  rw [show (envX cn cs L a (.ref c) cl).qual ++ "<genexpr>" = qual from hcn]
  obtain ⟨ps, pre, post, rfl, t, hne, _, grow⟩ := TS.split Wh
  have hm := N (P, tabObj ps) (List.mem_append_left _ (List.mem_append_right _ (.head _)))
  have hP : P = 172 ∨ P = 303 ∨ P = 375 := by rcases Wh.one with h | h <;> simp [h.1]
  have nrest : ∀ q ∈ rest, q.1 ≠ P := NN.ne N (List.mem_append_left _ (List.mem_append_right _ (.head _))) (fun q hq => List.mem_append_right _ hq) hP
  have C' := C.keeps F.keep
  rcases t with rfl | ⟨c', oc, vs, tt, rfl, hmem, hd1, hd2⟩
  · refine wpAny_genexprCodeX rfl (C'.code hm.1 trivial) (C'.tab hm.1) rfl fun c' h' tk hx hge hlt _ hrec htb _ => ?_
    obtain ⟨c₂, oc, vs, t, e2, hoc, hd, hv⟩ := hrec
    cases e2
    have above : ∀ q ∈ (pre ++ (P, tabObj #[]) :: post) ++ rest, q.1 < c' := fun q hq => Nat.lt_of_lt_of_le (Heap.lt_size (N q hq).1) hge
    have ne3 : c' ≠ 172 ∧ c' ≠ 303 ∧ c' ≠ 375 := TS.above above fun q hq => List.mem_append_left _ hq
    have TS' := (grow c' ne3 oc vs t hd hv).resolve_right (by simp)
    have hLc : L < c' := Nat.lt_of_lt_of_le F.ns.lt hge
    refine h c' h' tk _ ⟨F.ns.extBut hx hm.2.1.symm, fun b o e => hx b o (fun q => by rw [q, hm.2.2] at e; cases e) (F.keep b o e), F.above⟩ (fun q hq => ?_) TS' hx (Nat.le_trans hge (Nat.le_of_lt hlt)) (fun q hq => ?_)
    · rcases List.mem_append.mp hq with hq | hq
      · rcases List.mem_append.mp hq with hq | hq
        · have n := N q (List.mem_append_left _ (List.mem_append_left _ hq))
          exact ⟨hx _ _ (hne q (List.mem_append_left _ hq)) n.1, n.2⟩
        · rcases List.mem_cons.mp hq with rfl | hq
          · refine ⟨?_, hm.2⟩
            rw [← hl, ← hc]; exact htb.2
          · rcases List.mem_append.mp hq with hq | hq
            · have n := N q (List.mem_append_left _ (List.mem_append_right _ (.tail _ hq)))
              exact ⟨hx _ _ (hne q (List.mem_append_right _ hq)) n.1, n.2⟩
            · rw [List.mem_singleton.mp hq]
              exact ⟨hoc, Nat.ne_of_gt hLc, Heap.get?_none_of_le (Nat.le_trans F.above (Nat.le_of_lt hLc))⟩
      · have n := N q (List.mem_append_right _ hq)
        exact ⟨hx _ _ (nrest q hq) n.1, n.2⟩
    · rcases List.mem_append.mp hq with hq | hq
      · exact .inl (List.mem_append_left _ hq)
      · rcases List.mem_cons.mp hq with rfl | hq
        · exact .inr (.inl rfl)
        · rcases List.mem_append.mp hq with hq | hq
          · exact .inl (List.mem_append_right _ (.tail _ hq))
          · rw [List.mem_singleton.mp hq]; exact .inr (.inr hge)
  · refine wpAny_genexprCode_hit (c' := .ref c') rfl (C'.code hm.1 trivial) ?_ ?_
    · show (if ln == (pos.line : Int) && col == (pos.col : Int) then some (Value.ref c') else _) = _
      rw [hl, hc]; simp
    · exact h c' s.heap s.toks _ F N TS (Heap.ExtBut.refl _ _) (Nat.le_refl _) fun q hq => .inl hq
end
end Mine
end

section
open PySem PySem.W PyProof.Rows PySem.Calls PySem.Spec
set_option Elab.async false
set_option maxRecDepth 100000
set_option linter.unusedVariables false
namespace Mine
/-- the first item, drawn once -/
def FirstAt (prog : Program) (w : World) (A : Around) (a g : Nat) (wr : List Addr) (F : Nat → Value → Prop) (s : Shared) : Prop :=
  ∀ (Q : Option Value → Shared → Prop) (E : Value → Shared → Prop), (∀ v s', F 0 v → Moved wr (GenOnlyQ g) s s' → Q (some v) s') → wpAny (model prog w) A (callSpecial? (.ref a) (Str.ofString "__next__")) Q E s
/-- a fresh generator: what it gives, and where it may write -/
def GenL (prog : Program) (w : World) (A : Around) (L : Addr) (led : List (Addr × Obj)) (a : Addr) (n : Nat) (F : Nat → Value → Prop) (s : Shared) : Prop :=
  ∃ fp wr g St, WalksS prog w A.in4 a fp wr (GenOnlyQ g) n F St ∧ St 0 s ∧ (∀ i s', St i s' → s'.TypeIs (.ref a) "generator") ∧ a ∈ fp ∧ (∀ b ∈ fp, b < s.heap.objs.size) ∧ (∀ b ∈ wr, L < b) ∧ (∀ b ∈ wr, ∀ q ∈ led, q.1 ≠ b) ∧ (0 < n → FirstAt prog w A.in4 a g wr F s)
theorem first_genexp {prog : Program} {w : World} {A : Around} {s : Shared} (hh : A.handled = none) (a : Addr) (g : Nat) (C : Addr) (fp wr : List Addr) (pz : Nat → Bool) (n₀ : Nat) (F : Nat → Value → Prop) (hroom : A.depth < recursionLimit) (hn : 0 < (passing pz n₀ 0).length)
    (st : GenAt prog w A a g C fp wr pz n₀ F 0 s) : FirstAt prog w A a g (C :: wr) (fun j y => ∃ i, (passing pz n₀ 0)[j]? = some i ∧ F i y) s := by
  intro Q E hQ
  obtain ⟨hg, hl, gs, hgs, hgo⟩ := st
  obtain ⟨m, hm⟩ : ∃ m, (passing pz n₀ 0).length - 0 = m + 1 := ⟨(passing pz n₀ 0).length - 1, by omega⟩
  rw [hm] at hgo
  refine wpAny_with_toks (Nat.le_refl s.toks) ?_
  refine wpAny_callSpecial?_slot (name := Str.ofString "__next__") hg.typeIs slot_gen_next (wpAny_call_entry slot_gen_next hg.typeIs entry_gen_next ?_ (args_gen_next _))
  show wpAny _ A.in1 (Builtin.Generator.genWake (.ref a) (.send .none)) _ _ s
  unfold Builtin.Generator.genWake
  refine wpAny_bind (wpAny_holding (wpAny_genNumber hg (wpAny_bind (wpAny_genState hgs ?_))))
  have hgo := hgo (s.setGen g .running) fun _ _ _ e => e
  cases gs with
  | running => exact hgo.elim
  | finished => exact hgo.elim
  | _ =>
    refine wpAny_bind (wpAny_roomToWake hl hroom ?_)
    show wpAny _ A.in1 (.resume g (.send .none) [] _) _ _ s
    refine wpAny_resumeQ hgs hgo (fun x s₁ hx => ?_) (fun v s₁ gs' hb hv => ?_)
    · exact absurd hx.2.1 (Nat.succ_ne_zero m)
    · refine wpAny_pure ⟨v, rfl, ?_⟩
      obtain ⟨⟨i, hi, hF⟩, ⟨h₁, tk₁, rfl, hk₁⟩, hkap⟩ := hv
      have hidx : (passing pz n₀ 0).length - 1 - (m + 1 - 1) = 0 := by omega
      rw [hidx] at hi
      intro htk
      exact hQ v _ ⟨i, hi, hF⟩ ⟨fun b o hb e => hk₁ b o (fun h => hb (h ▸ List.mem_cons_self ..)) (fun h => hb (List.mem_cons_of_mem _ h)) e, GenOnlyQ.of ((GenOnly.setGen s g .running).trans (GenOnly.setGen _ g gs')) (setGen_self (gs := .running) (setGen_self hgs)) hb, rfl, rfl, htk⟩
theorem limit_ne {h : Heap} {P c : Addr} {ps : Array Value} (hl : h.NoLimit) (hm : h.get? P = some (tabObj ps)) : cStatics ≠ P := fun e => by
  obtain ⟨_, hns, _⟩ := hl
  obtain ⟨o, es, ep, ho, hd, _⟩ := hns
  rw [e, hm] at ho; cases ho; cases hd
section
variable {prog : Program} {w : World} {A : Around} {E : Value → Shared → Prop} {s : Shared} {h₀ : Heap} {L a P c : Addr} {m mg mb : Str → Option Value} {cn : Str} {cs : Scope} {cl clo : List (Str × Addr)} {tb rest : List (Addr × Obj)}
  {p : Program} {loose : List Str} {mean : ExcName → Option Value} {scope : Scope} {pos px : Pos} {ln col : Int} {qual x : Str} {elt iter : Expr} {ifs : List Expr}
/-- a generator over a list is made -/
theorem gen_list {Q : Value → Shared → Prop} (_F0 : Fr h₀ L s.heap m) (Wh : Which P c ln col qual) (C : CodeHd h₀ c P) (T : Top p loose mean mg mb h₀)
    (hh : A.handled = none) (hco : scope.isCoroutine = false) (hclos : closureFor scope (envX cn cs L a (.ref c) cl) = pure clo) (hcell : ∀ y ∈ scope.names, y.2 ≠ .cell) (h0 : scope.names.lookup (".0" : Str) = some NameKind.local)
    (hx : scope.names.lookup x = some .local) (hkind : scope.kind = .function) (hroom : A.depth < recursionLimit)
    (hl : (pos.line : Int) = ln) (hc : (pos.col : Int) = col) (hcn : cn ++ ".<locals>." ++ "<genexpr>" = qual)
    (hs : ∀ y, genFold iter (envX cn cs L a (.ref c) cl) y = pure y)
    (h : wpAny (model prog w) A (eval iter (envX cn cs L a (.ref c) cl)) (fun xv s₁ => ∃ l vs k led tb rest, xv = .ref l ∧ Fr h₀ L s₁.heap m ∧ News h₀ L s₁.heap led ∧ TabS tb ∧ Pull tb led rest ∧ NT rest ∧ (l, W.listOf vs k) ∈ rest ∧
      ∃ (pz : Nat → Bool) (F : Nat → Value → Prop),
        (∀ (C' : Addr) (code : Value) (A' : Around) E' i v (t : Shared) m₂, A'.handled = none → A'.depth ≤ A.depth + 1 → A'.units ≤ A.units + 8 → vs[i]? = some v → t.heap.Ns C' m₂ → m₂ x = some v → (∀ b o, b ≠ P → s₁.heap.get? b = some o → t.heap.get? b = some o) →
          wpAny (model prog w) A' (forIn ifs true fun c9 r => if r = true then do let ok ← isTrue c9 (genEnv scope clo C' code builtinsNs (envX cn cs L a (.ref c) cl)) (eval c9 (genEnv scope clo C' code builtinsNs (envX cn cs L a (.ref c) cl))); pure (ForInStep.yield ok) else pure (ForInStep.yield r)) (fun ok s₃ => ok = pz i ∧ Keeps t s₃) E' t) ∧
        (∀ (C' : Addr) (code : Value) (A' : Around) E' i v (t : Shared) m₂, A'.handled = none → A'.depth ≤ A.depth + 1 → A'.units ≤ A.units + 8 → vs[i]? = some v → pz i = true → t.heap.Ns C' m₂ → m₂ x = some v → (∀ b o, b ≠ P → s₁.heap.get? b = some o → t.heap.get? b = some o) →
          wpAny (model prog w) A' (eval elt (genEnv scope clo C' code builtinsNs (envX cn cs L a (.ref c) cl))) (fun y s₃ => F i y ∧ Keeps t s₃) E' t) ∧
        (∀ g h' gs tk' tb', GOk s₁.gens gs → Fr h₀ L h' m → News h₀ L h' (tb' ++ rest) → TabS tb' →
          GenL prog w A L (tb' ++ rest) g (passing pz vs.size 0).length (fun j y => ∃ i, (passing pz vs.size 0)[j]? = some i ∧ F i y) ⟨h', gs, s₁.drawn, tk', s₁.os⟩ → Q (.ref g) ⟨h', gs, s₁.drawn, tk', s₁.os⟩)) E s) :
    wpAny (model prog w) A (eval (.GeneratorExp elt [⟨.Name x px, iter, ifs, 0⟩] scope pos) (envX cn cs L a (.ref c) cl)) Q E s := by
  refine wpAny_GeneratorExp_walksQD hh hco hclos hcell h0 hx hkind hroom (wpAny_mono h (fun xv s₁ h₁ => ?_) fun _ _ e => e) hs
  obtain ⟨l, vs, k, led, tb, rest, rfl, F₁, N₁, TS, PL, NN, hlm, pz, F, hq1, hq2, hQ⟩ := h₁
  have hmem : ∀ q, q ∈ tb ++ rest → q ∈ led := fun q hq => (PL.mem q).mpr hq
  have N₁' : News h₀ L s₁.heap (tb ++ rest) := fun q hq => N₁ q (hmem q hq)
  have hPL : P = 172 ∨ P = 303 ∨ P = 375 := by rcases Wh.one with h | h <;> simp [h.1]
  have hPt : ∃ ps, (P, tabObj ps) ∈ tb := by
    obtain ⟨ps, pre, post, rfl, _⟩ := TS.split Wh
    exact ⟨ps, List.mem_append_right _ (.head _)⟩
  obtain ⟨ps, hPt⟩ := hPt
  have nl := N₁' _ (List.mem_append_right _ hlm)
  have hlist : s₁.heap.IsList l vs := ⟨_, nl.1, rfl, _, rfl⟩
  have hlt : l < s₁.heap.objs.size := Heap.lt_size nl.1
  have hlP : l ≠ P := NN.ne N₁' (List.mem_append_left _ hPt) (fun q hq => List.mem_append_right _ hq) hPL _ hlm
  have hPlt : P < s₁.heap.objs.size := Heap.lt_size (N₁' _ (List.mem_append_left _ hPt)).1
  have hlim := T.nolimit.keeps F₁.keep
  refine wpAny_pyIter_list hlist ⟨hlim.push _, ?_⟩
  have F₂ := F₁.push (o := { cls := .type "list_iterator", data := .fields #[.ref l, .int 0 0] })
  refine gen_code (tb := tb) (rest := rest) Wh C F₂ (fun q hq => ⟨Heap.get?_push_of_some _ (N₁' q hq).1, (N₁' q hq).2⟩) TS NN hl hc hcn fun c' h₃ tk₃ tb' F₃ N₃ TS₃ hx₃ hsz₃ hold => ?_
  obtain ⟨bm, ob, b1, b2, b3, b4, b5, b6⟩ := T.bmain
  refine wpAny_builtinsFor (T.g.keeps F₃.keep) b1 b2 (F₃.keep _ _ b3) b4 b5 b6 ?_
  have hIlt : s₁.heap.objs.size < h₃.objs.size := Nat.lt_of_lt_of_le (by rw [Heap.size_push]; exact Nat.lt_succ_self _) hsz₃
  have hcP : cStatics ≠ P := limit_ne (c := c) hlim (N₁' _ (List.mem_append_left _ hPt)).1
  have hl₃ : h₃.NoLimit := (hlim.push _).extBut hx₃ hcP
  have hclt : cStatics < s₁.heap.objs.size := let ⟨_, hn, _⟩ := hlim; hn.lt
  have up : ∀ b o, b ≠ P → s₁.heap.get? b = some o → h₃.get? b = some o := fun b o hb e => hx₃ b o hb (Heap.get?_push_of_some _ e)
  refine ⟨s₁.heap.objs.size, [s₁.heap.objs.size, l], [s₁.heap.objs.size], vs.size, _, _, pz, F, rfl, fun A' hA => Walks.list hA _ _ (Nat.ne_of_lt hlt) vs, ⟨⟨_, hx₃ _ _ (Nat.ne_of_gt hPlt) (Heap.get?_push_size _ rfl), rfl, rfl⟩, hlist.at fun o e => up _ _ hlP e⟩, ?_, hl₃, ?_, fun href hhref => ⟨?_, ?_⟩, fun g h₅ tk gs hgb hag hsz₅ hk₅ W hat => ?_⟩
  · intro b hb
    rcases List.mem_cons.mp hb with rfl | hb
    · exact hIlt
    · rcases List.mem_cons.mp hb with rfl | hb
      · exact Nat.lt_trans hlt hIlt
      · cases hb
  · intro hm
    rw [List.mem_singleton] at hm
    exact Nat.ne_of_lt hclt hm
  · intro A' E' i v t m₂ hA hD hU hP hn hm hkp
    exact hq1 _ _ A' E' i v t m₂ hA hD hU hP hn hm fun b o hb e => hkp b (List.mem_range.mpr (Nat.lt_trans (Heap.lt_size e) hIlt)) (fun hm => Nat.ne_of_lt (Heap.lt_size e) (List.mem_singleton.mp hm)) o (hhref b o (up b o hb e))
  · intro A' E' i v t m₂ hA hD hU hP hp hn hm hkp
    exact hq2 _ _ A' E' i v t m₂ hA hD hU hP hp hn hm fun b o hb e => hkp b (List.mem_range.mpr (Nat.lt_trans (Heap.lt_size e) hIlt)) (fun hm => Nat.ne_of_lt (Heap.lt_size e) (List.mem_singleton.mp hm)) o (hhref b o (up b o hb e))
  · refine hQ g h₅ _ tk tb' (fun G => G.push hgb) (F₃.keeps hk₅) (fun q hq => ⟨hk₅ _ _ (N₃ q hq).1, (N₃ q hq).2⟩) TS₃ ⟨_, _, _, _, W, hat, fun i s' st => st.1.typeIs, List.mem_cons_self, ?_, ?_, ?_, fun hn => first_genexp (A := A.in4) hh _ _ _ _ _ pz _ F hroom hn hat⟩
    · intro b hb
      show b < h₅.objs.size
      rw [hsz₅]
      rcases List.mem_cons.mp hb with rfl | hb
      · exact Nat.lt_succ_self _
      · rcases List.mem_cons.mp hb with rfl | hb
        · exact Nat.lt_succ_of_lt hag
        · exact Nat.lt_succ_of_lt (Nat.lt_trans (List.mem_range.mp hb) hag)
    · intro b hb
      rcases List.mem_cons.mp hb with rfl | hb
      · exact F₃.ns.lt
      · rw [List.mem_singleton.mp hb]; exact F₁.ns.lt
    · intro b hb q hq e
      have hlt3 : q.1 < h₃.objs.size := Heap.lt_size (N₃ q hq).1
      rcases List.mem_cons.mp hb with rfl | hb
      · exact Nat.ne_of_lt hlt3 e
      · rw [List.mem_singleton.mp hb] at e
        rcases List.mem_append.mp hq with hq | hq
        · rcases hold q hq with h9 | h9 | h9
          · exact Nat.ne_of_lt (Heap.lt_size (N₁' q (List.mem_append_left _ h9)).1) e
          · exact Nat.ne_of_lt (h9 ▸ hPlt) e
          · rw [show ({ s₁ with heap := s₁.heap.push { cls := .type "list_iterator", data := .fields #[.ref l, .int 0 0] } } : Shared).heap = s₁.heap.push { cls := .type "list_iterator", data := .fields #[.ref l, .int 0 0] } from rfl, Heap.size_push, e] at h9
            exact Nat.not_succ_le_self _ h9
        · exact Nat.ne_of_lt (Heap.lt_size (N₁' q (List.mem_append_right _ hq)).1) e
end
end Mine
end

section
open PySem PySem.W PyProof.Rows PySem.Calls PySem.Spec
set_option Elab.async false
set_option maxRecDepth 100000
set_option linter.unusedVariables false
namespace Mine
section
variable {prog : Program} {w : World} {A : Around} {E : Value → Shared → Prop} {s : Shared}
theorem zip_snd1 {vs : List Value} (_h : vs.length ≤ 1) : (vs.toArray.zip vs.toArray).map (·.2) = vs.toArray := by
  rw [List.zip_toArray, List.map_toArray]
  congr 1
  exact List.map_snd_zip (Nat.le_refl _)
theorem list_sort_le1 {a : Addr} {vs : List Value} {n : Nat} {P : PySem.Fin → Shared → Prop} (ho : s.heap.get? a = some (seqObj "list" vs.toArray n)) (h1 : vs.length ≤ 1)
    (h : P (.done (.ret .none)) { s with heap := sortedHeap s.heap a vs vs.toArray }) :
    wpAny (model prog w) A (Builtin.«list.sort» ⟨[.ref a], []⟩) P E s := by
  rw [list_sort_plain]
  have ha : a < s.heap.objs.size := Heap.lt_size ho
  refine wpAny_bind (listItems_at ho rfl ?_)
  refine wpAny_bind (listUpdate_at ho rfl ?_)
  obtain ⟨e1, ho1⟩ : ∃ e1, (s.heap.update a (Obj.mapSeq fun _ => #[])).get? a = some (seqObj "list" #[] e1) := ⟨_, get?_update_seq ho (fun _ => #[])⟩
  refine wpAny_bind (seqEpoch_at ho1 rfl ?_)
  refine wpAny_bind (wpAny_newTuple ?_ (by show vs.length ≤ _; rw [sizeLine_eq]; omega))
  refine wpAny_bind (wpAny_newList ?_)
  refine wpAny_holding ?_
  have ho6 : (((s.heap.update a (Obj.mapSeq fun _ => #[])).push (seqObj "tuple" vs.toArray 0)).push (seqObj "list" #[] 0)).get? a = some (seqObj "list" #[] e1) := by
    rw [Heap.get?_push_ne _ _ _ (by rw [size_push', Heap.size_update]; exact Nat.ne_of_lt (Nat.lt_succ_of_lt ha)), Heap.get?_push_ne _ _ _ (by rw [Heap.size_update]; exact Nat.ne_of_lt ha)]
    exact ho1
  show wpAny (model prog w) A _ P E { s with heap := ((s.heap.update a (Obj.mapSeq fun _ => #[])).push (seqObj "tuple" vs.toArray 0)).push (seqObj "list" #[] 0) }
  dsimp only
  have h2 : vs.toArray.size < 2 := by rw [List.size_toArray]; omega
  rw [if_pos h2, if_pos h2]
  refine wpAny_bind (wpAny_pure ?_)
  rw [StateT.run_pure]
  refine wpAny_bind (wpAny_pure ?_)
  dsimp only
  have e : (arrOf (SortSt.mk' general' (vs.toArray.zip vs.toArray) #[] 7 none)).map (·.2) = vs.toArray := zip_snd1 h1
  rw [e]
  refine wpAny_bind (seqEpoch_at ho6 rfl ?_)
  refine wpAny_bind (listUpdate_at ho6 rfl ?_ (hsz2 := by rw [List.size_toArray, sizeLine_eq]; omega))
  simp only [bne_self_eq_false, Bool.false_eq_true, if_false]
  exact wpAny_pure h
theorem sorted_le1 {h₀ : Heap} {L : Addr} {m : Str → Option Value} {news : List (Addr × Obj)} {l : Addr} {vs : List Value} {Q : Value → Shared → Prop}
    (F : Fr h₀ L s.heap m) (N : News h₀ L s.heap news) (hl : s.heap.IsList l vs.toArray) (h1 : vs.length ≤ 1)
    (h : ∀ (D : Addr) (h' : Heap) (e : Nat), Fr h₀ L h' m → News h₀ L h' ((D, W.listOf vs.toArray e) :: news) → (∀ q ∈ news, q.1 < D) → Q (.ref D) { s with heap := h' }) :
    wpAny (model prog w) A (call (.builtin "sorted") [.ref l]) Q E s := by
  refine Calls.call_function_entry kind_sorted plain_sorted entry_sorted (args_sorted1 _) ?_
  unfold Builtin.«sorted»
  refine wpAny_bind (m := checkCount "sorted" 1 1 _) (wpAny_pure ?_)
  refine wpAny_bind (collect_list hl ?_ (by rw [sizeLine_eq]; omega))
  refine wpAny_bind (wpAny_newList ?_ (by rw [sizeLine_eq]; omega))
  have hsz : ((s.heap.push (seqObj "list" #[] 0)).update s.heap.objs.size (Obj.mapSeq (· ++ vs.toArray))).objs.size = s.heap.objs.size + 1 := by
    rw [Heap.size_update, size_push']
  have hoL : (((s.heap.push (seqObj "list" #[] 0)).update s.heap.objs.size (Obj.mapSeq (· ++ vs.toArray))).push (seqObj "list" vs.toArray 0)).get? (s.heap.objs.size + 1) = some (seqObj "list" vs.toArray 0) := by
    rw [← hsz]; exact Heap.get?_push_size _ rfl
  show wpAny _ _ _ _ _ { s with heap := ((s.heap.push (seqObj "list" #[] 0)).update s.heap.objs.size (Obj.mapSeq (· ++ vs.toArray))).push (seqObj "list" vs.toArray 0) }
  rw [hsz]
  refine wpAny_bind (wpAny_holding (wpAny_call_entry slot_list_sort ⟨_, hoL, rfl⟩ entry_list_sort (list_sort_le1 hoL h1 ⟨_, rfl, ?_⟩) (args_list_sort _)))
  obtain ⟨e, he⟩ := sortedAll_at s.heap vs vs.toArray
  exact wpAny_pure ⟨_, rfl, h _ (sortedAll s.heap vs vs.toArray) e (F.kept fun _ _ => sortedAll_old) (N.kept_cons F (fun _ _ => sortedAll_old) (Nat.le_succ _) he) (fun p hp => Nat.lt_succ_of_lt (Heap.lt_size (N p hp).1))⟩
end
end Mine
end

section
open PySem PySem.W PyProof.Rows PySem.Calls PySem.Spec
set_option Elab.async false
set_option maxRecDepth 100000
set_option maxHeartbeats 0
set_option linter.unusedVariables false
namespace Mine
local macro_rules | `(tactic| walk_at "none 0") => `(tactic| fail)
local macro_rules | `(tactic| walk_at "none 1") => `(tactic| fail)
local macro_rules | `(tactic| walk_at "none 2") => `(tactic| fail)
local macro_rules | `(tactic| walk_at "none 3") => `(tactic| fail)
local macro_rules | `(tactic| walk_at "none 4") => `(tactic| fail)
local macro_rules | `(tactic| walk_at "none 5") => `(tactic| fail)
local macro_rules | `(tactic| k_mem) => `(tactic| first | (with_reducible assumption) | assumption)
local macro_rules | `(tactic| k_inst) => `(tactic| (refine' inst_seq ?N ?h1 ?h2; (case N => k_asm); (case h1 => k_mem); (case h2 => k_mem)))
local macro_rules | `(tactic| walk_at "getMethod ref") => `(tactic| (k_here; k_dflt (refine' method_seq ?k1 ?k2 ?k3 ?k4 ?k5 ?k6 ?k7 ?k8 ?_; (case k1 => k_asm); (case k2 => k_asm); (case k3 => k_inst); (case k4 => k_is); (case k5 => k_is); (case k6 => k_is); (case k7 => k_is); (case k8 => k_get); k_whole)))
local macro_rules | `(tactic| k_asm) => `(tactic| ((with_reducible show GOk _ _); first | exact GOk.refl _ | (intro x9; solve_by_elim)))
local macro_rules | `(tactic| k_asm) => `(tactic| ((with_reducible show News _ _ _ _); first | (with_reducible assumption) | (refine News.sub (by with_reducible assumption) (fun p9 h9 => ?_); (repeat (first | exact h9 | apply List.mem_cons_of_mem | apply List.mem_append_right)); done) | (refine News.sub (by assumption) (fun p9 h9 => ?_); (repeat (first | exact h9 | apply List.mem_cons_of_mem | apply List.mem_append_right)); done)))

local macro_rules | `(tactic| walk_at "compareOp Eq ref ref") => `(tactic| ((with_reducible show wpAny _ _ (compareOp CmpOp.Eq (Value.ref _) (Value.ref _)) _ _ _); k_dflt (refine' st_eq ?kN ?kA ?kB ?kI ?kJ ?kO ?kP ?kU ?_; (case kN => with_reducible assumption); (case kA => with_reducible assumption); (case kB => with_reducible assumption); (case kI => with_reducible assumption); (case kJ => with_reducible assumption); (case kO => with_reducible assumption); (case kP => with_reducible assumption); (case kU => ke_room))))
local macro_rules | `(tactic| walk_at "call builtin:sorted") => `(tactic| (k_here; (with_reducible show wpAny _ _ (call (Value.builtin _) [Value.ref _]) _ _ _); (with_unfolding_all refine' sorted_le1 ?k1 ?k2 ?k3 ?k4 ?_; (case k1 => k_asm); (case k2 => k_asm); (case k3 => kso_list); (case k4 => exact Nat.le_of_ble_eq_true rfl); k_whole); intro D' h' e' F' N' l1; (try k_lt l1); (try k_sweep)))
local macro_rules | `(tactic| walk_at "call ref") => `(tactic| (
  k_here
  (with_reducible show wpAny _ _ (call (Value.ref 294) _ _) _ _ _)
  k_dflt (refine' spec_use (norm_mime _ _ _ ?k1 ?k2 ?k3) ?kB ?kF ?kX ?kN ?kT ?kK ?kD ?kU ?_)
  (case kB => k_asm)
  (case kF => k_asm)
  (case kX => k_asm)
  (case kN => k_asm)
  (case kT => k_asm)
  (case k2 => assumption)
  (case k1 => assumption)
  (case k3 => (simp only [List.length_cons, List.length_nil]; decide))
  (case kK => rfl)
  (case kD => exact Nat.le_of_ble_eq_true rfl)
  (case kU => exact Nat.le_of_ble_eq_true rfl)
  k_whole
  (intro v tl h' g' tk' hR F' N' hlt hg)
  (obtain ⟨l9, vs9, e0, e1, e2⟩ := hR)
  subst e1
  subst e2
  (simp only [List.nil_append, List.cons_append] at N')
  (replace hlt := fun p hp => hlt p hp _ List.mem_cons_self)
  (first | (obtain ⟨t9, t9', e3⟩ := Strs.two e0) | (obtain ⟨t9, t9', t9'', e3⟩ := Strs.three e0))
  subst e3
  clear e0
  try k_lt hlt
  try k_sweep))

def mimeP (vt vs : Str) (vp : List Str) (it is : Str) (ip : List Str) : Bool := if it == Str.ofString "*" && !(is == Str.ofString "*") then false else (it == Str.ofString "*" && is == Str.ofString "*" || (vt == Str.ofString "*" && vs == Str.ofString "*")) || (it == vt && (is == Str.ofString "*" || vs == Str.ofString "*" || (is == vs && decide (ip = vp))))
structure VmB where
  b : List Stmt
  sc : Scope
  ok : ∀ w : World, ∃ oc od name qual params dV kV doc pm an cdv ct osl, (hd.heap_39 w.params).lookup 315 = some ⟨oc, od, .func (fnOf name qual params b sc dV kV doc pm an cdv ct), osl⟩
def vmB : VmB := by
  refine' ⟨_, _, fun w => ⟨_, _, _, _, _, _, _, _, _, _, _, _, _, rfl⟩⟩
theorem ite_t {b : Bool} {P R : Prop} (hb : b = true) (h : P) : if b = true then P else R := by rw [if_pos hb]; exact h
theorem ite_f {b : Bool} {P R : Prop} (hb : b = false) (h : R) : if b = true then P else R := by rw [if_neg (by rw [hb]; exact Bool.noConfusion)]; exact h
local macro_rules | `(tactic| walk_at "ite") => `(tactic| (with_reducible (first | refine ite_t (by with_reducible assumption) ?_ | refine ite_f (by with_reducible assumption) ?_)))
theorem m_all {m : Str → Option Value} : m = fun y => if y = Str.ofString "item_params" then m (Str.ofString "item_params") else if y = Str.ofString "item_subtype" then m (Str.ofString "item_subtype") else if y = Str.ofString "item_type" then m (Str.ofString "item_type") else if y = Str.ofString "value_params" then m (Str.ofString "value_params") else if y = Str.ofString "value_subtype" then m (Str.ofString "value_subtype") else if y = Str.ofString "value_type" then m (Str.ofString "value_type") else m y := by
  funext y
  repeat (split; (rename_i h; rw [h]))
  rfl
/-- the last two statements -/
theorem vm1_tail : ∀ {w : World} {gd : Option (List Code)} {cn : Str} {cs : Scope} {L a : Addr} {ccd : Value} {cl : List (Str × Addr)} {outer : List Env} {g₀ : Heap} {L' : Addr} {h : Heap} {m : Str → Option Value} {led : List (Addr × Obj)} {vt vs it is : Str} {t1 t2 t3 t4 : Tok} {pv pi : Addr} {vv iv : List Value} {nv ni : Nat} {vp ip : List Str} {g : Array GenState} {d : Drawn} {tk : Nat} {os : OsState} {Q : Flow → Shared → Prop} {E : Value → Shared → Prop} (XX : (hd.heap_39 w.params) = hd.heap_39 w.params) (F : Fr g₀ L' h m) (N : News g₀ L' h led)
    (m1 : m (Str.ofString "value_type") = some (.str vt t1)) (m2 : m (Str.ofString "value_subtype") = some (.str vs t2)) (m3 : m (Str.ofString "value_params") = some (.ref pv)) (m4 : m (Str.ofString "item_type") = some (.str it t3)) (m5 : m (Str.ofString "item_subtype") = some (.str is t4)) (m6 : m (Str.ofString "item_params") = some (.ref pi))
    (hpv : (pv, W.listOf vv.toArray nv) ∈ led) (hpi : (pi, W.listOf iv.toArray ni) ∈ led) (hvv : Strs vv vp) (hiv : Strs iv ip) (ov : vp.all PyData.strOk = true) (oi : ip.all PyData.strOk = true) (hvt : (vt == Str.ofString "*") = false) (hvs : (vs == Str.ofString "*") = false)
    (k : ∀ b h' g' tk', b = mimeP vt vs vp it is ip → Fr g₀ L' h' m → News g₀ L' h' led → GOk g g' → Q (.ret (.bool b)) ⟨h', g', d, tk', os⟩),
  wpAny (model PySem.Challenge.rw_eq0045_01.row.prog w) ((ktrTop 850 8500 gd cn cs L a ccd cl outer).deeper (envOf (Str.ofString "MIMEAccept._value_matches") vmB.sc L' 315 (.ref 314))) (execs (vmB.b.drop 9) (envOf (Str.ofString "MIMEAccept._value_matches") vmB.sc L' 315 (.ref 314))) Q E ⟨h, g, d, tk, os⟩ := by
  w_top off
  k_fill
  intro w gd cn cs L a ccd cl outer g₀ L' h m led vt vs it is t1 t2 t3 t4 pv pi vv iv nv ni vp ip g d tk os Q E XX F N m1 m2 m3 m4 m5 m6 hpv hpi hvv hiv ov oi hvt hvs k
  clear XX
  have em := m_all (m := m)
  rw [m1, m2, m3, m4, m5, m6] at em
  replace F := Fr.as F em
  have n2 : (vs != Str.ofString "*") = true := by unfold bne; rw [hvs]; rfl
  dsimp only [vmB, List.drop]
  cases b1 : (it == Str.ofString "*") with
  | true =>
    cases b2 : (is == Str.ofString "*") with
    | true =>
      have b3 : (is != Str.ofString "*") = false := by unfold bne; rw [b2]; rfl
      k_steps
      exact k _ _ _ _ (by unfold mimeP; simp only [*]; rfl) (by rw [em]; k_asm) (by k_asm) (by k_asm)
    | false =>
      have b3 : (is != Str.ofString "*") = true := by unfold bne; rw [b2]; rfl
      k_steps
      exact k _ _ _ _ (by unfold mimeP; simp only [*]; rfl) (by rw [em]; k_asm) (by k_asm) (by k_asm)
  | false =>
    cases b4 : (it == vt) with
    | true =>
      cases b2 : (is == Str.ofString "*") with
      | true =>
        k_steps
        exact k _ _ _ _ (by unfold mimeP; simp only [*]; rfl) (by rw [em]; k_asm) (by k_asm) (by k_asm)
      | false =>
        cases b5 : (is == vs) with
        | true =>
          k_steps
          exact k _ _ _ _ (by unfold mimeP; simp only [*]; rfl) (by rw [em]; k_asm) (by k_asm) (by k_asm)
        | false =>
          k_steps
          exact k _ _ _ _ (by unfold mimeP; simp only [*]; rfl) (by rw [em]; k_asm) (by k_asm) (by k_asm)
    | false =>
      k_steps
      exact k _ _ _ _ (by unfold mimeP; simp only [*]; rfl) (by rw [em]; k_asm) (by k_asm) (by k_asm)
theorem m_item {m : Str → Option Value} : m = fun y => if y = Str.ofString "item" then m (Str.ofString "item") else if y = Str.ofString "value_params" then m (Str.ofString "value_params") else if y = Str.ofString "value_subtype" then m (Str.ofString "value_subtype") else if y = Str.ofString "value_type" then m (Str.ofString "value_type") else m y := by
  funext y
  repeat (split; (rename_i h; rw [h]))
  rfl
theorem vm1_item_2 : ∀ {w : World} {gd : Option (List Code)} {cn : Str} {cs : Scope} {L a : Addr} {ccd : Value} {cl : List (Str × Addr)} {outer : List Env} {base g₀ : Heap} {L' : Addr} {h : Heap} {mean : ExcName → Option Value} {mg mb : Str → Option Value} {m : Str → Option Value} {led : List (Addr × Obj)} {vt vs i1 i2 y : Str} {t1 t2 ty : Tok} {pv : Addr} {vv : List Value} {nv : Nat} {vp : List Str} {g : Array GenState} {d : Drawn} {tk : Nat} {os : OsState} {Q : Flow → Shared → Prop} {E : Value → Shared → Prop} (hk : cs.kind = .function) (X : (hd.heap_39 w.params).In g₀) (B : Below (ktrTop 850 8500 gd cn cs L a ccd cl outer) base (envX cn cs L a ccd cl :: outer) g₀) (T : Top topProg looseL mean mg mb g₀) (F : Fr g₀ L' h m) (N : News g₀ L' h led)
    (m0 : m (Str.ofString "item") = some (.str y ty)) (m1 : m (Str.ofString "value_type") = some (.str vt t1)) (m2 : m (Str.ofString "value_subtype") = some (.str vs t2)) (m3 : m (Str.ofString "value_params") = some (.ref pv))
    (hpv : (pv, W.listOf vv.toArray nv) ∈ led) (hvv : Strs vv vp) (ov : vp.all PyData.strOk = true) (hvt : (vt == Str.ofString "*") = false) (hvs : (vs == Str.ofString "*") = false)
    (hy : y.length ≤ 300) (hsy : splitStr mimeCode (Txt.lower y) 0 = some [i1, i2]) (hoy : [].all PyData.strOk = true)
    (k : ∀ b h' g' tk' m', b = mimeP vt vs vp i1 i2 [] → Fr g₀ L' h' m' → News g₀ L' h' led → GOk g g' → Q (.ret (.bool b)) ⟨h', g', d, tk', os⟩),
  wpAny (model PySem.Challenge.rw_eq0045_01.row.prog w) ((ktrTop 850 8500 gd cn cs L a ccd cl outer).deeper (envOf (Str.ofString "MIMEAccept._value_matches") vmB.sc L' 315 (.ref 314))) (execs (vmB.b.drop 6) (envOf (Str.ofString "MIMEAccept._value_matches") vmB.sc L' 315 (.ref 314))) Q E ⟨h, g, d, tk, os⟩ := by
  k_fill
  intro w gd cn cs L a ccd cl outer base g₀ L' h mean mg mb m led vt vs i1 i2 y t1 t2 ty pv vv nv vp g d tk os Q E hk X B T F N m0 m1 m2 m3 hpv hvv ov hvt hvs hy hsy hoy k
  have em := m_item (m := m)
  rw [m0, m1, m2, m3] at em
  replace F := Fr.as F em
  clear em m0 m1 m2 m3
  dsimp only [vmB, List.drop]
  iterate 48 (try (first | (k_unfold; (try dsimp only)) | walk1 | (dsimp only; walk1)))
  with_reducible rename Fr _ _ _ _ => F9
  with_reducible rename News _ _ _ _ => N9
  refine vm1_tail rfl F9 N9 rfl rfl rfl rfl rfl rfl (.tail _ (.tail _ (.tail _ (.tail _ hpv)))) (.head _) hvv (by repeat constructor) ov hoy hvt hvs fun b h9 g9 tk9 hb F10 N10 hg10 => ?_
  exact k _ _ _ _ _ hb F10 (News.sub N10 fun q hq => .tail _ (.tail _ (.tail _ (.tail _ hq)))) (by k_asm)
theorem vm1_item_3 : ∀ {w : World} {gd : Option (List Code)} {cn : Str} {cs : Scope} {L a : Addr} {ccd : Value} {cl : List (Str × Addr)} {outer : List Env} {base g₀ : Heap} {L' : Addr} {h : Heap} {mean : ExcName → Option Value} {mg mb : Str → Option Value} {m : Str → Option Value} {led : List (Addr × Obj)} {vt vs i1 i2 i3 y : Str} {t1 t2 ty : Tok} {pv : Addr} {vv : List Value} {nv : Nat} {vp : List Str} {g : Array GenState} {d : Drawn} {tk : Nat} {os : OsState} {Q : Flow → Shared → Prop} {E : Value → Shared → Prop} (hk : cs.kind = .function) (X : (hd.heap_39 w.params).In g₀) (B : Below (ktrTop 850 8500 gd cn cs L a ccd cl outer) base (envX cn cs L a ccd cl :: outer) g₀) (T : Top topProg looseL mean mg mb g₀) (F : Fr g₀ L' h m) (N : News g₀ L' h led)
    (m0 : m (Str.ofString "item") = some (.str y ty)) (m1 : m (Str.ofString "value_type") = some (.str vt t1)) (m2 : m (Str.ofString "value_subtype") = some (.str vs t2)) (m3 : m (Str.ofString "value_params") = some (.ref pv))
    (hpv : (pv, W.listOf vv.toArray nv) ∈ led) (hvv : Strs vv vp) (ov : vp.all PyData.strOk = true) (hvt : (vt == Str.ofString "*") = false) (hvs : (vs == Str.ofString "*") = false)
    (hy : y.length ≤ 300) (hsy : splitStr mimeCode (Txt.lower y) 0 = some [i1, i2, i3]) (hoy : [i3].all PyData.strOk = true)
    (k : ∀ b h' g' tk' m', b = mimeP vt vs vp i1 i2 [i3] → Fr g₀ L' h' m' → News g₀ L' h' led → GOk g g' → Q (.ret (.bool b)) ⟨h', g', d, tk', os⟩),
  wpAny (model PySem.Challenge.rw_eq0045_01.row.prog w) ((ktrTop 850 8500 gd cn cs L a ccd cl outer).deeper (envOf (Str.ofString "MIMEAccept._value_matches") vmB.sc L' 315 (.ref 314))) (execs (vmB.b.drop 6) (envOf (Str.ofString "MIMEAccept._value_matches") vmB.sc L' 315 (.ref 314))) Q E ⟨h, g, d, tk, os⟩ := by
  k_fill
  intro w gd cn cs L a ccd cl outer base g₀ L' h mean mg mb m led vt vs i1 i2 i3 y t1 t2 ty pv vv nv vp g d tk os Q E hk X B T F N m0 m1 m2 m3 hpv hvv ov hvt hvs hy hsy hoy k
  have em := m_item (m := m)
  rw [m0, m1, m2, m3] at em
  replace F := Fr.as F em
  clear em m0 m1 m2 m3
  dsimp only [vmB, List.drop]
  iterate 48 (try (first | (k_unfold; (try dsimp only)) | walk1 | (dsimp only; walk1)))
  with_reducible rename Fr _ _ _ _ => F9
  with_reducible rename News _ _ _ _ => N9
  refine vm1_tail rfl F9 N9 rfl rfl rfl rfl rfl rfl (.tail _ (.tail _ (.tail _ (.tail _ hpv)))) (.head _) hvv (by repeat constructor) ov hoy hvt hvs fun b h9 g9 tk9 hb F10 N10 hg10 => ?_
  exact k _ _ _ _ _ hb F10 (News.sub N10 fun q hq => .tail _ (.tail _ (.tail _ (.tail _ hq)))) (by k_asm)
theorem vm1_val_2 : ∀ {w : World} {gd : Option (List Code)} {cn : Str} {cs : Scope} {L a : Addr} {ccd : Value} {cl : List (Str × Addr)} {outer : List Env} {base g₀ : Heap} {L' : Addr} {h : Heap} {mean : ExcName → Option Value} {mg mb : Str → Option Value} {led : List (Addr × Obj)} {self : Value} {v1 v2 x y : Str} {t1 t2 : Tok} {g : Array GenState} {d : Drawn} {tk : Nat} {os : OsState} {Q : Flow → Shared → Prop} {E : Value → Shared → Prop} (hk : cs.kind = .function) (X : (hd.heap_39 w.params).In g₀) (B : Below (ktrTop 850 8500 gd cn cs L a ccd cl outer) base (envX cn cs L a ccd cl :: outer) g₀) (T : Top topProg looseL mean mg mb g₀) (F : Fr g₀ L' h (fun z9 => List.lookup z9 [(Str.ofString "item", .str y t2), (Str.ofString "value", .str x t1), (Str.ofString "self", self)])) (N : News g₀ L' h led)
    (hvt : (v1 == Str.ofString "*") = false) (hvs : (v2 == Str.ofString "*") = false) (hx : x.length ≤ 300) (hsx : splitStr mimeCode (Txt.lower x) 0 = some [v1, v2]) (hsly : (Builtin.Str.occurrences y (Str.ofString "/") 0 y.length 1).isEmpty = false) (hslx : (Builtin.Str.occurrences x (Str.ofString "/") 0 x.length 1).isEmpty = false)
    (H : ∀ {h : Heap} {m : Str → Option Value} {led' : List (Addr × Obj)} {pv : Addr} {vv : List Value} {nv : Nat} {t3 t4 : Tok} {g' : Array GenState} {tk : Nat}, Fr g₀ L' h m → News g₀ L' h led' → (∀ q ∈ led, q ∈ led') → m (Str.ofString "item") = some (.str y t2) → m (Str.ofString "value_type") = some (.str v1 t3) → m (Str.ofString "value_subtype") = some (.str v2 t4) → m (Str.ofString "value_params") = some (.ref pv) → (pv, W.listOf vv.toArray nv) ∈ led' → Strs vv [] → GOk g g' → wpAny (model PySem.Challenge.rw_eq0045_01.row.prog w) ((ktrTop 850 8500 gd cn cs L a ccd cl outer).deeper (envOf (Str.ofString "MIMEAccept._value_matches") vmB.sc L' 315 (.ref 314))) (execs (vmB.b.drop 6) (envOf (Str.ofString "MIMEAccept._value_matches") vmB.sc L' 315 (.ref 314))) Q E ⟨h, g', d, tk, os⟩),
  wpAny (model PySem.Challenge.rw_eq0045_01.row.prog w) ((ktrTop 850 8500 gd cn cs L a ccd cl outer).deeper (envOf (Str.ofString "MIMEAccept._value_matches") vmB.sc L' 315 (.ref 314))) (execs vmB.b (envOf (Str.ofString "MIMEAccept._value_matches") vmB.sc L' 315 (.ref 314))) Q E ⟨h, g, d, tk, os⟩ := by
  k_fill
  intro w gd cn cs L a ccd cl outer base g₀ L' h mean mg mb led self v1 v2 x y t1 t2 g d tk os Q E hk X B T F N hvt hvs hx hsx hsly hslx H
  dsimp only [vmB]
  iterate 84 (try (first | (k_unfold; (try dsimp only)) | walk1 | (dsimp only; walk1)))
  with_reducible rename Fr _ _ _ _ => F9
  with_reducible rename News _ _ _ _ => N9
  exact H F9 N9 (fun q hq => .tail _ (.tail _ (.tail _ (.tail _ hq)))) rfl rfl rfl rfl (.head _) (by repeat constructor) (by k_asm)
theorem vm1_val_3 : ∀ {w : World} {gd : Option (List Code)} {cn : Str} {cs : Scope} {L a : Addr} {ccd : Value} {cl : List (Str × Addr)} {outer : List Env} {base g₀ : Heap} {L' : Addr} {h : Heap} {mean : ExcName → Option Value} {mg mb : Str → Option Value} {led : List (Addr × Obj)} {self : Value} {v1 v2 v3 x y : Str} {t1 t2 : Tok} {g : Array GenState} {d : Drawn} {tk : Nat} {os : OsState} {Q : Flow → Shared → Prop} {E : Value → Shared → Prop} (hk : cs.kind = .function) (X : (hd.heap_39 w.params).In g₀) (B : Below (ktrTop 850 8500 gd cn cs L a ccd cl outer) base (envX cn cs L a ccd cl :: outer) g₀) (T : Top topProg looseL mean mg mb g₀) (F : Fr g₀ L' h (fun z9 => List.lookup z9 [(Str.ofString "item", .str y t2), (Str.ofString "value", .str x t1), (Str.ofString "self", self)])) (N : News g₀ L' h led)
    (hvt : (v1 == Str.ofString "*") = false) (hvs : (v2 == Str.ofString "*") = false) (hx : x.length ≤ 300) (hsx : splitStr mimeCode (Txt.lower x) 0 = some [v1, v2, v3]) (hsly : (Builtin.Str.occurrences y (Str.ofString "/") 0 y.length 1).isEmpty = false) (hslx : (Builtin.Str.occurrences x (Str.ofString "/") 0 x.length 1).isEmpty = false)
    (H : ∀ {h : Heap} {m : Str → Option Value} {led' : List (Addr × Obj)} {pv : Addr} {vv : List Value} {nv : Nat} {t3 t4 : Tok} {g' : Array GenState} {tk : Nat}, Fr g₀ L' h m → News g₀ L' h led' → (∀ q ∈ led, q ∈ led') → m (Str.ofString "item") = some (.str y t2) → m (Str.ofString "value_type") = some (.str v1 t3) → m (Str.ofString "value_subtype") = some (.str v2 t4) → m (Str.ofString "value_params") = some (.ref pv) → (pv, W.listOf vv.toArray nv) ∈ led' → Strs vv [v3] → GOk g g' → wpAny (model PySem.Challenge.rw_eq0045_01.row.prog w) ((ktrTop 850 8500 gd cn cs L a ccd cl outer).deeper (envOf (Str.ofString "MIMEAccept._value_matches") vmB.sc L' 315 (.ref 314))) (execs (vmB.b.drop 6) (envOf (Str.ofString "MIMEAccept._value_matches") vmB.sc L' 315 (.ref 314))) Q E ⟨h, g', d, tk, os⟩),
  wpAny (model PySem.Challenge.rw_eq0045_01.row.prog w) ((ktrTop 850 8500 gd cn cs L a ccd cl outer).deeper (envOf (Str.ofString "MIMEAccept._value_matches") vmB.sc L' 315 (.ref 314))) (execs vmB.b (envOf (Str.ofString "MIMEAccept._value_matches") vmB.sc L' 315 (.ref 314))) Q E ⟨h, g, d, tk, os⟩ := by
  k_fill
  intro w gd cn cs L a ccd cl outer base g₀ L' h mean mg mb led self v1 v2 v3 x y t1 t2 g d tk os Q E hk X B T F N hvt hvs hx hsx hsly hslx H
  dsimp only [vmB]
  iterate 84 (try (first | (k_unfold; (try dsimp only)) | walk1 | (dsimp only; walk1)))
  with_reducible rename Fr _ _ _ _ => F9
  with_reducible rename News _ _ _ _ => N9
  exact H F9 N9 (fun q hq => .tail _ (.tail _ (.tail _ (.tail _ hq)))) rfl rfl rfl rfl (.head _) (by repeat constructor) (by k_asm)
theorem vm1_22 : ∀ {w : World} {news : List (Addr × Obj)} (self : Value) (x y : Str) (t1 t2 : Tok) (v1 v2 i1 i2 : Str) (hx : x.length ≤ 300) (hsx : splitStr mimeCode (Txt.lower x) 0 = some [v1, v2]) (hox : [].all PyData.strOk = true) (hy : y.length ≤ 300) (hsy : splitStr mimeCode (Txt.lower y) 0 = some [i1, i2]) (hoy : [].all PyData.strOk = true) (hvt : (v1 == Str.ofString "*") = false) (hvs : (v2 == Str.ofString "*") = false) (hsly : (Builtin.Str.occurrences y (Str.ofString "/") 0 y.length 1).isEmpty = false) (hslx : (Builtin.Str.occurrences x (Str.ofString "/") 0 x.length 1).isEmpty = false), Spec w 850 8500 (.ref 315) [self, .str x t1, .str y t2] news (fun v tl => v = .bool (mimeP v1 v2 [] i1 i2 []) ∧ tl = []) := by
  unfold Spec
  k_fill
  intro w news self x y t1 t2 v1 v2 i1 i2 hx hsx hox hy hsy hoy hvt hvs hsly hslx mean mg mb gd cn cs a ccd cl outer A₀ base h₀ L m s Q E B F X N T hk ret
  refine wpAny_call ?_
  k_dflt ktr_enter
  rename Fr _ _ _ _ => F1
  replace F1 := Fr.as F1 (m' := fun z9 => List.lookup z9 [(Str.ofString "item", .str y t2), (Str.ofString "value", .str x t1), (Str.ofString "self", self)]) rfl
  with_reducible rename Below _ _ (_ :: _) _ => B9
  with_reducible rename Fr _ _ _ _ => F8
  have N8 := N
  with_reducible rename News _ _ _ _ => N9
  refine vm1_val_2 hk (by k_asm) B9 (by k_asm) F8 (by k_asm) hvt hvs hx hsx hsly hslx fun F2 N2 hsub q0 q1 q2 q3 q4 q5 hg2 => ?_
  refine vm1_item_2 hk (by k_asm) B9 (by k_asm) F2 N2 q0 q1 q2 q3 q4 q5 hox hvt hvs hy hsy hoy fun b h9 g9 tk9 m9 hb F10 N10 hg10 => ?_
  subst hb
  replace N10 := News.sub N10 hsub
  k_steps
  refine ret _ [] _ _ _ ⟨rfl, rfl⟩ ?f ?n (fun _ _ _ h9 => nomatch h9) ?g
  case f => k_asm
  case n => (simp only [List.nil_append]; k_asm)
  case g => k_asm

theorem vm1_23 : ∀ {w : World} {news : List (Addr × Obj)} (self : Value) (x y : Str) (t1 t2 : Tok) (v1 v2 i1 i2 i3 : Str) (hx : x.length ≤ 300) (hsx : splitStr mimeCode (Txt.lower x) 0 = some [v1, v2]) (hox : [].all PyData.strOk = true) (hy : y.length ≤ 300) (hsy : splitStr mimeCode (Txt.lower y) 0 = some [i1, i2, i3]) (hoy : [i3].all PyData.strOk = true) (hvt : (v1 == Str.ofString "*") = false) (hvs : (v2 == Str.ofString "*") = false) (hsly : (Builtin.Str.occurrences y (Str.ofString "/") 0 y.length 1).isEmpty = false) (hslx : (Builtin.Str.occurrences x (Str.ofString "/") 0 x.length 1).isEmpty = false), Spec w 850 8500 (.ref 315) [self, .str x t1, .str y t2] news (fun v tl => v = .bool (mimeP v1 v2 [] i1 i2 [i3]) ∧ tl = []) := by
  unfold Spec
  k_fill
  intro w news self x y t1 t2 v1 v2 i1 i2 i3 hx hsx hox hy hsy hoy hvt hvs hsly hslx mean mg mb gd cn cs a ccd cl outer A₀ base h₀ L m s Q E B F X N T hk ret
  refine wpAny_call ?_
  k_dflt ktr_enter
  rename Fr _ _ _ _ => F1
  replace F1 := Fr.as F1 (m' := fun z9 => List.lookup z9 [(Str.ofString "item", .str y t2), (Str.ofString "value", .str x t1), (Str.ofString "self", self)]) rfl
  with_reducible rename Below _ _ (_ :: _) _ => B9
  with_reducible rename Fr _ _ _ _ => F8
  have N8 := N
  with_reducible rename News _ _ _ _ => N9
  refine vm1_val_2 hk (by k_asm) B9 (by k_asm) F8 (by k_asm) hvt hvs hx hsx hsly hslx fun F2 N2 hsub q0 q1 q2 q3 q4 q5 hg2 => ?_
  refine vm1_item_3 hk (by k_asm) B9 (by k_asm) F2 N2 q0 q1 q2 q3 q4 q5 hox hvt hvs hy hsy hoy fun b h9 g9 tk9 m9 hb F10 N10 hg10 => ?_
  subst hb
  replace N10 := News.sub N10 hsub
  k_steps
  refine ret _ [] _ _ _ ⟨rfl, rfl⟩ ?f ?n (fun _ _ _ h9 => nomatch h9) ?g
  case f => k_asm
  case n => (simp only [List.nil_append]; k_asm)
  case g => k_asm

theorem vm1_32 : ∀ {w : World} {news : List (Addr × Obj)} (self : Value) (x y : Str) (t1 t2 : Tok) (v1 v2 v3 i1 i2 : Str) (hx : x.length ≤ 300) (hsx : splitStr mimeCode (Txt.lower x) 0 = some [v1, v2, v3]) (hox : [v3].all PyData.strOk = true) (hy : y.length ≤ 300) (hsy : splitStr mimeCode (Txt.lower y) 0 = some [i1, i2]) (hoy : [].all PyData.strOk = true) (hvt : (v1 == Str.ofString "*") = false) (hvs : (v2 == Str.ofString "*") = false) (hsly : (Builtin.Str.occurrences y (Str.ofString "/") 0 y.length 1).isEmpty = false) (hslx : (Builtin.Str.occurrences x (Str.ofString "/") 0 x.length 1).isEmpty = false), Spec w 850 8500 (.ref 315) [self, .str x t1, .str y t2] news (fun v tl => v = .bool (mimeP v1 v2 [v3] i1 i2 []) ∧ tl = []) := by
  unfold Spec
  k_fill
  intro w news self x y t1 t2 v1 v2 v3 i1 i2 hx hsx hox hy hsy hoy hvt hvs hsly hslx mean mg mb gd cn cs a ccd cl outer A₀ base h₀ L m s Q E B F X N T hk ret
  refine wpAny_call ?_
  k_dflt ktr_enter
  rename Fr _ _ _ _ => F1
  replace F1 := Fr.as F1 (m' := fun z9 => List.lookup z9 [(Str.ofString "item", .str y t2), (Str.ofString "value", .str x t1), (Str.ofString "self", self)]) rfl
  with_reducible rename Below _ _ (_ :: _) _ => B9
  with_reducible rename Fr _ _ _ _ => F8
  have N8 := N
  with_reducible rename News _ _ _ _ => N9
  refine vm1_val_3 hk (by k_asm) B9 (by k_asm) F8 (by k_asm) hvt hvs hx hsx hsly hslx fun F2 N2 hsub q0 q1 q2 q3 q4 q5 hg2 => ?_
  refine vm1_item_2 hk (by k_asm) B9 (by k_asm) F2 N2 q0 q1 q2 q3 q4 q5 hox hvt hvs hy hsy hoy fun b h9 g9 tk9 m9 hb F10 N10 hg10 => ?_
  subst hb
  replace N10 := News.sub N10 hsub
  k_steps
  refine ret _ [] _ _ _ ⟨rfl, rfl⟩ ?f ?n (fun _ _ _ h9 => nomatch h9) ?g
  case f => k_asm
  case n => (simp only [List.nil_append]; k_asm)
  case g => k_asm

theorem vm1_33 : ∀ {w : World} {news : List (Addr × Obj)} (self : Value) (x y : Str) (t1 t2 : Tok) (v1 v2 v3 i1 i2 i3 : Str) (hx : x.length ≤ 300) (hsx : splitStr mimeCode (Txt.lower x) 0 = some [v1, v2, v3]) (hox : [v3].all PyData.strOk = true) (hy : y.length ≤ 300) (hsy : splitStr mimeCode (Txt.lower y) 0 = some [i1, i2, i3]) (hoy : [i3].all PyData.strOk = true) (hvt : (v1 == Str.ofString "*") = false) (hvs : (v2 == Str.ofString "*") = false) (hsly : (Builtin.Str.occurrences y (Str.ofString "/") 0 y.length 1).isEmpty = false) (hslx : (Builtin.Str.occurrences x (Str.ofString "/") 0 x.length 1).isEmpty = false), Spec w 850 8500 (.ref 315) [self, .str x t1, .str y t2] news (fun v tl => v = .bool (mimeP v1 v2 [v3] i1 i2 [i3]) ∧ tl = []) := by
  unfold Spec
  k_fill
  intro w news self x y t1 t2 v1 v2 v3 i1 i2 i3 hx hsx hox hy hsy hoy hvt hvs hsly hslx mean mg mb gd cn cs a ccd cl outer A₀ base h₀ L m s Q E B F X N T hk ret
  refine wpAny_call ?_
  k_dflt ktr_enter
  rename Fr _ _ _ _ => F1
  replace F1 := Fr.as F1 (m' := fun z9 => List.lookup z9 [(Str.ofString "item", .str y t2), (Str.ofString "value", .str x t1), (Str.ofString "self", self)]) rfl
  with_reducible rename Below _ _ (_ :: _) _ => B9
  with_reducible rename Fr _ _ _ _ => F8
  have N8 := N
  with_reducible rename News _ _ _ _ => N9
  refine vm1_val_3 hk (by k_asm) B9 (by k_asm) F8 (by k_asm) hvt hvs hx hsx hsly hslx fun F2 N2 hsub q0 q1 q2 q3 q4 q5 hg2 => ?_
  refine vm1_item_3 hk (by k_asm) B9 (by k_asm) F2 N2 q0 q1 q2 q3 q4 q5 hox hvt hvs hy hsy hoy fun b h9 g9 tk9 m9 hb F10 N10 hg10 => ?_
  subst hb
  replace N10 := News.sub N10 hsub
  k_steps
  refine ret _ [] _ _ _ ⟨rfl, rfl⟩ ?f ?n (fun _ _ _ h9 => nomatch h9) ?g
  case f => k_asm
  case n => (simp only [List.nil_append]; k_asm)
  case g => k_asm

end Mine
end

section
open PySem PySem.W PyProof.Rows PySem.Calls PySem.Spec
set_option Elab.async false
set_option maxRecDepth 100000
set_option linter.unusedVariables false
namespace Mine
def Okp0 (x y : Str) : Prop := x.length ≤ 300 ∧ y.length ≤ 300
def Mt0 (x y : Str) : Bool := y == Str.ofString "*" || Txt.lower y == Txt.lower x
def LOk (x : Str) (px : List Str) : Prop := x.length ≤ 300 ∧ splitStr langCode (Txt.lower x) 0 = some px ∧ px.length ≤ 1000 ∧ px.all PyData.strOk = true
def Okp2 (x y : Str) : Prop := ∃ px py, LOk x px ∧ LOk y py
def Mt2 (x y : Str) : Bool := y == Str.ofString "*" || decide (splitStr langCode (Txt.lower x) 0 = splitStr langCode (Txt.lower y) 0)
def MOk (x : Str) (a b : Str) (p : List Str) : Prop := x.length ≤ 300 ∧ splitStr mimeCode (Txt.lower x) 0 = some (a :: b :: p) ∧ p.length ≤ 1 ∧ p.all PyData.strOk = true ∧ (Builtin.Str.occurrences x (Str.ofString "/") 0 x.length 1).isEmpty = false
def Okp1 (x y : Str) : Prop := ∃ v1 v2 vp i1 i2 ip, MOk x v1 v2 vp ∧ MOk y i1 i2 ip ∧ (v1 == Str.ofString "*") = false ∧ (v2 == Str.ofString "*") = false
def Mt1 (x y : Str) : Bool := match splitStr mimeCode (Txt.lower x) 0, splitStr mimeCode (Txt.lower y) 0 with
  | some (v1 :: v2 :: vp), some (i1 :: i2 :: ip) => mimeP v1 v2 vp i1 i2 ip
  | _, _ => false
theorem vmG0 {w : World} {news : List (Addr × Obj)} (self : Value) (x y : Str) (t1 t2 : Tok) (ok : Okp0 x y) : Spec w 850 8500 (.ref 191) [self, .str x t1, .str y t2] news (fun v tl => v = .bool (Mt0 x y) ∧ tl = []) :=
  Spec.weak (vm0 self x y t1 t2 ok.1 ok.2) (by decide) (by decide)
theorem vmG2 {w : World} {news : List (Addr × Obj)} (self : Value) (x y : Str) (t1 t2 : Tok) (ok : Okp2 x y) : Spec w 850 8500 (.ref 371) [self, .str x t1, .str y t2] news (fun v tl => v = .bool (Mt2 x y) ∧ tl = []) := by
  obtain ⟨px, py, ⟨a1, a2, a3, a4⟩, b1, b2, b3, b4⟩ := ok
  have := vm2 (w := w) (news := news) self x y t1 t2 px py a1 a2 a3 a4 b1 b2 b3 b4
  unfold Mt2
  rw [a2, b2]
  simp only [Option.some.injEq]
  exact this
theorem vmG1 {w : World} {news : List (Addr × Obj)} (self : Value) (x y : Str) (t1 t2 : Tok) (ok : Okp1 x y) : Spec w 850 8500 (.ref 315) [self, .str x t1, .str y t2] news (fun v tl => v = .bool (Mt1 x y) ∧ tl = []) := by
  obtain ⟨v1, v2, vp, i1, i2, ip, ⟨a1, a2, a3, a4, a5⟩, ⟨b1, b2, b3, b4, b5⟩, c1, c2⟩ := ok
  unfold Mt1
  rw [a2, b2]
  dsimp only
  match vp, ip, a2, a3, a4, b2, b3, b4 with
  | [], [], a2, _, a4, b2, _, b4 => exact vm1_22 self x y t1 t2 v1 v2 i1 i2 a1 a2 a4 b1 b2 b4 c1 c2 b5 a5
  | [], [i3], a2, _, a4, b2, _, b4 => exact vm1_23 self x y t1 t2 v1 v2 i1 i2 i3 a1 a2 a4 b1 b2 b4 c1 c2 b5 a5
  | [v3], [], a2, _, a4, b2, _, b4 => exact vm1_32 self x y t1 t2 v1 v2 v3 i1 i2 a1 a2 a4 b1 b2 b4 c1 c2 b5 a5
  | [v3], [i3], a2, _, a4, b2, _, b4 => exact vm1_33 self x y t1 t2 v1 v2 v3 i1 i2 i3 a1 a2 a4 b1 b2 b4 c1 c2 b5 a5
theorem cls0 : ∀ {w : World}, (hd.heap_39 w.params = hd.heap_39 w.params) → (PySem.Challenge.rw_eq0045_01 = PySem.Challenge.rw_eq0045_01) → ClsOk w 280 191 Mt0 Okp0 := by
  w_top off
  k_fill
  intro w _ _
  exact ⟨by k_is, by k_is, by k_is, by k_is, by k_is, by k_is, by k_is, by k_is, by k_is, by k_is, fun self x y t1 t2 ok => vmG0 self x y t1 t2 ok⟩
theorem cls1 : ∀ {w : World}, (hd.heap_39 w.params = hd.heap_39 w.params) → (PySem.Challenge.rw_eq0045_01 = PySem.Challenge.rw_eq0045_01) → ClsOk w 342 315 Mt1 Okp1 := by
  k_fill
  intro w _ _
  exact ⟨by k_is, by k_is, by k_is, by k_is, by k_is, by k_is, by k_is, by k_is, by k_is, by k_is, fun self x y t1 t2 ok => vmG1 self x y t1 t2 ok⟩
theorem cls2 : ∀ {w : World}, (hd.heap_39 w.params = hd.heap_39 w.params) → (PySem.Challenge.rw_eq0045_01 = PySem.Challenge.rw_eq0045_01) → ClsOk w 381 371 Mt2 Okp2 := by
  k_fill
  intro w _ _
  exact ⟨by k_is, by k_is, by k_is, by k_is, by k_is, by k_is, by k_is, by k_is, by k_is, by k_is, fun self x y t1 t2 ok => vmG2 self x y t1 t2 ok⟩
/-- _specificity of Accept -/
theorem spec_0 : ∀ {w : World} {news : List (Addr × Obj)} (self : Value) (x : Str) (t1 : Tok), Spec w 850 8500 (.ref 184) [self, .str x t1] news (fun v tl => ∃ a k, v = .ref a ∧ tl = [(a, (⟨.type "tuple", none, .seq (bools (Sp0 x)).toArray k, #[]⟩ : Obj))]) := by
  unfold Spec
  k_fill
  intro w news self x t1 mean mg mb gd cn cs a ccd cl outer A₀ base h₀ L m s Q E B F X N T hk ret
  refine wpAny_call ?_
  k_dflt ktr_enter
  k_steps
  refine ret _ [(?da, ?ob)] _ _ _ ?v ?f ?n ?l ?g
  case f => k_asm
  case n => (refine News.sub1 (by assumption) (fun p9 h9 => ?_); repeat (first | exact h9 | apply List.mem_cons_of_mem))
  case g => exact GOk.refl _
  case l =>
    intro p9 hp9 q9 hq9
    rw [List.mem_singleton.mp hq9]
    refine (?_ : ∀ p ∈ news, p.1 < _) p9 hp9
    assumption
  case v => exact ⟨_, _, rfl, rfl⟩
theorem spT0 {w : World} {news : List (Addr × Obj)} (self : Value) (x : Str) (t1 : Tok) : SpecT w 850 8500 (.ref 184) [self, .str x t1] news (fun v tl => ∃ a k, v = .ref a ∧ tl = [(a, (⟨.type "tuple", none, .seq (bools (Sp0 x)).toArray k, #[]⟩ : Obj))]) :=
  Spec.toT (fun tb => spec_0 self x t1) fun v tl h => by
    obtain ⟨a, k, _, rfl⟩ := h
    exact NT.cons (by nofun) NT.nil
theorem spc0 : ∀ {w : World}, (hd.heap_39 w.params = hd.heap_39 w.params) → (PySem.Challenge.rw_eq0045_01 = PySem.Challenge.rw_eq0045_01) → SpcOk w 280 184 Sp0 (fun _ => True) := by
  k_fill
  intro w _ _
  exact ⟨by k_is, by k_is, by k_is, fun self x t1 ok => spT0 self x t1⟩
theorem spc2 : ∀ {w : World}, (hd.heap_39 w.params = hd.heap_39 w.params) → (PySem.Challenge.rw_eq0045_01 = PySem.Challenge.rw_eq0045_01) → SpcOk w 381 184 Sp0 (fun _ => True) := by
  k_fill
  intro w _ _
  exact ⟨by k_is, by k_is, by k_is, fun self x t1 ok => spT0 self x t1⟩
end Mine
end

section
open PySem PySem.W PyProof.Rows PySem.Calls PySem.Spec
set_option Elab.async false
set_option maxRecDepth 100000
set_option linter.unusedVariables false
namespace Mine
section
variable {prog : Program} {w : World} {A : Around} {E : Value → Shared → Prop} {s : Shared} {h₀ : Heap} {L g : Addr} {m : Str → Option Value} {led : List (Addr × Obj)} {n : Nat} {F' : Nat → Value → Prop}
theorem GenL.moved {wr : List Addr} {g₀ : Nat} {s' : Shared} (F : Fr h₀ L s.heap m) (N : News h₀ L s.heap led) (hwr : ∀ b ∈ wr, L < b) (hne : ∀ b ∈ wr, ∀ q ∈ led, q.1 ≠ b) (hm : Moved wr (GenOnlyQ g₀) s s') : Fr h₀ L s'.heap m ∧ News h₀ L s'.heap led ∧ GOk s.gens s'.gens :=
  ⟨F.moved hm hwr, fun q hq => ⟨hm.heap _ _ (fun h9 => hne _ h9 q hq rfl) (N q hq).1, (N q hq).2⟩, fun G => G.movedS hm⟩
/-- `tuple(generator)` -/
theorem gen_tuple {Q : Value → Shared → Prop} (F : Fr h₀ L s.heap m) (N : News h₀ L s.heap led) (X : GenL prog w A L led g n F' s) (hsz : n ≤ sizeLine)
    (h : ∀ D h' gs' tk' acc, Fr h₀ L h' m → News h₀ L h' ((D, (⟨.type "tuple", none, .seq acc 0, #[]⟩ : Obj)) :: led) → ItemsOf F' acc n → (∀ q ∈ led, q.1 < D) → GOk s.gens gs' → Q (.ref D) ⟨h', gs', s.drawn, tk', s.os⟩) :
    wpAny (model prog w) A (call (.type "tuple") [.ref g]) Q E s := by
  obtain ⟨fp, wr, g₀, St, W, hst, hT, hI, hfp, hwr, hne, _⟩ := X
  refine call_tuple_gen (hsz := hsz) W.in4_3 hT hst hfp hI fun s' acc hm hacc => ?_
  obtain ⟨F₁, N₁, G₁⟩ := GenL.moved F N hwr hne hm
  rw [hm.drawn, hm.os]
  refine h _ _ _ s'.toks acc (F₁.push _) (N₁.push F₁ _) hacc (fun q hq => Heap.lt_size (N₁ q hq).1) G₁
/-- `next(generator)`, where there is a first item -/
theorem gen_next {Q : Value → Shared → Prop} (F : Fr h₀ L s.heap m) (N : News h₀ L s.heap led) (X : GenL prog w A L led g n F' s) (hn : 0 < n)
    (h : ∀ v h' gs' tk', Fr h₀ L h' m → News h₀ L h' led → F' 0 v → GOk s.gens gs' → Q v ⟨h', gs', s.drawn, tk', s.os⟩) :
    wpAny (model prog w) A (call (.builtin "next") [.ref g]) Q E s := by
  obtain ⟨fp, wr, g₀, St, W, hst, hT, hI, hfp, hwr, hne, first⟩ := X
  refine call_function_entry (by decide +kernel) (by decide +kernel) kdk_entry_next (kdk_args_next _) ?_
  unfold Builtin.«next»
  refine wpAny_bind (m := someArgs "next" 1 2 _) (wpAny_of_eq (a := [Value.ref g]) (by first | rfl | kernel_rfl!) ?_)
  dsimp only
  refine wpAny_bind (wpAny_specialOf (name := Str.ofString "__next__") (hT 0 s hst) slot_gen_next.lookup ?_)
  refine wpAny_ite_split (fun hab => absurd hab (by decide)) (fun _ => ?_)
  refine wpAny_bind (wpAny_of_in1 (wpAny_of_in1 (wpAny_of_in1 (first hn _ _ fun v s' hv hm => ?_))))
  obtain ⟨F₁, N₁, G₁⟩ := GenL.moved F N hwr hne hm
  refine wpAny_pure ⟨v, rfl, ?_⟩
  have e : s' = ⟨s'.heap, s'.gens, s.drawn, s'.toks, s.os⟩ := by rw [← hm.drawn, ← hm.os]
  rw [e]
  exact h v _ _ _ F₁ N₁ hv G₁
end
end Mine
end

section
open PySem PySem.W PyProof.Rows PySem.Calls PySem.Spec
set_option Elab.async false
set_option maxRecDepth 100000
set_option maxHeartbeats 0
set_option linter.unusedVariables false
namespace Mine
theorem ne_lists (x y : Str) : (x.cps.toList != y.cps.toList) = (x != y) := by
  have h : (x.cps.toList == y.cps.toList) = (x == y) := by
    rw [Bool.eq_iff_iff]
    simp only [beq_iff_eq]
    constructor
    · intro h; cases x; cases y; simp_all
    · rintro rfl; rfl
  unfold bne
  rw [h]
/-- `x != 'c'` for a local x of the generator -/
theorem elt_ne {prog : Program} {w : World} {A : Around} {E : Value → Shared → Prop} {env : Env} {x v c : Str} {u : Tok} {px pc pp : Pos} {k : Nat} {t : Shared} {m₂ : Str → Option Value} (hd : (x == ("__debug__" : Str)) = false) (hk : env.scope.kind = .function) (hl : env.kindOf x = some .local) (hn : t.heap.Ns env.locals m₂) (hv : m₂ x = some (.str v u)) :
    wpAny (model prog w) A (eval (.Compare (.Name x px) [.NotEq] [.Constant (.str c) k pc] pp) env) (fun y s₃ => y = .bool (v != c) ∧ Keeps t s₃) E t := by
  refine wpAny_Compare1 (wpAny_Name (wpAny_loadName_local hk hl hn hv (wpAny_Constant_str (ne_str ⟨by first | rfl | exact congrArg Value.bool (ne_lists v c), ?_⟩))) hd) rfl
  exact ⟨_, _, rfl, fun _ _ e => e⟩
theorem chd2F {w : World} {h₀ h : Heap} {L : Addr} {m : Str → Option Value} (_F : Fr h₀ L h m) (X : (hd.heap_39 w.params).In h₀) : CodeHd h₀ 307 303 := chd2 X rfl
theorem wpAny_opaque {α : Type} {M : Model} {A : Around} {t : Sem α} {Q : α → Shared → Prop} {s : Shared} {E : Value → Shared → Prop} (h : ∀ Q' : α → Shared → Prop, (∀ v s, Q v s → Q' v s) → wpAny M A t Q' E s) : wpAny M A t Q E s := h Q fun _ _ e => e
theorem passing_all (n : Nat) : passing (fun _ => true) n 0 = List.range n := by
  unfold passing
  simp
theorem strs_len {vs : List Value} {parts : List Str} (h : Strs vs parts) : vs.length = parts.length := by
  induction h with
  | nil => rfl
  | cons _ ih => simp [ih]
theorem items_all {f : Str → Bool} {vs : List Value} {parts : List Str} {acc : Array Value} (h : Strs vs parts) (k : ItemsOf (fun j y => ∃ i, (passing (fun _ => true) vs.toArray.size 0)[j]? = some i ∧ ∃ p, parts[i]? = some p ∧ y = .bool (f p)) acc (passing (fun _ => true) vs.toArray.size 0).length) : acc = (bools (parts.map f)).toArray := by
  have hl := strs_len h
  rw [passing_all] at k
  obtain ⟨k1, k2⟩ := k
  simp only [List.size_toArray, List.length_range] at k1 k2
  unfold bools
  rw [← Array.toList_inj]
  apply List.ext_getElem
  · simp [k1, hl]
  · intro j h1 h2
    have h1' : j < acc.size := by simpa using h1
    obtain ⟨i, e1, p, e2, e3⟩ := k2 j acc[j] (Array.getElem?_eq_getElem h1')
    have hj : j < vs.length := by omega
    rw [List.getElem?_range hj] at e1
    cases e1
    have hp : j < parts.length := by omega
    rw [List.getElem?_eq_getElem hp] at e2
    cases e2
    simp [e3]
section
local macro_rules | `(tactic| walk_at "none 0") => `(tactic| fail)
local macro_rules | `(tactic| walk_at "none 1") => `(tactic| fail)
local macro_rules | `(tactic| walk_at "none 2") => `(tactic| fail)
local macro_rules | `(tactic| walk_at "none 3") => `(tactic| fail)
local macro_rules | `(tactic| walk_at "none 4") => `(tactic| fail)
local macro_rules | `(tactic| walk_at "none 5") => `(tactic| fail)
local macro_rules | `(tactic| walk_at "none 6") => `(tactic| fail)
local macro_rules | `(tactic| walk_at "none 7") => `(tactic| fail)
local macro_rules | `(tactic| walk_at "none 8") => `(tactic| fail)
local macro_rules | `(tactic| walk_at "getMethod ref") => `(tactic| (k_here; (with_reducible show wpAny _ _ (getMethod (Value.ref 287) _ _) _ _ _); k_dflt (refine' meth_split (pat_mime' ?kx) ?_; (case kx => k_in))))
local macro_rules | `(tactic| walk_at "getMethod ref") => `(tactic| (k_here; (with_reducible show wpAny _ _ (getMethod (Value.ref 349) _ _) _ _ _); k_dflt (refine' meth_split (pat_lang' ?kx) ?_; (case kx => k_in))))
local macro_rules | `(tactic| walk_at "call builtin:re.Pattern.split") => `(tactic| (
  k_here
  k_dflt (first
    | refine' call_split0 (pat_mime' ?kx) ?kz ?ks ?kp (splitBack_K ?kF ?kN ?_)
    | refine' call_split0 (pat_lang' ?kx) ?kz ?ks ?kp (splitBack_K ?kF ?kN ?_)
    | refine' call_split1 (pat_mime' ?kx) ?kz ?ks ?kp (splitBack_K ?kF ?kN ?_)
    | refine' call_split1 (pat_lang' ?kx) ?kz ?ks ?kp (splitBack_K ?kF ?kN ?_))
  (case kx => k_in)
  (case ks => assumption)
  (case kz => first | assumption | omega)
  (case kp => assumption)
  (case kF => k_asm)
  (case kN => k_asm)
  intro l' vs' h' tk' hvs' F' N' l1
  try k_lt l1
  try k_sweep))
theorem spec_1 : ∀ {w : World} {news : List (Addr × Obj)} (self : Value) (x : Str) (t1 : Tok) (hx : x.length ≤ 300) (parts : List Str) (hsp : splitStr mimeCode x 0 = some parts) (hp : parts.length ≤ 1000), SpecT w 850 8500 (.ref 308) [self, .str x t1] news (fun v tl => ∃ a k, v = .ref a ∧ tl = [(a, (⟨.type "tuple", none, .seq (bools (parts.map (· != Str.ofString "*"))).toArray k, #[]⟩ : Obj))]) := by
  unfold SpecT
  w_top off
  k_fill
  intro w news self x t1 hx parts hsp hp mean mg mb gd cn cs a ccd cl outer A₀ base h₀ L m s Q E tb B F X N TS NN T hk ret
  refine wpAny_call ?_
  k_dflt ktr_enter
  rename Fr _ _ _ _ => F1
  replace F1 := Fr.as F1 (m' := fun z9 => List.lookup z9 [(Str.ofString "value", .str x t1), (Str.ofString "self", self)]) rfl
  k_steps
  k_dflt (refine gen_list (cl := []) (clo := []) (P := 303) (c := 307) (by assumption) ⟨.inl ⟨rfl, rfl, rfl, rfl, rfl⟩⟩ (chd2 (by k_in) rfl) (by k_asm) (by rfl) (by rfl) (by rfl) (by decide) (by rfl) (by rfl) (by rfl) (by ke_room) (by rfl) (by rfl) (by rfl) (fun _ => by rfl) ?_)
  refine wpAny_opaque fun QQ hQQ => ?_
  k_steps
  rename Strs _ parts => hvs
  rename News _ _ _ _ => N2
  rename ∀ p ∈ tb ++ news, _ => l2
  refine hQQ _ _ ⟨_, _, _, _, tb, _, rfl, by assumption, N2, TS, Pull.cons Pull.here, NT.cons (by intro h9; cases h9) NN, List.mem_cons_self, fun _ => true, fun i y => ∃ p, parts[i]? = some p ∧ y = .bool (p != Str.ofString "*"), ?_, ?_, ?_⟩
  · intro C' code A' E' i v t m₂ hA hD hU hv hn hm hk
    exact wpAny_pure ⟨rfl, _, _, rfl, fun _ _ e => e⟩
  · intro C' code A' E' i v t m₂ hA hD hU hv _ hn hm hk
    obtain ⟨p, u, h1, rfl⟩ := Strs.at hvs (by simpa using hv)
    exact wpAny_mono (elt_ne (by decide) rfl rfl hn hm) (fun y s9 h9 => ⟨⟨p, h1, h9.1⟩, h9.2⟩) fun _ _ e => e
  · intro g9 h9 gs9 tk9 tb9 G9 F9 N9 TS9 X9
    clear N2
    k_steps
    refine gen_tuple (by k_asm) N9 X9 ?_ fun D h10 gs10 tk10 acc F10 N10 K10 l10 G10 => ?_
    · rw [passing_all, List.length_range]
      rw [List.size_toArray, strs_len hvs]
      exact Nat.le_trans hp (by decide)
    · cases items_all hvs K10
      dsimp only
      k_steps
      refine ret _ _ tb9 _ _ _ ⟨D, 0, rfl, rfl⟩ (by k_asm) (fun q hq => ?_) TS9 (NT.cons (by intro h9; cases h9) NT.nil) (fun p hp q hq => ?_) ?_
      · rename News h₀ L _ _ => N11
        refine N11 q ?_
        rcases List.mem_append.mp hq with hq | hq
        · rw [List.mem_singleton.mp hq]; exact .head _
        · refine .tail _ ?_
          rcases List.mem_append.mp hq with hq | hq
          · exact List.mem_append_left _ hq
          · exact List.mem_append_right _ (.tail _ hq)
      · rw [List.mem_singleton.mp hq]
        exact l10 p (List.mem_append_right _ (.tail _ hp))
      · exact GOk.trans G9 G10
def Sp1 (x : Str) : List Bool := match splitStr mimeCode x 0 with
  | some parts => parts.map (· != Str.ofString "*")
  | none => []
def Oks1 (x : Str) : Prop := x.length ≤ 300 ∧ ∃ parts, splitStr mimeCode x 0 = some parts ∧ parts.length ≤ 1000
theorem spec_1' {w : World} {news : List (Addr × Obj)} (self : Value) (x : Str) (t1 : Tok) (ok : Oks1 x) : SpecT w 850 8500 (.ref 308) [self, .str x t1] news (fun v tl => ∃ a k, v = .ref a ∧ tl = [(a, (⟨.type "tuple", none, .seq (bools (Sp1 x)).toArray k, #[]⟩ : Obj))]) := by
  obtain ⟨hx, parts, hsp, hp⟩ := ok
  have e : Sp1 x = parts.map (· != Str.ofString "*") := by unfold Sp1; rw [hsp]
  rw [e]
  exact spec_1 self x t1 hx parts hsp hp
theorem spc1 : ∀ {w : World}, (hd.heap_39 w.params = hd.heap_39 w.params) → (PySem.Challenge.rw_eq0045_01 = PySem.Challenge.rw_eq0045_01) → SpcOk w 342 308 Sp1 Oks1 := by
  k_fill
  intro w _ _
  exact ⟨by k_is, by k_is, by k_is, fun self x t1 ok => spec_1' self x t1 ok⟩
end
end Mine
end

section
open PySem PySem.W PyProof.Rows PySem.Calls PySem.Spec
set_option Elab.async false
set_option maxRecDepth 100000
set_option maxHeartbeats 0
set_option linter.unusedVariables false
namespace Mine
theorem bestIx_range (sc : List Score) : bestIx sc = -1 ∨ ∃ j : Nat, j < sc.length ∧ bestIx sc = j := by
  unfold bestIx
  have key : ∀ (l : List Nat) (b : Int), (b = -1 ∨ ∃ j : Nat, j < sc.length ∧ b = j) → (l.foldl (bStep sc) b = -1 ∨ ∃ j : Nat, j < sc.length ∧ l.foldl (bStep sc) b = j) := by
    intro l
    induction l with
    | nil => intro b h; exact h
    | cons k l ih =>
      intro b h
      refine ih _ ?_
      have hb : bStep sc b k = b ∨ (k < sc.length ∧ bStep sc b k = k) := by
        cases hk : sc[k]? with
        | none => left; unfold bStep; rw [hk]
        | some c =>
          have hlt : k < sc.length := (List.getElem?_eq_some_iff.mp hk).1
          cases c with
          | none => left; exact bStep_none hk
          | some p =>
            obtain ⟨q, f⟩ := p
            unfold bStep
            rw [hk]
            dsimp only
            generalize (decide (q > 0) && _) = cnd
            cases cnd
            · left; simp
            · right; exact ⟨hlt, by simp⟩
      rcases hb with e | ⟨h1, e⟩
      · rw [e]; exact h
      · rw [e]; exact .inr ⟨k, h1, rfl⟩
  exact key _ _ (.inl rfl)
def Picked (xs : List Str) (ix : Int) (v : Value) : Prop := if 0 ≤ ix then (∃ x t, xs[ix.toNat]? = some x ∧ v = .str x t) else ∃ t, v = .str (Str.ofString "none") t
def TailR (xs : List Str) (ix : Int) (sc : List Score) (v : Value) (tl : List (Addr × Obj)) : Prop := ∃ a D vs n tups ov nt, v = .ref a ∧ tl = (a, (⟨.type "tuple", none, .seq #[ov, .ref D] nt, #[]⟩ : Obj)) :: (D, W.listOf vs.toArray n) :: tups ∧ Scs tups vs sc ∧ Picked xs ix ov
theorem tups_lt {news tups : List (Addr × Obj)} {d : Addr × Obj} (h : ∀ p ∈ news, ∀ q ∈ d :: tups, p.1 < q.1) : ∀ q ∈ tups, ∀ p ∈ news, p.1 < q.1 := fun q hq p hp => h p hp q (.tail _ hq)
theorem tail_ret {h₀ h : Heap} {L a D : Addr} {ov : Value} {nt n : Nat} {vs : List Value} {tups news : List (Addr × Obj)} {xs : List Str} {ix : Int} {sc : List Score} {P : Value → Prop} (N : News h₀ L h ((a, (⟨.type "tuple", none, .seq #[ov, .ref D] nt, #[]⟩ : Obj)) :: (D, W.listOf vs.toArray n) :: (tups ++ news)))
    (hs : Scs tups vs sc) (hp : Picked xs ix ov) (la : ∀ p ∈ news, p.1 < a) (lD : ∀ p ∈ news, p.1 < D) (lt : ∀ q ∈ tups, ∀ p ∈ news, p.1 < q.1)
    (k : ∀ v tl, TailR xs ix sc v tl → News h₀ L h (tl ++ news) → (∀ p ∈ news, ∀ q ∈ tl, p.1 < q.1) → P v) : P (.ref a) := by
  refine k _ _ ⟨a, D, vs, n, tups, ov, nt, rfl, rfl, hs, hp⟩ (by simpa only [List.cons_append] using N) fun p hp q hq => ?_
  rcases List.mem_cons.mp hq with rfl | hq
  · exact la p hp
  rcases List.mem_cons.mp hq with rfl | hq
  · exact lD p hp
  · exact lt q hq p hp
theorem lbest' {w : World} {news : List (Addr × Obj)} (sl : Addr) (vs : List Value) (n : Nat) (sc : List Score) (hsl : (sl, W.listOf vs.toArray n) ∈ news) (hsc : Scs news vs sc) (hl : sc.length ≤ 6) {bx : Int} (hbx : bestIx sc = bx) : Spec w 850 8500 (.ref 419) [.ref sl] news (fun v tl => (∃ t, v = .int bx t) ∧ tl = []) := hbx ▸ lbest sl vs n sc hsl hsc hl
theorem Strs.get {vs : List Value} {xs : List Str} (h : Strs vs xs) {i : Nat} {x : Str} (e : xs[i]? = some x) : ∃ t, vs[i]? = some (.str x t) := by
  induction h generalizing i with
  | nil => simp at e
  | cons r ih =>
    cases i with
    | zero => simp only [List.getElem?_cons_zero, Option.some.injEq] at e ⊢; subst e; exact ⟨_, rfl⟩
    | succ i => simp only [List.getElem?_cons_succ] at e ⊢; exact ih e
section
local macro_rules | `(tactic| walk_at "none 0") => `(tactic| fail)
local macro_rules | `(tactic| walk_at "none 1") => `(tactic| fail)
local macro_rules | `(tactic| walk_at "none 2") => `(tactic| fail)
local macro_rules | `(tactic| walk_at "none 3") => `(tactic| fail)
local macro_rules | `(tactic| walk_at "none 4") => `(tactic| fail)
local macro_rules | `(tactic| walk_at "none 5") => `(tactic| fail)
local macro_rules | `(tactic| walk_at "none 6") => `(tactic| fail)
local macro_rules | `(tactic| walk_at "none 7") => `(tactic| fail)
local macro_rules | `(tactic| walk_at "none 8") => `(tactic| fail)
local macro_rules | `(tactic| k_mem) => `(tactic| with_reducible assumption)
local macro_rules | `(tactic| k_mem) => `(tactic| ((with_reducible (first | refine List.mem_append_right _ ?_ | refine mem_appR ?_)); k_mem))
local macro_rules | `(tactic| k_asm) => `(tactic| ((with_reducible show GOk _ _); first | exact GOk.refl _ | (intro x9; solve_by_elim)))
local macro_rules | `(tactic| k_asm) => `(tactic| ((with_reducible show News _ _ _ _); first | (with_reducible assumption) | (refine News.sub (by with_reducible assumption) (fun p9 h9 => ?_); (repeat (first | exact h9 | apply List.mem_cons_of_mem | apply List.mem_append_right)); done) | (refine News.sub (by assumption) (fun p9 h9 => ?_); (repeat (first | exact h9 | apply List.mem_cons_of_mem | apply List.mem_append_right)); done)))
local macro_rules | `(tactic| walk_at "subscriptTail") => `(tactic| (k_here; (with_reducible show wpAny _ _ (subscriptTail _ _ (Value.ref _) (Value.int _ _)) _ _ _); k_dflt (refine' item_l ?kN ?kM ?k0 ?kx ?_; (case kx => with_reducible assumption); (case kN => k_asm); (case kM => k_mem); (case k0 => with_reducible assumption); k_whole)))
local macro_rules | `(tactic| walk_at "subscriptTail Name") => `(tactic| (k_here; (with_reducible show wpAny _ _ (subscriptTail _ _ (Value.ref _) (Value.int _ _)) _ _ _); k_dflt (refine' item_l ?kN ?kM ?k0 ?kx ?_; (case kx => with_reducible assumption); (case kN => k_asm); (case kM => k_mem); (case k0 => with_reducible assumption); k_whole)))
local macro_rules | `(tactic| walk_at "call ref") => `(tactic| (
  k_here
  (with_reducible show wpAny _ _ (call (Value.ref 412) _ _) _ _ _)
  k_dflt (refine' spec_use (lscores (by with_reducible assumption : FitSpec _ _ _ _) _ _ _ _ _ _ _ _ _ ?k1 ?k2 ?k3 ?k4 ?k5 ?k6) ?kB ?kF ?kX ?kN ?kT ?kK ?kD ?kU ?_)
  (case kB => k_asm)
  (case kF => k_asm)
  (case kX => k_asm)
  (case kN => k_asm)
  (case kT => k_asm)
  (case k1 => k_dflt k_mem)
  (case k2 => k_dflt k_mem)
  (case k3 => (refine Pairs.mono (fun p9 h9 => ?_) (by with_reducible assumption); repeat (first | exact h9 | apply List.mem_cons_of_mem | apply List.mem_append_right)))
  (case k4 => with_reducible assumption)
  (case k5 => with_reducible assumption)
  (case k6 => with_reducible assumption)
  (case kK => rfl)
  (case kD => exact Nat.le_of_ble_eq_true rfl)
  (case kU => exact Nat.le_of_ble_eq_true rfl)
  k_whole
  (intro v tl h' g' tk' hR F' N' hlt hg)
  (obtain ⟨D9, vs9, n9, tups9, e1, e2, hs9⟩ := hR)
  subst e1
  subst e2
  (simp only [List.cons_append] at N')
  (have hlt2 := tups_lt hlt)
  (replace hlt := fun p hp => hlt p hp _ List.mem_cons_self)
  try k_lt hlt
  try k_sweep))
local macro_rules | `(tactic| walk_at "call ref") => `(tactic| (
  k_here
  (with_reducible show wpAny _ _ (call (Value.ref 419) _ _) _ _ _)
  k_dflt (refine' spec_use (lbest' _ _ _ _ ?k1 ?k2 ?k3 ?k4) ?kB ?kF ?kX ?kN ?kT ?kK ?kD ?kU ?_)
  (case kB => k_asm)
  (case kF => k_asm)
  (case kX => k_asm)
  (case kN => k_asm)
  (case kT => k_asm)
  (case k1 => k_dflt k_mem)
  (case k2 => (refine Scs.mono (fun p9 h9 => ?_) (by with_reducible assumption); repeat (first | (with_reducible exact List.mem_append_left _ h9) | apply List.mem_cons_of_mem)))
  (case k3 => with_reducible assumption)
  (case k4 => with_reducible assumption)
  (case kK => rfl)
  (case kD => exact Nat.le_of_ble_eq_true rfl)
  (case kU => exact Nat.le_of_ble_eq_true rfl)
  k_whole
  (intro v tl h' g' tk' hR F' N' hlt hg)
  (obtain ⟨⟨t9, e1⟩, e2⟩ := hR)
  subst e1
  subst e2
  (simp only [List.nil_append] at N')
  clear hlt
  try k_sweep))
theorem chosen_1 : ∀ {w : World} {news : List (Addr × Obj)} {k : Int} {Ft : Str → Str → Int} {Okf : Str → Str → Prop} (hF : FitSpec w k Ft Okf) (hk2 : k ≠ 2) (u : Tok) (wl ol : Addr) (wv ov : List Value) (nw no : Nat) (ws : List (Str × Int)) (xs : List Str) (hwl : (wl, W.listOf wv.toArray nw) ∈ news) (hol : (ol, W.listOf ov.toArray no) ∈ news) (hp : Pairs news wv ws) (hos : Strs ov xs) (hok : ∀ x ∈ xs, ∀ p ∈ ws, Okf p.1 x) (hlx : xs.length ≤ 6), Spec w 750 7500 (.ref 431) [.int k u, .ref wl, .ref ol] news (TailR xs (bestIx (scoresOf Ft ws xs)) (scoresOf Ft ws xs)) := by
  unfold Spec
  w_top off
  k_fill
  intro w news k Ft Okf hF hk2 u wl ol wv ov nw no ws xs hwl hol hp hos hok hlx mean mg mb gd cn cs a ccd cl outer A₀ base h₀ L m s Q E B F X N T hk ret
  have hls : (scoresOf Ft ws xs).length ≤ 6 := by unfold scoresOf; rw [List.length_map]; exact hlx
  have hsl : (scoresOf Ft ws xs).length = xs.length := by unfold scoresOf; rw [List.length_map]
  have hix := bestIx_range (scoresOf Ft ws xs)
  generalize hbx : bestIx (scoresOf Ft ws xs) = bx at hix ret
  have hb9 : bx = -1 ∨ ∃ x t, 0 ≤ bx ∧ bx < 2 ^ 60 ∧ xs[bx.toNat]? = some x ∧ ov[bx.toNat]? = some (.str x t) := by
    rcases hix with h | ⟨j, hj, e⟩
    · exact .inl h
    · subst e
      have hj' : j < xs.length := by omega
      obtain ⟨t, ht⟩ := hos.get (List.getElem?_eq_getElem hj')
      refine .inr ⟨xs[j], t, by omega, by omega, ?_, ?_⟩ <;> rw [Int.toNat_natCast]
      · exact List.getElem?_eq_getElem hj'
      · exact ht
  clear hix
  refine wpAny_call ?_
  k_dflt ktr_enter
  rename Fr _ _ _ _ => F1
  replace F1 := Fr.as F1 (m' := fun z9 => List.lookup z9 [(Str.ofString "offers", .ref ol), (Str.ofString "wishes", .ref wl), (Str.ofString "kind", .int k u)]) rfl
  rcases hb9 with rfl | ⟨xb, tb, hb0, hb1, hbxs, hbov⟩
  · iterate 44 (first | (k_unfold; (try dsimp only)) | walk1 | (dsimp only; walk1))
    all_goals (try (exfalso; omega))
    k_steps
    with_reducible rename Scs _ _ _ => hs9
    with_reducible rename _ ∧ AllLt _ _ => l9
    with_reducible rename AllLt _ _ => l8
    with_reducible rename ∀ q ∈ _, ∀ p ∈ news, _ => l7
    with_reducible rename News h₀ L _ _ => n9
    exact tail_ret n9 hs9 (by unfold Picked; rw [if_neg (by decide)]; exact ⟨_, rfl⟩) (fun p9 h9 => allLt_mem l9.2 p9 (List.mem_append_right _ h9)) (allLt_mem l8) l7 (P := fun v => Q v _) fun v tl hR N' hlt => ret v tl _ _ _ hR (by k_asm) N' hlt (by k_asm)
  · have hb01 : 0 ≤ bx ∧ bx < 2 ^ 60 := ⟨hb0, hb1⟩
    k_steps
    with_reducible rename Scs _ _ _ => hs9
    with_reducible rename _ ∧ AllLt _ _ => l9
    with_reducible rename AllLt _ _ => l8
    with_reducible rename ∀ q ∈ _, ∀ p ∈ news, _ => l7
    with_reducible rename News h₀ L _ _ => n9
    exact tail_ret n9 hs9 (by unfold Picked; rw [if_pos hb0]; exact ⟨_, _, hbxs, rfl⟩) (fun p9 h9 => allLt_mem l9.2 p9 (List.mem_append_right _ h9)) (allLt_mem l8) l7 (P := fun v => Q v _) fun v tl hR N' hlt => ret v tl _ _ _ hR (by k_asm) N' hlt (by k_asm)
end
end Mine
end

section
open PySem PySem.W PyProof.Rows PySem.Calls PySem.Spec
set_option Elab.async false
set_option maxRecDepth 100000
set_option maxHeartbeats 0
set_option linter.unusedVariables false
namespace Mine
open PyProof.Rows.LCg PyProof.Rows.LCp in
/-- a comprehension over pairs, any number of them, by an invariant -/
theorem compRestP_inv {prog : Program} {w : World} {A : Around} {h₀ : Heap} {L : Addr} {m : Str → Option Value} {env : Env} {elt : PySem.Expr} {x x₂ : Str} {scope : Scope} {cl : List (Str × Addr)} {s : Shared} {S : List (Addr × Obj) → Prop} {P : Nat → Value → Prop}
    {Fin : List Value → List (Addr × Obj) → Prop} {n : Nat} (J : Nat → List Value → List (Addr × Obj) → Prop)
    (turn : ∀ i ys news v, i < n → J i ys news → P i v → ∃ (t : Addr) (ot : Obj) (v₁ v₂ : Value) (nt : Nat), v = .ref t ∧ (t, ot) ∈ news ∧ ot.cls = .type "tuple" ∧ ot.data = .seq #[v₁, v₂] nt ∧
      ∀ I oI C oC D m₂ h tk (E' : Value → Shared → Prop), NsObj oC m₂ → m₂ x = some v₁ → m₂ x₂ = some v₂ → Fr h₀ L h m → News h₀ L h ((I, oI) :: (C, oC) :: (D, lst ys) :: news) → Off3 I C D news → ((@Ne Nat I C) ∧ (@Ne Nat I D) ∧ (@Ne Nat C D)) →
      wpAny (model prog w) A (eval elt (compEnvC scope cl C env)) (CompEnd h₀ L m { s with heap := h, toks := tk } I oI C oC D (lst ys) S (fun y news' => J (i + 1) (ys ++ [y]) news')) E' { s with heap := h, toks := tk })
    (fin : ∀ ys news, J n ys news → Fin ys news) : ∀ k i ys news, i + k = n → J i ys news → CompRestP prog w A h₀ L m env elt x x₂ scope cl s S P Fin k i ys news
  | 0, i, ys, news, e, hJ => CompRestP.zero (fin ys news ((show i = n by omega) ▸ hJ))
  | k + 1, i, ys, news, e, hJ => CompRestP.succ fun v hP => by
      obtain ⟨t, ot, v₁, v₂, nt, h1, h2, h3, h4, h5⟩ := turn i ys news v (by omega) hJ hP
      exact ⟨t, ot, v₁, v₂, nt, h1, h2, h3, h4, fun I oI C oC D m₂ h tk E' hC hx hx2 F N off ne => wpAny_mono (h5 I oI C oC D m₂ h tk E' hC hx hx2 F N off ne) (fun y s₂ h₂ => compEnd_mono h₂ fun news' hJ' => compRestP_inv J turn fin k (i + 1) (ys ++ [y]) news' (by omega) hJ') fun _ _ z => z⟩
def chosen2 (ws : List (Str × Int)) (xs : List Str) : Int := if 0 ≤ bestIx (scoresOf fit0 ws xs) then bestIx (scoresOf fit0 ws xs) else if 0 ≤ bestIx (scoresOf fit0 (ws.map fun p => (mainT p.1, p.2)) xs) then bestIx (scoresOf fit0 (ws.map fun p => (mainT p.1, p.2)) xs) else bestIx (scoresOf fit0 ws (xs.map mainT))
theorem mem_rotI {α : Type} {a b c d p : α} {l : List α} (h : p ∈ a :: b :: c :: d :: l) : p ∈ d :: a :: b :: c :: l := by simp only [List.mem_cons] at h ⊢; grind
theorem Pairs.snoc {news : List (Addr × Obj)} : ∀ {vs : List Value} {ps : List (Str × Int)} {p : Str × Int} {a : Addr} {t u : Tok} {n : Nat}, Pairs news vs ps → (a, (⟨.type "tuple", none, .seq #[.str p.1 t, .int p.2 u] n, #[]⟩ : Obj)) ∈ news → Pairs news (vs ++ [.ref a]) (ps ++ [p])
  | [], [], _, _, _, _, _, _, hm => ⟨⟨_, _, _, _, rfl, hm⟩, trivial⟩
  | _ :: _, _ :: _, _, _, _, _, _, h, hm => ⟨h.1, Pairs.snoc h.2 hm⟩
  | [], _ :: _, _, _, _, _, _, h, _ => h.elim
  | _ :: _, [], _, _, _, _, _, h, _ => h.elim
theorem mem_fin2 {α : Type} {q a x d d9 : α} {t2 t nw n : List α} (h : q ∈ a :: d9 :: (t ++ n)) : q ∈ a :: x :: (t2 ++ d :: d9 :: (t ++ (nw ++ n))) := by simp only [List.mem_cons, List.mem_append] at h ⊢; grind
theorem mem_fin3 {α : Type} {q a x d d9 : α} {t2 t n : List α} (h : q ∈ a :: d9 :: (t ++ n)) : q ∈ a :: x :: (t2 ++ d :: d9 :: (t ++ n)) := by simp only [List.mem_cons, List.mem_append] at h ⊢; grind
theorem mem_drop2 {α : Type} {q x d d9 : α} {t2 t nw n : List α} (h : q ∈ d9 :: (t ++ n)) : q ∈ x :: (t2 ++ d :: d9 :: (t ++ (nw ++ n))) := by simp only [List.mem_cons, List.mem_append] at h ⊢; grind
theorem with_led {h₀ h : Heap} {L : Addr} {l : List (Addr × Obj)} {P : Prop} (N : News h₀ L h l) (k : ∀ led, News h₀ L h led → (∀ p ∈ l, p ∈ led) → (∀ p ∈ led, p ∈ l) → P) : P := k l N (fun _ h => h) (fun _ h => h)
theorem ix_at {Ft : Str → Str → Int} {ws : List (Str × Int)} {xs ys : List Str} {ov : List Value} (hos : Strs ov xs) (hl : ys.length = xs.length) (hlx : xs.length ≤ 6) : bestIx (scoresOf Ft ws ys) = -1 ∨ ∃ x t, (0 ≤ bestIx (scoresOf Ft ws ys) ∧ bestIx (scoresOf Ft ws ys) < 2 ^ 60) ∧ xs[(bestIx (scoresOf Ft ws ys)).toNat]? = some x ∧ ov[(bestIx (scoresOf Ft ws ys)).toNat]? = some (.str x t) := by
  have hsl : (scoresOf Ft ws ys).length = ys.length := by unfold scoresOf; rw [List.length_map]
  rcases bestIx_range (scoresOf Ft ws ys) with h | ⟨j, hj, e⟩
  · exact .inl h
  · rw [e]
    have hj' : j < xs.length := by omega
    obtain ⟨t, ht⟩ := hos.get (List.getElem?_eq_getElem hj')
    refine .inr ⟨xs[j], t, ⟨by omega, by omega⟩, ?_, ?_⟩ <;> rw [Int.toNat_natCast]
    · exact List.getElem?_eq_getElem hj'
    · exact ht
section
local macro_rules | `(tactic| walk_at "none 0") => `(tactic| fail)
local macro_rules | `(tactic| walk_at "none 1") => `(tactic| fail)
local macro_rules | `(tactic| walk_at "none 2") => `(tactic| fail)
local macro_rules | `(tactic| walk_at "none 3") => `(tactic| fail)
local macro_rules | `(tactic| walk_at "none 4") => `(tactic| fail)
local macro_rules | `(tactic| walk_at "none 5") => `(tactic| fail)
local macro_rules | `(tactic| walk_at "none 6") => `(tactic| fail)
local macro_rules | `(tactic| walk_at "none 7") => `(tactic| fail)
local macro_rules | `(tactic| walk_at "none 8") => `(tactic| fail)
local macro_rules | `(tactic| k_mem) => `(tactic| with_reducible assumption)
local macro_rules | `(tactic| k_mem) => `(tactic| ((with_reducible (first | refine List.mem_append_right _ ?_ | refine mem_appR ?_)); k_mem))
local macro_rules | `(tactic| k_asm) => `(tactic| ((with_reducible show GOk _ _); first | exact GOk.refl _ | (intro x9; solve_by_elim)))
local macro_rules | `(tactic| k_asm) => `(tactic| ((with_reducible show News _ _ _ _); first | (with_reducible assumption) | (refine News.sub (by with_reducible assumption) (fun p9 h9 => ?_); (repeat (first | exact h9 | apply List.mem_cons_of_mem | apply List.mem_append_right)); done) | (refine News.sub (by assumption) (fun p9 h9 => ?_); (repeat (first | exact h9 | apply List.mem_cons_of_mem | apply List.mem_append_right)); done)))
local macro_rules | `(tactic| walk_at "subscriptTail") => `(tactic| (k_here; (with_reducible show wpAny _ _ (subscriptTail _ _ (Value.ref _) (Value.int _ _)) _ _ _); k_dflt (refine' item_l ?kN ?kM ?k0 ?kx ?_; (case kx => with_reducible assumption); (case kN => k_asm); (case kM => k_mem); (case k0 => with_reducible assumption); k_whole)))
local macro_rules | `(tactic| walk_at "subscriptTail Name") => `(tactic| (k_here; (with_reducible show wpAny _ _ (subscriptTail _ _ (Value.ref _) (Value.int _ _)) _ _ _); k_dflt (refine' item_l ?kN ?kM ?k0 ?kx ?_; (case kx => with_reducible assumption); (case kN => k_asm); (case kM => k_mem); (case k0 => with_reducible assumption); k_whole)))
local macro_rules | `(tactic| walk_at "call ref") => `(tactic| (
  k_here
  (with_reducible show wpAny _ _ (call (Value.ref 412) _ _) _ _ _)
  k_dflt (refine' spec_use (lscores (by with_reducible assumption : FitSpec _ _ _ _) _ _ _ _ _ _ _ _ _ ?k1 ?k2 ?k3 ?k4 ?k5 ?k6) ?kB ?kF ?kX ?kN ?kT ?kK ?kD ?kU ?_)
  (case kB => k_asm)
  (case kF => k_asm)
  (case kX => k_asm)
  (case kN => k_asm)
  (case kT => k_asm)
  (case k1 => k_dflt k_mem)
  (case k2 => k_dflt k_mem)
  (case k3 => (refine Pairs.mono (fun p9 h9 => ?_) (by with_reducible assumption); repeat (first | exact h9 | apply List.mem_cons_of_mem | apply List.mem_append_right)))
  (case k4 => with_reducible assumption)
  (case k5 => with_reducible assumption)
  (case k6 => with_reducible assumption)
  (case kK => rfl)
  (case kD => exact Nat.le_of_ble_eq_true rfl)
  (case kU => exact Nat.le_of_ble_eq_true rfl)
  k_whole
  (intro v tl h' g' tk' hR F' N' hlt hg)
  (obtain ⟨D9, vs9, n9, tups9, e1, e2, hs9⟩ := hR)
  subst e1
  subst e2
  (simp only [List.cons_append] at N')
  (have hlt2 := tups_lt hlt)
  (replace hlt := fun p hp => hlt p hp _ List.mem_cons_self)
  try k_lt hlt
  try k_sweep))
local macro_rules | `(tactic| walk_at "call ref") => `(tactic| (
  k_here
  (with_reducible show wpAny _ _ (call (Value.ref 419) _ _) _ _ _)
  k_dflt (refine' spec_use (lbest' _ _ _ _ ?k1 ?k2 ?k3 ?k4) ?kB ?kF ?kX ?kN ?kT ?kK ?kD ?kU ?_)
  (case kB => k_asm)
  (case kF => k_asm)
  (case kX => k_asm)
  (case kN => k_asm)
  (case kT => k_asm)
  (case k1 => k_dflt k_mem)
  (case k2 => (refine Scs.mono (fun p9 h9 => ?_) (by with_reducible assumption); repeat (first | (with_reducible exact List.mem_append_left _ h9) | apply List.mem_cons_of_mem)))
  (case k3 => with_reducible assumption)
  (case k4 => with_reducible assumption)
  (case kK => rfl)
  (case kD => exact Nat.le_of_ble_eq_true rfl)
  (case kU => exact Nat.le_of_ble_eq_true rfl)
  k_whole
  (intro v tl h' g' tk' hR F' N' hlt hg)
  (obtain ⟨⟨t9, e1⟩, e2⟩ := hR)
  subst e1
  subst e2
  (simp only [List.nil_append] at N')
  clear hlt
  try k_sweep))
local macro_rules | `(tactic| walk_at "call ref") => `(tactic| (
  k_here
  (with_reducible show wpAny _ _ (call (Value.ref 426) _ _) _ _ _)
  k_dflt (refine' spec0_use (main_0 _ _ ?k1) ?kB ?kF ?kX ?kN ?kT ?kK ?kD ?kU ?_)
  (case kB => k_asm)
  (case kF => k_asm)
  (case kX => k_asm)
  (case kN => k_asm)
  (case kT => k_asm)
  (case k1 => with_reducible assumption)
  (case kK => rfl)
  (case kD => exact Nat.le_of_ble_eq_true rfl)
  (case kU => exact Nat.le_of_ble_eq_true rfl)
  k_whole
  (intro v tl h' tk' hR F' N' hlt)
  (obtain ⟨⟨t9, e1⟩, e2⟩ := hR)
  subst e1
  subst e2
  (simp only [List.nil_append] at N')
  clear hlt
  try k_sweep))
theorem chosen_2 : ∀ {w : World} {news : List (Addr × Obj)} (hF0 : FitSpec w 0 fit0 Okf0) (hF2 : FitSpec w 2 fit0 Okf0) (u : Tok) (wl ol : Addr) (wv ov : List Value) (nw no : Nat) (ws : List (Str × Int)) (xs : List Str) (hwl : (wl, W.listOf wv.toArray nw) ∈ news) (hol : (ol, W.listOf ov.toArray no) ∈ news) (hp : Pairs news wv ws) (hos : Strs ov xs) (hok : ∀ x ∈ xs, ∀ p ∈ ws, Okf0 p.1 x) (hlx : xs.length ≤ 6) (hlw : ws.length ≤ 6)
    (hmw : ∀ p ∈ ws, MainTOk p.1) (hmx : ∀ x ∈ xs, MainTOk x) (hok1 : ∀ x ∈ xs, ∀ p ∈ ws.map (fun p => (mainT p.1, p.2)), Okf0 p.1 x) (hok3 : ∀ x ∈ xs.map mainT, ∀ p ∈ ws, Okf0 p.1 x), Spec w 750 7500 (.ref 431) [.int 2 u, .ref wl, .ref ol] news (TailR xs (chosen2 ws xs) (scoresOf fit0 ws xs)) := by
  unfold Spec
  w_top off
  k_fill
  intro w news hF0 hF2 u wl ol wv ov nw no ws xs hwl hol hp hos hok hlx hlw hmw hmx hok1 hok3 mean mg mb gd cn cs a ccd cl outer A₀ base h₀ L m s Q E B F X N T hk ret
  have hls : (scoresOf fit0 ws xs).length ≤ 6 := by unfold scoresOf; rw [List.length_map]; exact hlx
  have hls1 : (scoresOf fit0 (ws.map fun p => (mainT p.1, p.2)) xs).length ≤ 6 := by unfold scoresOf; rw [List.length_map]; exact hlx
  have hlx3 : (xs.map mainT).length ≤ 6 := by rw [List.length_map]; exact hlx
  have hls3 : (scoresOf fit0 ws (xs.map mainT)).length ≤ 6 := by unfold scoresOf; rw [List.length_map]; exact hlx3
  have ix1 := ix_at (Ft := fit0) (ws := ws) hos rfl hlx
  have ix2 := ix_at (Ft := fit0) (ws := ws.map fun p => (mainT p.1, p.2)) hos rfl hlx
  have ix3 := ix_at (Ft := fit0) (ws := ws) (ys := xs.map mainT) hos (List.length_map _) hlx
  have hch : chosen2 ws xs = chosen2 ws xs := rfl
  conv at hch => rhs; unfold chosen2
  generalize chosen2 ws xs = ch at hch ret
  generalize hbx1 : bestIx (scoresOf fit0 ws xs) = bx1 at ix1 hch
  generalize hbx2 : bestIx (scoresOf fit0 (ws.map fun p => (mainT p.1, p.2)) xs) = bx2 at ix2 hch
  generalize hbx3 : bestIx (scoresOf fit0 ws (xs.map mainT)) = bx3 at ix3 hch
  refine wpAny_call ?_
  k_dflt ktr_enter
  rename Fr _ _ _ _ => F1
  replace F1 := Fr.as F1 (m' := fun z9 => List.lookup z9 [(Str.ofString "offers", .ref ol), (Str.ofString "wishes", .ref wl), (Str.ofString "kind", .int 2 u)]) rfl
  rcases ix1 with rfl | ⟨xb, tb, hb01, hbxs, hbov⟩
  · rw [if_neg (by decide)] at hch
    iterate 59 (first | (k_unfold; (try dsimp only)) | walk1 | (dsimp only; walk1))
    with_reducible rename Fr _ _ _ _ => FA
    with_reducible rename News _ _ _ _ => NA
    refine LCp.ListComp_P FA (by with_unfolding_all rfl) (by decide) (by rfl) (by decide) (by rfl) (by rfl) (by decide) ?_
    iterate 1 (first | (k_unfold; (try dsimp only)) | walk1 | (dsimp only; walk1))
    with_reducible rename Scs _ _ _ => hs9
    refine with_led NA (fun led NL hin hout => ?_)
    refine LCp.SrcLP.ledger (by rfl) FA NL (hin _ (.tail _ (List.mem_append_right _ hwl))) (by rw [List.size_toArray, hp.len]; exact Nat.le_trans hlw (by decide)) ?_
    intro h4
    have hpl : Pairs led wv ws := Pairs.mono (fun q hq => hin q (.tail _ (List.mem_append_right _ hq))) hp
    refine compRestP_inv (fun i ys nw => Pairs nw ys ((ws.take i).map fun p => (mainT p.1, p.2)) ∧ ∀ q ∈ led, q ∈ nw) ?_ ?_ wv.toArray.size 0 [] _ (Nat.zero_add _) ⟨trivial, fun _ h => h⟩
    · rintro i ys nw v hi ⟨hP, hsub⟩ hv
      obtain ⟨p, a2, t2, u2, n2, hpi, rfl, hm2⟩ := Pairs.at hpl (by simpa using hv)
      have hok2 := hmw p (List.mem_of_getElem? hpi)
      refine ⟨a2, _, _, _, n2, rfl, hsub _ hm2, rfl, rfl, fun I oI C oC D m₂ h tk E' hC hx hx2 F N off ne => ?_⟩
      clear FA NA NL
      refine wpAny_opaque fun Q5 hQ5 => ?_
      iterate 15 (first | (k_unfold; (try dsimp only)) | walk1 | (dsimp only; walk1))
      refine hQ5 _ _ ?_
      clear hQ5 Q5
      with_reducible rename News _ _ _ _ => N6
      with_reducible rename Fr _ _ _ _ => F6
      with_reducible rename _ ∧ _ ∧ _ ∧ AllLt _ _ => l6
      have e1 : ws.take (i + 1) = ws.take i ++ [p] := by rw [List.take_add_one, hpi]; rfl
      refine LCg.CompEnd.intro F6 N6 ((_, _) :: nw) (fun q hq => mem_rotI hq) ⟨⟨Nat.ne_of_gt l6.1, Nat.ne_of_gt l6.2.1, Nat.ne_of_gt l6.2.2.1⟩, off⟩ (.inr ⟨_, .tail _ (hsub _ (hin _ (.tail _ (List.mem_append_right _ hwl)))), rfl, _, rfl⟩) ⟨?_, fun q hq => .tail _ (hsub q hq)⟩
      rw [e1, List.map_append]
      exact Pairs.snoc (p := (mainT p.1, p.2)) (Pairs.mono (fun _ h => .tail _ h) hP) (.head _)
    · rintro ys nw ⟨hP, hsub⟩ D h tk F N off
      rw [List.size_toArray, hp.len, List.take_length] at hP
      rename_i D9 vs9 k9 tups9 hlt9 hltD9 _ _ _ _ _ _ _ _ _ _
      have N5 : News _ _ h ((D, W.listOf ys.toArray ys.length) :: (D9, W.listOf vs9.toArray k9) :: (tups9 ++ (nw ++ news))) := fun q hq => by
        rcases List.mem_cons.mp hq with rfl | hq
        · exact N _ (.head _)
        rcases List.mem_cons.mp hq with rfl | hq
        · exact N _ (.tail _ (hsub _ (hin _ (.head _))))
        rcases List.mem_append.mp hq with hq | hq
        · exact N _ (.tail _ (hsub _ (hin _ (.tail _ (List.mem_append_left _ hq)))))
        rcases List.mem_append.mp hq with hq | hq
        · exact N _ (.tail _ hq)
        · exact N _ (.tail _ (hsub _ (hin _ (.tail _ (List.mem_append_right _ hq)))))
      clear FA NL N
      have hP2 : Pairs (nw ++ news) ys (ws.map fun p => (mainT p.1, p.2)) := Pairs.mono (fun _ h9 => List.mem_append_left _ h9) hP
      clear hP
      rcases ix2 with rfl | ⟨xb, tb, hb01, hbxs, hbov⟩
      · rw [if_neg (by decide)] at hch
        iterate 33 (first | (k_unfold; (try dsimp only)) | walk1 | (dsimp only; walk1))
        with_reducible rename Fr _ _ _ _ => FB
        with_reducible rename News _ _ _ _ => NB
        have NC : News _ _ _ ((D9, W.listOf vs9.toArray k9) :: (tups9 ++ news)) := News.sub NB (fun q hq => mem_drop2 hq)
        clear NB hP2 hsub
        refine LCg.ListComp_U FB (by with_unfolding_all rfl) (by decide) (by rfl) (by decide) (by rfl) ?_
        iterate 1 (first | (k_unfold; (try dsimp only)) | walk1 | (dsimp only; walk1))
        clear hpl hin hout led
        refine with_led NC (fun led NL hin hout => ?_)
        refine LCg.CompSrc.ledger (by rfl) FB NL (hin _ (.tail _ (List.mem_append_right _ hol))) (by rw [List.size_toArray, hos.length]; exact Nat.le_trans hlx (by decide)) ?_
        intro h5
        refine compRest_inv (fun i ys nw => Strs ys ((xs.take i).map mainT) ∧ ∀ q ∈ led, q ∈ nw) ?_ ?_ ov.toArray.size 0 [] _ (Nat.zero_add _) ⟨.nil, fun _ h => h⟩
        · rintro i ys nw v I oI C oC D5 m₂ h tk E' hi ⟨hP, hsub⟩ hv hC hx F N off ne
          obtain ⟨x5, t5, hxs, rfl⟩ := Strs.at hos (by simpa using hv)
          have hok2 := hmx x5 (List.mem_of_getElem? hxs)
          clear FB NC NL
          refine wpAny_opaque fun Q5 hQ5 => ?_
          k_steps
          refine hQ5 _ _ ?_
          clear hQ5 Q5
          with_reducible rename News _ _ _ _ => N6
          with_reducible rename Fr _ _ _ _ => F6
          have e1 : xs.take (i + 1) = xs.take i ++ [x5] := by rw [List.take_add_one, hxs]; rfl
          refine LCg.CompEnd.intro F6 N6 nw (fun q hq => hq) off (.inr ⟨_, hsub _ (hin _ (.tail _ (List.mem_append_right _ hol))), rfl, _, rfl⟩) ⟨?_, hsub⟩
          rw [e1, List.map_append]
          exact hP.snoc
        · rintro ys nw ⟨hP, hsub⟩ D5 h tk F N off
          rw [List.size_toArray, hos.length, List.take_length] at hP
          have N5 : News _ _ h ((D5, W.listOf ys.toArray ys.length) :: (D9, W.listOf vs9.toArray k9) :: (tups9 ++ news)) := fun q hq => by
            rcases List.mem_cons.mp hq with rfl | hq
            · exact N _ (.head _)
            · exact N _ (.tail _ (hsub _ (hin _ hq)))
          clear FB NC NL N hin hout hsub led
          rcases ix3 with rfl | ⟨xb, tb, hb01, hbxs, hbov⟩
          · subst hch
            k_steps
            with_reducible rename _ ∧ AllLt _ _ => l9
            with_reducible rename News h₀ L _ _ => n9
            exact tail_ret (News.sub n9 (fun q hq => mem_fin3 hq)) hs9 (by unfold Picked; rw [if_neg (by decide)]; exact ⟨_, rfl⟩) (fun p9 h9 => allLt_mem l9.2 p9 (List.mem_append_right _ (.tail _ (.tail _ (List.mem_append_right _ h9))))) (allLt_mem hltD9) hlt9 (P := fun v => Q v _) fun v tl hR N' hlt => ret v tl _ _ _ hR (by k_asm) N' hlt (by intro x9; solve_by_elim (maxDepth := 30))
          · obtain ⟨hb0, hb1⟩ := id hb01
            subst hch
            k_steps
            with_reducible rename _ ∧ AllLt _ _ => l9
            with_reducible rename News h₀ L _ _ => n9
            exact tail_ret (News.sub n9 (fun q hq => mem_fin3 hq)) hs9 (by unfold Picked; rw [if_pos hb0]; exact ⟨_, _, hbxs, rfl⟩) (fun p9 h9 => allLt_mem l9.2 p9 (List.mem_append_right _ (.tail _ (.tail _ (List.mem_append_right _ h9))))) (allLt_mem hltD9) hlt9 (P := fun v => Q v _) fun v tl hR N' hlt => ret v tl _ _ _ hR (by k_asm) N' hlt (by intro x9; solve_by_elim (maxDepth := 30))
      · obtain ⟨hb0, hb1⟩ := id hb01
        rw [if_pos hb0] at hch
        subst hch
        k_steps
        with_reducible rename _ ∧ AllLt _ _ => l9
        with_reducible rename News h₀ L _ _ => n9
        exact tail_ret (News.sub n9 (fun q hq => mem_fin2 hq)) hs9 (by unfold Picked; rw [if_pos hb0]; exact ⟨_, _, hbxs, rfl⟩) (fun p9 h9 => allLt_mem l9.2 p9 (List.mem_append_right _ (.tail _ (.tail _ (List.mem_append_right _ (List.mem_append_right _ h9)))))) (allLt_mem hltD9) hlt9 (P := fun v => Q v _) fun v tl hR N' hlt => ret v tl _ _ _ hR (by k_asm) N' hlt (by intro x9; solve_by_elim (maxDepth := 30))
  · obtain ⟨hb0, hb1⟩ := id hb01
    rw [if_pos hb0] at hch
    subst hch
    k_steps
    with_reducible rename Scs _ _ _ => hs9
    with_reducible rename _ ∧ AllLt _ _ => l9
    with_reducible rename AllLt _ _ => l8
    with_reducible rename ∀ q ∈ _, ∀ p ∈ news, _ => l7
    with_reducible rename News h₀ L _ _ => n9
    exact tail_ret n9 hs9 (by unfold Picked; rw [if_pos hb0]; exact ⟨_, _, hbxs, rfl⟩) (fun p9 h9 => allLt_mem l9.2 p9 (List.mem_append_right _ h9)) (allLt_mem l8) l7 (P := fun v => Q v _) fun v tl hR N' hlt => ret v tl _ _ _ hR (by k_asm) N' hlt (by intro x9; solve_by_elim (maxDepth := 30))
end
end Mine
end

section
open PySem PySem.W PyProof.Rows PySem.Calls PySem.Spec
set_option Elab.async false
set_option maxRecDepth 100000
set_option linter.unusedVariables false
namespace Mine
def cutL (vs : List Value) (lo hi : Option Int) : List Value := (slicePick vs.toArray lo hi none).toList
theorem cutL_from (vs : List Value) (a : Nat) : cutL vs (some a) none = vs.drop a := by unfold cutL; rw [slicePick_from']
theorem cutL_upto (vs : List Value) (b : Nat) : cutL vs none (some b) = vs.take b := by unfold cutL; rw [slicePick_upto']
theorem cutL_run (vs : List Value) (a b : Nat) (hb : b ≤ vs.length) (hab : a ≤ b) : cutL vs (some (a : Int)) (some (b : Int)) = (vs.drop a).take (b - a) := by
  unfold cutL
  rw [slicePick_run vs.toArray a b (by simpa using hb) hab]
section
variable {prog : Program} {w : World} {A : Around} {E : Value → Shared → Prop} {s : Shared} {h₀ : Heap} {L : Addr} {m : Str → Option Value}
theorem wpAny_opaque2 {α : Type} {M : Model} {A : Around} {t : Sem α} {Q : α → Shared → Prop} {s : Shared} {E : Value → Shared → Prop} (h : ∀ (Q' : α → Shared → Prop) (E' : Value → Shared → Prop), (∀ v s, Q v s → Q' v s) → wpAny M A t Q' E' s) : wpAny M A t Q E s := h Q E fun _ _ e => e
/-- a slice of a list -/
theorem slice_L {env : Env} {value : PySem.Expr} {lower upper : Option PySem.Expr} {p pos : Pos} {Q : Value → Shared → Prop}
    (h : wpAny (model prog w) A (eval value env) (fun o s₁ => wpAny (model prog w) A (evalPart lower env) (fun vl s₂ => wpAny (model prog w) A (evalPart upper env) (fun vu s₃ =>
      ∃ l vs lo hi led, o = .ref l ∧ Fr h₀ L s₃.heap m ∧ News h₀ L s₃.heap led ∧ s₃.heap.IsList l (List.toArray vs) ∧ vs.length ≤ 1000 ∧ IsPart vl lo ∧ IsPart vu hi ∧
        ∀ D h', Fr h₀ L h' m → News h₀ L h' ((D, W.listOf (cutL vs lo hi).toArray 0) :: led) → (∀ p ∈ led, p.1 < D) → Q (.ref D) { s₃ with heap := h' }) E s₂) E s₁) E s)
    (ht : ∀ o r, letTemporaryGo value o r = pure () := by intro o9 r9; cases o9 <;> with_unfolding_all rfl) :
    wpAny (model prog w) A (eval (.Subscript value (.Slice lower upper none p) pos) env) Q E s := by
  refine wpAny_Subscript_list_slice (wpAny_mono h (fun o s₁ h₁ => wpAny_mono h₁ (fun vl s₂ h₂ => wpAny_mono h₂ (fun vu s₃ h₃ => ?_) fun _ _ e => e) fun _ _ e => e) fun _ _ e => e) ht
  obtain ⟨l, vs, lo, hi, led, rfl, F, N, hl, hsz, pl, pu, hQ⟩ := h₃
  have F1 := F.push { cls := .type "slice", data := .fields #[vl, vu, .none] }
  have N1 := N.push F { cls := .type "slice", data := .fields #[vl, vu, .none] }
  have F2 := F1.push { cls := .type "list", data := .seq (slicePick vs.toArray lo hi none) }
  have N2 := N1.push F1 { cls := .type "list", data := .seq (slicePick vs.toArray lo hi none) }
  refine ⟨l, vs.toArray, lo, hi, rfl, hl, by rw [List.size_toArray]; exact Nat.le_trans hsz (by decide), pl, pu, ?_⟩
  refine hQ _ _ F2 (fun q hq => ?_) (fun p hp => Nat.lt_trans (Heap.lt_size (N p hp).1) (Nat.lt_succ_self _))
  rcases List.mem_cons.mp hq with rfl | hq
  · have e := N2 _ (.head _)
    rw [Heap.size_push] at e
    unfold cutL
    rw [Array.toArray_toList]
    exact e
  · exact N2 q (.tail _ (.tail _ hq))
theorem cutL_le (vs : List Value) (lo hi : Option Int) : (cutL vs lo hi).length ≤ vs.length := by
  have := slicePick_size_le vs.toArray lo hi none
  unfold cutL
  rw [Array.length_toList]
  simpa using this
theorem sliceTail {value slice : PySem.Expr} {l : Addr} {vs : List Value} {vl vu : Value} {lo hi : Option Int} {led : List (Addr × Obj)} {Q : Value → Shared → Prop} (F : Fr h₀ L s.heap m) (N : News h₀ L s.heap led) (hl : s.heap.IsList l vs.toArray) (hsz : vs.length ≤ 1000) (pl : IsPart vl lo) (pu : IsPart vu hi)
    (h : ∀ D h', Fr h₀ L h' m → News h₀ L h' ((D, W.listOf (cutL vs lo hi).toArray 0) :: led) → (∀ p ∈ led, p.1 < D) → Q (.ref D) { s with heap := h' })
    (hs : subscripted slice false (.ref l) (.ref s.heap.objs.size) = operate [.ref s.heap.objs.size, .ref l] (getItem (.ref l) (.ref s.heap.objs.size)) := by with_unfolding_all rfl) :
    wpAny (model prog w) A (subscriptTail value slice (.ref l) (.ref s.heap.objs.size)) Q E { s with heap := s.heap.push { cls := .type "slice", data := .fields #[vl, vu, .none] } } := by
  have F1 := F.push { cls := .type "slice", data := .fields #[vl, vu, .none] }
  have N1 := N.push F { cls := .type "slice", data := .fields #[vl, vu, .none] }
  have F2 := F1.push { cls := .type "list", data := .seq (slicePick vs.toArray lo hi none) }
  have N2 := N1.push F1 { cls := .type "list", data := .seq (slicePick vs.toArray lo hi none) }
  refine tail_any (Heap.IsList.typeIs (s := { s with heap := s.heap.push { cls := .type "slice", data := .fields #[vl, vu, .none] } }) (hl.push _)) list_getitem_lookup (wpAny_getItem_list_slice (hl.push _) (Heap.IsSliceOf.new ..) pl pu .none (by simp) ?_ (by rw [List.size_toArray]; exact Nat.le_trans hsz (by decide))) hs
  refine h _ _ F2 (fun q hq => ?_) (fun p hp => Nat.lt_trans (Heap.lt_size (N p hp).1) (by rw [Heap.size_push]; exact Nat.lt_succ_self _))
  rcases List.mem_cons.mp hq with rfl | hq
  · have e := N2 _ (.head _)
    unfold cutL
    rw [Array.toArray_toList]
    exact e
  · exact N2 q (.tail _ (.tail _ hq))
theorem item_b {value slice : PySem.Expr} {l : Addr} {vs : List Value} {k : Int} {u : Tok} {v : Value} {Q : Value → Shared → Prop} (F : Fr h₀ L s.heap m) (hl : h₀.IsList l vs.toArray) (h0 : 0 ≤ k ∧ k < 2 ^ 60) (hx : vs[k.toNat]? = some v) (h : Q v s)
    (hs : subscripted slice false (.ref l) (.int k u) = operate [.ref l, .int k u] (getItem (.ref l) (.int k u)) := by with_unfolding_all rfl) :
    wpAny (model prog w) A (subscriptTail value slice (.ref l) (.int k u)) Q E s :=
  have hl' : s.heap.IsList l vs.toArray := hl.at fun o e => F.keep l o e
  tail_any hl'.typeIs slot_list_getitem.lookup (wpAny_getItem_list hl' h0.1 (by omega) (by simpa using hx) h) hs
theorem add_L {a b : Addr} {vs ws : List Value} {led : List (Addr × Obj)} {Q : Value → Shared → Prop} (F : Fr h₀ L s.heap m) (N : News h₀ L s.heap led) (ha : s.heap.IsList a vs.toArray) (hb : s.heap.IsList b ws.toArray) (hz : vs.length + ws.length ≤ 1000)
    (h : ∀ D h', Fr h₀ L h' m → News h₀ L h' ((D, W.listOf (vs ++ ws).toArray 0) :: led) → (∀ p ∈ led, p.1 < D) → Q (.ref D) { s with heap := h' }) :
    wpAny (model prog w) A (binaryOp .Add (.ref a) (.ref b)) Q E s := by
  refine add_lists F N ha hb (fun h' F' N' => h _ h' F' N' fun p hp => Heap.lt_size (N p hp).1) (Nat.le_trans hz (by decide))
end
theorem strs_drop {vs : List Value} {xs : List Str} (h : Strs vs xs) : ∀ n, Strs (vs.drop n) (xs.drop n) := by
  induction h with
  | nil => intro n; simp; exact .nil
  | cons h r =>
    intro n
    cases n with
    | zero => exact .cons h
    | succ n => simp only [List.drop_succ_cons]; exact r n
theorem strs_take {vs : List Value} {xs : List Str} (h : Strs vs xs) : ∀ n, Strs (vs.take n) (xs.take n) := by
  induction h with
  | nil => intro n; simp; exact .nil
  | cons h r =>
    intro n
    cases n with
    | zero => exact .nil
    | succ n => simp only [List.take_succ_cons]; exact .cons (r n)
theorem strs_cut {vs : List Value} {xs : List Str} (h : Strs vs xs) (a n : Nat) : Strs ((vs.drop a ++ vs.take a).take n) ((xs.drop a ++ xs.take a).take n) := strs_take ((strs_drop h a).append (strs_take h a)) n
theorem mem_keepO {α : Type} {q a b c d e f g x y z : α} (h : q ∈ [a, b, c, d, e, f, g]) : q ∈ [a, x, y, z, b, c, d, e, f, g] := by simp only [List.mem_cons, List.not_mem_nil, or_false] at h ⊢; grind
theorem mem_keep {α : Type} {q a b c d e f x y z w : α} (h : q ∈ [a, b, c, d, e, f]) : q ∈ [a, x, y, z, w, b, c, d, e, f] := by simp only [List.mem_cons, List.not_mem_nil, or_false] at h ⊢; grind
theorem ints_drop {vs : List Value} {ns : List Int} (h : IntsAre vs ns) : ∀ n, IntsAre (vs.drop n) (ns.drop n) := by
  induction h with
  | nil => intro n; simp; exact .nil
  | cons k t h r => 
    intro n
    cases n with
    | zero => exact .cons k t h
    | succ n => simp only [List.drop_succ_cons]; exact r n
theorem ints_app {vs ws : List Value} {ns ms : List Int} (h : IntsAre vs ns) (k : IntsAre ws ms) : IntsAre (vs ++ ws) (ns ++ ms) := by
  induction h with
  | nil => exact k
  | cons n t h r => exact .cons n t r
theorem ints_one {vs : List Value} {n : Int} {ns : List Int} (h : IntsAre vs (n :: ns)) : ∃ t ws, vs = .int n t :: ws ∧ IntsAre ws ns := by
  cases h with
  | cons n t h => exact ⟨t, _, rfl, h⟩
theorem ints_eight {vs : List Value} {ns : List Int} (h : IntsAre vs ns) (hl : ns.length = 8) : ∃ c0 c1 c2 c3 c4 c5 c6 c7 t0 t1 t2 t3 t4 t5 t6 t7, ns = [c0, c1, c2, c3, c4, c5, c6, c7] ∧ vs = [.int c0 t0, .int c1 t1, .int c2 t2, .int c3 t3, .int c4 t4, .int c5 t5, .int c6 t6, .int c7 t7] := by
  match ns, hl with
  | [c0, c1, c2, c3, c4, c5, c6, c7], _ =>
    obtain ⟨t0, w0, e0, h0⟩ := ints_one h
    subst e0
    obtain ⟨t1, w1, e1, h1⟩ := ints_one h0
    subst e1
    obtain ⟨t2, w2, e2, h2⟩ := ints_one h1
    subst e2
    obtain ⟨t3, w3, e3, h3⟩ := ints_one h2
    subst e3
    obtain ⟨t4, w4, e4, h4⟩ := ints_one h3
    subst e4
    obtain ⟨t5, w5, e5, h5⟩ := ints_one h4
    subst e5
    obtain ⟨t6, w6, e6, h6⟩ := ints_one h5
    subst e6
    obtain ⟨t7, w7, e7, h7⟩ := ints_one h6
    subst e7
    cases h7
    exact ⟨c0, c1, c2, c3, c4, c5, c6, c7, t0, t1, t2, t3, t4, t5, t6, t7, rfl, rfl⟩
theorem cells_ok {ns : List Int} {ys : List Value} {t0 t1 t2 t3 t4 t5 t6 t7 : Tok} (h : IntsAre ys ((ns.take 8).map fun k => k.fmod 100000)) : ∃ cs : List Int, IntsAre (ys ++ [Value.int 2 t0, .int 5 t1, .int 27 t2, .int 8 t3, .int 30 t4, .int 14 t5, .int 3 t6, .int 77 t7].drop ys.length) cs ∧ cs.length = 8 ∧ ∀ c ∈ cs, 0 ≤ c ∧ c < 100000 := by
  have hl := h.length
  have hl8 : ys.length ≤ 8 := by rw [hl, List.length_map, List.length_take]; omega
  refine ⟨_, ints_app h (ints_drop (IntsAre.cons 2 t0 (.cons 5 t1 (.cons 27 t2 (.cons 8 t3 (.cons 30 t4 (.cons 14 t5 (.cons 3 t6 (.cons 77 t7 .nil)))))))) ys.length), ?_, fun c hc => ?_⟩
  · rw [List.length_append, ← hl, List.length_drop]; simp; omega
  · rcases List.mem_append.mp hc with hc | hc
    · obtain ⟨k, _, rfl⟩ := List.mem_map.mp hc
      rw [Int.fmod_eq_emod_of_nonneg k (by decide)]; omega
    · have := List.mem_of_mem_drop hc
      simp only [List.mem_cons, List.not_mem_nil, or_false] at this
      omega
end Mine
end

section
open PySem PySem.W PyProof.Rows PySem.Calls PySem.Spec
set_option Elab.async false
set_option maxRecDepth 100000
set_option linter.unusedVariables false
namespace Mine
def HasBody (w : World) (b : List Stmt) (sc : Scope) : Prop := ∃ oc od name qual params cl dV kV doc pm an cdv ct osl, (hd.heap_39 w.params).lookup 436 = some ⟨oc, od, .func (fnX name qual params b sc cl dV kV doc pm an cdv ct), osl⟩
structure LawB where
  b : List Stmt
  sc : Scope
  ok : ∀ w, HasBody w b sc
def lawB : LawB := by
  refine' ⟨_, _, fun w => ⟨_, _, _, _, _, _, _, _, _, _, _, _, _, _, rfl⟩⟩
/-- where the law's run begins -/
structure LawAt (w : World) (base h : Heap) (L : Addr) (mean : ExcName → Option Value) (mg mb : Str → Option Value) (sl : Addr) (sv : List Value) (ns : List Int) (o1 o2 : Obj) : Prop where
  F : Fr base L h (fun z9 => List.lookup z9 [(Str.ofString "script", .ref sl)])
  N : News base L h [(L + 1 + 1, o2), (L + 1, o1), (172, tabObj #[]), (303, tabObj #[]), (375, tabObj #[])]
  X : (hd.heap_39 w.params).In base
  T : Top topProg looseL mean mg mb base
  B : Below callerA base [] base
  hs : base.IsList sl sv.toArray
  hi : IntsAre sv ns
  hlay : (PyData.list (ns.map PyData.int)).layable0 = true
  hw1 : o1.data = .cell none
  hw2 : o2.data = .cell none
  c1 : CodeHd base 176 172
  c2 : CodeHd base 307 303
  c3 : CodeHd base 377 375
  l0 : 172 < L ∧ 303 < L ∧ 375 < L
/-- how it ends -/
def LawEnd (base : Heap) (L : Addr) (g : Array GenState) (d : Drawn) (os : OsState) (QQ : Flow → Shared → Prop) : Prop := ∀ m' h' g' tk' tb rest, Fr base L h' m' → News base L h' (tb ++ rest) → TabS tb → GOk g g' → QQ (.ret (.bool true)) ⟨h', g', d, tk', os⟩
/-- behind the first three statements -/
structure Law2At (w : World) (base h : Heap) (L : Addr) (mean : ExcName → Option Value) (mg mb : Str → Option Value) (sl D : Addr) (cs : List (Int × Tok)) (kd tn : Int) (tk1 tk2 : Tok) (o1 o2 : Obj) : Prop where
  F : Fr base L h (fun z9 => List.lookup z9 [(Str.ofString "turn", .int tn tk2), (Str.ofString "cells", .ref D), (Str.ofString "script", .ref sl)])
  N : News base L h [(D, W.listOf (cs.map fun p => Value.int p.1 p.2).toArray 0), (L + 1 + 1, o2), (L + 1, o1), (172, tabObj #[]), (303, tabObj #[]), (375, tabObj #[])]
  X : (hd.heap_39 w.params).In base
  T : Top topProg looseL mean mg mb base
  B : Below callerA base [] base
  hw1 : o1.data = .cell (some (.int kd tk1))
  hw2 : o2.data = .cell none
  c1 : CodeHd base 176 172
  c2 : CodeHd base 307 303
  c3 : CodeHd base 377 375
  l0 : 172 < L ∧ 303 < L ∧ 375 < L
  hl : cs.length = 8
  hr : ∀ p ∈ cs, 0 ≤ p.1 ∧ p.1 < 100000
  hk : ∃ p, cs[0]? = some p ∧ kd = p.1.fmod 3 ∧ tn = (p.1.fdiv 3).fmod 4
abbrev LawA (L fa : Addr) (cd : Value) : Around := callerA.deeper (envOfC (Str.ofString "law") lawB.sc L fa cd)
end Mine
end

section
open PySem PySem.W PyProof.Rows PySem.Calls PySem.Spec
set_option Elab.async false
set_option maxRecDepth 100000
set_option maxHeartbeats 4000000
set_option linter.unusedVariables false
namespace Mine
/-- a class that list's own maker serves -/
structure MakesS (M : Model) (h : Heap) (C : Addr) : Prop where
  obj : ∃ oc od cd sl, h.get? C = some ⟨oc, od, .cls cd, sl⟩ ∧ cd.hasDel = false ∧ cd.mro.isEmpty = false
  made : Looks M h (Bind.madeBy (.ref C)) (some "list.__new__")
  base : Looks M h (Bind.staticBase (.ref C)) (.ref C)
  self : Looks M h (isSubtype (.ref C) (.ref C)) true
  top : Looks M h (isSubtype (.ref C) (.type "list")) true
  call : Looks M h (specialOf (.ref C) "__call__") (some (.builtin "type.__call__"))
  typ : Looks M h (isInstance (.ref C) (.type "type")) true
theorem makesS_of {K : Frag} {M : Model} {h : Heap} (X : K.In h) {C : Addr} {oc : Value} {od : Option Addr} {cd : ClassData} {sl : Array (Option Value)} (ho : K.lookup C = some ⟨oc, od, .cls cd, sl⟩) (e2 : cd.hasDel = false) (e3 : (sl.toList[4]?).join = some (.builtin "list.__new__")) (e4 : cd.mro.isEmpty = false)
    (e5 : mroIn K C (.ref C) = some true) (e6 : mroIn K C (.type "list") = some true) (e7 : specialIn K (.ref C) "__call__" = some (some (.builtin "type.__call__"))) (e8 : instIn K (.ref C) (.type "type") = some true) : MakesS M h C := by
  have hc : clsIn K C = some cd := by unfold clsIn; rw [ho]
  have hm : Looks M h (mroOf (.ref C)) cd.mro := (looks_clsIn X hc).andThen .now
  obtain ⟨c, l, hl⟩ : ∃ c l, cd.mro = c :: l := by cases q : cd.mro with | nil => rw [q] at e4; cases e4 | cons c l => exact ⟨c, l, rfl⟩
  have made : Looks M h (Bind.madeBy (.ref C)) (some "list.__new__") := by
    intro A Q E s k q
    unfold Bind.madeBy
    refine wpAny_bind (hm A _ E s k ?_)
    rw [hl, List.forIn_cons]
    refine wpAny_bind (wpAny_bind (wpAny_bind (wpAny_bind (wpAny_loadPart (k _ _ (X _ _ ho)) (wpAny_pure ?_)))))
    dsimp only
    rw [← Array.getElem?_toList, e3]
    exact wpAny_pure (wpAny_pure (wpAny_pure q))
  refine ⟨⟨oc, od, cd, sl, X _ _ ho, e2, e4⟩, made, ?_, looks_mroIn X e5, looks_mroIn X e6, looks_specialIn X e7, looks_instIn X e8⟩
  intro A Q E s k q
  unfold Bind.staticBase
  refine wpAny_bind (hm A _ E s k ?_)
  rw [hl, List.forIn_cons]
  exact wpAny_bind (wpAny_bind (wpAny_bind (made A _ E s k (wpAny_pure (wpAny_pure (wpAny_pure q))))))
abbrev seqInst (C dx : Addr) : Obj := { cls := .ref C, dict := some dx, data := .seq #[] }
theorem ln_split : splitId "list.__new__" = some ("list", "__new__") := by decide +kernel
theorem ln_kind : builtinKind "list.__new__" = some .builtinFn := by decide +kernel
theorem ln_args (C a : Value) : argsOk "list.__new__" ⟨[C, a], []⟩ := by unfold argsOk; kernel_rfl

section
variable {prog : Program} {w : World} {A : Around} {K : Frag} {C : Addr} {R : Result → Shared → Prop} {h : Heap} {g : Array GenState} {d : Drawn} {t : Nat} {os : OsState}
theorem new_seq {a : Value} (Y : MakesS (model prog w) h C)
    (hq : R (.ok (.ret (.ref (h.objs.size + 1)))) ⟨(h.push emptyDict).push (seqInst C h.objs.size), g, d, t, os⟩) :
    codeAny (model prog w) A (.call (.builtin "list.__new__") ⟨[.ref C, a], []⟩) R ⟨h, g, d, t, os⟩ := by
  obtain ⟨⟨oc, od, cd, sl, hC, e2, e4⟩, made, base, self, top, call, typ⟩ := Y
  refine codeAny_call_builtin_code (plainId_quiet PySem.F.plain_list_new _) ?_
  have args := ln_args (.ref C) a
  unfold argsOk at args
  simp only [checkBuiltinCall, ln_kind, ln_split]
  repeat (first | simp only [bne_self_eq_false, Bool.false_eq_true, if_false, Bool.not_true] | lk)
  refine codeAny_builtin_stack PySem.F.entry_list_new rfl fun p st => ?_
  rw [Around.under_plainId PySem.F.plain_list_new _]
  have hown := owner_list_new
  simp only [hown]
  repeat (first | simp only [Bool.false_eq_true, if_false, Bool.not_true] | lk)
  refine nd_load (Heap.get?_push_of_some _ (Heap.get?_push_of_some _ hC)) ?_
  refine wpAny_pure (wpAny_pure ?_)
  rw [e2, if_neg Bool.false_ne_true]
  refine wpAny_pure (wpAny_pure ?_)
  show R _ _
  rw [Heap.size_push]
  exact hq

theorem make_seq {a init : Value} (Y : MakesS (model prog w) h C) (hi : Looks (model prog w) h (typeLookup (.ref C) "__init__") (some init))
    (hb : ∀ self, Looks (model prog w) h (bindSpecial init self) (init, [self]))
    (hq : codeAny (model prog w) (A.under (.builtin "type.__call__" ⟨[.ref C, a], []⟩)) (.call init ⟨[.ref (h.objs.size + 1), a], []⟩) (InitBack (h.objs.size + 1) R) ⟨(h.push emptyDict).push (seqInst C h.objs.size), g, d, t, os⟩) :
    codeAny (model prog w) A (.call (.ref C) ⟨[a], []⟩) R ⟨h, g, d, t, os⟩ := by
  have Y' := Y
  obtain ⟨⟨oc, od, cd, sl, hC, e2, e4⟩, made, base, self, top, call, typ⟩ := Y
  refine codeAny_of_tree ?_
  show wpAny _ _ (callAny (.ref C) _) _ _ _
  refine nd_load hC ?_
  show wpAny _ _ (callAny.viaDunder (.ref C) _) _ _ _
  unfold callAny.viaDunder
  refine wpAny_bind (call.at ?_)
  dsimp only
  rw [tc_bind]
  refine wpAny_bind (wpAny_pure (wpAny_bind (wpAny_pure ?_)))
  refine wpAny_pure (a := Fin.again (.call (.builtin "type.__call__") ⟨[.ref C, a], []⟩)) (And.intro rfl ?_)
  refine codeAny_call_builtin_at (Code.quiet_builtin _ (by decide +kernel)) entry_typeCall (check_slot tc_kind tc_split typ (tc_args _ _ _) ?_)
  unfold Builtin.«type.__call__»
  have hm : Looks (model prog w) h (mroOf (.ref C)) cd.mro := ((Looks.ld (part := none) hC).andThen .now).andThen .now
  repeat (first | simp only [e4, Bool.false_eq_true, if_false] | with_reducible refine wpAny_call ?_ | lk)
  refine new_seq Y' ?_
  have k : ∀ b o, h.get? b = some o → ((h.push emptyDict).push (seqInst C h.objs.size)).get? b = some o := fun b o e => Heap.get?_push_of_some _ (Heap.get?_push_of_some _ e)
  have hx : ((h.push emptyDict).push (seqInst C h.objs.size)).get? (h.objs.size + 1) = some (seqInst C h.objs.size) := by heap_get
  have t1 : Looks (model prog w) ((h.push emptyDict).push (seqInst C h.objs.size)) (typeOf (.ref (h.objs.size + 1))) (.ref C) := (Looks.ld hx).andThen .now
  have s1 := self.keeps k
  have i1 := hi.keeps k
  have b1 := (hb (.ref (h.objs.size + 1))).keeps k
  unfold isInstance callSpecial? specialOf
  repeat (first | with_reducible refine wpAny_call ?_ | lk)
  refine codeAny_mono hq fun r s' z => ?_
  rcases r with e | (v | _ | _ | _) <;> first | exact z | exact z.elim | skip
  obtain ⟨rfl, z⟩ := z
  exact wpAny_pure (wpAny_pure z)
end
section
variable {prog : Program} {w : World} {A : Around} {K : Frag} {C x : Addr} {s : Shared} {h₀ : Heap} {L : Addr} {m : Str → Option Value} {news : List (Addr × Obj)} {E : Value → Shared → Prop} {Q : Value → Shared → Prop}
/-- a class of list's, called with one argument -/
theorem call_seq {a : Value} {fI : Addr} (F : Fr h₀ L s.heap m) (X₀ : K.In h₀) (N : News h₀ L s.heap news) (Y : ∀ h, K.In h → MakesS (model prog w) h C)
    (hi : findIn K (.ref C) "__init__" = some (some (.ref fI))) (hf : typeIn K (.ref fI) = some (.type "function"))
    (h : ∀ x dx h', Fr h₀ L h' m → News h₀ L h' ((x, seqInst C dx) :: (dx, emptyDict) :: news) → (∀ p ∈ news, p.1 < dx) → dx < x →
      codeAny (model prog w) (A.under (.builtin "type.__call__" ⟨[.ref C, a], []⟩)) (.call (.ref fI) ⟨[.ref x, a], []⟩) (InitBack x fun r s' => match r with | .ok (.ret v) => Q v s' | .ok _ => False | .error e => E e s') { s with heap := h' }) :
    wpAny (model prog w) A (call (.ref C) [a]) Q E s := by
  obtain ⟨hh, g, d, t, os⟩ := s
  have X : K.In hh := X₀.keeps F.keep
  refine wpAny_call (make_seq (Y _ X) (looks_findIn X hi) (fun self => bind_fn X self hf) (h _ hh.objs.size _ ((F.push _).push _) ?_ (fun p hp => Heap.lt_size (N p hp).1) (Nat.lt_succ_self _)))
  have := (N.push F emptyDict).push (F.push _) (seqInst C hh.objs.size)
  rwa [Heap.size_push] at this
end
end Mine
end

section
open PySem PySem.W PyProof.Rows PySem.Calls PySem.Spec
set_option Elab.async false
set_option maxRecDepth 100000
set_option maxHeartbeats 4000000
set_option linter.unusedVariables false
namespace Mine
theorem slot_wd_get : Slot "wrapper_descriptor" "__get__" "wrapper_descriptor.__get__" := .of (owner := "wrapper_descriptor") (n := "__get__") (by rw [typeLookup_type, builtinLookup_eq_fast]; kernel_rfl) (by decide +kernel) (by decide +kernel) (by decide +kernel)
  (by first | exact .inl (by decide +kernel) | exact .inr (by decide +kernel)) (by rw [isSubtype_type]; kernel_rfl)
theorem entry_wd_get : entryFor table "wrapper_descriptor.__get__" = some Builtin.«wrapper_descriptor.__get__» := entryFor_of_tree (by kernel_rfl)
theorem args_wd_get (a b c : Value) : argsOk "wrapper_descriptor.__get__" ⟨[a, b, c], []⟩ := by unfold argsOk; kernel_rfl
abbrev wrapObj (x : Addr) : Obj := { cls := .type "method-wrapper", data := .fields #[.builtin "list.__init__", .ref x] }
theorem type_li : typeOf (.builtin "list.__init__") = pure (.type "wrapper_descriptor") := by
  show builtinType "list.__init__" = _
  rw [builtinType_eq_fast]; kernel_rfl
section
variable {prog : Program} {w : World} {M : Model} {A : Around} {E : Value → Shared → Prop} {h : Heap} {g : Array GenState} {d : Drawn} {t : Nat} {os : OsState}
theorem own_li : (".".intercalate (("list.__init__".cutAt '.').dropLast)) = "list" := by decide +kernel
theorem run_wd_get {x C : Addr} {ox : Obj} {st : Value} {Q : Fin → Shared → Prop} (hx : h.get? x = some ox) (hc : ox.cls = .ref C) (hi : Looks (model prog w) h (isSubtype (.ref C) (.type "list")) true)
    (hq : Q (.done (.ret (.ref h.objs.size))) ⟨h.push (wrapObj x), g, d, t, os⟩) :
    wpAny (model prog w) A (Builtin.«wrapper_descriptor.__get__» ⟨[.builtin "list.__init__", .ref x, st], []⟩) Q E ⟨h, g, d, t, os⟩ := by
  unfold Builtin.«wrapper_descriptor.__get__»
  repeat (first
    | wp_step
    | dsimp only)
  rw [hc, own_li]
  refine Looks.at hi ?_
  rw [if_neg (by decide)]
  refine wpAny_pure ?_
  exact wpAny_bind (wpAny_newObj_type (wpAny_pure hq) (by size_fits))
theorem call_wd {x C : Addr} {ox : Obj} {st : Value} {Q : Value → Shared → Prop} (hx : h.get? x = some ox) (hc : ox.cls = .ref C) (hi : Looks (model prog w) h (isSubtype (.ref C) (.type "list")) true)
    (hq : Q (.ref h.objs.size) ⟨h.push (wrapObj x), g, d, t, os⟩) :
    wpAny (model prog w) A (call (.builtin "wrapper_descriptor.__get__") [.builtin "list.__init__", .ref x, st]) Q E ⟨h, g, d, t, os⟩ :=
  wpAny_call_entry slot_wd_get (T := "wrapper_descriptor") (by first | exact type_li | rfl) entry_wd_get (run_wd_get hx hc hi ⟨_, rfl, hq⟩) (args_wd_get _ _ _)
theorem super_ga_slot {so D x C : Addr} {ox : Obj} {l₀ l : List Value} {K : Frag} {name : Str} {tk : Tok} {Q : Fin → Shared → Prop}
    (hso : h.get? so = some { cls := .type "super", dict := none, data := .fields #[.ref D, .ref x, .ref C], slots := #[] }) (hno : Looks (model prog w) h (opaqueClassAbove (.ref C)) none)
    (hC : Looks (model prog w) h (mroOf (.ref C)) l₀) (hl : (l₀.dropWhile (· != .ref D)).drop 1 = l) (X : K.In h)
    (hf : alongIn K name l = some (some (.builtin "list.__init__"))) (hx : h.get? x = some ox) (hc : ox.cls = .ref C) (hi : Looks (model prog w) h (isSubtype (.ref C) (.type "list")) true) (hxC : x ≠ C) (hn : (name == ("__class__" : Str)) = false)
    (hq : Q (.done (.ret (.ref h.objs.size))) ⟨h.push (wrapObj x), g, d, t, os⟩) :
    wpAny (model prog w) A (Builtin.«super.__getattribute__» ⟨[.ref so, .str name tk], []⟩) Q E ⟨h, g, d, t, os⟩ := by
  have hlk := slot_wd_get.lookup
  have hne : (Value.ref x == Value.ref C) = false := by simp [hxC]
  have hdt : ({ cls := .type "super", dict := none, data := .fields #[.ref D, .ref x, .ref C], slots := #[] } : Obj).data = .fields #[.ref D, .ref x, .ref C] := rfl
  have f0 : (#[.ref D, .ref x, .ref C] : Array Value)[0]? = some (.ref D) := rfl
  have f1 : (#[.ref D, .ref x, .ref C] : Array Value)[1]? = some (.ref x) := rfl
  have f2 : (#[.ref D, .ref x, .ref C] : Array Value)[2]? = some (.ref C) := rfl
  unfold Builtin.«super.__getattribute__»
  repeat (first
    | (with_reducible refine wpAny_field hso hdt f0 ?_) | (with_reducible refine wpAny_field hso hdt f1 ?_) | (with_reducible refine wpAny_field hso hdt f2 ?_)
    | (with_reducible refine ks_wpAny_notOpaque hno ?_)
    | (with_reducible refine Looks.at hC ?_; rw [hl])
    | (refine ks_forIn_along X (fun _ _ => rfl) rfl ?_ hf)
    | (with_reducible refine wpAny_of_eq type_li ?_)
    | (with_reducible refine call_wd hx hc hi ?_)
    | (with_reducible refine ⟨_, rfl, ?_⟩)
    | (simp only [hn, hne, Bool.or_false, Bool.false_eq_true, if_false])
    | wp_step
    | dsimp only)
  all_goals exact hq
theorem getMethod_super_slot {so D x C : Addr} {ox : Obj} {l₀ l : List Value} {K : Frag} {name : Str} {pl : Sem Bool} {Q : Value × List Value → Shared → Prop}
    (hso : h.get? so = some { cls := .type "super", dict := none, data := .fields #[.ref D, .ref x, .ref C], slots := #[] }) (hno : Looks (model prog w) h (opaqueClassAbove (.ref C)) none)
    (hC : Looks (model prog w) h (mroOf (.ref C)) l₀) (hl : (l₀.dropWhile (· != .ref D)).drop 1 = l) (X : K.In h)
    (hf : alongIn K name l = some (some (.builtin "list.__init__"))) (hx : h.get? x = some ox) (hc : ox.cls = .ref C) (hi : Looks (model prog w) h (isSubtype (.ref C) (.type "list")) true) (hxC : x ≠ C) (hn : (name == ("__class__" : Str)) = false)
    (hq : Q (.ref h.objs.size, []) ⟨h.push (wrapObj x), g, d, t + 1, os⟩) :
    wpAny (model prog w) A (getMethod (.ref so) name pl) Q E ⟨h, g, d, t, os⟩ := by
  have hlk := PySem.F.ks_slot_super_ga.lookup
  have hcan := PySem.F.ks_canon_super_ga
  have hT : ∀ t', (⟨h, g, d, t', os⟩ : Shared).TypeIs (.ref so) "super" := fun _ => ⟨_, hso, rfl⟩
  unfold getMethod
  refine wpAny_bind (wpAny_specialOf (hT _) hlk ?_)
  show wpAny _ _ (if (Manifest.canonical "super.__getattribute__" != "object.__getattribute__") = true then _ else _) _ _ _
  rw [if_pos hcan]
  unfold getAttr getAttrBy
  refine wpAny_bind (wpAny_bind (wpAny_mkText (wpAny_holding (wpAny_bind (wpAny_typeOf (hT _) (wpAny_bind (wpAny_of_eq hlk ?_)))))))
  show wpAny _ _ (getAttrByItsOwn (.ref so) (.str name t) (.type "super") (.builtin "super.__getattribute__") true false) _ _ _
  unfold getAttrByItsOwn hookBefore callGetattribute boundAndCalled
  refine wpAny_bind (wpAny_of_eq (show (if onTheHeap (.type "super") then typeLookup (.type "super") "__getattr__" else pure none) = pure none from rfl) ?_)
  refine wpAny_bind (wpAny_attempt (wpAny_holding ?_))
  show wpAny _ _ (bindSpecial (.builtin "super.__getattribute__") (.ref so) >>= _) _ _ _
  refine wpAny_bind (wpAny_of_eq (PySem.F.ks_slot_super_ga.bind _) ?_)
  refine wpAny_mono (Q := fun v s' => v = .ref h.objs.size ∧ s' = ⟨h.push (wrapObj x), g, d, t + 1, os⟩) (E := fun _ _ => False)
    (wpAny_call_entry PySem.F.ks_slot_super_ga (hT _) PySem.F.ks_entry_super_ga (super_ga_slot hso hno hC hl X hf hx hc hi hxC hn ⟨_, rfl, rfl, rfl⟩) (PySem.F.ks_gaArgs_super _ _)) (fun v s' hv => ?_) fun _ _ z => z.elim
  obtain ⟨rfl, rfl⟩ := hv
  exact wpAny_pure (wpAny_pure hq)
end
section
variable {prog : Program} {w : World} {A : Around} {E : Value → Shared → Prop} {s : Shared} {h₀ : Heap} {L : Addr} {m mg mb : Str → Option Value} {news : List (Addr × Obj)} {K : Frag} {p : Program} {loose : List Str} {mean : ExcName → Option Value} {x C D so : Addr} {ox : Obj} {odx : Option Obj}
/-- super().__init__ that list serves -/
theorem super_init {pl : Sem Bool} {cd : ClassData} {Q : Value × List Value → Shared → Prop} (F : Fr h₀ L s.heap m) (X₀ : K.In h₀) (N : News h₀ L s.heap news) (hso : (so, ks_superObj D x C) ∈ news) (I : InstAt s.heap x ox C odx) (ho : nsIn K cStatics "thirdparty.any" = some none)
    (hc : clsIn K C = some cd) (hm : alongIn K "__init__" ((cd.mro.dropWhile (· != .ref D)).drop 1) = some (some (.builtin "list.__init__"))) (hmr : mroIn K C (.type "list") = some true)
    (h : ∀ q h', Fr h₀ L h' m → News h₀ L h' ((q, wrapObj x) :: news) → (∀ p ∈ news, p.1 < q) → Q (.ref q, []) { s with heap := h', toks := s.toks + 1 }) : wpAny (model prog w) A (getMethod (.ref so) "__init__" pl) Q E s := by
  have X : K.In s.heap := X₀.keeps F.keep
  obtain ⟨hh, g, d, t, os⟩ := s
  refine getMethod_super_slot (N _ hso).1 (looks_opaque X ho) (l₀ := cd.mro) ?_ rfl X hm I.at_ I.cls (looks_mroIn X hmr) (ks_ne X I hc) (by decide) ?_
  · exact fun A Q E s k q => wpAny_bind ((looks_clsIn X hc) A _ E s k (wpAny_pure q))
  · obtain ⟨F', N', l'⟩ := ks_newsPush (s := ⟨hh, g, d, t, os⟩) (o := wrapObj x) F N rfl (Heap.get?_push_at rfl rfl) (fun b o e => Heap.get?_push_of_some _ e)
    exact h _ _ F' N' l'
def WrapAt (x q : Addr) (h : Heap) : Prop := h.get? q = some (wrapObj x)
theorem callWith_wrapF {pos : Pos} {u : Addr} {first : List Value} {args : List (Bool × Sem Value)} {Q : Value → Shared → Prop} (hplain : args.any (·.1) = false)
    (h : wpAny (model prog w) A (evalArgs (.ref u) true args []) (fun y s₁ => WrapAt x u s₁.heap ∧ wpAny (model prog w) A (call (.ref u) (first ++ y.pos) y.kw) Q E s₁) E s) : wpAny (model prog w) A (callWith pos (.ref u) first args []) Q E s := by
  unfold callWith
  refine wpAny_bind (wpAny_holding (wpAny_mono h (fun y s₁ h₁ => wpAny_bind (wpAny_standAt ?_)) fun _ _ y => y))
  obtain ⟨ho, hcall⟩ := h₁
  simp only [hplain, List.any_nil, Bool.or_false]
  refine wpAny_bind (m := keeperOf (.ref u)) ?_
  unfold keeperOf
  refine wpAny_bind (wpAny_load ho ?_)
  simp only [wrapObj, show (Value.type "method-wrapper" != Value.type "method") = true by decide, show (Value.type "method-wrapper" == Value.type "builtin_function_or_method" || Value.type "method-wrapper" == Value.type "method-wrapper") = true by decide, if_true]
  refine wpAny_pure ?_
  exact wpAny_bind (wpAny_mono hcall (fun r s₂ hr => wpAny_bind (wpAny_holding (wpAny_point (wpAny_pure hr)))) fun _ _ x => x)
theorem callWith_wrap {pos : Pos} {u : Addr} {first : List Value} {env : Env} {e : Expr} {rest : List Expr} {Q : Value → Shared → Prop} (_hm : (u, wrapObj x) ∈ news)
    (h : wpAny (model prog w) A (spliced (backTo pos (starEach (e :: rest) env))) (fun vs s₁ => WrapAt x u s₁.heap ∧ wpAny (model prog w) A (call (.ref u) (first ++ vs)) Q E s₁) E s)
    (he : starEach (e :: rest) env = (false, eval e env) :: starEach rest env := by rfl) (hplain : (backTo pos (starEach rest env)).any (·.1) = false := by rfl) :
    wpAny (model prog w) A (callWith pos (.ref u) first (backTo pos (starEach (e :: rest) env)) []) Q E s := by
  rw [he] at h ⊢
  refine callWith_wrapF (x := x) (by show (false || (backTo pos (starEach rest env)).any (·.1)) = false; rw [hplain]; rfl) ?_
  exact evalArgs_plain h
theorem wrapAt_of {h' : Heap} {q : Addr} (N : News h₀ L h' news) (hm : (q, wrapObj x) ∈ news) : WrapAt x q h' := N.get hm
theorem check_li (x l : Addr) : checkBoundCall "list.__init__" ⟨[.ref x, .ref l], []⟩ = pure () := by first | kernel_rfl | rfl
theorem quiet_li (args : Args) : (Code.builtin "list.__init__" args).quiet = true := Code.quiet_builtin _ (by decide +kernel)
/-- list.__init__ on an empty object of list's kind -/
theorem run_li {S it dx : Addr} {o : Obj} {its : Array Value} {n c : Nat} {P : PySem.Fin → Shared → Prop} (hne : it ≠ S)
    (hS : s.heap.get? S = some (⟨.ref C, some dx, .seq #[] c, #[]⟩ : Obj)) (ho : s.heap.get? it = some o) (hc : o.cls = .type "list") (hd : o.data = .seq its n) (hsz : its.size ≤ sizeLine)
    (hR : ∀ h' c', Heap.SameBut S s.heap h' → h'.get? S = some (⟨.ref C, some dx, .seq its c', #[]⟩ : Obj) → P (.done (.ret .none)) { s with heap := h' }) :
    wpAny (model prog w) A (Builtin.«list.__init__» ⟨[.ref S, .ref it], []⟩) P E s := by
  show wpAny _ A (do let old ← Builtin.List.listItems (.ref S); Builtin.List.listUpdate (.ref S) (fun _ => #[]); letGo old.toList.reverse; Builtin.List.listExtendWith (.ref S) (.ref it) .none) _ _ s
  refine wpAny_bind ?_
  unfold Builtin.List.listItems
  refine wpAny_bind (wpAny_seqItems hS rfl (wpAny_pure ?_))
  show wpAny _ A (updateSeq S (fun _ => #[]) >>= fun _ => letGo (#[] : Array Value).toList.reverse >>= fun _ => Builtin.List.listExtendWith (.ref S) (.ref it) .none) _ _ s
  refine wpAny_bind (wpAny_updateSeq hS rfl ?_)
  have hS₂ := Heap.get?_update_self (Obj.mapSeq (fun _ => (#[] : Array Value))) hS rfl
  have ho₂ : (s.heap.update S (Obj.mapSeq (fun _ => (#[] : Array Value)))).get? it = some o := ((Heap.SameBut.update ..).2 it hne).trans ho
  refine wpAny_bind (wpAny_letGo ?_)
  unfold Builtin.List.listExtendWith
  refine wpAny_bind (wpAny_typeOf ⟨o, ho₂, hc⟩ ?_)
  have h1 : (Builtin.List.listSameRef (.ref S) (.ref it) || Value.type "list" == Value.type "list" || Value.type "list" == Value.type "tuple") = true := by simp
  simp only [h1, if_true]
  refine wpAny_bind ?_
  unfold Builtin.List.listItems
  refine wpAny_bind (wpAny_seqItems ho₂ hd (wpAny_pure ?_))
  refine wpAny_bind ?_
  refine wpAny_bind (wpAny_seqItems hS₂ rfl (wpAny_pure ?_))
  show wpAny _ A (updateSeq S (· ++ its) >>= fun _ => ret .none) _ _ _
  refine wpAny_bind (wpAny_updateSeq hS₂ rfl ?_)
  have hS₃ := Heap.get?_update_self (Obj.mapSeq (· ++ its)) hS₂ rfl
  obtain ⟨c', hc'⟩ : ∃ c', ((s.heap.update S (Obj.mapSeq (fun _ => (#[] : Array Value)))).update S (Obj.mapSeq (· ++ its))).get? S = some (⟨.ref C, some dx, .seq its c', #[]⟩ : Obj) := by
    simp [Obj.mapSeq] at hS₃
    exact ⟨_, hS₃⟩
  exact wpAny_pure (hR _ c' ((Heap.SameBut.update ..).trans (Heap.SameBut.update ..)) hc')
theorem if_so' {α : Type} {M : Model} {b : Bool} {t e : Sem α} {Q : α → Shared → Prop} (hb : b = true) (h : wpAny M A t Q E s) : wpAny M A (if b = true then t else e) Q E s := by rw [if_pos hb]; exact h
theorem call_wrap {S it dx q : Addr} {vs : List Value} {c : Nat} {gg : Obj → List (Addr × Obj)} {Q : Value → Shared → Prop} (F : Fr h₀ L s.heap m) (N : News h₀ L s.heap news) (hq : (q, wrapObj S) ∈ news)
    (hl : s.heap.IsList it vs.toArray) (U : UpdF S (⟨.ref C, some dx, .seq #[] c, #[]⟩ : Obj) news gg) (hsz : vs.length ≤ 1000)
    (h : ∀ h' c', Fr h₀ L h' m → News h₀ L h' (gg (⟨.ref C, some dx, .seq vs.toArray c', #[]⟩ : Obj)) → Q .none { s with heap := h' }) : wpAny (model prog w) A (call (.ref q) [.ref it]) Q E s := by
  obtain ⟨own, rest, rfl, hg, h1, h2⟩ := U.split
  have hmem := N (S, (⟨.ref C, some dx, .seq #[] c, #[]⟩ : Obj)) (List.mem_append_right _ (.head _))
  obtain ⟨o, ho, hc, n, hd⟩ := hl
  have hne : it ≠ S := fun e => by
    rw [e, hmem.1] at ho
    have := congrArg Obj.cls (Option.some.inj ho)
    rw [hc] at this
    cases this
  refine wpAny_call (codeAny_of_tree ?_)
  show wpAny _ A.in1 (callAny (.ref q) ⟨[.ref it], []⟩) _ _ s
  simp only [callAny]
  refine wpAny_bind (wpAny_load (N _ hq).1 ?_)
  simp only [wrapObj, show (Value.type "method-wrapper" == Value.type "method" || Value.type "method-wrapper" == Value.type "builtin_function_or_method" || Value.type "method-wrapper" == Value.type "method-wrapper") = true by decide, if_true]
  refine if_so' (by decide) ?_
  refine wpAny_bind (wpAny_of_eq (a := ()) (check_li _ _) ?_)
  refine wpAny_bind (wpAny_pure (wpAny_pure ?_))
  refine ⟨quiet_li _, codeAny_builtin PySem.F.entry_list_init (run_li hne hmem.1 ho hc hd (by rw [List.size_toArray, sizeLine_eq]; omega) fun h' c' hs ho' => ?_)⟩
  refine h h' c' ⟨F.ns.sameBut hs (Ne.symm hmem.2.1), fun b ob e => (hs.2 b (fun q => ?_)).trans (F.keep b ob e), F.above⟩ (hg _ ▸ N.setAt h1 h2 hs ho')
  rw [q, hmem.2.2] at e; cases e
end
section
variable {prog : Program} {w : World} {A : Around} {E : Value → Shared → Prop} {s : Shared} {h₀ : Heap} {L : Addr} {m mg mb : Str → Option Value} {news : List (Addr × Obj)} {K : Frag} {p : Program} {loose : List Str} {mean : ExcName → Option Value} {x C D f cc cda c : Addr} {ox : Obj} {odx : Option Obj}
/-- super() in a frame with cells; self is a cell of it, or a name of it -/
theorem super_node {body : List Stmt} {q : Str} {scope : Scope} {p0 p1 : Pos} {attr : Str} {whole : Sem Value} {fd : FuncData} {ar : Arg} {vs : Array Value} {file : Str} {tf : Tok} {oc ccl cl : Value} {od cdd cld : Option Addr} {osl ccs csl : Array (Option Value)} {cdD : ClassData} {cells : List (Str × Addr)} {Q : Value → Shared → Prop}
    (F : Fr h₀ L s.heap m) (X₀ : K.In h₀) (N : News h₀ L s.heap news) (T : Top p loose mean mg mb h₀)
    (hf : K.lookup f = some ⟨oc, od, .func fd, osl⟩) (hp : (fd.params.posonlyargs ++ fd.params.args).head? = some ar)
    (hv : (scope.names.lookup ar.arg = some .local ∧ m ar.arg = some (.ref x)) ∨ (scope.names.lookup ar.arg = some .cell ∧ ∃ c o, cells.lookup ar.arg = some c ∧ (c, o) ∈ news ∧ o.data = .cell (some (.ref x)))) (I : InstAt s.heap x ox C odx)
    (hcode : K.lookup cda = some ⟨ccl, cdd, .fields vs, ccs⟩) (hvs : vs[2]? = some (.str file tf)) (hfile : ((prog.main.file : Str) == file) = true)
    (hcc : cells.lookup ("__class__" : Str) = some cc) (hcell : K.lookup cc = some ⟨cl, cld, .cell (some (.ref D)), csl⟩) (hD : clsIn K D = some cdD) (hsub : mroIn K C (.ref D) = some true) (hsuper : nsIn K mainGlobals "super" = some none)
    (hat : (attr == ("__class__" : Str)) = false) (hks : scope.names.lookup ("super" : Str) = some .globalImplicit) (hkc : scope.names.lookup ("__class__" : Str) = some .free) (hk : scope.kind = .function)
    (htop : (prog.main.scope.names.lookup ("super" : Str)).isSome = false) (hboot : bootBuiltins "super" = some (.type "super"))
    (h : ∀ so h', Fr h₀ L h' m → News h₀ L h' ((so, ks_superObj D x C) :: news) → (∀ p ∈ news, p.1 < so) → Q (.ref so) { s with heap := h' }) :
    PySem.wpAt (model prog w) A (.func body (envX q scope L f (.ref cda) cells)) (attributeBase (.Call (.Name "super" p0) [] [] p1) attr (envX q scope L f (.ref cda) cells) whole) Q E s := by
  have X : K.In s.heap := X₀.keeps F.keep
  obtain ⟨hh, g, d, t, os⟩ := s
  obtain ⟨oD, hD1, hD2⟩ : ∃ oD, hh.get? D = some oD ∧ oD.data = .cls cdD := by
    unfold clsIn at hD
    split at hD
    · rename_i c d cd' sl ho
      cases hD
      exact ⟨_, X _ _ ho, rfl⟩
    · cases hD
  refine ks_wpAt_super_base (env := envX q scope L f (.ref cda) cells) hks hkc hat rfl (X _ _ hf) rfl hp rfl (X _ _ hcode) rfl hvs hfile htop ?_
  refine ks_loadName_global hk hks (loadGlobal_builtin (env := envX q scope L f (.ref cda) cells) (T.g.keeps F.keep) (mg_none_of X₀ T.g hsuper) (T.b.keeps F.keep) ((T.builtins _ (by decide +kernel)).trans hboot) ⟨rfl, ?_⟩)
  refine wpAny_loadName_free hk hkc hcc ⟨_, X _ _ hcell, rfl⟩ ?_
  have rest : wpAny (model prog w) A (isType (.ref D)) (fun b s₄ => b = true ∧ wpAny (model prog w) A (call (.type "super") [.ref D, .ref x]) Q E s₄) E ⟨hh, g, d, t, os⟩ := by
    refine ks_wpAny_isType_cls hD1 hD2 ⟨rfl, ?_⟩
    refine ks_wpAny_call_super hD1 hD2 I.at_ I.cls (fun c e => ?_) (looks_mroIn X hsub) (fun h' e k => ?_)
    · have := I.no
      unfold notCls at this
      rw [e] at this
      exact Bool.noConfusion this
    · obtain ⟨F', N', l'⟩ := ks_newsPush (s := ⟨hh, g, d, t, os⟩) F N rfl e k
      exact h _ _ F' N' l'
  rcases hv with ⟨hka, hv⟩ | ⟨hka, c, o, hc, hm, hd⟩
  · exact wpAny_loadName_local hk hka F.ns hv rest
  · exact wpAny_loadName_cell hk hka hc ⟨o, N.get hm, hd⟩ rest
end
end Mine
end

section
open PySem PySem.W PyProof.Rows PySem.Calls PySem.Spec Builtin Builtin.ObjectAttr Builtin.Getset_descriptor
set_option Elab.async false
set_option maxRecDepth 100000
set_option maxHeartbeats 4000000
set_option linter.unusedVariables false
namespace Mine
def passList : List Value → Bool
  | [.type a, .type b] => a == "list" && b == "object"
  | .ref _ :: r => passList r
  | _ => false
theorem pass_lo (self : Value) : refuseLoop self "__setattr__" [.type "list", .type "object"] = pure () := by kernel_rfl
theorem refuse_pass (self : Value) : ∀ {l : List Value}, passList l = true → refuseLoop self "__setattr__" l = pure ()
  | [.type a, .type b], e => by
    simp only [passList, Bool.and_eq_true, beq_iff_eq] at e
    rw [e.1, e.2]; exact pass_lo self
  | .ref c :: r, e => by rw [refuseLoop_ref]; exact refuse_pass self (by cases r <;> first | exact e | cases e)
section
variable {prog : Program} {w : World} {A : Around} {K : Frag} {C x : Addr} {s : Shared} {h₀ : Heap} {L : Addr} {m : Str → Option Value} {news : List (Addr × Obj)} {R : Result → Shared → Prop}
theorem osa_seq {ox od od' : Obj} {dx : Addr} {name : Str} {tk : Tok} {v : Value} {pre post : List (Addr × Obj)} {es : List DictEntry} {n : Nat} {cd : ClassData} (F : Fr h₀ L s.heap m) (N : News h₀ L s.heap (pre ++ (dx, od) :: post)) (X : K.In s.heap)
    (I : InstAt s.heap x ox C (some od)) (hd : ox.dict = some dx) (hc : clsIn K C = some cd) (hp : passList cd.mro = true) (hto : mroIn K C (.type "object") = some true) (ht : takerIn K C name = some none) (hd' : cd.hasDict = true)
    (hl : (lookIn name od).isSome = true) (h1 : ∀ p ∈ pre, p.1 ≠ dx) (h2 : ∀ p ∈ post, p.1 ≠ dx)
    (e : Obj.putName name (PyData.keyHash w.params name) (.str name s.toks) v od = od') (e' : od'.data = .dict es.toArray n) (hz : es.length ≤ 1000)
    (h : ∀ h', Fr h₀ L h' m → News h₀ L h' (pre ++ (dx, od') :: post) → R (.ok (.ret .none)) { s with heap := h', toks := s.toks + 1 }) :
    codeAny (model prog w) A (.call (.builtin "object.__setattr__") ⟨[.ref x, .str name tk, v], []⟩) R s := by
  have SF := PySem.F.store_object
  have sub : Looks (model prog w) s.heap (isInstance (.ref x) (.type "object")) true := I.type.andThen (looks_mroIn X hto)
  refine codeAny_call_builtin SF.slot.plain SF.entry (@check_slot (model prog w) _ _ s "object.__setattr__" "object" "__setattr__" (.ref x) [.str name tk, v] [] _ SF.kind SF.split sub (SF.args (.ref x) (.str name tk) v) ?_)
  obtain ⟨attr, ha, hr⟩ := Option.bind_eq_some_iff.mp ht
  have hm : Looks (model prog w) s.heap (mroOf (.ref C)) cd.mro := (looks_clsIn X hc).andThen .now
  have L3 : Looks (model prog w) s.heap (storeTaker? attr) none := by
    cases attr with
    | none => exact .now
    | some a =>
      obtain ⟨b, hb, hbb⟩ := Option.map_eq_some_iff.mp hr
      refine (looks_takesIn X hb).andThen ?_
      cases b with
      | true => cases hbb
      | false => exact .now
  rw [osa_eq, refuse_eq]
  refine wpAny_bind (wpAny_bind (I.type.here (wpAny_bind (hm.here ?_))))
  rw [refuse_pass _ hp]
  refine wpAny_pure (wpAny_bind (I.type.here (wpAny_bind ((looks_findIn X ha).here (wpAny_bind (L3.here ?_))))))
  dsimp only
  obtain ⟨U1, U2⟩ := news_upd (f := Obj.putName name (PyData.keyHash w.params name) (.str name s.toks) v) F N h1 h2 e (by obtain ⟨_, _, dd, _⟩ := od'; cases e'; rfl)
  have D := (N (dx, od) (by simp)).1
  have D' := (U2 (dx, od') (by simp)).1
  obtain ⟨hx, hcl, hn, -⟩ := I
  obtain ⟨oc, odi, oda, osl⟩ := ox
  dsimp only at hcl hd
  subst hcl hd
  refine wpAny_bind (wpAny_pure (wpAny_bind (wpAny_bind (wpAny_loadPart hx (wpAny_bind ((looks_clsIn X hc).here ?_))))))
  rw [hd']
  refine wpAny_pure (a := some dx) (wpAny_bind (wpAny_pure (wpAny_bind ?_)))
  unfold nsSet
  refine wpAny_bind (wpAny_bind (wpAny_askSetting (wpAny_pure (wpAny_bind (wpAny_mkText (wpAny_bind (wpAny_loadPart D ?_)))))))
  unfold lookIn at hl
  split at hl
  · rename_i es₀ n₀ q
    rw [q]
    dsimp only
    have c : (!es₀.any (·.key.isStr name) && es₀.any (·.refKey)) = false := by
      rw [← Array.any_toList, ← Array.any_toList]
      split at hl
      · rename_i en he
        rw [List.any_eq_true.mpr ⟨en, List.mem_of_find?_eq_some he, List.find?_some he⟩]; rfl
      · split at hl
        · cases hl
        · rename_i z; rw [Bool.not_eq_true] at z; rw [z, Bool.and_false]
    rw [aRefKeyMayBeTheName_at, c]
    refine wpAny_updatePart D ?_
    refine wpAny_bind (wpAny_lookBehind D' (by rw [e']; exact pastItsLine_dict (by rw [List.size_toArray, sizeLine_eq]; omega)) ?_)
    exact wpAny_pure (h _ U1 U2)
  · cases hl
theorem set_seq {dx : Addr} {ox : Obj} {name : Str} {v : Value} {cd : ClassData} {gg : Obj → List (Addr × Obj)} {E : Value → Shared → Prop} {Q : Unit → Shared → Prop} (F : Fr h₀ L s.heap m) (X₀ : K.In h₀) (N : News h₀ L s.heap news) (I : InstAt s.heap x ox C (some (dictOf [] 0))) (hd : ox.dict = some dx)
    (hs : findIn K (.ref C) "__setattr__" = some (some (.builtin "object.__setattr__"))) (hc : clsIn K C = some cd) (hp : passList cd.mro = true) (hto : mroIn K C (.type "object") = some true) (ht : takerIn K C name = some none) (hd' : cd.hasDict = true)
    (U : UpdF dx (dictOf [] 0) news gg)
    (h : ∀ h' hh tt, Fr h₀ L h' m → News h₀ L h' (gg (dictOf [⟨hh, .str name tt, v⟩] 1)) → Q () { s with heap := h', toks := s.toks + 2 }) :
    wpAny (model prog w) A (setAttr (.ref x) name v) Q E s := by
  obtain ⟨pre, post, rfl, hg, a, b⟩ := U.split
  exact set_plain (X₀.keeps F.keep) I hs (osa_seq (s := { s with toks := s.toks + 1 }) (es := [⟨PyData.keyHash w.params name, .str name (s.toks + 1), v⟩]) (n := 1) F N (X₀.keeps F.keep) I hd hc hp hto ht hd' (by simp [lookIn, dictOf]) a b (by rw [putName_dict]; rfl) rfl (by simp) fun h' F' N' => h h' _ _ F' (hg _ ▸ N'))
end
end Mine
end

section
open PySem PySem.W PyProof.Rows PySem.Calls PySem.Spec
set_option Elab.async false
set_option maxRecDepth 100000
set_option linter.unusedVariables false
namespace Mine
abbrev noCell : Obj := { cls := .type "cell", data := .cell none }
def Stores (M : Model) (A : Around) (E : Value → Shared → Prop) (env : Env) (P : Shared → Prop) : List (Str × Value) → Shared → Prop
  | [], s => P s
  | (x, v) :: r, s => wpAny M A (storeName env x v) (fun _ s' => Stores M A E env P r s') E s
section
variable {M : Model} {A : Around} {E : Value → Shared → Prop} {s : Shared}
theorem stores_run {env : Env} {P : Shared → Prop} {f : Str × Value → PUnit → Sem (ForInStep PUnit)} (hf : ∀ b r, f b r = (do storeName env b.1 b.2; pure (.yield ⟨⟩))) : ∀ (binds : List (Str × Value)) (s : Shared) (Q : PUnit → Shared → Prop), (∀ s', P s' → Q ⟨⟩ s') → Stores M A E env P binds s → wpAny M A (forIn binds PUnit.unit f) Q E s
  | [], s, Q, hq, h => by rw [List.forIn_nil]; exact wpAny_pure (hq s h)
  | (x, v) :: r, s, Q, hq, h => by
    rw [List.forIn_cons, hf]
    exact wpAny_bind (wpAny_bind (wpAny_mono h (fun _ s' h' => wpAny_pure (stores_run hf r s' Q hq h')) fun _ _ y => y))
theorem newEnv_cell1 {scope : Scope} {globals : Addr} {cl : List (Str × Addr)} {binds : List (Str × Value)} {qual : Str} {func : Option Addr} {code : Value} {builtins : Addr} {x : Str} {Q : Env → Shared → Prop}
    (hcf : ∀ n, cellsFrom n scope.names cl = (x, n) :: cl) (hpc : ∀ h : Heap, pushCells h scope.names = h.push noCell)
    (h : Stores M A E (newEnv scope s.heap.objs.size globals ((x, s.heap.objs.size + 1) :: cl) qual func code none builtins) (fun s' => Q (newEnv scope s.heap.objs.size globals ((x, s.heap.objs.size + 1) :: cl) qual func code none builtins) s') binds
      { s with heap := (s.heap.push { cls := .type "frame", data := .dict #[] }).push noCell }) :
    wpAny M A (newFunctionEnv scope globals cl binds qual func code none builtins) Q E s := by
  simp only [newFunctionEnv, Option.isSome_none, Bool.false_eq_true, if_false]
  refine wpAny_bind (wpAny_alloc ?_)
  refine wpAny_bind (wpAny_layCells _ (fun name kind cells => by cases hkc : kind == NameKind.cell <;> simp [hkc]) _ _ _ _ ?_)
  rw [show ({ s with heap := s.heap.push { cls := .type "frame", data := .dict #[] } } : Shared).heap.objs.size = s.heap.objs.size + 1 from Heap.size_push ..]
  rw [hcf, hpc]
  exact wpAny_bind (stores_run (fun _ _ => rfl) binds _ _ (fun s' h' => wpAny_pure h') h)
end
section
variable {prog : Program} {w : World} {A₀ A : Around} {s : Shared} {base h₀ : Heap} {outer : List Env} {L : Addr} {m mg mb : Str → Option Value} {env : Env} {news : List (Addr × Obj)} {K : Frag} {p : Program} {loose : List Str} {mean : ExcName → Option Value}
  {R : Result → Shared → Prop} {name qual : Str} {params : Arguments} {body : List Stmt} {scope : Scope} {cl : List (Str × Addr)} {dV kV doc pm cdv ct oc : Value} {an od : Option Addr} {osl : Array (Option Value)} {f : Addr} {args : Args} {binds : List (Str × Value)} {x : Str}
/-- a call of a def with a closure and one cell of its own -/
theorem code_cell1 (B : Below A₀ base outer h₀) (F : Fr h₀ L s.heap m) (X₀ : K.In h₀) (N : News h₀ L s.heap news) (T : Top p loose mean mg mb h₀) (hA : A.frames = some (env :: outer)) (hf : env.frame = some L) (hke : env.scope.kind = .function)
    (ho : K.lookup f = some ⟨oc, od, .func (fnX name qual params body scope cl dV kV doc pm an cdv ct), osl⟩) (hcd : codeIn K cdv qual = true) (hroom : A.depth < recursionLimit)
    (hbind : BindsTo s (fnX name qual params body scope cl dV kV doc pm an cdv ct) args binds) (hcf : ∀ n, cellsFrom n scope.names cl = (x, n) :: cl) (hpc : ∀ h : Heap, pushCells h scope.names = h.push noCell)
    (h : ∀ g L' c h₁, Fr h₀ L g m → Fr g L' h₁ (fun _ => none) → News g L' h₁ ((c, noCell) :: news) → Below A base (env :: outer) g → K.In g → Top p loose mean mg mb g → (∀ p ∈ news, p.1 < c) →
      Stores (model prog w) A.in1 (fun e s' => R (.error e) s') (envX qual scope L' f cdv ((x, c) :: cl)) (fun s' => s'.heap.NoLimit ∧
        PySem.wpAt (model prog w) (A.deeper (envX qual scope L' f cdv ((x, c) :: cl))) (.func body (envX qual scope L' f cdv ((x, c) :: cl))) (execs body (envX qual scope L' f cdv ((x, c) :: cl)))
          (fun fl s' => LeaveK h₀ L m g R (match fl with | .ret v => v | _ => .none) s')
          (fun e s' => wpAny (model prog w) (A.deeper (envX qual scope L' f cdv ((x, c) :: cl))) (leaving (envX qual scope L' f cdv ((x, c) :: cl)) e) (fun _ s'' => R (.error e) s'') (fun e' s'' => R (.error e') s'') s') s')
        binds { s with heap := h₁ })
    (hco : scope.isCoroutine = false := by rfl) (hgen : scope.isGenerator = false := by rfl) (hk : scope.kind = .function := by rfl) : codeAny (model prog w) A (.call (.ref f) args) R s := by
  obtain ⟨FG, BG, st, lv⟩ := groundX (R := R) B F N hA hf hke
  refine codeAny_call_function (fd := fnX name qual params body scope cl dV kV doc pm an cdv ct) (body := body) hroom ((X₀.keeps F.keep) _ _ ho) rfl hco hgen rfl (codeRec_of (X₀.keeps F.keep) hcd) (hbind _ _ _ _ ?_)
  refine newEnv_cell1 hcf hpc ?_
  have F1 : Fr (hideAll s.heap (news.map (·.1))) s.heap.objs.size ((s.heap.push { cls := .type "frame", data := .dict #[] }).push noCell) (fun _ => none) :=
    ⟨(Heap.Ns.new s.heap (.type "frame")).push _, fun b o e => Heap.get?_push_of_some _ (Heap.get?_push_of_some _ (of_hideAll _ e)), Nat.le_of_eq (hideAll_size _ _)⟩
  have hsz : (s.heap.push { cls := .type "frame", data := .dict #[] }).objs.size = s.heap.objs.size + 1 := Heap.size_push ..
  have hn : (hideAll s.heap (news.map (·.1))).get? (s.heap.objs.size + 1) = none := Heap.get?_none_of_le (by rw [hideAll_size]; omega)
  have N1 : News (hideAll s.heap (news.map (·.1))) s.heap.objs.size ((s.heap.push { cls := .type "frame", data := .dict #[] }).push noCell) ((s.heap.objs.size + 1, noCell) :: news) := fun p hp => by
    rcases List.mem_cons.mp hp with rfl | hp
    · refine ⟨?_, Nat.succ_ne_self _, hn⟩
      rw [← hsz]; exact Heap.get?_push_size _ rfl
    · exact ⟨Heap.get?_push_of_some _ (Heap.get?_push_of_some _ (N p hp).1), Nat.ne_of_lt (Heap.lt_size (N p hp).1), hideAll_none _ (List.mem_map_of_mem hp)⟩
  have key := h _ _ _ _ FG F1 N1 BG (X₀.keeps st) (T.keeps st) (fun p hp => Nat.lt_succ_of_lt (Heap.lt_size (N p hp).1))
  have conv : ∀ (bs : List (Str × Value)) (s' : Shared) {P P' : Shared → Prop} {env' : Env}, (∀ s', P s' → P' s') → Stores (model prog w) A.in1 (fun e s' => R (.error e) s') env' P bs s' → Stores (model prog w) A.in1 (fun e s' => R (.error e) s') env' P' bs s' := by
    intro bs
    induction bs with
    | nil => exact fun s' P P' env' k h => k s' h
    | cons b r ih => exact fun s' P P' env' k h => wpAny_mono h (fun _ s'' h'' => ih s'' k h'') fun _ _ y => y
  exact conv _ _ (fun s' hs => ⟨hs.1, ks_codeAny_funcAt (ks_wpAt_mono hs.2 (fun fl s'' hl => lv _ _ hl) fun _ _ y => y)⟩) key
end
end Mine
end

section
open PySem PySem.W PyProof.Rows
set_option Elab.async false
set_option maxRecDepth 100000
set_option linter.unusedVariables false
namespace Mine
/-- what a tree asks stays below n; what it gives holds -/
def Bd {α : Type} (n : Nat) (P : α → Prop) : KasT α → Prop
  | .ret a => P a
  | .ask i j k => i < n ∧ j < n ∧ ∀ b, Bd n P (k b)
theorem Bd.bind {α β : Type} {n : Nat} (P : α → Prop) {Q : β → Prop} {f : α → KasT β} : ∀ t : KasT α, Bd n P t → (∀ a, P a → Bd n Q (f a)) → Bd n Q (t.bind f)
  | .ret a, h, hf => hf a h
  | .ask i j k, h, hf => ⟨h.1, h.2.1, fun b => Bd.bind P (k b) (h.2.2 b) hf⟩
def In' (n : Nat) (p : Array Nat) : Prop := 0 < n ∧ ∀ x ∈ p.toList, x < n
theorem In'.at {n : Nat} {p : Array Nat} (h : In' n p) (i : Nat) : p.getD i 0 < n := by
  rw [Array.getD_eq_getD_getElem?]
  cases q : p[i]? with
  | none => exact h.1
  | some x => exact h.2 x (Array.mem_def.mp (Array.mem_of_getElem? q))
theorem In'.perm {n : Nat} {p q : Array Nat} (h : In' n p) (k : q.Perm p) : In' n q := ⟨h.1, fun x hx => h.2 x (k.toList.mem_iff.mp hx)⟩
theorem In'.rev {n : Nat} {p : Array Nat} (h : In' n p) (i j : Nat) : In' n (kas_rev p i j) := h.perm (perm_rev _ _ _)
theorem bd_asc {n : Nat} {p : Array Nat} (h : In' n p) : ∀ f k, Bd n (fun _ => True) (kas_asc p f k)
  | 0, k => trivial
  | f + 1, k => ⟨h.at _, h.at _, fun b => by
    dsimp only
    split
    · trivial
    · exact bd_asc h f (k + 1)⟩
theorem bd_desc {n : Nat} : ∀ f (p : Array Nat) k q, In' n p → Bd n (fun r => In' n r.1) (kas_desc f p k q)
  | 0, p, k, q, h => h
  | f + 1, p, k, q, h => ⟨h.at _, h.at _, fun b => by
    dsimp only
    split
    · split
      · exact bd_desc f _ _ _ (h.rev _ _)
      · exact bd_desc f _ _ _ h
    · refine ⟨h.at _, h.at _, fun b => ?_⟩
      dsimp only
      split
      · exact h
      · exact bd_desc f _ _ _ h⟩
theorem bd_tail3 {n : Nat} {p : Array Nat} (h : In' n p) (k r : Nat) : Bd n (fun x => In' n x.2) (kas_tail3 k r p) :=
  Bd.bind (fun _ => True) _ (bd_asc (h.rev _ _) _ _) fun m _ => h.rev _ _
theorem bd_descPart {n : Nat} {p : Array Nat} (h : In' n p) (k r : Nat) : Bd n (fun x => In' n x.2) (kas_descPart k r p) := by
  refine Bd.bind (fun r => In' n r.1) _ (bd_desc _ _ _ _ h) fun x hx => ?_
  split
  · exact bd_tail3 (In'.rev hx _ _) _ _
  · exact bd_tail3 hx _ _
theorem bd_count {n : Nat} {p : Array Nat} (h : In' n p) (r : Nat) : Bd n (fun x => In' n x.2) (kas_count r p) := by
  refine Bd.bind (fun _ => True) _ (bd_asc h _ _) fun m _ => ?_
  split
  · exact h
  · split
    · refine ⟨h.at _, h.at _, fun b => ?_⟩
      dsimp only
      split
      · exact h
      · exact bd_descPart (h.rev _ _) _ _
    · exact bd_descPart h _ _
theorem bd_place {n : Nat} {p : Array Nat} (h : In' n p) (k : Nat) : ∀ f l r, Bd n (fun _ => True) (kas_place p k f l r)
  | 0, l, r => trivial
  | f + 1, l, r => by
    unfold kas_place
    split
    · trivial
    · refine ⟨h.at _, h.at _, fun b => ?_⟩
      dsimp only
      split
      · exact bd_place h k f _ _
      · exact bd_place h k f _ _
theorem bd_bin {n : Nat} : ∀ f (p : Array Nat) k, In' n p → Bd n (fun _ => True) (kas_bin f p k)
  | 0, p, k, h => trivial
  | f + 1, p, k, h => Bd.bind (fun _ => True) _ (bd_place h k _ _ _) fun l _ => bd_bin f _ _ (h.perm (bubble_perm _ _ _))
theorem bd_sort {n : Nat} (h : 0 < n) : Bd n (fun _ => True) (kas_sort n) := by
  refine Bd.bind (fun x => In' n x.2) _ (bd_count ⟨h, fun x hx => List.mem_range.mp (by simpa using hx)⟩ _) fun x hx => ?_
  split
  · exact bd_bin _ _ _ hx
  · trivial
theorem kasWp_runB {α : Type} {cmp : Nat → Nat → (Bool → Shared → Prop) → Shared → Prop} {lt : Nat → Nat → Bool} {I : Shared → Prop} {n : Nat} {P : α → Prop}
    (hc : ∀ i j (C : Bool → Shared → Prop) s, i < n → j < n → I s → (∀ s', I s' → C (lt i j) s') → cmp i j C s) : ∀ (t : KasT α) (Q : α → Shared → Prop) (s : Shared), Bd n P t → I s → (∀ s', I s' → Q (kasRun lt t) s') → t.kasWp cmp Q s
  | .ret a, Q, s, _, hI, h => h s hI
  | .ask i j k, Q, s, hb, hI, h => hc i j _ s hb.1 hb.2.1 hI fun s' hI' => kasWp_runB hc (k (lt i j)) Q s' (hb.2.2 _) hI' h
end Mine
end

section
open PySem PySem.W PyProof.Rows PySem.Calls PySem.Spec
set_option Elab.async false
set_option maxRecDepth 100000
set_option maxHeartbeats 4000000
set_option linter.unusedVariables false
namespace Mine
def Tups (l : List (Addr × Obj)) : Prop := ∀ p ∈ l, p.2.cls = .type "tuple"
theorem Tups.nt {l : List (Addr × Obj)} (h : Tups l) : NT l := fun p hp => .inl (by rw [h p hp]; nofun)
theorem Tups.app {l r : List (Addr × Obj)} (h : Tups l) (k : Tups r) : Tups (l ++ r) := fun p hp => (List.mem_append.mp hp).elim (h p) (k p)
theorem IsKey.mono {led led' : List (Addr × Obj)} {v : Value} {k : Key} (h : IsKey led v k) (hm : ∀ p ∈ led, p ∈ led') : IsKey led' v k := by
  obtain ⟨a, n, b, n', u, e, h1, h2⟩ := h
  exact ⟨a, n, b, n', u, e, hm _ h1, hm _ h2⟩
def KeysAre (led : List (Addr × Obj)) : List Value → List Key → Prop
  | [], [] => True
  | v :: vs, k :: ks => IsKey led v k ∧ KeysAre led vs ks
  | _, _ => False
theorem KeysAre.len {led : List (Addr × Obj)} : ∀ {vs : List Value} {ks : List Key}, KeysAre led vs ks → vs.length = ks.length
  | [], [], _ => rfl
  | _ :: _, _ :: _, h => congrArg (· + 1) (KeysAre.len h.2)
  | [], _ :: _, h => h.elim
  | _ :: _, [], h => h.elim
theorem KeysAre.mono {led led' : List (Addr × Obj)} (hm : ∀ p ∈ led, p ∈ led') : ∀ {vs : List Value} {ks : List Key}, KeysAre led vs ks → KeysAre led' vs ks
  | [], [], _ => trivial
  | _ :: _, _ :: _, h => ⟨h.1.mono hm, KeysAre.mono hm h.2⟩
  | [], _ :: _, h => h.elim
  | _ :: _, [], h => h.elim
theorem KeysAre.snoc {led : List (Addr × Obj)} {v : Value} {k : Key} (h : IsKey led v k) : ∀ {vs : List Value} {ks : List Key}, KeysAre led vs ks → KeysAre led (vs ++ [v]) (ks ++ [k])
  | [], [], _ => ⟨h, trivial⟩
  | _ :: _, _ :: _, g => ⟨g.1, KeysAre.snoc h g.2⟩
  | [], _ :: _, g => g.elim
  | _ :: _, [], g => g.elim
theorem KeysAre.at {led : List (Addr × Obj)} : ∀ {vs : List Value} {ks : List Key} {i : Nat}, KeysAre led vs ks → i < vs.length → IsKey led (vs.getD i Value.none) (ks.getD i ([], 0))
  | _ :: _, _ :: _, 0, h, _ => by simpa using h.1
  | _ :: _, _ :: _, i + 1, h, hi => by
    simp only [List.length_cons] at hi
    simpa using KeysAre.at (i := i) h.2 (by omega)
  | [], [], _, _, hi => absurd hi (Nat.not_lt_zero _)
  | [], _ :: _, _, h, _ => h.elim
  | _ :: _, [], _, h, _ => h.elim
theorem updF_app {d : Addr} {o : Obj} {r : List (Addr × Obj)} {g : Obj → List (Addr × Obj)} (U : UpdF d o r g) : ∀ {pre : List (Addr × Obj)}, (∀ p ∈ pre, p.1 ≠ d) → UpdF d o (pre ++ r) (fun o' => pre ++ g o')
  | [], _ => U
  | p :: pre, h => UpdF.tail (h p (.head _)) (updF_app U fun q hq => h q (.tail _ hq))
theorem TabS.neSeq {h₀ h : Heap} {L : Addr} {tb led : List (Addr × Obj)} (TS : TabS tb) (N : News h₀ L h led) (hm : ∀ p ∈ tb, p ∈ led) {a : Addr} {o : Obj} {xs : Array Value} {n : Nat} (hi : (a, o) ∈ led) (hd : o.data = .seq xs n) : ∀ p ∈ tb, p.1 ≠ a := fun p hp q => by
  have e : some p.2 = some o := by rw [← (N p (hm p hp)).1, q]; exact (N _ hi).1
  have e' := Option.some.inj e
  obtain ⟨p1, p2, p3, cds, rfl, _, _, _, hc⟩ := TS
  have tabNe : ∀ ps, tabObj ps ≠ o := fun ps h => by rw [← h] at hd; cases hd
  rcases List.mem_cons.mp hp with rfl | hp
  · exact tabNe _ e'
  rcases List.mem_cons.mp hp with rfl | hp
  · exact tabNe _ e'
  rcases List.mem_cons.mp hp with rfl | hp
  · exact tabNe _ e'
  obtain ⟨_, vs, q9, t, h1, h2⟩ := hc p hp
  rw [e', hd] at h1
  cases h1
theorem Tups.neList {h₀ h : Heap} {L : Addr} {l led : List (Addr × Obj)} (T : Tups l) (N : News h₀ L h led) (hm : ∀ p ∈ l, p ∈ led) {a : Addr} {o : Obj} (hi : (a, o) ∈ led) (hc : o.cls = .type "list") : ∀ p ∈ l, p.1 ≠ a := fun p hp q => by
  have e : some p.2 = some o := by rw [← (N p (hm p hp)).1, q]; exact (N _ hi).1
  have e' := Option.some.inj e
  have := T p hp
  rw [e', hc] at this
  injection this with q9
  exact absurd q9 (by decide)
section
variable {prog : Program} {w : World} {A : Around} {E : Value → Shared → Prop} {s : Shared} {h₀ : Heap} {L : Addr} {m : Str → Option Value} {news : List (Addr × Obj)} {vs : List Value}
theorem rest_run {a : Addr} {b : Bool} {f : Value} {e1 : Nat} {kS : Addr} {P : PySem.Fin → Shared → Prop} (hk : s.heap.get? kS = some (seqObj "list" #[] 0)) (h64 : vs.length < 64)
    (h : KatKeys prog w A h₀ L m kS f (fun ks e s' => s'.heap.get? kS = some (seqObj "list" (List.toArray ks) e) → ks.length = vs.length → wpAny (model prog w) A (ksk_end a b vs.toArray e1 (.ref kS) (List.toArray ks)) P E s') vs [] 0 s) :
    wpAny (model prog w) A (ksk_rest a f b vs.toArray e1 (.ref kS)) P E s := by
  unfold ksk_rest
  refine wpAny_bind (wpAny_rule ?_)
  first
    | rw [List.forIn_toArray]
    | (rw [← Array.forIn_toList]; simp only [List.toList_toArray])
    | rw [← Array.forIn_toList]
  refine wpAny_bind (wpAny_mono (kat_fold h64 (fun x ks e s' C hz hx => ?_) vs [] 0 s (by simp) hk h) (fun _ s' hd => ?_) fun _ _ x => x)
  · refine wpAny_bind (wpAny_attempt (wpAny_mono hx (fun k s'' hk => ?_) fun _ _ hF => hF.elim))
    obtain ⟨news', g, F', N', U, c⟩ := hk
    obtain ⟨pre, post, e0, hg, x1, x2⟩ := U.split
    rw [e0] at N'
    have nk := N' (kS, seqObj "list" (List.toArray ks) e) (List.mem_append_right _ (.head _))
    have s1 := Heap.SameBut.update s''.heap kS (Obj.mapSeq (·.push k))
    have ea : (List.toArray ks).push k = List.toArray (ks ++ [k]) := by simp
    obtain ⟨c2, hc2⟩ : ∃ c2, (s''.heap.update kS (Obj.mapSeq (·.push k))).get? kS = some (seqObj "list" (List.toArray (ks ++ [k])) c2) := ⟨_, by rw [← ea]; exact get?_update_seq nk.1 (·.push k)⟩
    refine wpAny_bind (listUpdate_at nk.1 rfl ?_ (by rw [List.size_toArray, sizeLine_eq]; omega) (Nat.le_trans (Nat.le_of_eq (Array.size_push ..)) (by rw [List.size_toArray, sizeLine_eq]; omega)))
    exact wpAny_pure ⟨rfl, k, c2, hc2, c _ c2 (kas_fr F' s1 nk.2.1 nk.2.2) (by rw [hg]; exact news_set N' x1 x2 s1 hc2)⟩
  · obtain ⟨ks, e, hk', hl, fin⟩ := hd
    exact wpAny_bind (listItems_at hk' rfl (fin hk' hl))
/-- no pair to compare -/
theorem end_le1 {a kS : Addr} {b : Bool} {ks : List Value} {e e1 : Nat} {P : PySem.Fin → Shared → Prop} (hl : ks.length = vs.length) (h1 : vs.length ≤ 1)
    (h : KatFin h₀ L m kS a ks e e1 vs (fun s3 => P (.done (.ret .none)) s3) s) : wpAny (model prog w) A (ksk_end a b vs.toArray e1 (.ref kS) (List.toArray ks)) P E s := by
  have step : ∀ t : Sem PySem.Fin, wpAny (model prog w) A t P E s → wpAny (model prog w) A (if b = true then (do let _ ← rule "list.sort.reverse"; t) else t) P E s := by
    intro t ht
    split
    · exact wpAny_bind (wpAny_rule ht)
    · exact ht
  have h2 : vs.toArray.size < 2 := by rw [List.size_toArray]; omega
  have hr : ∀ l : List Value, l.length ≤ 1 → l.reverse = l := fun l hl => match l, hl with
    | [], _ => rfl
    | [_], _ => rfl
    | _ :: _ :: _, h => absurd h (by simp)
  unfold ksk_end
  dsimp only
  refine step _ ?_
  rw [if_pos h2, if_pos h2]
  refine wpAny_bind (wpAny_pure ?_)
  rw [StateT.run_pure]
  refine wpAny_bind (wpAny_pure ?_)
  dsimp only
  have hz : (arrOf (SortSt.mk' general' (if b = true then ((List.toArray ks).zip vs.toArray).reverse else (List.toArray ks).zip vs.toArray) #[] 7 none)).map (·.2) = List.toArray vs := by
    rw [kat_pairs b hl]
    have e1 : katRev b ks = ks := by unfold katRev; split <;> first | exact hr _ (by omega) | rfl
    have e2 : katRev b vs = vs := by unfold katRev; split <;> first | exact hr _ (by omega) | rfl
    rw [e1, e2]
    show Array.map (·.2) ((List.toArray ks).zip (List.toArray vs)) = _
    rw [List.zip_toArray, List.map_toArray]
    congr 1
    exact List.map_snd_zip (by omega)
  have e2 : katRev b vs = vs := by unfold katRev; split <;> first | exact hr _ (by omega) | rfl
  exact kat_tail (h₀ := h₀) (L := L) (m := m) (e := e) (out := vs) (ks := ks) hz (by omega) (by omega) rfl (by rw [e2]; exact h)
theorem sorted_outer {l : Addr} {f : Value} {b : Bool} {kw : List (Str × Value)} {Q : Value → Shared → Prop} (F : Fr h₀ L s.heap m) (N : News h₀ L s.heap news) (hl : s.heap.IsList l vs.toArray) (h64 : vs.length < 64)
    (ha1 : argsOk "sorted" ⟨[.ref l], kw⟩) (ha2 : ∀ x, argsOk "list.sort" ⟨[.ref x], kw⟩) (ht : ∀ x, Builtin.«list.sort» ⟨[.ref x], kw⟩ = ksk_tree x f b)
    (h : ∀ D kS e1 h', Fr h₀ L h' m → News h₀ L h' ((kS, seqObj "list" #[] 0) :: (D, seqObj "list" #[] e1) :: news) → D < kS → (∀ q ∈ news, q.1 < D) →
      KatKeys prog w A.in1.in1 h₀ L m kS f (fun ks e s' => s'.heap.get? kS = some (seqObj "list" (List.toArray ks) e) → ks.length = vs.length → ∀ P : PySem.Fin → Shared → Prop, (∀ s3, Q (.ref D) s3 → P (.done (.ret .none)) s3) →
        wpAny (model prog w) A.in1.in1 (ksk_end D b vs.toArray e1 (.ref kS) (List.toArray ks)) P (fun _ _ => False) s') vs [] 0 { s with heap := h' }) :
    wpAny (model prog w) A (call (.builtin "sorted") [.ref l] kw) Q E s := by
  refine call_function_entry_kw kind_sorted plain_sorted entry_sorted ha1 ?_
  unfold Builtin.«sorted»
  refine wpAny_bind (m := checkCount "sorted" 1 1 _) (wpAny_pure ?_)
  refine wpAny_bind (collect_list hl ?_ (by rw [sizeLine_eq]; omega))
  refine wpAny_bind (wpAny_newList ?_ (by rw [sizeLine_eq]; omega))
  have hsz : ((s.heap.push (seqObj "list" #[] 0)).update s.heap.objs.size (Obj.mapSeq (· ++ vs.toArray))).objs.size = s.heap.objs.size + 1 := by
    rw [Heap.size_update, size_push']
  generalize hh1 : ((s.heap.push (seqObj "list" #[] 0)).update s.heap.objs.size (Obj.mapSeq (· ++ vs.toArray))) = h1 at hsz
  have k1 : ∀ b o, s.heap.get? b = some o → h1.get? b = some o := fun b o q => by
    have hlt : b < s.heap.objs.size := Heap.lt_size q
    rw [← hh1, Heap.get?_update_ne _ _ _ _ (Nat.ne_of_lt hlt), Heap.get?_push_ne _ _ _ (Nat.ne_of_lt hlt)]
    exact q
  have hoL : (h1.push (seqObj "list" vs.toArray 0)).get? (s.heap.objs.size + 1) = some (seqObj "list" vs.toArray 0) := by
    rw [← hsz]; exact Heap.get?_push_size _ rfl
  have keep : ∀ b o, s.heap.get? b = some o → (h1.push (seqObj "list" vs.toArray 0)).get? b = some o := fun b o q => Heap.get?_push_of_some _ (k1 b o q)
  have hL : L < s.heap.objs.size := F.ns.lt
  show wpAny _ _ _ _ _ { s with heap := h1.push (seqObj "list" vs.toArray 0) }
  rw [hsz]
  refine wpAny_bind (wpAny_holding (wpAny_call_entry_kw slot_list_sort ⟨_, hoL, rfl⟩ entry_list_sort ?body (ha2 _)))
  have ht' := ht (s.heap.objs.size + 1)
  show wpAny (model prog w) A.in1.in1 (Builtin.«list.sort» ⟨[.ref (s.heap.objs.size + 1)], kw⟩) _ _ _
  rw [ht']
  -- the list emptied, the store of keys made
  have F1 : Fr h₀ L (h1.push (seqObj "list" vs.toArray 0)) m := F.kept keep
  have N1 : News h₀ L (h1.push (seqObj "list" vs.toArray 0)) news := N.grown keep
  have hna : ∀ p ∈ news, p.1 ≠ s.heap.objs.size + 1 := fun p hp => Nat.ne_of_lt (Nat.lt_succ_of_lt (Heap.lt_size (N p hp).1))
  have haL : s.heap.objs.size + 1 ≠ L := Nat.ne_of_gt (Nat.lt_succ_of_lt hL)
  have ha0 : h₀.get? (s.heap.objs.size + 1) = none := Heap.get?_none_of_le (Nat.le_trans F.above (Nat.le_succ_of_le (Nat.le_of_lt hL)))
  have zP : (h1.push (seqObj "list" vs.toArray 0)).objs.size = s.heap.objs.size + 1 + 1 := by rw [size_push', hsz]
  generalize h1.push (seqObj "list" vs.toArray 0) = h2 at hoL F1 N1 zP
  have s1 := Heap.SameBut.update h2 (s.heap.objs.size + 1) (Obj.mapSeq fun _ => (#[] : Array Value))
  obtain ⟨e1, ho1⟩ : ∃ e1, (h2.update (s.heap.objs.size + 1) (Obj.mapSeq fun _ => (#[] : Array Value))).get? (s.heap.objs.size + 1) = some (seqObj "list" #[] e1) := ⟨_, get?_update_seq hoL fun _ => #[]⟩
  have F2 := kas_fr F1 s1 haL ha0
  have N2 := kas_news N1 s1 hna
  have zU : (h2.update (s.heap.objs.size + 1) (Obj.mapSeq fun _ => (#[] : Array Value))).objs.size = s.heap.objs.size + 1 + 1 := by rw [Heap.size_update, zP]
  unfold ksk_tree
  refine wpAny_bind (listItems_at hoL rfl ?_)
  refine wpAny_bind (listUpdate_at hoL rfl ?_ (by rw [List.size_toArray, sizeLine_eq]; omega) (Nat.zero_le _))
  refine wpAny_bind (seqEpoch_at ho1 rfl ?_)
  refine wpAny_bind (wpAny_newTuple ?_ (by show vs.length ≤ _; rw [sizeLine_eq]; omega))
  refine wpAny_bind (wpAny_newList ?_ (Nat.zero_le _))
  refine wpAny_holding ?_
  show wpAny (model prog w) A.in1.in1 (ksk_rest _ _ _ _ _ _) _ _ { s with heap := ((h2.update (s.heap.objs.size + 1) (Obj.mapSeq fun _ => (#[] : Array Value))).push (seqObj "tuple" vs.toArray 0)).push (seqObj "list" #[] 0) }
  dsimp only at ho1 F2 N2 zU ⊢
  generalize h2.update (s.heap.objs.size + 1) (Obj.mapSeq fun _ => (#[] : Array Value)) = h3 at ho1 F2 N2 zU ⊢
  have F3 := F2.push (seqObj "tuple" vs.toArray 0)
  have N3 : News h₀ L (h3.push (seqObj "tuple" vs.toArray 0)) ((s.heap.objs.size + 1, seqObj "list" #[] e1) :: news) := fun p hp => by
    rcases List.mem_cons.mp hp with rfl | hp
    · exact ⟨Heap.get?_push_of_some _ ho1, haL, ha0⟩
    · exact ⟨Heap.get?_push_of_some _ (N2 p hp).1, (N2 p hp).2⟩
  have zK : (h3.push (seqObj "tuple" vs.toArray 0)).objs.size = s.heap.objs.size + 1 + 1 + 1 := by rw [size_push', zU]
  have N4 := News.push F3 N3 (seqObj "list" #[] 0)
  refine wpAny_mono (rest_run (h₀ := h₀) (L := L) (m := m) (kS := (h3.push (seqObj "tuple" vs.toArray 0)).objs.size) (E := fun _ _ => False) (Heap.get?_push_size _ rfl) h64 ?_) (fun _ _ y => y) fun _ _ y => y.elim
  refine kat_keys_mono (h (s.heap.objs.size + 1) _ e1 _ (F3.push _) N4 (by rw [zK]; exact Nat.lt_of_lt_of_le (Nat.lt_succ_self _) (Nat.le_succ _)) fun q hq => Nat.lt_succ_of_lt (Heap.lt_size (N q hq).1)) fun ks e s' hl' hd hk hl2 => ?_
  exact hd hk hl2 _ fun s3 hq => ⟨_, rfl, wpAny_pure ⟨_, rfl, hq⟩⟩

/-- the keys, one behind the other; then what is to be done with them -/
theorem keys_phase {f : Value} {kS D : Addr} {e1 : Nat} {Fin : List Value → Nat → Shared → Prop} {keys : List Key} {g₀ : Array GenState} {d₀ : Drawn} {o₀ : OsState} (hD : D < kS) (hn : ∀ q ∈ news, q.1 < D)
    (hcall : ∀ v key, (v, key) ∈ vs.zip keys → ∀ (rest tb : List (Addr × Obj)) (s' : Shared) (C : Value → Shared → Prop), Fr h₀ L s'.heap m → News h₀ L s'.heap (tb ++ rest) → TabS tb → NT rest → (∀ p ∈ news, p ∈ rest) →
      (∀ k tl tb' h' g' tk', IsKey tl k key → Tups tl → Fr h₀ L h' m → News h₀ L h' (tl ++ (tb' ++ rest)) → TabS tb' → GOk s'.gens g' → C k ⟨h', g', s'.drawn, tk', s'.os⟩) → wpAny (model prog w) A (call f [v]) C (fun _ _ => False) s')
    (NN : NT news)
    (fin : ∀ ks e s' tb extra, KeysAre extra ks keys → Tups extra → Fr h₀ L s'.heap m → News h₀ L s'.heap (tb ++ (extra ++ ((kS, seqObj "list" (List.toArray ks) e) :: (D, seqObj "list" #[] e1) :: news))) → TabS tb → GOk g₀ s'.gens → s'.drawn = d₀ → s'.os = o₀ → Fin ks e s') :
    ∀ (r : List Value) (rk done : List Key) (ks : List Value) (e : Nat) (s' : Shared) (tb extra : List (Addr × Obj)), done ++ rk = keys → r.length = rk.length → (∀ q ∈ r.zip rk, q ∈ vs.zip keys) → KeysAre extra ks done → Tups extra → Fr h₀ L s'.heap m →
      News h₀ L s'.heap (tb ++ (extra ++ ((kS, seqObj "list" (List.toArray ks) e) :: (D, seqObj "list" #[] e1) :: news))) → TabS tb → GOk g₀ s'.gens → s'.drawn = d₀ → s'.os = o₀ → KatKeys prog w A h₀ L m kS f Fin r ks e s'
  | [], [], done, ks, e, s', tb, extra, hd, _, _, hk, ht, F, N, TS, hg, h1, h2 => KatKeys.nil (fin ks e s' tb extra (by rw [← hd, List.append_nil]; exact hk) ht F N TS hg h1 h2)
  | v :: r, key :: rk, done, ks, e, s', tb, extra, hd, hl, hz, hk, ht, F, N, TS, hg, h1, h2 => by
    have NE : NT (extra ++ ((kS, seqObj "list" (List.toArray ks) e) :: (D, seqObj "list" #[] e1) :: news)) := NT.app ht.nt (NT.cons (by nofun) (NT.cons (by nofun) NN))
    refine KatKeys.cons (hcall v key (hz _ (by simp)) _ tb s' _ F N TS NE (fun p hp => List.mem_append_right _ (.tail _ (.tail _ hp))) fun k tl tb' h' g' tk' hik htl F' N' TS' hg' => ?_)
    have N₂ : News h₀ L h' (tb' ++ ((tl ++ extra) ++ ((kS, seqObj "list" (List.toArray ks) e) :: (D, seqObj "list" #[] e1) :: news))) := fun p hp => by
      refine N' p ?_
      simp only [List.mem_append] at hp ⊢
      rcases hp with hp | (hp | hp) | hp
      · exact .inr (.inl hp)
      · exact .inl hp
      · exact .inr (.inr (.inl hp))
      · exact .inr (.inr (.inr hp))
    have memk : (kS, seqObj "list" (List.toArray ks) e) ∈ tb' ++ ((tl ++ extra) ++ ((kS, seqObj "list" (List.toArray ks) e) :: (D, seqObj "list" #[] e1) :: news)) := List.mem_append_right _ (List.mem_append_right _ (.head _))
    refine KatBack.intro (s := ⟨h', g', s'.drawn, tk', s'.os⟩) F' N₂ (updF_app (updF_app (UpdF.head ?_) ?_) ?_) fun h'' c F'' N'' => ?_
    · intro p hp
      rcases List.mem_cons.mp hp with rfl | hp
      · exact Nat.ne_of_lt hD
      · exact Nat.ne_of_lt (Nat.lt_trans (hn p hp) hD)
    · exact (htl.app ht).neList N₂ (fun p hp => List.mem_append_right _ (List.mem_append_left _ hp)) memk rfl
    · exact TS'.neSeq N₂ (fun p hp => List.mem_append_left _ hp) memk rfl
    · refine keys_phase hD hn hcall NN fin r rk (done ++ [key]) (ks ++ [k]) c ⟨h'', g', s'.drawn, tk', s'.os⟩ tb' (tl ++ extra) (by simp [← hd]) (by simpa using hl) (fun q hq => hz q (by simp [hq])) ?_ (htl.app ht) F'' N'' TS' (GOk.trans hg hg') h1 h2
      exact KeysAre.snoc (hik.mono fun p hp => List.mem_append_left _ hp) (KeysAre.mono (fun p hp => List.mem_append_right _ hp) hk)
  | [], _ :: _, _, _, _, _, _, _, _, hl, _, _, _, _, _, _, _, _, _ => absurd hl (by simp)
  | _ :: _, [], _, _, _, _, _, _, _, hl, _, _, _, _, _, _, _, _, _ => absurd hl (by simp)

theorem KeysAre.reverse {led : List (Addr × Obj)} : ∀ {vs : List Value} {ks : List Key}, KeysAre led vs ks → KeysAre led vs.reverse ks.reverse
  | [], [], _ => trivial
  | _ :: _, _ :: _, h => by
    rw [List.reverse_cons, List.reverse_cons]
    exact KeysAre.snoc h.1 (KeysAre.reverse h.2)
  | [], _ :: _, h => h.elim
  | _ :: _, [], h => h.elim
theorem KeysAre.firsts {h : Heap} {led : List (Addr × Obj)} (hled : ∀ p ∈ led, h.get? p.1 = some p.2) : ∀ {vs : List Value} {ks : List Key}, KeysAre led vs ks → ∃ fs, KatTups h vs fs ∧ fs.length = vs.length ∧ ∀ v ∈ fs, ∃ b o, v = .ref b ∧ h.get? b = some o ∧ o.cls = .type "tuple"
  | [], [], _ => ⟨[], trivial, rfl, fun _ h => nomatch h⟩
  | _ :: _, _ :: _, h => by
    obtain ⟨a, n, b, n', u, rfl, h1, h2⟩ := h.1
    obtain ⟨fs, f1, f2, f3⟩ := KeysAre.firsts hled h.2
    refine ⟨.ref b :: fs, KatTups.cons (hled _ h1) rfl rfl rfl f1, by simp [f2], fun v hv => ?_⟩
    rcases List.mem_cons.mp hv with rfl | hv
    · exact ⟨b, _, rfl, hled _ h2, rfl⟩
    · exact f3 v hv
  | [], _ :: _, h => h.elim
  | _ :: _, [], h => h.elim
/-- the keys are there: the items come out in their order, the greatest first -/
theorem finish {D kS : Addr} {ks : List Value} {keys : List Key} {e e1 : Nat} {tb extra : List (Addr × Obj)} {P : PySem.Fin → Shared → Prop} (hD : D < kS) (hn : ∀ q ∈ news, q.1 < D) (hk : KeysAre extra ks keys) (ht : Tups extra) (hl : ks.length = vs.length) (h64 : vs.length < 64) (hu : A.units + 64 < cLine)
    (F : Fr h₀ L s.heap m) (N : News h₀ L s.heap (tb ++ (extra ++ ((kS, seqObj "list" (List.toArray ks) e) :: (D, seqObj "list" #[] e1) :: news)))) (TS : TabS tb)
    (h : ∀ (σ : List Nat) h' c, σ.Perm (List.range vs.length) → (σ.Pairwise fun i j => keyLt (keys.getD i ([], 0)) (keys.getD j ([], 0)) = false) → Fr h₀ L h' m → News h₀ L h' ((D, listOf (List.toArray (σ.map fun i => vs.getD i Value.none)) c) :: (tb ++ news)) → P (.done (.ret .none)) { s with heap := h' }) :
    wpAny (model prog w) A (ksk_end D true vs.toArray e1 (.ref kS) (List.toArray ks)) P E s := by
  have memk : (kS, seqObj "list" (List.toArray ks) e) ∈ tb ++ (extra ++ ((kS, seqObj "list" (List.toArray ks) e) :: (D, seqObj "list" #[] e1) :: news)) := List.mem_append_right _ (List.mem_append_right _ (.head _))
  have neK1 := ht.neList N (fun p hp => List.mem_append_right _ (List.mem_append_left _ hp)) memk rfl
  have neK2 := TS.neSeq N (fun p hp => List.mem_append_left _ hp) memk rfl
  have memD : (D, seqObj "list" #[] e1) ∈ tb ++ (extra ++ ((kS, seqObj "list" (List.toArray ks) e) :: (D, seqObj "list" #[] e1) :: news)) := List.mem_append_right _ (List.mem_append_right _ (.tail _ (.head _)))
  have neD1 := ht.neList N (fun p hp => List.mem_append_right _ (List.mem_append_left _ hp)) memD rfl
  have neD2 := TS.neSeq N (fun p hp => List.mem_append_left _ hp) memD rfl
  have fin : ∀ (out : List Value) (C : Shared → Prop) (s' : Shared), s' = s → (∀ h' c, Fr h₀ L h' m → News h₀ L h' ((D, listOf (List.toArray out) c) :: (tb ++ news)) → C { s with heap := h' }) → KatFin h₀ L m kS D ks e e1 out C s' := by
    intro out C s' hs hC; subst hs
    refine KatFin.intro F N (updF_app (updF_app (UpdF.head ?_) neK1) neK2) fun h1 c1 F1 N1 => ?_
    · intro p hp
      rcases List.mem_cons.mp hp with rfl | hp
      · exact Nat.ne_of_lt hD
      · exact Nat.ne_of_lt (Nat.lt_trans (hn p hp) hD)
    · refine KasFin.intro (s := { s' with heap := h1 }) F1 N1 (updF_app (updF_app (UpdF.tail (Nat.ne_of_gt hD) (UpdF.head ?_)) neD1) neD2) fun h2 c2 F2 N2 => ?_
      · exact fun p hp => Nat.ne_of_lt (hn p hp)
      · refine hC h2 c2 F2 fun p hp => N2 p ?_
        simp only [List.mem_cons, List.mem_append] at hp ⊢
        rcases hp with hp | hp | hp
        · exact .inr (.inr (.inr (.inl hp)))
        · exact .inl hp
        · exact .inr (.inr (.inr (.inr hp)))
  by_cases h1 : vs.length ≤ 1
  · refine end_le1 hl h1 (fin vs _ s rfl fun h' c F' N' => h (List.range vs.length) h' c (List.Perm.refl _) ?_ F' ?_)
    · match hv : vs, h1 with
      | [], _ => exact .nil
      | [_], _ => exact List.pairwise_singleton _ _
      | _ :: _ :: _, h1 => exact absurd h1 (by simp)
    · have : (List.range vs.length).map (fun i => vs.getD i Value.none) = vs := by
        apply List.ext_getElem
        · simp
        · intro i a b
          simp [List.getD, b]
      rw [this]; exact N'
  · have h2 : 2 ≤ vs.length := by omega
    have hlk : keys.length = vs.length := by rw [← hk.len]; exact hl
    refine kat_end (h₀ := h₀) (L := L) (m := m) (e := e) hl h2 h64 ?_
    obtain ⟨fs, f1, f2, f3⟩ := hk.firsts (h := s.heap) fun p hp => (N p (List.mem_append_right _ (List.mem_append_left _ hp))).1
    refine kat_kind f1 (by omega) (T := .type "tuple") (fun v hv => ?_) (by decide) ?_
    · obtain ⟨b, o, rfl, ho, hc⟩ := f3 v hv
      rw [← hc]
      exact (Looks.ld ho).andThen .now
    · rw [show (Value.type "tuple" != Value.type "tuple") = false by decide]
      have hkr := hk.reverse
      have hrl : ks.reverse.length = vs.length := by rw [List.length_reverse]; exact hl
      refine kasWp_runB (n := vs.length) (P := fun _ => True) (I := fun s' => s' = s) (lt := fun i j => keyLt (keys.reverse.getD i ([], 0)) (keys.reverse.getD j ([], 0))) (fun i j C s' hi hj hs hC => ?_) _ _ s (bd_sort (by omega)) rfl (fun s' hs => ?_)
      · subst hs
        show wpAny (model prog w) A (keyLt' (tuples' false) ((katRev true ks).getD i Value.none) ((katRev true ks).getD j Value.none)) C (fun _ _ => False) s'
        have N' : News h₀ L s'.heap extra := fun p hp => N p (List.mem_append_right _ (List.mem_append_left _ hp))
        exact keyLt_run N' (hkr.at (by rw [hrl]; exact hi)) (hkr.at (by rw [hrl]; exact hj)) hu (hC s' rfl)
      · obtain ⟨p, hp, hz, hpe, hps⟩ := sort_run (weak_keys keys.reverse) (n := vs.length) (by omega)
        rw [hp]
        obtain ⟨σ, σ1, σ2, σ3⟩ := rev_sorted hlk rfl hpe hps
        refine fin _ _ s' hs fun h' c F' N' => h σ h' c σ1 σ3 F' ?_
        rw [← σ2]
        exact N'
/-- sorted, by keys that calls give, the greatest first -/
theorem sorted_by {l : Addr} {f : Value} {kw : List (Str × Value)} {keys : List Key} {tb : List (Addr × Obj)} {Q : Value → Shared → Prop} (F : Fr h₀ L s.heap m) (N : News h₀ L s.heap (tb ++ news)) (TS : TabS tb) (NN : NT news) (hl : s.heap.IsList l vs.toArray) (h64 : vs.length < 64) (hlk : keys.length = vs.length)
    (ha1 : argsOk "sorted" ⟨[.ref l], kw⟩) (ha2 : ∀ x, argsOk "list.sort" ⟨[.ref x], kw⟩) (ht : ∀ x, Builtin.«list.sort» ⟨[.ref x], kw⟩ = ksk_tree x f true) (hu : A.in1.in1.units + 64 < cLine)
    (hcall : ∀ v key, (v, key) ∈ vs.zip keys → ∀ (rest tb : List (Addr × Obj)) (s' : Shared) (C : Value → Shared → Prop), Fr h₀ L s'.heap m → News h₀ L s'.heap (tb ++ rest) → TabS tb → NT rest → (∀ p ∈ news, p ∈ rest) →
      (∀ k tl tb' h' g' tk', IsKey tl k key → Tups tl → Fr h₀ L h' m → News h₀ L h' (tl ++ (tb' ++ rest)) → TabS tb' → GOk s'.gens g' → C k ⟨h', g', s'.drawn, tk', s'.os⟩) → wpAny (model prog w) A.in1.in1 (call f [v]) C (fun _ _ => False) s')
    (h : ∀ D (σ : List Nat) h' c g' tk' tb', σ.Perm (List.range vs.length) → (σ.Pairwise fun i j => keyLt (keys.getD i ([], 0)) (keys.getD j ([], 0)) = false) → Fr h₀ L h' m → News h₀ L h' ((D, listOf (List.toArray (σ.map fun i => vs.getD i Value.none)) c) :: (tb' ++ news)) → TabS tb' → (∀ q ∈ news, q.1 < D) → GOk s.gens g' →
      Q (.ref D) ⟨h', g', s.drawn, tk', s.os⟩) :
    wpAny (model prog w) A (call (.builtin "sorted") [.ref l] kw) Q E s := by
  refine sorted_outer (b := true) F N hl h64 ha1 ha2 ht fun D kS e1 h1 F1 N1 hD hn => ?_
  have hn' : ∀ q ∈ news, q.1 < D := fun q hq => hn q (List.mem_append_right _ hq)
  have N2 : News h₀ L h1 (tb ++ ([] ++ ((kS, seqObj "list" (List.toArray []) 0) :: (D, seqObj "list" #[] e1) :: news))) := fun p hp => by
    refine N1 p ?_
    simp only [List.nil_append, List.mem_append, List.mem_cons] at hp ⊢
    rcases hp with hp | hp | hp | hp
    · exact .inr (.inr (.inl hp))
    · exact .inl hp
    · exact .inr (.inl hp)
    · exact .inr (.inr (.inr hp))
  refine keys_phase (g₀ := s.gens) (d₀ := s.drawn) (o₀ := s.os) hD hn' hcall NN (fun ks e s' tb' extra hk htp F' N' TS' hg h1 h2 hkS hl2 P hP => ?_) vs keys [] [] 0 { s with heap := h1 } tb [] rfl hlk.symm (fun _ hq => hq) trivial (fun _ hq => nomatch hq) F1 N2 TS (GOk.refl _) rfl rfl
  refine finish hD hn' hk htp hl2 h64 hu F' N' TS' fun σ h' c σ1 σ2 F'' N'' => hP _ ?_
  obtain ⟨hh, gg, dd, tt, oo⟩ := s'
  dsimp only at h1 h2 ⊢
  subst h1 h2
  exact h D σ h' c gg tt tb' σ1 σ2 F'' N'' TS' hn' hg
end
end Mine
end

section
open PySem PySem.W PyProof.Rows PySem.Calls PySem.Spec
set_option Elab.async false
set_option maxRecDepth 100000
set_option maxHeartbeats 0
set_option linter.unusedVariables false
namespace Mine
section
local macro_rules | `(tactic| walk_at "none 0") => `(tactic| fail)
local macro_rules | `(tactic| walk_at "none 1") => `(tactic| fail)
local macro_rules | `(tactic| walk_at "none 2") => `(tactic| fail)
local macro_rules | `(tactic| walk_at "none 3") => `(tactic| fail)
local macro_rules | `(tactic| walk_at "none 4") => `(tactic| fail)
local macro_rules | `(tactic| walk_at "none 5") => `(tactic| fail)
local macro_rules | `(tactic| walk_at "none 6") => `(tactic| fail)
local macro_rules | `(tactic| walk_at "none 7") => `(tactic| fail)
local macro_rules | `(tactic| walk_at "none 8") => `(tactic| fail)
local macro_rules | `(tactic| walk_at "none 9") => `(tactic| fail)
local macro_rules | `(tactic| k_mem) => `(tactic| with_reducible assumption)
local macro_rules | `(tactic| k_inst) => `(tactic| (refine' inst_seq ?N ?h1 ?h2; (case N => k_asm); (case h1 => k_mem); (case h2 => k_mem)))
local macro_rules | `(tactic| walk_at "getMethod ref") => `(tactic| (k_here; k_dflt (refine' method_seq ?k1 ?k2 ?k3 ?k4 ?k5 ?k6 ?k7 ?k8 ?_; (case k1 => k_asm); (case k2 => k_asm); (case k3 => k_inst); (case k4 => with_reducible assumption); (case k5 => with_reducible assumption); (case k6 => with_reducible assumption); (case k7 => first | (with_reducible assumption) | k_is); (case k8 => k_get); k_whole)))
local macro_rules | `(tactic| walk_at "callWith ref") => `(tactic| (k_here; k_dflt (refine' callWith_K ?k1 ?k2 ?_; (case k1 => k_asm); (case k2 => with_reducible assumption); k_whole)))
local macro_rules | `(tactic| k_asm) => `(tactic| ((with_reducible show GOk _ _); first | exact GOk.refl _ | (intro x9; solve_by_elim)))
local macro_rules | `(tactic| k_asm) => `(tactic| ((with_reducible show News _ _ _ _); first | (with_reducible assumption) | (refine News.sub (by with_reducible assumption) (fun p9 h9 => ?_); (repeat (first | exact h9 | apply List.mem_cons_of_mem | apply List.mem_append_right)); done) | (refine News.sub (by assumption) (fun p9 h9 => ?_); (repeat (first | exact h9 | apply List.mem_cons_of_mem | apply List.mem_append_right)); done)))
local macro_rules | `(tactic| k_mem) => `(tactic| ((with_reducible (first | refine List.mem_append_right _ ?_ | refine mem_appR ?_)); k_mem))
local macro_rules | `(tactic| walk_at "subscriptTail Name") => `(tactic| (k_here; (with_reducible show wpAny _ _ (subscriptTail _ _ (Value.ref _) (Value.int _ _)) _ _ _); k_dflt (refine' item_tupleT ?t ?a ?b ?c ?d ?_; (case t => exact News.isTup (by k_asm) (by k_mem)); (case a => decide); (case b => decide); (case c => rfl); (case d => rfl); k_whole)))
local macro_rules | `(tactic| walk_at "eval Name") => `(tactic| (k_here; (with_reducible show wpAny _ _ (eval (Expr.Name (Str.ofString "self") _) _) _ _ _); k_dflt (refine' nameX_F ?zN ?zc ?zm ?zd ?_; (case zN => with_reducible assumption); (case zc => rfl); (case zm => k_mem); (case zd => with_reducible assumption))))
local macro_rules | `(tactic| walk_at "call ref") => `(tactic| (
  k_here
  (with_reducible show wpAny _ _ (call (Value.ref _) [_, Value.str _ _] _) _ _ _)
  k_dflt (refine' specT_use (SpcOk.sp ?kH _ _ _ ?k1) ?kB ?kF ?kX ?kN ?kTS ?kP ?kNN ?kT ?kK ?kD ?kU ?_)
  (case kB => k_asm)
  (case kF => k_asm)
  (case kX => k_asm)
  (case kN => k_asm)
  (case kTS => with_reducible assumption)
  (case kP => (repeat (first | exact Pull.here | apply Pull.cons | apply Pull.app)))
  (case kT => k_asm)
  (case kH => with_reducible assumption)
  (case k1 => with_reducible assumption)
  (case kNN => (repeat (first | (with_reducible assumption) | exact NT.nil | (refine NT.consA (by with_reducible assumption) ?_) | (refine NT.cons (by intro h9; cases h9) ?_) | refine NT.app ?_ ?_)))
  (case kK => rfl)
  (case kD => exact Nat.le_of_ble_eq_true rfl)
  (case kU => exact Nat.le_of_ble_eq_true rfl)
  k_whole
  (intro v tl tb9 h' g' tk' hR F' N' TS9 NT9 hlt hg)
  (obtain ⟨a9, k9, e1, e2⟩ := hR)
  subst e1
  subst e2
  (simp only [List.nil_append, List.cons_append] at N')
  clear NT9
  (replace hlt := fun p hp => hlt p hp _ List.mem_cons_self)
  try k_lt hlt
  try k_sweep))
structure ClsNew (w : World) (C : Addr) : Prop where
  mkr : ∀ h, (hd.heap_39 w.params).In h → MakesS (model PySem.Challenge.rw_eq0045_01.row.prog w) h C
  ini : findIn (hd.heap_39 w.params) (.ref C) "__init__" = some (some (.ref 177))
  sa : findIn (hd.heap_39 w.params) (.ref C) "__setattr__" = some (some (.builtin "object.__setattr__"))
  cls : ∃ cd, clsIn (hd.heap_39 w.params) C = some cd ∧ passList cd.mro = true ∧ cd.hasDict = true ∧ alongIn (hd.heap_39 w.params) "__init__" ((cd.mro.dropWhile (· != .ref 280)).drop 1) = some (some (.builtin "list.__init__"))
  ob : mroIn (hd.heap_39 w.params) C (.type "object") = some true
  tk : takerIn (hd.heap_39 w.params) C (Str.ofString "provided") = some none
  su : mroIn (hd.heap_39 w.params) C (.ref 280) = some true
theorem Pairs.zip {news : List (Addr × Obj)} {f : Str × Int → Key} : ∀ {vs : List Value} {ps : List (Str × Int)} {v : Value} {k : Key}, Pairs news vs ps → (v, k) ∈ vs.zip (ps.map f) → ∃ p a t u n, v = .ref a ∧ k = f p ∧ p ∈ ps ∧ (a, (⟨.type "tuple", none, .seq #[.str p.1 t, .int p.2 u] n, #[]⟩ : Obj)) ∈ news
  | v :: vs, p :: ps, _, _, h, e => by
    simp only [List.map_cons, List.zip_cons_cons, List.mem_cons, Prod.mk.injEq] at e
    rcases e with ⟨rfl, rfl⟩ | e
    · obtain ⟨a, t, u, n, rfl, hm⟩ := h.1
      exact ⟨p, a, t, u, n, rfl, rfl, .head _, hm⟩
    · obtain ⟨p, a, t, u, n, h1, h2, h3, h4⟩ := Pairs.zip h.2 e
      exact ⟨p, a, t, u, n, h1, h2, .tail _ h3, h4⟩
  | [], [], _, _, _, e => by simp at e
  | [], _ :: _, _, _, h, _ => h.elim
  | _ :: _, [], _, _, h, _ => h.elim
theorem key_pack {h₀ h' : Heap} {L D b : Addr} {key : Key} {u : Tok} {n n' : Nat} {tb led rest : List (Addr × Obj)} (N : News h₀ L h' ((D, (⟨.type "tuple", none, .seq #[.ref b, .int key.2 u] n, #[]⟩ : Obj)) :: (b, (⟨.type "tuple", none, .seq (bools key.1).toArray n', #[]⟩ : Obj)) :: (tb ++ led))) (hm : ∀ p ∈ rest, p ∈ led) :
    IsKey [(D, (⟨.type "tuple", none, .seq #[.ref b, .int key.2 u] n, #[]⟩ : Obj)), (b, (⟨.type "tuple", none, .seq (bools key.1).toArray n', #[]⟩ : Obj))] (.ref D) key ∧ Tups [(D, (⟨.type "tuple", none, .seq #[.ref b, .int key.2 u] n, #[]⟩ : Obj)), (b, (⟨.type "tuple", none, .seq (bools key.1).toArray n', #[]⟩ : Obj))] ∧
      News h₀ L h' ([(D, (⟨.type "tuple", none, .seq #[.ref b, .int key.2 u] n, #[]⟩ : Obj)), (b, (⟨.type "tuple", none, .seq (bools key.1).toArray n', #[]⟩ : Obj))] ++ (tb ++ rest)) := by
  refine ⟨⟨_, _, _, _, _, rfl, .head _, .tail _ (.head _)⟩, fun p hp => ?_, fun p hp => N p ?_⟩
  · rcases List.mem_cons.mp hp with rfl | hp
    · rfl
    · rw [List.mem_singleton.mp hp]
  · simp only [List.cons_append, List.nil_append, List.mem_cons, List.mem_append] at hp ⊢
    rcases hp with hp | hp | hp | hp
    · exact .inl hp
    · exact .inr (.inl hp)
    · exact .inr (.inr (.inl hp))
    · exact .inr (.inr (.inr (hm p hp)))
theorem withObj {h₀ h : Heap} {L f : Addr} {o : Obj} {rest : List (Addr × Obj)} {G : Prop} (N : News h₀ L h ((f, o) :: rest)) (k : ∀ lo, lo = o → News h₀ L h ((f, lo) :: rest) → G) : G := k o rfl N
theorem init_G : ∀ {w : World} {news : List (Addr × Obj)} {C fm : Addr} {M : Str → Str → Bool} {Ok : Str → Str → Prop} (hC : ClsOk w C fm M Ok) {fs : Addr} {Sp : Str → List Bool} {Oks : Str → Prop} (hS : SpcOk w C fs Sp Oks) (hN : ClsNew w C)
    (rl : Addr) (vs : List Value) (n : Nat) (ws : List (Str × Int)) (hrl : (rl, W.listOf vs.toArray n) ∈ news) (hp : Pairs news vs ws) (hl : ws.length ≤ 6) (hsp : ∀ p ∈ ws, Oks p.1), SpecT w 800 8000 (.ref C) [.ref rl] news (fun v tl => ∃ (x d : Addr) (n' : Nat) (hh : Int) (tt : Tok) (σ : List Nat), v = .ref x ∧ tl = [(x, (⟨.ref C, some d, .seq (List.toArray (σ.map fun i => vs.getD i Value.none)) n', #[]⟩ : Obj)), (d, W.dictOf [⟨hh, .str (Str.ofString "provided") tt, .bool true⟩] 1)] ∧ σ.Perm (List.range ws.length) ∧ σ.Pairwise fun i j => keyLt ((ws.map fun p => (Sp p.1, p.2)).getD i ([], 0)) ((ws.map fun p => (Sp p.1, p.2)).getD j ([], 0)) = false) := by
  unfold SpecT
  w_top off
  k_fill
  intro w news C fm M Ok hC fs Sp Oks hS hN rl vs n ws hrl hp hl hsp mean mg mb gd cn cs a ccd cl outer A₀ base h₀ L m s Q E tb0 B F X N TS NN T hk ret
  obtain ⟨hga, hgt, hit, hmr, hvm, hvt, hkv, hbs, hqu, hix, _⟩ := id hC
  obtain ⟨hff, htf, hkf, _⟩ := id hS
  obtain ⟨hY, hin, hsa, ⟨cd9, hcd1, hcd2, hcd3, hcd4⟩, hob, htk, hsu⟩ := id hN
  refine call_seq F X N hY hin (by k_is) (fun x dx h₁ F₁ N₁ l1 l2 => ?_)
  refine' code_cell1 (x := Str.ofString "self") ?k1 ?k2 ?k3 ?k4 ?k5 ?kA ?kF ?kK ?k6 ?k7 ?k8 ?k9 ?kc ?kp ?_ ?c2 ?c3 ?c4
  case kA => exact rfl
  case kF => exact rfl
  case kK => assumption
  case k1 => k_asm
  case k2 => k_asm
  case k3 => k_asm
  case k4 => k_asm
  case k5 => k_asm
  case k6 => k_is
  case k7 => k_is
  case k8 => ktr_room
  case k9 => exact binds_K (by k_in) rfl (by k_is) rfl rfl rfl
  case kc => intro n9; rfl
  case kp => intro h9; rfl
  case c2 => exact rfl
  case c3 => exact rfl
  case c4 => exact rfl
  intro g' L' c9 h' FG' F' N' B' X' T' l3
  refine storeX_C F' N' rfl (UpdF.head fun p hp => Nat.ne_of_lt (l3 p hp)) rfl (fun h2 o2 F2 N2 hd2 => ?_)
  refine storeX_L F2 N2 (fun h3 F3 N3 => ?_)
  refine ⟨T'.nolimit.keeps F3.keep, ?_⟩
  clear F2 N2 F' N'
  k_steps
  refine set_seq (dx := dx) (ox := seqInst C dx) (by k_asm) (by k_asm) (by k_asm) (inst_seq (by k_asm) (by k_mem) (by k_mem)) rfl hsa hcd1 hcd2 hob htk hcd3 (UpdF.tail ?ua (UpdF.tail ?ub (UpdF.head ?uc))) (fun h4 hh9 tt9 F4 N4 => ?_)
  case ua => exact Nat.ne_of_gt (l3 _ (.tail _ (.head _)))
  case ub => exact Nat.ne_of_gt l2
  case uc => exact fun p hp => Nat.ne_of_lt (l1 p hp)
  clear F3 N3
  dsimp only
  refine ks_wpAt_execs_cons ?_
  refine ks_wpAt_Assign_Name ?_
  refine wpAt_of_wpAny ?_
  k_steps
  have hne9 := TabS.above TS l3 (fun p hp => .tail _ (.tail _ (List.mem_append_left _ hp)))
  refine mk_lam (tb := tb0) (by k_asm) (by k_asm) X' T' TS (Pull.cons (Pull.cons (Pull.cons Pull.here))) (NT.consA hne9 (NT.cons (by intro h9; cases h9) (NT.cons (by intro h9; cases h9) NN))) rfl rfl rfl rfl rfl (fun f9 c8 ctv h5 tk5 tb5 oc vs5 t5 F5 N5 TS5 hm5 hd5 hv5 l5 hc5 => ?_)
  clear F4 N4
  k_steps
  k_dflt (show wpAny _ _ (call (.builtin "sorted") [.ref rl] [(Str.ofString "key", .ref f9), (Str.ofString "reverse", .bool true)]) _ _ _)
  have hlen := Pairs.len hp
  refine withObj N5 fun lo hlo N5 => ?_
  have NF : NT ((f9, lo) :: (c8, oc) :: (c9, o2) :: (x, seqInst C dx) :: (dx, W.dictOf [⟨hh9, .str (Str.ofString "provided") tt9, .bool true⟩] 1) :: news) :=
    NT.cons (by rw [hlo]; intro h9; cases h9) (NT.consA hc5 (NT.consA hne9 (NT.cons (by intro h9; cases h9) (NT.cons (by intro h9; cases h9) NN))))
  refine sorted_by (vs := vs) (tb := tb5) (keys := ws.map fun p => (Sp p.1, p.2)) (by k_asm) (fun p9 h9 => N5 p9 ?nm) TS5 NF ?kl (by omega) (by simp [hlen]) (ksk_s2 _ _ _) (fun x9 => ksk_l2 _ _ _) (fun x9 => ksk_t2 _ _ _) (by ke_room) ?kc ?kd
  case nm =>
    simp only [List.mem_append, List.mem_cons] at h9 ⊢
    rcases h9 with h9 | h9 | h9 | h9 | h9 | h9 | h9
    · exact .inr (.inl h9)
    · exact .inl h9
    · rw [h9]; exact .inr (.inl hm5)
    · exact .inr (.inr (.inl h9))
    · exact .inr (.inr (.inr (.inl h9)))
    · exact .inr (.inr (.inr (.inr (.inl h9))))
    · exact .inr (.inr (.inr (.inr (.inr h9))))
  case kl => exact News.isList (n := n) N5 (.tail _ (List.mem_append_right _ (.tail _ (.tail _ (.tail _ hrl)))))
  case kc =>
    intro v9 key9 hz rest9 tb9 s9 C9 F9 N9 TS9 NR9 hsub hC9
    subst hlo
    clear F5 N5 h4
    obtain ⟨p9, a9, t9, u9, n9, rfl, rfl, hpm, hm9⟩ := Pairs.zip hp hz
    have N9' : News g' L' s9.heap ((f9, kla_obj "<lambda>" (Str.ofString "Accept.__init__.<locals>.<lambda>") _ _ _ _ _ c8 ctv) :: (c8, oc) :: (c9, o2) :: (x, seqInst C dx) :: (dx, W.dictOf [⟨hh9, .str (Str.ofString "provided") tt9, .bool true⟩] 1) :: (a9, (⟨.type "tuple", none, .seq #[.str p9.1 t9, .int p9.2 u9] n9, #[]⟩ : Obj)) :: (tb9 ++ rest9)) := fun q hq => by
      rcases List.mem_cons.mp hq with rfl | hq
      · exact N9 _ (List.mem_append_right _ (hsub _ (.head _)))
      rcases List.mem_cons.mp hq with rfl | hq
      · exact N9 _ (List.mem_append_right _ (hsub _ (.tail _ (.head _))))
      rcases List.mem_cons.mp hq with rfl | hq
      · exact N9 _ (List.mem_append_right _ (hsub _ (.tail _ (.tail _ (.head _)))))
      rcases List.mem_cons.mp hq with rfl | hq
      · exact N9 _ (List.mem_append_right _ (hsub _ (.tail _ (.tail _ (.tail _ (.head _))))))
      rcases List.mem_cons.mp hq with rfl | hq
      · exact N9 _ (List.mem_append_right _ (hsub _ (.tail _ (.tail _ (.tail _ (.tail _ (.head _)))))))
      rcases List.mem_cons.mp hq with rfl | hq
      · exact N9 _ (List.mem_append_right _ (hsub _ (.tail _ (.tail _ (.tail _ (.tail _ (.tail _ hm9)))))))
      · exact N9 q hq
    clear N9
    have hok9 := hsp p9 hpm
    refine wpAny_call ?_
    k_dflt kla_enter
    k_steps
    with_reducible rename TabS _ => ts9
    with_reducible rename News _ _ _ _ => n9'
    obtain ⟨k1, k2, k3⟩ := key_pack (key := (Sp p9.1, p9.2)) (rest := rest9) n9' (fun q9 hq9 => by repeat (first | exact hq9 | apply List.mem_cons_of_mem))
    exact hC9 _ _ _ _ _ _ k1 k2 (by k_asm) k3 ts9 (by k_asm)
  case kd =>
    intro D9 σ h6 c6 g6 tk6 tb6 σ1 σ2 F6 N6 TS6 l6 hg6
    clear F5
    refine storeX_L F6 N6 (fun h7 F7 N7 => ?_)
    clear F6 N6
    dsimp only
    refine ks_wpAt_execs_cons ?_
    refine ks_wpAt_Expr_any ?_
    refine ks_wpAt_MethodCall ?_
    refine super_node (C := C) (D := 280) (x := x) F7 X' N7 T' (by k_is) (by rfl) (.inr ⟨rfl, c9, o2, rfl, by k_mem, hd2⟩) (inst_seq (by k_asm) (by k_mem) (by k_mem)) (by k_is) (by rfl) (by first | rfl | decide +kernel) (by rfl) (by k_is) (by k_is) hsu (by k_is) (by decide) (by rfl) (by rfl) (by rfl) (by decide +kernel) (by first | boot_by_name | rfl | kernel_rfl) (fun so h8 F8 N8 l8 => ?_)
    clear F7 N7
    refine super_init (so := so) F8 X' N8 (.head _) (inst_seq (by k_asm) (by k_mem) (by k_mem)) (by k_is) hcd1 hcd4 hmr (fun q9 h9 F9 N9 l9 => ?_)
    clear F8
    dsimp only
    refine callWith_wrap (x := x) (news := [(q9, wrapObj x)]) (.head _) ?_
    k_steps
    · exact wrapAt_of N9 (.head _)
    have lx9 : x < f9 := l5 _ (List.mem_append_right _ (.tail _ (.head _)))
    have N10 : News g' L' h9 ((q9, wrapObj x) :: (D9, W.listOf (List.toArray (σ.map fun i => vs.getD i Value.none)) c6) :: (x, (⟨.ref C, some dx, .seq #[] 0, #[]⟩ : Obj)) :: (tb6 ++ ((dx, W.dictOf [⟨hh9, .str (Str.ofString "provided") tt9, .bool true⟩] 1) :: news))) := fun p hp => by
      refine N9 p ?_
      simp only [List.mem_cons, List.mem_append] at hp ⊢
      rcases hp with hp | hp | hp | hp | hp | hp
      · exact .inl hp
      · exact .inr (.inr (.inl hp))
      · exact .inr (.inr (.inr (.inr (.inr (.inr (.inr (.inl hp)))))))
      · exact .inr (.inr (.inr (.inl hp)))
      · exact .inr (.inr (.inr (.inr (.inr (.inr (.inr (.inr (.inl hp))))))))
      · exact .inr (.inr (.inr (.inr (.inr (.inr (.inr (.inr (.inr hp))))))))
    have hq1 : x < D9 := l6 _ (.tail _ (.tail _ (.tail _ (.head _))))
    have hq2 : D9 < so := l8 _ (.head _)
    have hq3 : so < q9 := l9 _ (.head _)
    refine call_wrap (S := x) (C := C) (dx := dx) (c := 0) (vs := σ.map fun i => vs.getD i Value.none) (by k_asm) N10 (.head _) (News.isList (n := c6) N10 (.tail _ (.head _))) (UpdF.tail (Nat.ne_of_gt (Nat.lt_trans hq1 (Nat.lt_trans hq2 hq3))) (UpdF.tail (Nat.ne_of_gt hq1) (UpdF.head ?ux))) (by simp [σ1.length_eq]; omega) (fun h11 c11 F11 N11 => ?_)
    case ux =>
      intro p hp
      rcases List.mem_append.mp hp with hp | hp
      · exact TS6.neSeq N10 (fun p hp => .tail _ (.tail _ (.tail _ (List.mem_append_left _ hp)))) (.tail _ (.tail _ (.head _))) rfl p hp
      rcases List.mem_cons.mp hp with rfl | hp
      · exact Nat.ne_of_lt l2
      · exact Nat.ne_of_lt (Nat.lt_trans (l1 p (List.mem_append_right _ hp)) l2)
    clear N9 N10
    k_steps
    with_reducible rename News h₀ L _ _ => n9
    refine ret (.ref x) [(x, (⟨.ref C, some dx, .seq (List.toArray (σ.map fun i => vs.getD i Value.none)) c11, #[]⟩ : Obj)), (dx, W.dictOf [⟨hh9, .str (Str.ofString "provided") tt9, .bool true⟩] 1)] tb6 _ _ _ ⟨x, dx, c11, hh9, tt9, σ, rfl, rfl, by rw [← hlen]; exact σ1, σ2⟩ (by k_asm) (fun p hp => n9 p ?nn) TS6 (NT.cons (by intro h9; cases h9) (NT.cons (by intro h9; cases h9) NT.nil)) ?lt (by k_asm)
    case nn =>
      simp only [List.cons_append, List.nil_append, List.mem_cons, List.mem_append] at hp ⊢
      rcases hp with hp | hp | hp | hp
      · exact .inr (.inr (.inl hp))
      · exact .inr (.inr (.inr (.inr (.inl hp))))
      · exact .inr (.inr (.inr (.inl hp)))
      · exact .inr (.inr (.inr (.inr (.inr hp))))
    case lt =>
      intro p hp q hq
      have h1 := l1 p (List.mem_append_right _ hp)
      rcases List.mem_cons.mp hq with rfl | hq
      · exact Nat.lt_trans h1 l2
      · rw [List.mem_singleton.mp hq]; exact h1

end
end Mine
end

section
open PySem PySem.W PyProof.Rows PySem.Calls PySem.Spec
set_option Elab.async false
set_option maxRecDepth 100000
set_option linter.unusedVariables false
namespace Mine
theorem new0 : ∀ {w : World}, (hd.heap_39 w.params = hd.heap_39 w.params) → (PySem.Challenge.rw_eq0045_01 = PySem.Challenge.rw_eq0045_01) → ClsNew w 280 := by
  w_top off
  k_fill
  intro w _ _
  refine ⟨fun h X => makesS_of X (by k_is) rfl rfl rfl (by k_is) (by k_is) (by k_is) (by k_is), by k_is, by k_is, ⟨_, by k_is, rfl, rfl, by kernel_rfl⟩, by k_is, by k_is, by k_is⟩
theorem new1 : ∀ {w : World}, (hd.heap_39 w.params = hd.heap_39 w.params) → (PySem.Challenge.rw_eq0045_01 = PySem.Challenge.rw_eq0045_01) → ClsNew w 342 := by
  k_fill
  intro w _ _
  refine ⟨fun h X => makesS_of X (by k_is) rfl rfl rfl (by k_is) (by k_is) (by k_is) (by k_is), by k_is, by k_is, ⟨_, by k_is, rfl, rfl, by kernel_rfl⟩, by k_is, by k_is, by k_is⟩
theorem new2 : ∀ {w : World}, (hd.heap_39 w.params = hd.heap_39 w.params) → (PySem.Challenge.rw_eq0045_01 = PySem.Challenge.rw_eq0045_01) → ClsNew w 381 := by
  k_fill
  intro w _ _
  refine ⟨fun h X => makesS_of X (by k_is) rfl rfl rfl (by k_is) (by k_is) (by k_is) (by k_is), by k_is, by k_is, ⟨_, by k_is, rfl, rfl, by kernel_rfl⟩, by k_is, by k_is, by k_is⟩
theorem SpecT.mono {w : World} {D U : Nat} {f : Value} {args : List Value} {news : List (Addr × Obj)} {R R' : Value → List (Addr × Obj) → Prop} (S : SpecT w D U f args news R) (k : ∀ v tl, R v tl → R' v tl) : SpecT w D U f args news R' :=
  fun mean mg mb gd cn cs a ccd cl outer A₀ base h₀ L m s Q E tb B F X N TS NN T hk ret => S mean mg mb gd cn cs a ccd cl outer A₀ base h₀ L m s Q E tb B F X N TS NN T hk fun v tl tb' h' g' tk' hR => ret v tl tb' h' g' tk' (k v tl hR)
theorem Pairs.of_at {news : List (Addr × Obj)} {vs : List Value} {ps : List (Str × Int)} (h : Pairs news vs ps) {i : Nat} (hi : i < ps.length) : ∃ a t u n, vs.getD i Value.none = .ref a ∧ (a, (⟨.type "tuple", none, .seq #[.str (ps.getD i ("", 0)).1 t, .int (ps.getD i ("", 0)).2 u] n, #[]⟩ : Obj)) ∈ news := by
  have hl := h.len
  have hv : vs[i]? = some (vs[i]'(by omega)) := List.getElem?_eq_getElem _
  obtain ⟨p, a, t, u, n, h1, h2, h3⟩ := Pairs.at h hv
  refine ⟨a, t, u, n, by simp [List.getD, hv, h2], ?_⟩
  have : ps.getD i ("", 0) = p := by simp [List.getD, h1]
  rw [this]; exact h3
theorem Pairs.places {news : List (Addr × Obj)} {vs : List Value} {ps : List (Str × Int)} (h : Pairs news vs ps) : ∀ {σ : List Nat}, (∀ i ∈ σ, i < ps.length) → Pairs news (σ.map fun i => vs.getD i Value.none) (σ.map fun i => ps.getD i ("", 0))
  | [], _ => trivial
  | i :: σ, hs => by
    obtain ⟨a, t, u, n, h1, h2⟩ := h.of_at (hs i (.head _))
    exact ⟨⟨a, t, u, n, h1, h2⟩, Pairs.places h fun j hj => hs j (.tail _ hj)⟩
/-- the wishes as an object holds them: the most special first, of equals the greatest quality -/
def Ordered (Sp : Str → List Bool) (ws : List (Str × Int)) : Prop := ws.Pairwise fun p q => keyLt (Sp p.1, p.2) (Sp q.1, q.2) = false
theorem getD_map' {α β : Type} (f : α → β) (l : List α) (d : α) (e : β) {i : Nat} (h : i < l.length) : (l.map f).getD i e = f (l.getD i d) := by
  simp [List.getD, h]
/-- an object of a class of Accept's is made of a list of wishes -/
theorem make_G {w : World} {news : List (Addr × Obj)} {C fm : Addr} {M : Str → Str → Bool} {Ok : Str → Str → Prop} (hC : ClsOk w C fm M Ok) {fs : Addr} {Sp : Str → List Bool} {Oks : Str → Prop} (hS : SpcOk w C fs Sp Oks) (hN : ClsNew w C)
    (rl : Addr) (vs : List Value) (n : Nat) (ws : List (Str × Int)) (hrl : (rl, W.listOf vs.toArray n) ∈ news) (hp : Pairs news vs ws) (hl : ws.length ≤ 6) (hsp : ∀ p ∈ ws, Oks p.1) :
    SpecT w 800 8000 (.ref C) [.ref rl] news (fun v tl => ∃ (x d : Addr) (n' : Nat) (hh : Int) (tt : Tok) (us : List Value) (os : List (Str × Int)), v = .ref x ∧ tl = [(x, (⟨.ref C, some d, .seq us.toArray n', #[]⟩ : Obj)), (d, W.dictOf [⟨hh, .str (Str.ofString "provided") tt, .bool true⟩] 1)] ∧ Pairs news us os ∧ os.Perm ws ∧ Ordered Sp os) := by
  refine SpecT.mono (init_G hC hS hN rl vs n ws hrl hp hl hsp) fun v tl h => ?_
  obtain ⟨x, d, n', hh, tt, σ, h1, h2, h3, h4⟩ := h
  have hlt : ∀ i ∈ σ, i < ws.length := fun i hi => List.mem_range.mp (h3.mem_iff.mp hi)
  refine ⟨x, d, n', hh, tt, _, σ.map fun i => ws.getD i ("", 0), h1, h2, hp.places hlt, ?_, ?_⟩
  · have e : (List.range ws.length).map (fun i => ws.getD i ("", 0)) = ws := by
      apply List.ext_getElem
      · simp
      · intro i a b
        simp [List.getD, b]
    have := h3.map fun i => ws.getD i ("", 0)
    rw [e] at this
    exact this
  · unfold Ordered
    rw [List.pairwise_map]
    refine List.Pairwise.imp_of_mem (fun {i j} hi hj h => ?_) h4
    have e1 := getD_map' (fun p : Str × Int => ((Sp p.1, p.2) : Key)) ws ("", 0) ([], 0) (hlt i hi)
    have e2 := getD_map' (fun p : Str × Int => ((Sp p.1, p.2) : Key)) ws ("", 0) ([], 0) (hlt j hj)
    rw [e1, e2] at h
    exact h
end Mine
end

section
open PySem PySem.W PyProof.Rows
set_option Elab.async false
set_option maxRecDepth 100000
set_option linter.unusedVariables false
namespace Mine
/-- how the words of a kind fit the offers -/
structure FitOk (M : Str → Str → Bool) (Sp : Str → List Bool) (fit : Str → Str → Int) (words offs : List Str) : Prop where
  fits : ∀ x ∈ offs, ∀ p ∈ words, (M x p = true ↔ 0 ≤ fit p x)
  gt : ∀ x ∈ offs, ∀ p ∈ words, ∀ x' ∈ offs, ∀ p' ∈ words, 0 ≤ fit p x → 0 ≤ fit p' x' → (lexGt (Sp p) (Sp p') = true ↔ fit p x > fit p' x')
  lt : ∀ x ∈ offs, ∀ p ∈ words, ∀ p' ∈ words, 0 ≤ fit p x → 0 ≤ fit p' x → (lexLt (Sp p) (Sp p') = true ↔ fit p x < fit p' x)
  same : ∀ x ∈ offs, ∀ p ∈ words, ∀ p' ∈ words, 0 ≤ fit p x → 0 ≤ fit p' x → (Sp p = Sp p' ↔ fit p x = fit p' x)
theorem score_eq {M : Str → Str → Bool} {Sp : Str → List Bool} {fit : Str → Str → Int} {words offs : List Str} (ok : FitOk M Sp fit words offs) {ws os : List (Str × Int)} (hw : ∀ p ∈ os, p.1 ∈ words) (hp : os.Perm ws) (ho : Ordered Sp os) {x : Str} (hx : x ∈ offs) :
    scoreOf (fun w => fit w x) ws = (firstM (M x) os).map fun p => (p.2, fit p.1 x) := by
  rw [← scoreOf_perm (fit := fun w => fit w x) (ws := os) fun p => hp.mem_iff]
  refine first_score (fit := fun w => fit w x) (M := M x) (fun p h => ok.fits x hx p.1 (hw p h)) ?_
  unfold Ordered at ho
  refine List.Pairwise.imp_of_mem (fun {a b} ha hb h h1 h2 => ?_) ho
  have e1 := ok.same x hx a.1 (hw a ha) b.1 (hw b hb) h1 h2
  have e2 := ok.lt x hx a.1 (hw a ha) b.1 (hw b hb) h1 h2
  unfold keyLt at h
  dsimp only at h
  by_cases e : Sp a.1 = Sp b.1
  · have e3 : (Sp a.1 == Sp b.1) = true := by simpa using e
    rw [e3] at h
    simp only [if_true, decide_eq_false_iff_not] at h
    have := e1.mp e
    exact .inr ⟨this.symm, by omega⟩
  · have e3 : (Sp a.1 == Sp b.1) = false := by simpa using e
    rw [e3] at h
    simp only [Bool.false_eq_true, if_false] at h
    have n1 : ¬ fit a.1 x = fit b.1 x := fun q => e (e1.mpr q)
    have n2 : ¬ fit a.1 x < fit b.1 x := fun q => by rw [e2.mpr q] at h; cases h
    exact .inl (by omega)
def BestInv (M : Str → Str → Bool) (Sp : Str → List Bool) (fit : Str → Str → Int) (words : List Str) (os : List (Str × Int)) (xs : List Str) (sc : List Score) (i : Nat) : Prop := match bestOf M Sp os (xs.take i) with
  | none => (List.range i).foldl (bStep sc) (-1) = -1 ∧ ∀ j < i, ∀ q f, sc[j]? = some (some (q, f)) → q ≤ 0
  | some (x, q, s) => 0 < q ∧ ∃ (k : Nat) (c : Str), k < i ∧ (List.range i).foldl (bStep sc) (-1) = (k : Int) ∧ xs[k]? = some x ∧ c ∈ words ∧ s = Sp c ∧ 0 ≤ fit c x ∧ sc[k]? = some (some (q, fit c x)) ∧ (∀ j < k, sc[j]? ≠ sc[k]?) ∧
      ∀ j < i, ∀ q' f', sc[j]? = some (some (q', f')) → 0 < q' → gtI (q', f') (q, fit c x) = false
theorem gtI_false {a b c d : Int} (h : gtI (a, b) (c, d) = false) : ¬ (a > c ∨ (a = c ∧ b > d)) := fun q => by
  rw [gtI_iff.mpr q] at h; cases h
theorem gtI_ff {a b c d : Int} (h : ¬ (a > c ∨ (a = c ∧ b > d))) : gtI (a, b) (c, d) = false := by
  cases e : gtI (a, b) (c, d) with
  | false => rfl
  | true => exact absurd (gtI_iff.mp e) h
theorem best_inv {M : Str → Str → Bool} {Sp : Str → List Bool} {fit : Str → Str → Int} {words offs : List Str} (ok : FitOk M Sp fit words offs) {ws os : List (Str × Int)} (hw : ∀ p ∈ os, p.1 ∈ words) (hp : os.Perm ws) (ho : Ordered Sp os) {xs : List Str} (hx : ∀ x ∈ xs, x ∈ offs) :
    ∀ i, i ≤ xs.length → BestInv M Sp fit words os xs (scoresOf fit ws xs) i := by
  intro i
  induction i with
  | zero =>
    intro _
    unfold BestInv
    simp [bestOf]
  | succ i ih =>
    intro hi
    have I := ih (by omega)
    have hlt : i < xs.length := by omega
    have hxi : xs[i]? = some xs[i] := List.getElem?_eq_getElem hlt
    have hxo : xs[i] ∈ offs := hx _ (List.getElem_mem hlt)
    have hs := score_eq ok hw hp ho hxo
    have hsc : (scoresOf fit ws xs)[i]? = some ((firstM (M xs[i]) os).map fun p => (p.2, fit p.1 xs[i])) := by
      unfold scoresOf
      rw [List.getElem?_map, hxi, Option.map_some, hs]
    generalize scoresOf fit ws xs = sc at I hsc ⊢
    unfold BestInv at I ⊢
    rw [bestOf_step M Sp os hxi, List.range_succ, List.foldl_append]
    simp only [List.foldl_cons, List.foldl_nil]
    cases hf : firstM (M xs[i]) os with
    | none =>
      rw [hf] at hsc
      have e1 : ∀ st, stepB M Sp os st xs[i] = st := fun st => by unfold stepB; rw [hf]
      have e2 : ∀ b, bStep sc b i = b := fun b => by unfold bStep; rw [hsc]; rfl
      rw [e1, e2]
      have more : ∀ j, j < i + 1 → ∀ q f, sc[j]? = some (some (q, f)) → j < i := fun j hj q f h => by
        rcases Nat.lt_succ_iff_lt_or_eq.mp hj with h1 | rfl
        · exact h1
        · rw [hsc] at h; cases h
      cases hb : bestOf M Sp os (xs.take i) with
      | none =>
        rw [hb] at I
        exact ⟨I.1, fun j hj q f h => I.2 j (more j hj q f h) q f h⟩
      | some b =>
        obtain ⟨x, q, s⟩ := b
        rw [hb] at I
        obtain ⟨h0, k, c, h1, h2, h3, h4, h5, h6, h7, h8, h9⟩ := I
        exact ⟨h0, k, c, by omega, h2, h3, h4, h5, h6, h7, h8, fun j hj q' f' h hq => h9 j (more j hj q' f' h) q' f' h hq⟩
    | some p =>
      obtain ⟨c, q⟩ := p
      rw [hf] at hsc
      simp only [Option.map_some] at hsc
      have hcm : (c, q) ∈ os := List.mem_of_find?_eq_some hf
      have hcw : c ∈ words := hw _ hcm
      have hfc : 0 ≤ fit c xs[i] := (ok.fits _ hxo c hcw).mp (by have := List.find?_some hf; exact this)
      by_cases hq : q ≤ 0
      · have e1 : ∀ st, stepB M Sp os st xs[i] = st := fun st => by unfold stepB; rw [hf]; simp only [hq, if_true]
        have e2 : ∀ b, bStep sc b i = b := fun b => by
          unfold bStep
          rw [hsc]
          have : decide (q > 0) = false := by simpa using hq
          simp only [this, Bool.false_and, Bool.false_eq_true, if_false]
        rw [e1, e2]
        cases hb : bestOf M Sp os (xs.take i) with
        | none =>
          rw [hb] at I
          refine ⟨I.1, fun j hj q' f' h => ?_⟩
          rcases Nat.lt_succ_iff_lt_or_eq.mp hj with h1 | rfl
          · exact I.2 j h1 q' f' h
          · rw [hsc] at h; cases h; exact hq
        | some b =>
          obtain ⟨x, q1, s⟩ := b
          rw [hb] at I
          obtain ⟨h0, k, c', h1, h2, h3, h4, h5, h6, h7, h8, h9⟩ := I
          refine ⟨h0, k, c', by omega, h2, h3, h4, h5, h6, h7, h8, fun j hj q' f' h hq' => ?_⟩
          rcases Nat.lt_succ_iff_lt_or_eq.mp hj with h1' | rfl
          · exact h9 j h1' q' f' h hq'
          · rw [hsc] at h; cases h; omega
      · have hq' : 0 < q := by omega
        cases hb : bestOf M Sp os (xs.take i) with
        | none =>
          rw [hb] at I
          have e1 : stepB M Sp os none xs[i] = some (xs[i], q, Sp c) := by unfold stepB; rw [hf]; simp only [hq, if_false]
          have e2 : bStep sc (-1) i = i := by
            unfold bStep
            rw [hsc]
            have : decide (q > 0) = true := by simpa using hq'
            simp only [this, Bool.true_and, show decide ((-1 : Int) < 0) = true from rfl, Bool.true_or, if_true]
          rw [e1, I.1, e2]
          refine ⟨hq', i, c, by omega, rfl, hxi, hcw, rfl, hfc, hsc, fun j hj h => ?_, fun j hj q1 f1 h hq1 => ?_⟩
          · rw [hsc] at h
            have := I.2 j hj _ _ h
            omega
          · rcases Nat.lt_succ_iff_lt_or_eq.mp hj with h1 | rfl
            · have := I.2 j h1 _ _ h; omega
            · rw [hsc] at h; cases h; exact gtI_ff (by omega)
        | some b =>
          obtain ⟨xb, qb, sb⟩ := b
          rw [hb] at I
          obtain ⟨h0, k, cb, h1, h2, h3, h4, h5, h6, h7, h8, h9⟩ := I
          have hkb : xb ∈ offs := hx _ (List.mem_of_getElem? h3)
          have hgt := ok.gt xs[i] hxo c hcw xb hkb cb h4 hfc h6
          have e2 : bStep sc (k : Int) i = if gtI (q, fit c xs[i]) (qb, fit cb xb) = true then (i : Int) else (k : Int) := by
            unfold bStep
            rw [hsc]
            have a1 : decide (q > 0) = true := by simpa using hq'
            have a2 : decide ((k : Int) < 0) = false := by simp
            simp only [a1, a2, Bool.true_and, Bool.false_or, Int.toNat_natCast, h7]
          rw [h2, e2]
          have upd : gtI (q, fit c xs[i]) (qb, fit cb xb) = true → stepB M Sp os (some (xb, qb, sb)) xs[i] = some (xs[i], q, Sp c) := fun hg => by
            have hg := gtI_iff.mp hg
            unfold stepB
            rw [hf]
            simp only [hq, if_false]
            rcases hg with hg | ⟨hg1, hg2⟩
            · rw [if_neg (by omega), if_pos hg]
            · rw [if_neg (by omega), if_neg (by omega), h5, if_pos (hgt.mpr hg2)]
          have keep : gtI (q, fit c xs[i]) (qb, fit cb xb) = false → stepB M Sp os (some (xb, qb, sb)) xs[i] = some (xb, qb, sb) := fun hg => by
            have hg := gtI_false hg
            unfold stepB
            rw [hf]
            simp only [hq, if_false]
            by_cases a1 : q < qb
            · rw [if_pos a1]
            · rw [if_neg a1, if_neg (by omega), h5, if_neg fun h => hg (.inr ⟨by omega, hgt.mp h⟩)]
          cases hg : gtI (q, fit c xs[i]) (qb, fit cb xb) with
          | true =>
            rw [upd hg, if_pos rfl]
            have hg' := gtI_iff.mp hg
            refine ⟨hq', i, c, by omega, rfl, hxi, hcw, rfl, hfc, hsc, fun j hj h => ?_, fun j hj q1 f1 h hq1 => ?_⟩
            · rw [hsc] at h
              have := h9 j hj _ _ h hq'
              rw [hg] at this; cases this
            · rcases Nat.lt_succ_iff_lt_or_eq.mp hj with h1 | rfl
              · have := gtI_false (h9 j h1 _ _ h hq1)
                exact gtI_ff (by omega)
              · rw [hsc] at h; cases h; exact gtI_ff (by omega)
          | false =>
            rw [keep hg]
            simp only [Bool.false_eq_true, if_false]
            refine ⟨h0, k, cb, by omega, rfl, h3, h4, h5, h6, h7, h8, fun j hj q1 f1 h hq1 => ?_⟩
            rcases Nat.lt_succ_iff_lt_or_eq.mp hj with h1 | rfl
            · exact h9 j h1 _ _ h hq1
            · rw [hsc] at h; cases h; exact hg
theorem best_eq {M : Str → Str → Bool} {Sp : Str → List Bool} {fit : Str → Str → Int} {words offs : List Str} (ok : FitOk M Sp fit words offs) {ws os : List (Str × Int)} (hw : ∀ p ∈ os, p.1 ∈ words) (hp : os.Perm ws) (ho : Ordered Sp os) {xs : List Str} (hx : ∀ x ∈ xs, x ∈ offs) : match bestOf M Sp os xs with
    | none => bestIx (scoresOf fit ws xs) = -1
    | some (x, _, _) => ∃ k : Nat, bestIx (scoresOf fit ws xs) = k ∧ xs[k]? = some x ∧ ∀ j < k, (scoresOf fit ws xs)[j]? ≠ (scoresOf fit ws xs)[k]? := by
  have I := best_inv ok hw hp ho hx xs.length (Nat.le_refl _)
  have hl : (scoresOf fit ws xs).length = xs.length := by unfold scoresOf; rw [List.length_map]
  unfold BestInv at I
  unfold bestIx
  rw [hl]
  rw [List.take_length] at I
  cases hb : bestOf M Sp os xs with
  | none => rw [hb] at I; exact I.1
  | some b =>
    obtain ⟨x, q, s⟩ := b
    rw [hb] at I
    obtain ⟨h0, k, c, h1, h2, h3, h4, h5, h6, h7, h8, h9⟩ := I
    exact ⟨k, h2, h3, h8⟩
end Mine
end

section
open PySem PySem.W PyProof.Rows PySem.Calls PySem.Spec
set_option Elab.async false
set_option maxRecDepth 100000
set_option linter.unusedVariables false
namespace Mine
theorem test_starts {prog : Program} {w : World} {A : Around} {E : Value → Shared → Prop} {env : Env} {v rv : Str} {u ru : Tok} {c : Addr} {p1 p2 p3 p4 : Pos} {t : Shared} {m₂ : Str → Option Value} (hk : env.scope.kind = .function) (hl : env.kindOf (Str.ofString "item") = some .local) (hr : env.kindOf (Str.ofString "result") = some .free) (hc : env.cells.lookup (Str.ofString "result") = some c) (hcell : t.heap.IsCell c (some (.str rv ru))) (hn : t.heap.Ns env.locals m₂) (hv : m₂ (Str.ofString "item") = some (.str v u)) (hline : (p2.endLine == p4.line) = true)
    (hfew : ((backTo p4 (starEach [.Name (Str.ofString "result") p3] env)).all (fun x => !x.1) && (backToKw p4 (keywordEach [] env)).all (fun x => x.1.isSome)
      && decide ([Expr.Name (Str.ofString "result") p3].length + ([] : List Keyword).length + (if ([] : List Keyword).isEmpty then 0 else 1) < 30)) = true)
    (hbase : attributeBase (.Name (Str.ofString "item") p1) (Str.ofString "startswith") env (eval (.Name (Str.ofString "item") p1) env) = eval (.Name (Str.ofString "item") p1) env) :
    wpAny (model prog w) A (eval (.Call (.Attribute (.Name (Str.ofString "item") p1) (Str.ofString "startswith") p2) [.Name (Str.ofString "result") p3] [] p4) env) (fun y s₃ => y = .bool (Txt.startswith v rv) ∧ Keeps t s₃) E t := by
  refine wpAny_Call_method_lateS hbase hfew hline ?_
  refine wpAny_Name (wpAny_loadName_local hk hl hn hv ?_) (by decide)
  refine PySem.SB.startswith ?_
  refine wpAny_Name (wpAny_loadName_free hk hr hc hcell ?_) (by decide)
  exact ⟨rv, ru, rfl, rfl, _, _, rfl, fun _ _ e => e⟩
end Mine
end

section
open PySem PySem.W PyProof.Rows PySem.Calls PySem.Spec
set_option Elab.async false
set_option maxRecDepth 100000
set_option linter.unusedVariables false
namespace Mine
theorem pass_find {xs : List Str} {f : Str → Bool} {i : Nat} (h : (passing (fun i => f (xs.getD i "")) xs.length 0)[0]? = some i) {p : Str} (hp : xs[i]? = some p) : xs.find? f = some p := by
  unfold passing at h
  rw [List.drop_zero, ← List.head?_eq_getElem?, List.head?_filter, List.find?_range_eq_some] at h
  obtain ⟨h1, h2, h3⟩ := h
  obtain ⟨hlt, hx⟩ := List.getElem?_eq_some_iff.mp hp
  rw [List.find?_eq_some_iff_getElem]
  refine ⟨?_, i, hlt, hx, fun j hj => ?_⟩
  · have : xs.getD i "" = p := by simp [List.getD, hp]
    rw [this] at h1; exact h1
  · have := h3 j hj
    have hj' : j < xs.length := Nat.lt_trans hj hlt
    have e : xs.getD j "" = xs[j] := by simp [List.getD, hj']
    rw [e] at this; exact this
theorem pass_pos {xs : List Str} {f : Str → Bool} (h : ∃ x ∈ xs, f x = true) : 0 < (passing (fun i => f (xs.getD i "")) xs.length 0).length := by
  obtain ⟨x, hx, hf⟩ := h
  obtain ⟨i, hlt, rfl⟩ := List.getElem_of_mem hx
  unfold passing
  rw [List.drop_zero]
  refine List.length_pos_of_mem (a := i) (List.mem_filter.mpr ⟨List.mem_range.mpr hlt, ?_⟩)
  have e : xs.getD i "" = xs[i] := by simp [List.getD, hlt]
  simp only [e]; exact hf
end Mine
end

section
open PySem PySem.W PyProof.Rows PySem.Calls PySem.Spec
set_option Elab.async false
set_option maxRecDepth 100000
set_option maxHeartbeats 0
set_option linter.unusedVariables false
namespace Mine
def mainL (x : Str) : Str := match splitStr langCode x 1 with
  | some (a :: _) => a
  | _ => x
/-- what LanguageAccept.best_match gives -/
def LangR (ws : List (Str × Int)) (xs : List Str) (dflt v : Value) : Prop := match bestOf Mt2 Sp0 ws xs with
  | some (x, _, _) => ∃ t, v = .str x t
  | none => ∃ us : List (Str × Int), us.Perm (ws.map fun p => (mainL p.1, p.2)) ∧ Ordered Sp0 us ∧ match bestOf Mt0 Sp0 us xs with
    | some (x, _, _) => ∃ t, v = .str x t
    | none => match bestOf Mt2 Sp0 ws (xs.map mainL) with
      | some (r, _, _) => ∃ x t, xs.find? (fun x => Txt.startswith x r) = some x ∧ v = .str x t
      | none => v = dflt
def MainOk (x : Str) : Prop := x.length ≤ 300 ∧ ∃ r, splitStr langCode x 1 = some (mainL x :: r) ∧ (mainL x :: r).length ≤ 1000
theorem Pairs.snocN {news : List (Addr × Obj)} : ∀ {vs : List Value} {ps : List (Str × Int)} {p : Str × Int} {a : Addr} {t u : Tok} {n : Nat}, Pairs news vs ps → (a, (⟨.type "tuple", none, .seq #[.str p.1 t, .int p.2 u] n, #[]⟩ : Obj)) ∈ news → Pairs news (vs ++ [.ref a]) (ps ++ [p])
  | [], [], _, _, _, _, _, _, hm => ⟨⟨_, _, _, _, rfl, hm⟩, trivial⟩
  | _ :: _, _ :: _, _, _, _, _, _, h, hm => ⟨h.1, Pairs.snocN h.2 hm⟩
  | [], _ :: _, _, _, _, _, _, h, _ => h.elim
  | _ :: _, [], _, _, _, _, _, h, _ => h.elim
theorem lookup_atN {x y : Str} {v : Value} {l : List (Str × Value)} : List.lookup y ((x, v) :: l) = if y = x then some v else List.lookup y l := by
  by_cases h : y = x
  · subst h; simp [List.lookup]
  · have : (y == x) = false := by simpa using h
    simp [List.lookup, h, this]
theorem bestOf_mem {M : Str → Str → Bool} {Sp : Str → List Bool} {ws : List (Str × Int)} {xs : List Str} {b : Str × Int × List Bool} (h : bestOf M Sp ws xs = some b) : b.1 ∈ xs := by
  have key : ∀ (ys : List Str) (st : Best) (P : Str → Prop), (∀ b, st = some b → P b.1) → (∀ x ∈ ys, P x) → ∀ b, ys.foldl (stepB M Sp ws) st = some b → P b.1 := by
    intro ys
    induction ys with
    | nil => intro st P h1 _ b hb; exact h1 b hb
    | cons y ys ih =>
      intro st P h1 h2 b hb
      refine ih (stepB M Sp ws st y) P (fun b' hb' => ?_) (fun x hx => h2 x (.tail _ hx)) b hb
      have hy := h2 y (.head _)
      unfold stepB at hb'
      split at hb'
      · exact h1 _ hb'
      · split at hb'
        · exact h1 _ hb'
        · split at hb'
          · cases hb'; exact hy
          · split at hb'
            · exact h1 _ hb'
            · split at hb'
              · cases hb'; exact hy
              · split at hb'
                · cases hb'; exact hy
                · exact h1 _ hb'
  exact key xs none (· ∈ xs) (fun _ h => nomatch h) (fun _ h => h) b h
theorem pos_if {b : Bool} {P R : Prop} (hb : b = true) (h : P) : if b = true then P else R := by rw [if_pos hb]; exact h
theorem neg_if {b : Bool} {P R : Prop} (hb : b = false) (h : R) : if b = true then P else R := by rw [if_neg (by rw [hb]; exact Bool.noConfusion)]; exact h
theorem TabS.neCell {h₀ h : Heap} {L : Addr} {tb led : List (Addr × Obj)} (TS : TabS tb) (N : News h₀ L h led) (hm : ∀ p ∈ tb, p ∈ led) {a : Addr} {o : Obj} {v : Option Value} (hi : (a, o) ∈ led) (hd : o.data = .cell v) : ∀ p ∈ tb, p.1 ≠ a := fun p hp q => by
  have e : some p.2 = some o := by rw [← (N p (hm p hp)).1, q]; exact (N _ hi).1
  have e' := Option.some.inj e
  obtain ⟨p1, p2, p3, cds, rfl, _, _, _, hc⟩ := TS
  have tabNe : ∀ ps, tabObj ps ≠ o := fun ps h => by rw [← h] at hd; cases hd
  rcases List.mem_cons.mp hp with rfl | hp
  · exact tabNe _ e'
  rcases List.mem_cons.mp hp with rfl | hp
  · exact tabNe _ e'
  rcases List.mem_cons.mp hp with rfl | hp
  · exact tabNe _ e'
  obtain ⟨_, vs, q9, t, h1, h2⟩ := hc p hp
  rw [e', hd] at h1
  cases h1
/-- of a ledger keep one cell, the tables, and what was there before -/
theorem News.keepC {h₀ h : Heap} {L c : Addr} {o : Obj} {tb led news : List (Addr × Obj)} (N : News h₀ L h led) (h1 : (c, o) ∈ led) (h2 : ∀ p ∈ tb, p ∈ led) (h3 : ∀ p ∈ news, p ∈ led) : News h₀ L h ((c, o) :: (tb ++ news)) := fun p hp => by
  rcases List.mem_cons.mp hp with rfl | hp
  · exact N _ h1
  rcases List.mem_append.mp hp with hp | hp
  · exact N p (h2 p hp)
  · exact N p (h3 p hp)
section
local macro_rules | `(tactic| walk_at "none 0") => `(tactic| fail)
local macro_rules | `(tactic| walk_at "none 1") => `(tactic| fail)
local macro_rules | `(tactic| walk_at "none 2") => `(tactic| fail)
local macro_rules | `(tactic| walk_at "none 3") => `(tactic| fail)
local macro_rules | `(tactic| walk_at "none 4") => `(tactic| fail)
local macro_rules | `(tactic| walk_at "none 5") => `(tactic| fail)
local macro_rules | `(tactic| walk_at "none 6") => `(tactic| fail)
local macro_rules | `(tactic| walk_at "none 7") => `(tactic| fail)
local macro_rules | `(tactic| walk_at "none 8") => `(tactic| fail)
local macro_rules | `(tactic| walk_at "none 9") => `(tactic| fail)
local macro_rules | `(tactic| walk_at "none 10") => `(tactic| fail)
local macro_rules | `(tactic| walk_at "none 11") => `(tactic| fail)
local macro_rules | `(tactic| k_mem) => `(tactic| with_reducible assumption)
local macro_rules | `(tactic| k_inst) => `(tactic| (refine' inst_seq ?N ?h1 ?h2; (case N => k_asm); (case h1 => k_mem); (case h2 => k_mem)))
local macro_rules | `(tactic| k_asm) => `(tactic| ((with_reducible show GOk _ _); first | exact GOk.refl _ | (intro x9; solve_by_elim)))
local macro_rules | `(tactic| k_mem) => `(tactic| ((with_reducible (first | refine List.mem_append_right _ ?_ | refine mem_appR ?_)); k_mem))
local macro_rules | `(tactic| walk_at "call ref") => `(tactic| (
  k_here
  (with_reducible show wpAny _ _ (call (Value.ref _) [Value.ref _] _) _ _ _)
  k_dflt (refine' specTK_bound (best_K ?kH ?kS _ _ _ _ _ _ _ _ _ _ _ _ ?kas _ _ ?k1 ?k2 ?k3 ?k4 ?k5 ?k6 ?k7) ?kB ?kF ?kX ?kN ?kq ?kTS ?kP ?kNN ?kT ?kK ?kD ?kU ?_)
  (case kB => k_asm)
  (case kF => k_asm)
  (case kX => k_asm)
  (case kN => k_asm)
  (case kq => k_mem)
  (case kTS => with_reducible assumption)
  (case kP => (repeat (first | exact Pull.here | apply Pull.cons | apply Pull.app)))
  (case kT => k_asm)
  (case kH => with_reducible assumption)
  (case kS => with_reducible assumption)
  (case kas => exact .inr ⟨rfl, rfl⟩)
  (case k1 => k_dflt k_mem)
  (case k2 => k_dflt k_mem)
  (case k3 => (refine Pairs.mono (fun p9 h9 => ?_) (by with_reducible assumption); repeat (first | exact h9 | apply List.mem_cons_of_mem | apply List.mem_append_right)))
  (case k4 => k_dflt k_mem)
  (case k5 => with_reducible assumption)
  (case k6 => with_reducible assumption)
  (case k7 => exact fun _ _ => trivial)
  (case kNN => (repeat (first | (with_reducible assumption) | exact NT.nil | (refine NT.cons (by intro h9; cases h9) ?_) | refine NT.app ?_ ?_)))
  (case kK => rfl)
  (case kD => exact Nat.le_of_ble_eq_true rfl)
  (case kU => exact Nat.le_of_ble_eq_true rfl)
  k_whole
  (intro v tl tb9 h' g' tk' hR F' N' TS9 NT9 hlt hg)
  (obtain ⟨hR, e2⟩ := hR)
  subst e2
  (simp only [List.nil_append] at N')
  clear NT9 hlt
  try k_sweep))
local macro_rules | `(tactic| walk_at "getMethod ref") => `(tactic| (k_here; (with_reducible show wpAny _ _ (getMethod (Value.ref 287) _ _) _ _ _); k_dflt (refine' meth_split (pat_mime' ?kx) ?_; (case kx => k_in))))
local macro_rules | `(tactic| walk_at "getMethod ref") => `(tactic| (k_here; (with_reducible show wpAny _ _ (getMethod (Value.ref 349) _ _) _ _ _); k_dflt (refine' meth_split (pat_lang' ?kx) ?_; (case kx => k_in))))
local macro_rules | `(tactic| walk_at "call builtin:re.Pattern.split") => `(tactic| (
  k_here
  k_dflt (first
    | refine' call_split0 (pat_mime' ?kx) ?kz ?ks ?kp (splitBack_K ?kF ?kN ?_)
    | refine' call_split0 (pat_lang' ?kx) ?kz ?ks ?kp (splitBack_K ?kF ?kN ?_)
    | refine' call_split1 (pat_mime' ?kx) ?kz ?ks ?kp (splitBack_K ?kF ?kN ?_)
    | refine' call_split1 (pat_lang' ?kx) ?kz ?ks ?kp (splitBack_K ?kF ?kN ?_))
  (case kx => k_in)
  (case ks => assumption)
  (case kz => first | assumption | omega)
  (case kp => assumption)
  (case kF => k_asm)
  (case kN => k_asm)
  intro l' vs' h' tk' hvs' F' N' l1
  cases hvs'
  try k_lt l1
  try k_sweep))
theorem bmL : ∀ {w : World} {news : List (Addr × Obj)} (self d ml : Addr) (vs os : List Value) (n k : Nat) (hh : Int) (tt : Tok) (pv dflt : Value) (ws : List (Str × Int)) (xs : List Str) (hself : (self, (⟨.ref 381, some d, .seq vs.toArray n, #[]⟩ : Obj)) ∈ news) (hdd : (d, W.dictOf [⟨hh, .str (Str.ofString "provided") tt, pv⟩] 1) ∈ news) (hp : Pairs news vs ws) (hml : (ml, W.listOf os.toArray k) ∈ news) (hos : Strs os xs)
    (hw : ∀ x ∈ xs, ∀ p ∈ ws, Okp2 x p.1) (hl : ws.length ≤ 6) (hmw : ∀ p ∈ ws, MainOk p.1) (hw0 : ∀ x ∈ xs, ∀ p ∈ ws, Okp0 x (mainL p.1)) (hmx : ∀ x ∈ xs, MainOk x) (hw2 : ∀ x ∈ xs, ∀ p ∈ ws, Okp2 (mainL x) p.1) (hlx : xs.length ≤ 6) (hst : ∀ x ∈ xs, Txt.startswith x (mainL x) = true), SpecT w 600 6000 (.ref 378) [.ref self, .ref ml, dflt] news (fun v tl => LangR ws xs dflt v ∧ tl = []) := by
  unfold SpecT
  w_top off
  k_fill
  intro w news self d ml vs os n k hh tt pv dflt ws xs hself hdd hp hml hos hw hl hmw hw0 hmx hw2 hlx hst mean mg mb gd cn cs a ccd cl outer A₀ base h₀ L m s Q E tb0 B F X N TS NN T hk ret
  have cls2' := cls2 (w := w) rfl rfl
  have spc2' := spc2 (w := w) rfl rfl
  have cls0' := cls0 (w := w) rfl rfl
  have spc0' := spc0 (w := w) rfl rfl
  have new0' := new0 (w := w) rfl rfl
  refine wpAny_call ?_
  refine' code_cell1 (x := Str.ofString "result") ?k1 ?k2 ?k3 ?k4 ?k5 ?kA ?kF ?kK ?k6 ?k7 ?k8 ?k9 ?kc ?kp ?_ ?c2 ?c3 ?c4
  case kA => exact rfl
  case kF => exact rfl
  case kK => assumption
  case k1 => k_asm
  case k2 => k_asm
  case k3 => k_asm
  case k4 => k_asm
  case k5 => k_asm
  case k6 => k_is
  case k7 => k_is
  case k8 => ktr_room
  case k9 => exact binds_K (by k_in) rfl (by k_is) rfl rfl rfl
  case kc => intro n9; rfl
  case kp => intro h9; rfl
  case c2 => exact rfl
  case c3 => exact rfl
  case c4 => exact rfl
  intro g' L' c9 h' FG' F' N' B' X' T' l3
  have c9ne := TabS.above TS (fun p hp => l3 p (List.mem_append_left _ hp)) (fun p hp => hp)
  refine storeX_L F' N' (fun h1 F1 N1 => ?_)
  refine storeX_L F1 N1 (fun h2 F2 N2 => ?_)
  refine storeX_L F2 N2 (fun h3 F3 N3 => ?_)
  refine ⟨T'.nolimit.keeps F3.keep, ?_⟩
  clear F2 N2 F1 N1 F' N'
  have F4 := Fr.as F3 (m' := fun z9 => List.lookup z9 [(Str.ofString "default", dflt), (Str.ofString "matches", .ref ml), (Str.ofString "self", .ref self)]) (by funext y9; simp only [lookup_atN, List.lookup_nil])
  clear F3
  dsimp only
  refine ks_wpAt_execs_cons ?_
  refine ks_wpAt_Assign_Name ?_
  refine ks_wpAt_MethodCall ?_
  refine super_node (C := 381) (D := 381) (x := self) F4 X' N3 T' (by k_is) (by rfl) (.inl ⟨rfl, rfl⟩) (inst_seq (by k_asm) (.tail _ (List.mem_append_right _ hself)) (.tail _ (List.mem_append_right _ hdd))) (by k_is) (by rfl) (by first | rfl | decide +kernel) (by rfl) (by k_is) (by k_is) (by k_is) (by k_is) (by decide) (by rfl) (by rfl) (by rfl) (by decide +kernel) (by first | boot_by_name | rfl | kernel_rfl) (fun so h8 F8 N8 l8 => ?_)
  clear F4 N3
  refine ks_method (C := 381) (D := 381) (x := self) (so := so) F8 X' N8 (.head _) (inst_seq (by k_asm) (.tail _ (.tail _ (List.mem_append_right _ hself))) (.tail _ (.tail _ (List.mem_append_right _ hdd)))) (by k_is) (by ks_is) (by k_is) (by decide) (fun q9 h9 F9 N9 l9 => ?_)
  clear F8 N8
  dsimp only
  refine wpAny_opaque fun QQ hQQ => ?_
  iterate 4 (first | (k_unfold; (try dsimp only)) | walk1 | (dsimp only; walk1))
  refine ⟨?_, ?_⟩
  · k_steps
  refine specTK_bound (tb := tb0) (news := (q9, methodObj (.ref 269) (.ref self)) :: (so, ks_superObj 381 self 381) :: (c9, noCell) :: news) (best_K cls2' spc2' self d ml vs os n k hh tt pv .none [.ref self, .ref ml] (.inr ⟨rfl, rfl⟩) ws xs (.tail _ (.tail _ (.tail _ hself))) (.tail _ (.tail _ (.tail _ hdd))) (Pairs.mono (fun p h => .tail _ (.tail _ (.tail _ h))) hp) (.tail _ (.tail _ (.tail _ hml))) hos hw (fun _ _ => trivial)) B' F9 X' N9 (.head _) TS (.cons (.cons (.cons .here))) (NT.cons (by intro h9; cases h9) (NT.cons (by intro h9; cases h9) (NT.cons (by intro h9; cases h9) NN))) T' rfl (Nat.le_of_ble_eq_true rfl) (Nat.le_of_ble_eq_true rfl) (fun v1 tl1 tb1 h1 g1 tk1 hR1 F1 N1 TS1 NT1 hlt1 hg1 => ?_)
  obtain ⟨hR1, rfl⟩ := hR1
  clear F9 N9 NT1 hlt1
  dsimp only [List.nil_append] at N1 hg1 ⊢
  refine hQQ _ _ ?_
  clear hQQ QQ
  have N2 : News g' L' h1 ((c9, noCell) :: (tb1 ++ news)) := News.keepC N1 (List.mem_append_right _ (.tail _ (.tail _ (.head _)))) (fun p h => List.mem_append_left _ h) (fun p h => List.mem_append_right _ (.tail _ (.tail _ (.tail _ h))))
  clear N1
  have hc1 := TS1.neCell N2 (fun p h => .tail _ (List.mem_append_left _ h)) (.head _) rfl
  have hc2 : ∀ p ∈ news, p.1 ≠ c9 := fun p h => Nat.ne_of_lt (l3 p (List.mem_append_right _ h))
  refine storeX_C F1 N2 rfl (UpdF.head fun p hp => (List.mem_append.mp hp).elim (hc1 p) (hc2 p)) rfl (fun h2 o2 F2 N3 hd2 => ?_)
  clear F1 N2 hc1
  dsimp only
  refine ks_wpAt_execs_cons ?_
  refine ks_wpAt_If ?_
  refine wpAt_of_wpAny ?_
  refine wpAny_opaque fun QQ hQQ => ?_
  cases hb1 : bestOf Mt2 Sp0 ws xs with
  | some p =>
    obtain ⟨x1, q1, sp1⟩ := p
    rw [hb1] at hR1
    obtain ⟨t1, rfl⟩ := hR1
    k_steps
    refine hQQ _ _ ?_
    clear hQQ QQ
    refine pos_if (by rfl) ?_
    k_steps
    with_reducible rename News h₀ L _ _ => n9
    refine ret _ [] tb1 _ _ _ ⟨by unfold LangR; rw [hb1]; exact ⟨_, rfl⟩, rfl⟩ (by k_asm) (fun q hq => n9 q (.tail _ hq)) TS1 NT.nil (fun _ _ _ h9 => nomatch h9) hg1
  | none =>
    rw [hb1] at hR1
    subst hR1
    k_steps
    refine hQQ _ _ ?_
    clear hQQ QQ
    refine neg_if (by rfl) ?_
    refine wpAt_of_wpAny ?_
    refine wpAny_opaque fun QQ hQQ => ?_
    k_steps
    refine hQQ _ _ ?_
    clear hQQ QQ
    dsimp only
    refine ks_wpAt_execs_cons ?_
    refine wpAt_of_wpAny ?_
    refine wpAny_opaque fun QQ hQQ => ?_
    iterate 5 (first | (k_unfold; (try dsimp only)) | walk1 | (dsimp only; walk1))
    have hit2 := cls2'.it
    have hmr2 := cls2'.mr
    refine comp_seq F2 (by rfl) (by decide) (by rfl) (by decide) (by rfl) ?_
    refine nameX_L F2 rfl ?_
    refine ⟨self, _, vs, n, _, rfl, rfl, F2, N3, .tail _ (List.mem_append_right _ hself), rfl, ?_, ?_, ?_⟩
    · rw [Pairs.len hp]; exact Nat.le_trans hl (by decide)
    · intro Q' E' h
      exact iter_inst (X'.keeps F2.keep) (inst_seq N3 (.tail _ (List.mem_append_right _ hself)) (.tail _ (List.mem_append_right _ hdd))) hit2 hmr2 h
    · rintro s₂ ⟨h4, rfl⟩
      refine compRest_inv (fun i ys nw => ∃ made, nw = made ++ ((c9, o2) :: (tb1 ++ news)) ∧ NT made ∧ Pairs made ys ((ws.take i).map fun p => (mainL p.1, p.2))) ?_ ?_ vs.length 0 [] _ (Nat.zero_add _) ⟨[], rfl, NT.nil, trivial⟩
      · rintro i ys _ v I oI C oC D m₂ h tk E' hi ⟨made, rfl, hNT, hP⟩ hv hC hx F N off ne
        obtain ⟨p, a5, t5, u5, n5, hws, rfl, hm5⟩ := Pairs.at hp hv
        obtain ⟨hp1, r5, hp2, hp3⟩ := hmw p (List.mem_of_getElem? hws)
        clear F2 N3 hQQ
        have hm6 : (a5, (⟨.type "tuple", none, .seq #[.str p.1 t5, .int p.2 u5] n5, #[]⟩ : Obj)) ∈ made ++ ((c9, o2) :: (tb1 ++ news)) := List.mem_append_right _ (.tail _ (List.mem_append_right _ hm5))
        refine wpAny_opaque fun Q5 hQ5 => ?_
        k_steps
        refine hQ5 _ _ ?_
        clear hQ5 Q5
        rename_i cE l6 h6 tk6 t6 vs6 hS6 l1a D6 h7 F6 N6 l1b
        have e1 : ws.take (i + 1) = ws.take i ++ [p] := by rw [List.take_add_one, hws]; rfl
        refine LCg.CompEnd.intro F6 N6 ((D6, (⟨.type "tuple", none, .seq #[.str (mainL p.1) t6, .int p.2 u5] 0, #[]⟩ : Obj)) :: (made ++ ((c9, o2) :: (tb1 ++ news)))) (fun q hq => ?_) ⟨⟨Nat.ne_of_gt l1b.2.1, Nat.ne_of_gt l1b.2.2.1, Nat.ne_of_gt l1b.2.2.2.1⟩, off⟩ (.tail _ (List.mem_append_right _ (.tail _ (List.mem_append_right _ hself)))) ⟨(D6, (⟨.type "tuple", none, .seq #[.str (mainL p.1) t6, .int p.2 u5] 0, #[]⟩ : Obj)) :: made, rfl, NT.cons ?nt5 hNT, ?_⟩
        case nt5 => (intro h9; cases h9)
        · rcases List.mem_cons.mp hq with rfl | hq
          · exact .tail _ (.tail _ (.head _))
          rcases List.mem_cons.mp hq with rfl | hq
          · exact .tail _ (.tail _ (.tail _ (.head _)))
          rcases List.mem_cons.mp hq with rfl | hq
          · exact .tail _ (.tail _ (.tail _ (.tail _ (.head _))))
          rcases List.mem_cons.mp hq with rfl | hq
          · exact .head _
          · exact .tail _ (.tail _ (.tail _ (.tail _ (.tail _ hq))))
        · rw [e1, List.map_append]
          exact Pairs.snocN (Pairs.mono (fun _ h => .tail _ h) hP) (.head _)
      · rintro ys _ ⟨made, rfl, hNT, hP⟩ D h tk F N off
        rw [Pairs.len hp, List.take_length] at hP
        have hus : (ws.map fun p => (mainL p.1, p.2)).length ≤ 6 := by rw [List.length_map]; exact hl
        clear F2 N3
        have N4 : News g' L' h ((D, W.listOf ys.toArray ys.length) :: (made ++ ((c9, o2) :: (tb1 ++ news)))) := N
        clear N
        iterate 1 (first | (k_unfold; (try dsimp only)) | walk1 | (dsimp only; walk1))
        refine ⟨X'.keeps F.keep, ?_⟩
        refine specT_use (tb := tb1) (news := (D, W.listOf ys.toArray ys.length) :: (made ++ ((c9, o2) :: news))) (make_G cls0' spc0' new0' D ys _ _ (.head _) (Pairs.mono (fun _ h => .tail _ (List.mem_append_left _ h)) hP) hus (fun _ _ => trivial)) B' F X' N4 TS1 (.cons (.app (.cons .here))) (NT.cons (by intro h9; cases h9) (NT.app hNT (NT.consA c9ne NN))) T' rfl (Nat.le_of_ble_eq_true rfl) (Nat.le_of_ble_eq_true rfl) (fun v2 tl2 tb2 h5 g5 tk5 hR2 F5 N5 TS5 NT5 hlt5 hg5 => ?_)
        obtain ⟨fx, fd, fn, fh, ft, us, osr, rfl, rfl, hPu, hperm, hord⟩ := hR2
        clear F N4
        dsimp only at hg5 ⊢
        refine storeX_L F5 N5 (fun h6 F6 N6 => ?_)
        clear F5 N5
        refine hQQ _ _ ?_
        clear hQQ QQ
        dsimp only
        refine ks_wpAt_execs_cons ?_
        refine wpAt_of_wpAny ?_
        refine wpAny_opaque fun QQ hQQ => ?_
        have N7 : News g' L' h6 ((c9, o2) :: (fx, (⟨.ref 280, some fd, .seq us.toArray fn, #[]⟩ : Obj)) :: (fd, W.dictOf [⟨fh, .str (Str.ofString "provided") ft, .bool true⟩] 1) :: (tb2 ++ ((D, W.listOf ys.toArray ys.length) :: (made ++ news)))) := fun p hp => by
          refine N6 p ?_
          rcases List.mem_cons.mp hp with rfl | hp
          · exact List.mem_append_right _ (List.mem_append_right _ (.tail _ (List.mem_append_right _ (.head _))))
          rcases List.mem_cons.mp hp with rfl | hp
          · exact List.mem_append_left _ (.head _)
          rcases List.mem_cons.mp hp with rfl | hp
          · exact List.mem_append_left _ (.tail _ (.head _))
          rcases List.mem_append.mp hp with hp | hp
          · exact List.mem_append_right _ (List.mem_append_left _ hp)
          rcases List.mem_cons.mp hp with rfl | hp
          · exact List.mem_append_right _ (List.mem_append_right _ (.head _))
          rcases List.mem_append.mp hp with hp | hp
          · exact List.mem_append_right _ (List.mem_append_right _ (.tail _ (List.mem_append_left _ hp)))
          · exact List.mem_append_right _ (List.mem_append_right _ (.tail _ (List.mem_append_right _ (.tail _ hp))))
        clear N6
        have F7 := Fr.as F6 (m' := fun z9 => List.lookup z9 [(Str.ofString "fallback", .ref fx), (Str.ofString "default", dflt), (Str.ofString "matches", .ref ml), (Str.ofString "self", .ref self)]) (by funext y9; simp only [lookup_atN, List.lookup_nil])
        clear F6
        iterate 3 (first | (k_unfold; (try dsimp only)) | walk1 | (dsimp only; walk1))
        refine method_seq (C := 280) F7 X' (inst_seq N7 (.tail _ (.head _)) (.tail _ (.tail _ (.head _)))) cls0'.ga cls0'.gt (by k_is) (by k_is) (by k_get) ?_
        iterate 4 (first | (k_unfold; (try dsimp only)) | walk1 | (dsimp only; walk1))
        refine ⟨X'.keeps F7.keep, ?_⟩
        have hok0 : ∀ x ∈ xs, ∀ p ∈ osr, Okp0 x p.1 := fun x hx p hp => by
          obtain ⟨p', hp', rfl⟩ := List.mem_map.mp (hperm.mem_iff.mp hp)
          exact hw0 x hx p' hp'
        refine specT_use (tb := tb2) (news := (c9, o2) :: (fx, (⟨.ref 280, some fd, .seq us.toArray fn, #[]⟩ : Obj)) :: (fd, W.dictOf [⟨fh, .str (Str.ofString "provided") ft, .bool true⟩] 1) :: (D, W.listOf ys.toArray ys.length) :: (made ++ news)) (best_G cls0' spc0' fx fd ml us os fn k fh ft (.bool true) .none _ (.inr ⟨rfl, rfl⟩) osr xs (.tail _ (.head _)) (.tail _ (.tail _ (.head _))) (Pairs.mono (fun p h => ?pm) hPu) (.tail _ (.tail _ (.tail _ (.tail _ (List.mem_append_right _ hml))))) hos hok0 (fun _ _ => trivial)) B' F7 X' N7 TS5 (.cons (.cons (.cons .here))) (NT.consA c9ne (NT.cons (by intro h9; cases h9) (NT.cons (by intro h9; cases h9) (NT.cons (by intro h9; cases h9) (NT.app hNT NN))))) T' rfl (Nat.le_of_ble_eq_true rfl) (Nat.le_of_ble_eq_true rfl) (fun v3 tl3 tb3 h8 g8 tk8 hR3 F8 N8 TS8 NT8 hlt8 hg8 => ?_)
        case pm =>
          rcases List.mem_cons.mp h with rfl | h
          · exact .tail _ (.tail _ (.tail _ (.head _)))
          rcases List.mem_append.mp h with h | h
          · exact .tail _ (.tail _ (.tail _ (.tail _ (List.mem_append_left _ h))))
          rcases List.mem_cons.mp h with rfl | h
          · exact .head _
          · exact .tail _ (.tail _ (.tail _ (.tail _ (List.mem_append_right _ h))))
        obtain ⟨hR3, rfl⟩ := hR3
        clear F7 N7 NT8 hlt8
        dsimp only [List.nil_append] at N8 hg8 ⊢
        have N9 : News g' L' h8 ((c9, o2) :: (tb3 ++ news)) := News.keepC N8 (List.mem_append_right _ (.head _)) (fun p h => List.mem_append_left _ h) (fun p h => List.mem_append_right _ (.tail _ (.tail _ (.tail _ (.tail _ (List.mem_append_right _ h))))))
        clear N8
        have hc1 := TS8.neCell N9 (fun p h => .tail _ (List.mem_append_left _ h)) (.head _) hd2
        refine storeX_C F8 N9 rfl (UpdF.head fun p hp => (List.mem_append.mp hp).elim (hc1 p) (hc2 p)) hd2 (fun h9 o3 F9 N10 hd3 => ?_)
        clear F8 N9 hc1
        refine hQQ _ _ ?_
        clear hQQ QQ
        dsimp only
        refine ks_wpAt_execs_cons ?_
        refine ks_wpAt_If ?_
        refine wpAt_of_wpAny ?_
        refine wpAny_opaque fun QQ hQQ => ?_
        cases hb3 : bestOf Mt0 Sp0 osr xs with
        | some p =>
          obtain ⟨x1, q1, sp1⟩ := p
          rw [hb3] at hR3
          obtain ⟨t1, rfl⟩ := hR3
          k_steps
          refine hQQ _ _ ?_
          clear hQQ QQ
          refine pos_if (by rfl) ?_
          k_steps
          with_reducible rename News h₀ L _ _ => n9
          refine ret _ [] tb3 _ _ _ ⟨by unfold LangR; rw [hb1]; refine ⟨osr, hperm, hord, ?_⟩; rw [hb3]; exact ⟨_, rfl⟩, rfl⟩ (by k_asm) (fun q hq => n9 q (.tail _ hq)) TS8 NT.nil (fun _ _ _ h9 => nomatch h9) (GOk.trans hg1 (GOk.trans hg5 hg8))
        | none =>
          rw [hb3] at hR3
          subst hR3
          k_steps
          refine hQQ _ _ ?_
          clear hQQ QQ
          refine neg_if (by rfl) ?_
          refine wpAt_of_wpAny ?_
          refine wpAny_opaque fun QQ hQQ => ?_
          k_steps
          refine hQQ _ _ ?_
          clear hQQ QQ
          dsimp only
          refine ks_wpAt_execs_cons ?_
          have hlen := strs_len hos
          refine wpAt_of_wpAny ?_
          refine LCg.Assign_ListComp_U F9 rfl (by with_unfolding_all rfl) (by rfl) (by decide) (by rfl) (by decide) (by rfl) (by rfl) (by rfl) ?_
          refine nameX_L F9 rfl ?_
          refine LCg.CompSrc.ledger (by rfl) F9 N10 (.tail _ (List.mem_append_right _ hml)) ?_ ?_
          · rw [List.size_toArray, hlen]; exact Nat.le_trans hlx (by decide)
          · intro h4
            refine compRest_inv (fun i ys nw => nw = ((c9, o3) :: (tb3 ++ news)) ∧ Strs ys ((xs.take i).map mainL)) ?_ ?_ os.toArray.size 0 [] _ (Nat.zero_add _) ⟨rfl, .nil⟩
            · rintro i ys _ v I oI C oC D m₂ h tk E' hi ⟨rfl, hP⟩ hv hC hx F N off ne
              obtain ⟨x5, t5, hxs, rfl⟩ := Strs.at hos (by simpa using hv)
              obtain ⟨hp1, r5, hp2, hp3⟩ := hmx x5 (List.mem_of_getElem? hxs)
              clear F9 N10
              refine wpAny_opaque fun Q5 hQ5 => ?_
              k_steps
              refine hQ5 _ _ ?_
              clear hQ5 Q5
              rename News g' L' _ _ => N6
              rename Fr g' L' _ _ => F6
              have e1 : xs.take (i + 1) = xs.take i ++ [x5] := by rw [List.take_add_one, hxs]; rfl
              refine LCg.CompEnd.intro F6 N6 ((c9, o3) :: (tb3 ++ news)) (fun q hq => .tail _ hq) off (.inr ⟨_, .tail _ (List.mem_append_right _ hml), rfl, _, rfl⟩) ⟨rfl, ?_⟩
              rw [e1, List.map_append]
              exact hP.snoc
            · rintro ys _ ⟨rfl, hP⟩ D h tk F N off
              rw [List.size_toArray, hlen, List.take_length] at hP
              clear F9 N10
              have N11 : News g' L' h ((D, W.listOf ys.toArray ys.length) :: (c9, o3) :: (tb3 ++ news)) := N
              have F11 := Fr.as F (m' := fun z9 => List.lookup z9 [(Str.ofString "fallback_matches", .ref D), (Str.ofString "fallback", .ref fx), (Str.ofString "default", dflt), (Str.ofString "matches", .ref ml), (Str.ofString "self", .ref self)]) (by funext y9; simp only [lookup_atN, List.lookup_nil])
              clear F N
              dsimp only
              refine ks_wpAt_execs_cons ?_
              refine ks_wpAt_Assign_Name ?_
              refine ks_wpAt_MethodCall ?_
              have hself4 : (self, (⟨.ref 381, some d, .seq vs.toArray n, #[]⟩ : Obj)) ∈ (D, W.listOf ys.toArray ys.length) :: (c9, o3) :: (tb3 ++ news) := .tail _ (.tail _ (List.mem_append_right _ hself))
              have hdd4 : (d, W.dictOf [⟨hh, .str (Str.ofString "provided") tt, pv⟩] 1) ∈ (D, W.listOf ys.toArray ys.length) :: (c9, o3) :: (tb3 ++ news) := .tail _ (.tail _ (List.mem_append_right _ hdd))
              refine super_node (C := 381) (D := 381) (x := self) F11 X' N11 T' (by k_is) (by rfl) (.inl ⟨rfl, rfl⟩) (inst_seq N11 hself4 hdd4) (by k_is) (by rfl) (by first | rfl | decide +kernel) (by rfl) (by k_is) (by k_is) (by k_is) (by k_is) (by decide) (by rfl) (by rfl) (by rfl) (by decide +kernel) (by first | boot_by_name | rfl | kernel_rfl) (fun so2 h8 F8 N8 l8 => ?_)
              clear F11 N11
              refine ks_method (C := 381) (D := 381) (x := self) (so := so2) F8 X' N8 (.head _) (inst_seq N8 (.tail _ hself4) (.tail _ hdd4)) (by k_is) (by ks_is) (by k_is) (by decide) (fun q92 h92 F92 N92 l92 => ?_)
              clear F8 N8
              dsimp only
              refine wpAny_opaque fun QQ hQQ => ?_
              iterate 4 (first | (k_unfold; (try dsimp only)) | walk1 | (dsimp only; walk1))
              refine ⟨?_, ?_⟩
              · k_steps
              have hw2' : ∀ x ∈ xs.map mainL, ∀ p ∈ ws, Okp2 x p.1 := fun x hx p hp => by
                obtain ⟨x', hx', rfl⟩ := List.mem_map.mp hx
                exact hw2 x' hx' p hp
              refine specTK_bound (tb := tb3) (news := (q92, methodObj (.ref 269) (.ref self)) :: (so2, ks_superObj 381 self 381) :: (D, W.listOf ys.toArray ys.length) :: (c9, o3) :: news) (best_K cls2' spc2' self d D vs ys n ys.length hh tt pv .none [.ref self, .ref D] (.inr ⟨rfl, rfl⟩) ws (xs.map mainL) (.tail _ (.tail _ (.tail _ (.tail _ hself)))) (.tail _ (.tail _ (.tail _ (.tail _ hdd)))) (Pairs.mono (fun p h => .tail _ (.tail _ (.tail _ (.tail _ h)))) hp) (.tail _ (.tail _ (.head _))) hP hw2' (fun _ _ => trivial)) B' F92 X' N92 (.head _) TS8 (.cons (.cons (.cons (.cons .here)))) (NT.cons (by intro h9; cases h9) (NT.cons (by intro h9; cases h9) (NT.cons (by intro h9; cases h9) (NT.consA c9ne NN)))) T' rfl (Nat.le_of_ble_eq_true rfl) (Nat.le_of_ble_eq_true rfl) (fun v4 tl4 tb4 h10 g10 tk10 hR4 F10 N10 TS10 NT10 hlt10 hg10 => ?_)
              obtain ⟨hR4, rfl⟩ := hR4
              clear F92 N92 NT10 hlt10
              dsimp only [List.nil_append] at N10 hg10 ⊢
              refine hQQ _ _ ?_
              clear hQQ QQ
              have N12 : News g' L' h10 ((c9, o3) :: (tb4 ++ news)) := News.keepC N10 (List.mem_append_right _ (.tail _ (.tail _ (.tail _ (.head _))))) (fun p h => List.mem_append_left _ h) (fun p h => List.mem_append_right _ (.tail _ (.tail _ (.tail _ (.tail _ h)))))
              clear N10
              have hc1 := TS10.neCell N12 (fun p h => .tail _ (List.mem_append_left _ h)) (.head _) hd3
              refine storeX_C F10 N12 rfl (UpdF.head fun p hp => (List.mem_append.mp hp).elim (hc1 p) (hc2 p)) hd3 (fun h11 o4 F12 N13 hd4 => ?_)
              clear F10 N12 hc1
              dsimp only
              refine ks_wpAt_execs_cons ?_
              refine ks_wpAt_If ?_
              refine wpAt_of_wpAny ?_
              refine wpAny_opaque fun QQ hQQ => ?_
              cases hb4 : bestOf Mt2 Sp0 ws (xs.map mainL) with
              | some p =>
                obtain ⟨x4, q4, sp4⟩ := p
                rw [hb4] at hR4
                obtain ⟨t4, rfl⟩ := hR4
                k_steps
                refine hQQ _ _ ?_
                clear hQQ QQ
                refine pos_if (by rfl) ?_
                refine wpAt_of_wpAny ?_
                iterate 6 (first | (k_unfold; (try dsimp only)) | walk1 | (dsimp only; walk1))
                refine gen_list (cl := [(Str.ofString "result", c9), (Str.ofString "__class__", 360)]) (clo := [(Str.ofString "result", c9)]) (P := 375) (c := 377) F12 ⟨.inr ⟨rfl, rfl, rfl, rfl, rfl⟩⟩ (chd3 X' rfl) T' (by rfl) (by rfl) (by rfl) (by decide) (by rfl) (by rfl) (by rfl) (by ke_room) (by rfl) (by rfl) (by rfl) (fun _ => by rfl) ?_
                refine nameX_L F12 rfl ?_
                refine ⟨ml, os.toArray, k, _, tb4, _, rfl, F12, N13, TS10, .cons .here, NT.consA c9ne NN, .tail _ hml, fun i => Txt.startswith (xs.getD i "") x4, fun i y => ∃ p t, xs[i]? = some p ∧ y = .str p t, ?_, ?_, ?_⟩
                · intro C' code A' E' i v t m₂ hA hD hU hv hn hm hk
                  obtain ⟨p, u, h1, rfl⟩ := Strs.at hos (by simpa using hv)
                  have hx5 : xs.getD i "" = p := by simp [List.getD, h1]
                  have hcell : t.heap.IsCell c9 (some (.str x4 t4)) := ⟨_, hk _ _ c9ne.2.2 (N13.get (.head _)), hd4⟩
                  rw [List.forIn_cons]
                  refine wpAny_bind ?_
                  rw [if_pos rfl]
                  refine wpAny_bind (wpAny_isTrue_value (wpAny_mono (test_starts (v := p) (u := u) (rv := x4) (ru := t4) (c := c9) rfl rfl rfl rfl hcell hn hm rfl rfl rfl) (fun y s9 h9 => ?_) fun _ _ e => e) rfl)
                  obtain ⟨rfl, hk9⟩ := h9
                  refine wpAny_truthy_bool ?_
                  refine wpAny_pure ?_
                  show wpAny _ _ (forIn [] _ _) _ _ _
                  rw [List.forIn_nil]
                  refine wpAny_pure ⟨?_, hk9⟩
                  show Txt.startswith p x4 = Txt.startswith (xs.getD i "") x4
                  rw [hx5]
                · intro C' code A' E' i v t m₂ hA hD hU hv _ hn hm hk
                  obtain ⟨p, u, h1, rfl⟩ := Strs.at hos (by simpa using hv)
                  exact wpAny_Name (wpAny_loadName_local rfl rfl hn hm ⟨⟨p, u, h1, rfl⟩, _, _, rfl, fun _ _ e => e⟩) (by decide)
                · intro g9 h13 gs9 tk9 tb9 G9 F13 N14 TS13 X13
                  clear N13
                  k_steps
                  have hsz : os.toArray.size = xs.length := by rw [List.size_toArray, hlen]
                  rw [hsz] at X13
                  have hx4 : ∃ x ∈ xs, Txt.startswith x x4 = true := by
                    obtain ⟨y, hy, e⟩ := List.mem_map.mp (bestOf_mem hb4)
                    exact ⟨y, hy, by have h9 := hst y hy; rw [e] at h9; exact h9⟩
                  refine gen_next (by k_asm) N14 X13 (pass_pos (f := fun x => Txt.startswith x x4) hx4) fun v h14 gs14 tk14 F14 N15 K14 G14 => ?_
                  obtain ⟨i, hi, p, t, hp1, rfl⟩ := K14
                  have hfind := pass_find (f := fun x => Txt.startswith x x4) hi hp1
                  dsimp only
                  k_steps
                  with_reducible rename News h₀ L _ _ => n9
                  refine ret _ [] tb9 _ _ _ ⟨by unfold LangR; rw [hb1]; refine ⟨osr, hperm, hord, ?_⟩; rw [hb3]; dsimp only; rw [hb4]; exact ⟨p, t, hfind, rfl⟩, rfl⟩ (by k_asm) (fun q hq => n9 q ((List.mem_append.mp (show q ∈ tb9 ++ news from hq)).elim (fun h => List.mem_append_left _ h) fun h => List.mem_append_right _ (.tail _ h))) TS13 NT.nil (fun _ _ _ h9 => nomatch h9) (GOk.trans hg1 (GOk.trans hg5 (GOk.trans hg8 (GOk.trans hg10 (GOk.trans G9 G14)))))
              | none =>
                rw [hb4] at hR4
                subst hR4
                k_steps
                refine hQQ _ _ ?_
                clear hQQ QQ
                refine neg_if (by rfl) ?_
                k_steps
                with_reducible rename News h₀ L _ _ => n9
                refine ret _ [] tb4 _ _ _ ⟨by unfold LangR; rw [hb1]; refine ⟨osr, hperm, hord, ?_⟩; rw [hb3]; dsimp only; rw [hb4], rfl⟩ (by k_asm) (fun q hq => n9 q (.tail _ hq)) TS10 NT.nil (fun _ _ _ h9 => nomatch h9) (GOk.trans hg1 (GOk.trans hg5 (GOk.trans hg8 hg10)))
end
end Mine
end

section
open PySem PySem.W PyProof.Rows PySem.Calls PySem.Spec
set_option Elab.async false
set_option maxRecDepth 100000
set_option linter.unusedVariables false
namespace Mine
abbrev words0 : List Str := [Str.ofString "gzip", Str.ofString "BR", Str.ofString "x", Str.ofString "*", Str.ofString "Gzip", Str.ofString "zip"]
abbrev offs0 : List Str := [Str.ofString "gzip", Str.ofString "br", Str.ofString "X", Str.ofString "zip"]
abbrev words1 : List Str := [Str.ofString "text/html", Str.ofString "Text/HTML ;level=1", Str.ofString "text/*", Str.ofString "*/*", Str.ofString "image/png", Str.ofString "*/html", Str.ofString "text/html;Level=2"]
abbrev offs1 : List Str := [Str.ofString "text/html", Str.ofString "text/plain", Str.ofString "text/html; level=1", Str.ofString "image/png", Str.ofString "text/HTML; level=2"]
abbrev words2 : List Str := [Str.ofString "en-US", Str.ofString "de", Str.ofString "*", Str.ofString "EN_gb", Str.ofString "fr-CA", Str.ofString "en"]
abbrev offs2 : List Str := [Str.ofString "en", Str.ofString "de-AT", Str.ofString "en_us", Str.ofString "FR"]
theorem fit0_val {p x : Str} (h : 0 ≤ fit0 p x) : fit0 p x = if p == Str.ofString "*" then 0 else 1 := by
  unfold fit0 at h ⊢
  by_cases h1 : (p == Str.ofString "*") = true
  · simp only [h1, if_true]
  · simp only [h1, Bool.false_eq_true, if_false] at h ⊢
    by_cases h2 : (norm p == norm x) = true
    · simp only [h2, if_true]
    · simp only [h2, Bool.false_eq_true, if_false] at h; omega
theorem fitOk0 {M : Str → Str → Bool} {words offs : List Str} (hf : ∀ x ∈ offs, ∀ p ∈ words, (M x p = true ↔ 0 ≤ fit0 p x)) : FitOk M Sp0 fit0 words offs where
  fits := hf
  gt := fun x _ p _ x' _ p' _ h h' => by
    rw [fit0_val h, fit0_val h']
    unfold Sp0
    by_cases h1 : p = Str.ofString "*" <;> by_cases h2 : p' = Str.ofString "*" <;> simp [lexGt, h1, h2, bne]
  lt := fun x _ p _ p' _ h h' => by
    rw [fit0_val h, fit0_val h']
    unfold Sp0
    by_cases h1 : p = Str.ofString "*" <;> by_cases h2 : p' = Str.ofString "*" <;> simp [lexLt, h1, h2, bne]
  same := fun x _ p _ p' _ h h' => by
    rw [fit0_val h, fit0_val h']
    unfold Sp0
    cases b1 : (p == Str.ofString "*") <;> cases b2 : (p' == Str.ofString "*") <;> simp [bne, b1, b2]
theorem fits_0 : ∀ x ∈ offs0, ∀ p ∈ words0, (Mt0 x p = true ↔ 0 ≤ fit0 p x) := by decide +kernel
theorem fits_2 : ∀ x ∈ offs2, ∀ p ∈ words2, (Mt2 x p = true ↔ 0 ≤ fit0 p x) := by decide +kernel
theorem fits_2a : ∀ x ∈ offs2, ∀ p ∈ words2.map mainT, (Mt0 x p = true ↔ 0 ≤ fit0 p x) := by decide +kernel
theorem fits_2b : ∀ x ∈ offs2.map mainT, ∀ p ∈ words2, (Mt2 x p = true ↔ 0 ≤ fit0 p x) := by decide +kernel
theorem main_eq : ∀ x ∈ words2 ++ offs2, mainL x = mainT x := by decide +kernel
/-! media types: the texts cut at the slash and at the semicolons -/
abbrev lowTab : List (Str × List Str) := [(Str.ofString "text/html", [Str.ofString "text", Str.ofString "html"]), (Str.ofString "Text/HTML ;level=1", [Str.ofString "text", Str.ofString "html", Str.ofString "level=1"]), (Str.ofString "text/*", [Str.ofString "text", Str.ofString "*"]), (Str.ofString "*/*", [Str.ofString "*", Str.ofString "*"]), (Str.ofString "image/png", [Str.ofString "image", Str.ofString "png"]), (Str.ofString "*/html", [Str.ofString "*", Str.ofString "html"]), (Str.ofString "text/html;Level=2", [Str.ofString "text", Str.ofString "html", Str.ofString "level=2"]), (Str.ofString "text/plain", [Str.ofString "text", Str.ofString "plain"]), (Str.ofString "text/html; level=1", [Str.ofString "text", Str.ofString "html", Str.ofString "level=1"]), (Str.ofString "text/HTML; level=2", [Str.ofString "text", Str.ofString "html", Str.ofString "level=2"])]
abbrev rawTab : List (Str × List Str) := [(Str.ofString "text/html", [Str.ofString "text", Str.ofString "html"]), (Str.ofString "Text/HTML ;level=1", [Str.ofString "Text", Str.ofString "HTML", Str.ofString "level=1"]), (Str.ofString "text/*", [Str.ofString "text", Str.ofString "*"]), (Str.ofString "*/*", [Str.ofString "*", Str.ofString "*"]), (Str.ofString "image/png", [Str.ofString "image", Str.ofString "png"]), (Str.ofString "*/html", [Str.ofString "*", Str.ofString "html"]), (Str.ofString "text/html;Level=2", [Str.ofString "text", Str.ofString "html", Str.ofString "Level=2"])]
theorem low_ok : ∀ r ∈ lowTab, splitStr mimeCode (Txt.lower r.1) 0 = some r.2 := by
  refine List.forall_mem_cons.mpr ⟨by decide +kernel, List.forall_mem_cons.mpr ⟨by decide +kernel, List.forall_mem_cons.mpr ⟨by decide +kernel, List.forall_mem_cons.mpr ⟨by decide +kernel, List.forall_mem_cons.mpr ⟨by decide +kernel, List.forall_mem_cons.mpr ⟨by decide +kernel, List.forall_mem_cons.mpr ⟨by decide +kernel, List.forall_mem_cons.mpr ⟨by decide +kernel, List.forall_mem_cons.mpr ⟨by decide +kernel, List.forall_mem_cons.mpr ⟨by decide +kernel, fun _ h => nomatch h⟩⟩⟩⟩⟩⟩⟩⟩⟩⟩
theorem raw_ok : ∀ r ∈ rawTab, splitStr mimeCode r.1 0 = some r.2 := by
  refine List.forall_mem_cons.mpr ⟨by decide +kernel, List.forall_mem_cons.mpr ⟨by decide +kernel, List.forall_mem_cons.mpr ⟨by decide +kernel, List.forall_mem_cons.mpr ⟨by decide +kernel, List.forall_mem_cons.mpr ⟨by decide +kernel, List.forall_mem_cons.mpr ⟨by decide +kernel, List.forall_mem_cons.mpr ⟨by decide +kernel, fun _ h => nomatch h⟩⟩⟩⟩⟩⟩⟩
def lowT (x : Str) : List Str := (lowTab.lookup x).getD []
def rawT (x : Str) : List Str := (rawTab.lookup x).getD []
theorem lookup_mem {α : Type} {l : List (Str × α)} {x : Str} {v : α} (h : l.lookup x = some v) : (x, v) ∈ l := by
  induction l with
  | nil => simp at h
  | cons p r ih =>
    obtain ⟨k, u⟩ := p
    rw [List.lookup_cons] at h
    by_cases e : x = k
    · subst e
      simp at h
      subst h
      exact .head _
    · have : (x == k) = false := by simpa using e
      rw [this] at h
      exact .tail _ (ih h)
theorem low_in : ∀ x ∈ words1 ++ offs1, (lowTab.lookup x).isSome = true := by decide +kernel
theorem raw_in : ∀ x ∈ words1, (rawTab.lookup x).isSome = true := by decide +kernel
theorem low_at {x : Str} (h : x ∈ words1 ++ offs1) : splitStr mimeCode (Txt.lower x) 0 = some (lowT x) := by
  obtain ⟨v, e⟩ := Option.isSome_iff_exists.mp (low_in x h)
  unfold lowT
  rw [e]
  have h9 := low_ok (x, v) (lookup_mem e)
  show splitStr mimeCode (Txt.lower x) 0 = some v
  exact h9
theorem raw_at {x : Str} (h : x ∈ words1) : splitStr mimeCode x 0 = some (rawT x) := by
  obtain ⟨v, e⟩ := Option.isSome_iff_exists.mp (raw_in x h)
  unfold rawT
  rw [e]
  have h9 := raw_ok (x, v) (lookup_mem e)
  show splitStr mimeCode x 0 = some v
  exact h9
def mt1T (x y : Str) : Bool := match lowT x, lowT y with
  | v1 :: v2 :: vp, i1 :: i2 :: ip => mimeP v1 v2 vp i1 i2 ip
  | _, _ => false
theorem mt1_eq {x y : Str} (hx : x ∈ words1 ++ offs1) (hy : y ∈ words1 ++ offs1) : Mt1 x y = mt1T x y := by
  unfold Mt1 mt1T
  rw [low_at hx, low_at hy]
  rcases lowT x with _ | ⟨a, _ | ⟨b, r⟩⟩ <;> rcases lowT y with _ | ⟨c, _ | ⟨d, q⟩⟩ <;> rfl
def sp1T (x : Str) : List Bool := (rawT x).map (· != Str.ofString "*")
theorem sp1_eq {x : Str} (hx : x ∈ words1) : Sp1 x = sp1T x := by
  unfold Sp1 sp1T
  rw [raw_at hx]
theorem t_fits : ∀ x ∈ offs1, ∀ p ∈ words1, (mt1T x p = true ↔ 0 ≤ fitM p x) := by decide +kernel
theorem t_gt : ∀ x ∈ offs1, ∀ p ∈ words1, ∀ x' ∈ offs1, ∀ p' ∈ words1, 0 ≤ fitM p x → 0 ≤ fitM p' x' → (lexGt (sp1T p) (sp1T p') = true ↔ fitM p x > fitM p' x') := by decide +kernel
theorem t_lt : ∀ x ∈ offs1, ∀ p ∈ words1, ∀ p' ∈ words1, 0 ≤ fitM p x → 0 ≤ fitM p' x → (lexLt (sp1T p) (sp1T p') = true ↔ fitM p x < fitM p' x) := by decide +kernel
theorem t_same : ∀ x ∈ offs1, ∀ p ∈ words1, ∀ p' ∈ words1, 0 ≤ fitM p x → 0 ≤ fitM p' x → (sp1T p = sp1T p' ↔ fitM p x = fitM p' x) := by decide +kernel
theorem ok0 : FitOk Mt0 Sp0 fit0 words0 offs0 := fitOk0 fits_0
theorem ok2 : FitOk Mt2 Sp0 fit0 words2 offs2 := fitOk0 fits_2
theorem ok2a : FitOk Mt0 Sp0 fit0 (words2.map mainT) offs2 := fitOk0 fits_2a
theorem ok2b : FitOk Mt2 Sp0 fit0 words2 (offs2.map mainT) := fitOk0 fits_2b
theorem ok1 : FitOk Mt1 Sp1 fitM words1 offs1 where
  fits := fun x hx p hp => by rw [mt1_eq (List.mem_append_right _ hx) (List.mem_append_left _ hp)]; exact t_fits x hx p hp
  gt := fun x hx p hp x' hx' p' hp' => by rw [sp1_eq hp, sp1_eq hp']; exact t_gt x hx p hp x' hx' p' hp'
  lt := fun x hx p hp p' hp' => by rw [sp1_eq hp, sp1_eq hp']; exact t_lt x hx p hp p' hp'
  same := fun x hx p hp p' hp' => by rw [sp1_eq hp, sp1_eq hp']; exact t_same x hx p hp p' hp'
end Mine
end

section
open PySem PySem.W PyProof.Rows PySem.Calls PySem.Spec
set_option Elab.async false
set_option maxRecDepth 100000
set_option linter.unusedVariables false
namespace Mine
/-- the menus' texts -/
def wishK (k : Int) (words : List Str) (c : Int) : Str × Int := (words.getD (c.fmod (words.length : Int)).toNat (Str.ofString ""), if k = 2 then 1 + (c.fdiv 6).fmod 4 else (c.fdiv 6).fmod 5)
theorem wishK_ok {k : Int} {words : List Str} {c : Int} (h0 : 0 < words.length) : (wishK k words c).1 ∈ words ∧ 0 ≤ (wishK k words c).2 ∧ (wishK k words c).2 ≤ 4 ∧ (k = 2 → 1 ≤ (wishK k words c).2) := by
  have hp : (0 : Int) < (words.length : Int) := by omega
  have hm : 0 ≤ c.fmod (words.length : Int) ∧ c.fmod (words.length : Int) < (words.length : Int) := by
    rw [Int.fmod_eq_emod_of_nonneg c (by omega)]
    exact ⟨Int.emod_nonneg _ (by omega), Int.emod_lt_of_pos _ hp⟩
  have hi : (c.fmod (words.length : Int)).toNat < words.length := by omega
  have a4 := Int.fmod_eq_emod_of_nonneg (c.fdiv 6) (show (0 : Int) ≤ 4 by decide)
  have a5 := Int.fmod_eq_emod_of_nonneg (c.fdiv 6) (show (0 : Int) ≤ 5 by decide)
  refine ⟨?_, ?_⟩
  · unfold wishK
    show words.getD _ _ ∈ words
    rw [List.getD_eq_getElem?_getD, List.getElem?_eq_getElem hi]
    exact List.getElem_mem _
  · unfold wishK
    by_cases hk : k = 2
    · simp only [hk, if_true]
      rw [a4]
      omega
    · simp only [hk, if_false]
      rw [a5]
      refine ⟨by omega, by omega, fun h => h.elim⟩
theorem strs_of {base : Heap} {a : Addr} {vs : List Value} {xs : List Str} (_ : base.IsList a vs.toArray) (h : Strs vs xs) : Strs vs xs := h
theorem strs_some {vs : List Value} {xs : List Str} (h : Strs vs xs) : ∀ {i : Nat}, i < xs.length → ∃ x t, vs[i]? = some (.str x t) ∧ xs[i]? = some x := by
  induction h with
  | nil => intro i hi; cases hi
  | cons h ih =>
    intro i hi
    cases i with
    | zero => exact ⟨_, _, rfl, rfl⟩
    | succ i => exact ih (Nat.lt_of_succ_lt_succ hi)
def IsTup (o : Obj) : Prop := ∃ l n, o = (⟨.type "tuple", none, .seq l n, #[]⟩ : Obj)
/-- the pairs' own objects -/
theorem Pairs.own {nw : List (Addr × Obj)} : ∀ {vs : List Value} {ps : List (Str × Int)}, Pairs nw vs ps → ∃ tp : List (Addr × Obj), (∀ q ∈ tp, q ∈ nw) ∧ (∀ q ∈ tp, IsTup q.2) ∧ Pairs tp vs ps
  | [], [], _ => ⟨[], (fun _ h => nomatch h), (fun _ h => nomatch h), trivial⟩
  | _ :: _, _ :: _, h => by
    obtain ⟨tp, h1, h2, h3⟩ := Pairs.own h.2
    obtain ⟨⟨a, t, u, n, hv, hm⟩, _⟩ := h
    refine ⟨(a, _) :: tp, ?_, ?_, ⟨⟨a, t, u, n, hv, .head _⟩, Pairs.mono (fun _ h => .tail _ h) h3⟩⟩
    · intro q hq
      rcases List.mem_cons.mp hq with rfl | hq
      · exact hm
      · exact h1 q hq
    · intro q hq
      rcases List.mem_cons.mp hq with rfl | hq
      · exact ⟨_, _, rfl⟩
      · exact h2 q hq
theorem ne_obj {h₀ h : Heap} {L : Addr} {led : List (Addr × Obj)} (N : News h₀ L h led) {p q : Addr × Obj} (hp : p ∈ led) (hq : q ∈ led) (h : p.2 ≠ q.2) : p.1 ≠ q.1 := fun e => by
  have h1 := (N p hp).1
  have h2 := (N q hq).1
  rw [e, h2] at h1
  exact h (Option.some.inj h1).symm
/-- behind the lists of wishes and offers -/
structure Law3At (w : World) (base h : Heap) (L : Addr) (mean : ExcName → Option Value) (mg mb : Str → Option Value) (sl wl ol D : Addr) (kd tn : Int) (tk1 tk2 : Tok) (wv ov : List Value) (nw no : Nat) (words offs : List Str) (ws : List (Str × Int)) (xs : List Str) (tp : List (Addr × Obj)) (o1 o2 : Obj) : Prop where
  F : Fr base L h (fun z9 => List.lookup z9 [(Str.ofString "offers", .ref ol), (Str.ofString "turn", .int tn tk2), (Str.ofString "cells", .ref D), (Str.ofString "script", .ref sl)])
  N : News base L h ((wl, W.listOf wv.toArray nw) :: (ol, W.listOf ov.toArray no) :: (tp ++ [(L + 1 + 1, o2), (L + 1, o1), (172, tabObj #[]), (303, tabObj #[]), (375, tabObj #[])]))
  X : (hd.heap_39 w.params).In base
  T : Top topProg looseL mean mg mb base
  B : Below callerA base [] base
  hw1 : o1.data = .cell (some (.int kd tk1))
  hw2 : o2.data = .cell (some (.ref wl))
  c1 : CodeHd base 176 172
  c2 : CodeHd base 307 303
  c3 : CodeHd base 377 375
  l0 : 172 < L ∧ 303 < L ∧ 375 < L
  hp : Pairs tp wv ws
  ht : ∀ q ∈ tp, IsTup q.2
  hos : Strs ov xs
  hws : ∀ p ∈ ws, p.1 ∈ words ∧ 0 ≤ p.2 ∧ p.2 ≤ 4 ∧ (kd = 2 → 1 ≤ p.2)
  hxs : ∀ x ∈ xs, x ∈ offs
  hlw : ws.length ≤ 6
  hlx : 1 ≤ xs.length ∧ xs.length ≤ 4
theorem cell_put {h₀ h : Heap} {L : Addr} {tp : List (Addr × Obj)} {o1 o2 : Obj} {a b : Addr} {x y : Array Value} {n k : Nat} {v : Value}
    (N : News h₀ L h ((L + 1 + 1, o2) :: (a, W.listOf x n) :: (b, W.listOf y k) :: (tp ++ [(L + 1, o1), (172, tabObj #[]), (303, tabObj #[]), (375, tabObj #[])]))) (ht : ∀ q ∈ tp, IsTup q.2) (h1 : o1.data = .cell (some v)) (h2 : o2.data = .cell none) (l0 : 172 < L ∧ 303 < L ∧ 375 < L) :
    ∀ q ∈ (a, W.listOf x n) :: (b, W.listOf y k) :: (tp ++ [(L + 1, o1), (172, tabObj #[]), (303, tabObj #[]), (375, tabObj #[])]), q.1 ≠ L + 1 + 1 := by
  have key : ∀ q ∈ (a, W.listOf x n) :: (b, W.listOf y k) :: (tp ++ [(L + 1, o1), (172, tabObj #[]), (303, tabObj #[]), (375, tabObj #[])]), q.2.data ≠ .cell none → q.1 ≠ L + 1 + 1 := fun q hq h => ne_obj N (p := q) (q := (L + 1 + 1, o2)) (.tail _ hq) (.head _) (fun e => h (by rw [e]; exact h2))
  intro q hq
  refine key q hq ?_
  rcases List.mem_cons.mp hq with rfl | hq
  · intro e; cases e
  rcases List.mem_cons.mp hq with rfl | hq
  · intro e; cases e
  rcases List.mem_append.mp hq with hq | hq
  · obtain ⟨l, n, e9⟩ := ht q hq
    rw [e9]
    intro e; cases e
  simp only [List.mem_cons, List.not_mem_nil, or_false] at hq
  rcases hq with rfl | rfl | rfl | rfl
  · show o1.data ≠ _
    rw [h1]
    intro e; cases e
  · intro e; cases e
  · intro e; cases e
  · intro e; cases e
theorem mem_three {α : Type} {q x y z : α} {tp r : List α} (h : q ∈ y :: z :: (tp ++ x :: r)) : q ∈ x :: y :: z :: (tp ++ r) := by simp only [List.mem_cons, List.mem_append] at h ⊢; grind
theorem mem_three' {α : Type} {q x y z c : α} {tp nw r : List α} (ht : ∀ q ∈ tp, q ∈ nw) (h : q ∈ x :: y :: z :: (tp ++ r)) : q ∈ y :: z :: (nw ++ c :: x :: r) := by
  simp only [List.mem_cons, List.mem_append] at h ⊢
  rcases h with h | h | h | h | h
  · exact .inr (.inr (.inr (.inr (.inl h))))
  · exact .inl h
  · exact .inr (.inl h)
  · exact .inr (.inr (.inl (ht q h)))
  · exact .inr (.inr (.inr (.inr (.inr h))))
end Mine
end

section
open PySem PySem.W PyProof.Rows PySem.Calls PySem.Spec
set_option Elab.async false
set_option maxRecDepth 100000
set_option linter.unusedVariables false
namespace Mine
section
variable {prog : Program} {w : World} {A : Around} {E : Value → Shared → Prop} {s : Shared} {h₀ : Heap} {L : Addr}
def rIter (n i : Nat) : Obj := { cls := .type "range_iterator", data := .fields #[rawInt ((i : Nat) : Int), rawInt ((n : Int) - (i : Nat)), rawInt 1] }
theorem iter_range {x : Str} {px : Pos} {it : Addr} {n : Nat} (hh : A.handled = none) :
    Iter prog w A h₀ L (.Name x px) (.ref it) n (fun i => [(it, rIter n i)]) [] (fun i v extra => (∃ t, v = .int i t) ∧ extra = []) := by
  intro i h g d tk os m rest Q Qn E hi F N hk hne k1 k2
  have hit : h.get? it = some (rIter n i) := N.get List.mem_cons_self
  have hI := N _ (List.mem_cons_self (a := (it, rIter n i)) (l := rest))
  have Nr : News h₀ L h rest := News.sub N fun p hp => List.mem_cons_of_mem _ hp
  have off : ∀ p ∈ rest, p.1 ≠ it := fun p hp => hne p hp _ (List.mem_singleton.mpr rfl)
  by_cases hlt : i < n
  · refine wpAny_pyNext_range_item (s := ⟨h, g, d, tk, os⟩) hit (by omega) fun h' hit' hs' => ?_
    refine wpAny_pure ?_
    refine k1 _ [] _ _ hlt ⟨⟨_, rfl⟩, rfl⟩ (Fr.but F hs'.extBut hI.2.1 hI.2.2) ?_
    intro p hp
    rcases List.mem_cons.mp hp with rfl | hp
    · refine ⟨?_, hI.2⟩
      have e1 : ((i + 1 : Nat) : Int) = (i : Int) + 1 := by push_cast; rfl
      have e2 : (n : Int) - ((i + 1 : Nat) : Int) = (n : Int) - (i : Int) - 1 := by push_cast; omega
      unfold rIter
      rw [e2, e1]
      exact hit'
    · exact News.but Nr hs'.extBut off p hp
  · refine wpAny_pyNext_range_end (s := ⟨h, g, d, tk, os⟩) hh hit (by omega) fun h' hs => ?_
    exact k2 _ _ (by omega) (Fr.but F hs hI.2.1 hI.2.2) (News.but Nr hs off)
def TurnR (h₀ : Heap) (L : Addr) (s : Shared) (Q : Flow → Shared → Prop) (news : List (Addr × Obj)) (it : Addr) (n i : Nat) (Inv : Nat → (Str → Option Value) → List (Addr × Obj) → Prop) (f : Flow) (s₃ : Shared) : Prop := match f with
  | .next | .cont => ∃ m' nx', Inv (i + 1) m' nx' ∧ Fr h₀ L s₃.heap m' ∧ News h₀ L s₃.heap ((it, rIter n (i + 1)) :: (nx' ++ news)) ∧ (∀ p ∈ nx', p.1 ≠ it) ∧ GOk s.gens s₃.gens ∧ s₃.drawn = s.drawn ∧ s₃.os = s.os
  | .brk => Q .next s₃
  | .ret v => Q (.ret v) s₃
/-- `for x in range(n)`, by an invariant -/
theorem for_rangeX {x : Str} {px pos : Pos} {iter : PySem.Expr} {body : List Stmt} {env : Env} {Q : Flow → Shared → Prop} {n : Nat} {news : List (Addr × Obj)} (Inv : Nat → (Str → Option Value) → List (Addr × Obj) → Prop) (hh : A.handled = none) (hn : n ≤ 1000)
    (h : wpAny (model prog w) A (eval iter env) (fun xv s₁ => ∃ r t u v m₀ nx₀, xv = .ref r ∧ IsRange s₁.heap r 0 n 1 t u v ∧ Fr h₀ L s₁.heap m₀ ∧ News h₀ L s₁.heap (nx₀ ++ news) ∧ Inv 0 m₀ nx₀ ∧ s₁.gens = s.gens ∧ s₁.drawn = s.drawn ∧ s₁.os = s.os) E s)
    (turn : ∀ it i v m nx h g tk, i < n → (∃ t, v = .int i t) → Inv i m nx → Fr h₀ L h m → News h₀ L h ((it, rIter n (i + 1)) :: (nx ++ news)) → GOk s.gens g →
      wpAny (model prog w) A (assign (.Name x px) env v) (fun _ s₂ => wpAny (model prog w) A (execs body env) (TurnR h₀ L s Q news it n i Inv) (fun _ _ => False) s₂) (fun _ _ => False) ⟨h, g, s.drawn, tk, s.os⟩)
    (fin : ∀ m nx h g tk, Inv n m nx → Fr h₀ L h m → News h₀ L h (nx ++ news) → GOk s.gens g → Q .next ⟨h, g, s.drawn, tk, s.os⟩)
    (hs : ∀ x, foldedSetIterable iter env x = pure x := by intro _; rfl) :
    wpAny (model prog w) A (exec (.For (.Name x px) iter body [] pos) env) Q E s := by
  refine wpAny_For (wpAny_mono h (fun xv s₁ h₁ => ?_) fun _ _ e => e) hs
  obtain ⟨r, t, u, v, m₀, nx₀, rfl, hr, F, N, h0, hg, hd, ho⟩ := h₁
  obtain ⟨hp1, g1, d1, tk1, os1⟩ := s₁
  dsimp only at hr F N hg hd ho
  subst hd ho hg
  refine wpAny_pyIter_range hr (small_one (by decide) (by decide) (by omega) (by omega)) ?_
  have below : ∀ p ∈ nx₀ ++ news, p.1 ≠ hp1.objs.size := fun p hp => Nat.ne_of_lt (Heap.lt_size (N p hp).1)
  have e0 : ({ cls := .type "range_iterator", data := .fields #[rawInt 0, rawInt (Builtin.Range.rangeSize 0 n 1), rawInt 1] } : Obj) = rIter n 0 := by
    have e1 : Builtin.Range.rangeSize 0 n 1 = (n : Int) - ((0 : Nat) : Int) := by rw [rangeSize_one]; split <;> simp; omega
    unfold rIter
    rw [e1]
    rfl
  rw [e0]
  refine for_loop (iter_range (it := hp1.objs.size) (n := n) hh) Inv (m₀ := m₀) (nx₀ := nx₀) (news := news) (F.push _) (News.push F N (rIter n 0)) (fun p hp => nomatch hp)
    (fun i p hp q hq => by rw [List.mem_singleton.mp hq]; exact below p (List.mem_append_right _ hp)) (fun p hp q hq => by rw [List.mem_singleton.mp hq]; exact below p (List.mem_append_left _ hp)) h0
    (fun i v extra m nx h g tk hi hP hI F₁ N₁ hg' => ?_) (fun m nx h g tk hI F₁ N₁ hg' => fin m nx h g tk hI F₁ N₁ hg')
  obtain ⟨hv, rfl⟩ := hP
  refine wpAny_mono (turn hp1.objs.size i v m nx h g tk hi hv hI F₁ N₁ hg') (fun _ s₂ h₂ => wpAny_mono h₂ (fun f s₃ h₃ => ?_) fun _ _ z => z.elim) fun _ _ z => z.elim
  have back : (∃ m' nx', Inv (i + 1) m' nx' ∧ Fr h₀ L s₃.heap m' ∧ News h₀ L s₃.heap ((hp1.objs.size, rIter n (i + 1)) :: (nx' ++ news)) ∧ (∀ p ∈ nx', p.1 ≠ hp1.objs.size) ∧ GOk s.gens s₃.gens ∧ s₃.drawn = s.drawn ∧ s₃.os = s.os) →
      ∃ m' nx', Inv (i + 1) m' nx' ∧ Fr h₀ L s₃.heap m' ∧ News h₀ L s₃.heap ([(hp1.objs.size, rIter n (i + 1))] ++ (nx' ++ news)) ∧ (∀ p ∈ nx', ∀ q ∈ [(hp1.objs.size, rIter n (i + 1))], p.1 ≠ q.1) ∧ GOk s.gens s₃.gens ∧ s₃.drawn = s.drawn ∧ s₃.os = s.os := by
    rintro ⟨m', nx', a1, a2, a3, a4, a5⟩
    exact ⟨m', nx', a1, a2, a3, fun p hp q hq => by rw [List.mem_singleton.mp hq]; exact a4 p hp, a5⟩
  cases f with
  | next => exact back h₃
  | cont => exact back h₃
  | brk => exact h₃
  | ret v => exact h₃
end
end Mine
end

section
open PySem PySem.W PyProof.Rows PySem.Calls PySem.Spec
set_option Elab.async false
set_option maxRecDepth 100000
set_option maxHeartbeats 0
set_option linter.unusedVariables false
namespace Mine
/-- what _law_chosen answers -/
def ChO (w : World) (kd : Int) (words offs : List Str) (Ft : Str → Str → Int) (cho : List (Str × Int) → List Str → Int) : Prop := ∀ {news : List (Addr × Obj)} (u : Tok) (wl ol : Addr) (wv ov : List Value) (nw no : Nat) (ws : List (Str × Int)) (xs : List Str), (wl, W.listOf wv.toArray nw) ∈ news → (ol, W.listOf ov.toArray no) ∈ news → Pairs news wv ws → Strs ov xs → (∀ p ∈ ws, p.1 ∈ words) → (∀ x ∈ xs, x ∈ offs) → xs.length ≤ 6 → ws.length ≤ 6 → Spec w 750 7500 (.ref 431) [.int kd u, .ref wl, .ref ol] news (TailR xs (cho ws xs) (scoresOf Ft ws xs))
theorem Scs.own {nw : List (Addr × Obj)} : ∀ {vs : List Value} {cs : List Score}, Scs nw vs cs → ∃ tp : List (Addr × Obj), (∀ q ∈ tp, q ∈ nw) ∧ (∀ q ∈ tp, IsTup q.2) ∧ Scs tp vs cs
  | [], [], _ => ⟨[], (fun _ h => nomatch h), (fun _ h => nomatch h), trivial⟩
  | _ :: _, c :: _, h => by
    obtain ⟨tp, h1, h2, h3⟩ := Scs.own h.2
    cases c with
    | none => exact ⟨tp, h1, h2, ⟨h.1, h3⟩⟩
    | some c =>
      obtain ⟨q, f⟩ := c
      obtain ⟨⟨a, t, u, n, hv, hm⟩, _⟩ := h
      refine ⟨(a, _) :: tp, ?_, ?_, ⟨⟨a, t, u, n, hv, .head _⟩, Scs.mono (fun _ h => .tail _ h) h3⟩⟩
      · intro q hq
        rcases List.mem_cons.mp hq with rfl | hq
        · exact hm
        · exact h1 q hq
      · intro q hq
        rcases List.mem_cons.mp hq with rfl | hq
        · exact ⟨_, _, rfl⟩
        · exact h2 q hq
/-- behind good = True -/
structure Law4At (w : World) (base h : Heap) (L : Addr) (mean : ExcName → Option Value) (mg mb : Str → Option Value) (sl wl ol cl D : Addr) (kd tn : Int) (tk1 tk2 : Tok) (wv ov vs : List Value) (wd : Value) (nw no ns : Nat) (words offs : List Str) (ws : List (Str × Int)) (xs : List Str) (ix : Int) (sc : List Score) (tp ts : List (Addr × Obj)) (o1 o2 : Obj) : Prop where
  F : Fr base L h (fun z9 => List.lookup z9 [(Str.ofString "good", .bool true), (Str.ofString "scores", .ref D), (Str.ofString "wanted", wd), (Str.ofString "offers", .ref ol), (Str.ofString "turn", .int tn tk2), (Str.ofString "cells", .ref cl), (Str.ofString "script", .ref sl)])
  N : News base L h ((D, W.listOf vs.toArray ns) :: (wl, W.listOf wv.toArray nw) :: (ol, W.listOf ov.toArray no) :: (L + 1 + 1, o2) :: (L + 1, o1) :: (ts ++ (tp ++ [(172, tabObj #[]), (303, tabObj #[]), (375, tabObj #[])])))
  X : (hd.heap_39 w.params).In base
  T : Top topProg looseL mean mg mb base
  B : Below callerA base [] base
  hw1 : o1.data = .cell (some (.int kd tk1))
  hw2 : o2.data = .cell (some (.ref wl))
  c1 : CodeHd base 176 172
  c2 : CodeHd base 307 303
  c3 : CodeHd base 377 375
  l0 : 172 < L ∧ 303 < L ∧ 375 < L
  hp : Pairs tp wv ws
  ht : ∀ q ∈ tp, IsTup q.2
  hss : Scs ts vs sc
  hts : ∀ q ∈ ts, IsTup q.2
  hpk : Picked xs ix wd
  hos : Strs ov xs
  hws : ∀ p ∈ ws, p.1 ∈ words ∧ 0 ≤ p.2 ∧ p.2 ≤ 4 ∧ (kd = 2 → 1 ≤ p.2)
  hxs : ∀ x ∈ xs, x ∈ offs
  hlw : ws.length ≤ 6
  hlx : 1 ≤ xs.length ∧ xs.length ≤ 4
theorem mem_four {α : Type} {q a b c d e f g h i : α} {tp ts tu : List α} (ht : ∀ q ∈ ts, q ∈ tu) (hq : q ∈ b :: c :: d :: e :: f :: (ts ++ (tp ++ [g, h, i]))) : q ∈ a :: b :: (tu ++ c :: d :: (tp ++ [e, f, g, h, i])) := by
  simp only [List.mem_cons, List.mem_append, List.not_mem_nil, or_false] at hq ⊢
  have := ht q
  grind
section
local macro_rules | `(tactic| walk_at "none 0") => `(tactic| fail)
local macro_rules | `(tactic| k_mem) => `(tactic| with_reducible assumption)
local macro_rules | `(tactic| k_mem) => `(tactic| ((with_reducible (first | refine List.mem_append_right _ ?_ | refine mem_appR ?_)); k_mem))
local macro_rules | `(tactic| k_asm) => `(tactic| ((with_reducible show GOk _ _); first | exact GOk.refl _ | (intro x9; solve_by_elim)))
local macro_rules | `(tactic| k_asm) => `(tactic| ((with_reducible show News _ _ _ _); first | (with_reducible assumption) | (refine News.sub (by with_reducible assumption) (fun p9 h9 => ?_); (repeat (first | exact h9 | apply List.mem_cons_of_mem | apply List.mem_append_right)); done) | (refine News.sub (by assumption) (fun p9 h9 => ?_); (repeat (first | exact h9 | apply List.mem_cons_of_mem | apply List.mem_append_right)); done)))
local macro_rules | `(tactic| walk_at "call ref") => `(tactic| (
  k_here
  (with_reducible show wpAny _ _ (call (Value.ref 431) _ _) _ _ _)
  k_dflt (refine' spec_use ((by with_reducible assumption : ChO _ _ _ _ _ _) _ _ _ _ _ _ _ _ _ ?k1 ?k2 ?k3 ?k4 ?k5 ?k6 ?k7 ?k8) ?kB ?kF ?kX ?kN ?kT ?kK ?kD ?kU ?_)
  (case kB => k_asm)
  (case kF => k_asm)
  (case kX => k_asm)
  (case kN => k_asm)
  (case kT => k_asm)
  (case k1 => k_dflt (exact List.Mem.head _))
  (case k2 => k_dflt (apply List.Mem.tail; exact List.Mem.head _))
  (case k3 => k_dflt (refine Pairs.mono (fun p9 h9 => ?_) (by with_reducible assumption); exact List.mem_cons_of_mem _ (List.mem_cons_of_mem _ (List.mem_append_left _ h9))))
  (case k4 => with_reducible assumption)
  (case k5 => with_reducible assumption)
  (case k6 => with_reducible assumption)
  (case k7 => with_reducible assumption)
  (case k8 => with_reducible assumption)
  (case kK => rfl)
  (case kD => exact Nat.le_of_ble_eq_true rfl)
  (case kU => exact Nat.le_of_ble_eq_true rfl)
  k_whole
  (intro v tl h' g' tk' hR F' N' hlt hg)
  unfold TailR at hR
  (obtain ⟨a9, D9, vs9, n9, tups9, ov9, nt9, e1, e2, hs9, hpk9⟩ := hR)
  subst e1
  subst e2
  (simp only [List.cons_append] at N')
  try k_sweep))
theorem law_3 : ∀ {w : World} {base h : Heap} {L fa : Addr} {cd : Value} {mean : ExcName → Option Value} {mg mb : Str → Option Value} {sl wl ol D : Addr} {kd tn : Int} {tk1 tk2 : Tok} {wv ov : List Value} {nw no : Nat} {words offs : List Str} {ws : List (Str × Int)} {xs : List Str} {tp : List (Addr × Obj)} {o1 o2 : Obj} {g : Array GenState} {d : Drawn} {tk : Nat} {os : OsState} {QQ : Flow → Shared → Prop} {EE : Value → Shared → Prop} {Ft : Str → Str → Int} {cho : List (Str × Int) → List Str → Int} (XX : (hd.heap_39 w.params).In base) (A : Law3At w base h L mean mg mb sl wl ol D kd tn tk1 tk2 wv ov nw no words offs ws xs tp o1 o2) (CH : ChO w kd words offs Ft cho)
    (H : ∀ {h : Heap} {cl D : Addr} {vs : List Value} {wd : Value} {ns : Nat} {ts : List (Addr × Obj)} {g' : Array GenState} {tk : Nat}, Law4At w base h L mean mg mb sl wl ol cl D kd tn tk1 tk2 wv ov vs wd nw no ns words offs ws xs (cho ws xs) (scoresOf Ft ws xs) tp ts o1 o2 → GOk g g' → wpAny (model PySem.Challenge.rw_eq0045_01.row.prog w) (LawA L fa cd) (execs (lawB.b.drop 7) (envOfC (Str.ofString "law") lawB.sc L fa cd)) QQ EE ⟨h, g', d, tk, os⟩),
  wpAny (model PySem.Challenge.rw_eq0045_01.row.prog w) (LawA L fa cd) (execs (lawB.b.drop 5) (envOfC (Str.ofString "law") lawB.sc L fa cd)) QQ EE ⟨h, g, d, tk, os⟩ := by
  w_top off
  k_fill
  intro w base h L fa cd mean mg mb sl wl ol D kd tn tk1 tk2 wv ov nw no words offs ws xs tp o1 o2 g d tk os QQ EE Ft cho XX A CH H
  clear XX
  obtain ⟨F0, N0, X0, T0, B0, hw1, hw2, cd1, cd2, cd3, l0, hp, ht, hos, hws, hxs, hlw, hlx⟩ := A
  have hx6 : xs.length ≤ 6 := by omega
  have hw1' : ∀ p ∈ ws, p.1 ∈ words := fun p hp => (hws p hp).1
  dsimp only [lawB, LawA, List.drop]
  iterate 27 (try (first | (k_unfold; (try dsimp only)) | walk1 | (dsimp only; walk1)))
  with_reducible rename Fr _ _ _ _ => F9
  with_reducible rename News _ _ _ _ => N9
  with_reducible rename Scs _ _ _ => hs9
  with_reducible rename Picked _ _ _ => hpk9
  with_reducible rename GOk _ _ => hg9
  obtain ⟨ts, ht1, ht2, hs2⟩ := Scs.own hs9
  refine H (ts := ts) (cl := D) ⟨Fr.as F9 (by funext n; simp only [lookup_at, List.lookup_nil]), News.sub N9 (fun q hq => mem_four ht1 hq), X0, T0, B0, hw1, hw2, cd1, cd2, cd3, l0, hp, ht, hs2, ht2, hpk9, hos, hws, hxs, hlw, hlx⟩ hg9
end
end Mine
end

section
open PySem PySem.W PyProof.Rows PySem.Calls PySem.Spec
set_option Elab.async false
set_option maxRecDepth 100000
set_option maxHeartbeats 0
set_option linter.unusedVariables false
namespace Mine
theorem for_listX {prog : Program} {w : World} {A : Around} {E : Value → Shared → Prop} {s : Shared} {h₀ : Heap} {L : Addr} {target iter : PySem.Expr} {body : List Stmt} {env : Env} {pos : Pos} {Q : Flow → Shared → Prop} (hh : A.handled = none)
    (h : wpAny (model prog w) A (eval iter env) (fun xv s₁ => ∃ (l : Addr) (ol : Obj) (vs : List Value) (n : Nat) (m₀ : Str → Option Value) (nx₀ news : List (Addr × Obj)) (Inv : Nat → (Str → Option Value) → List (Addr × Obj) → Prop), xv = .ref l ∧ ol.cls = .type "list" ∧ ol.data = .seq vs.toArray n ∧ (l, ol) ∈ news ∧ Fr h₀ L s₁.heap m₀ ∧ News h₀ L s₁.heap (nx₀ ++ news) ∧ Inv 0 m₀ nx₀ ∧
      (∀ it i v m nx h g tk, vs[i]? = some v → Inv i m nx → Fr h₀ L h m → News h₀ L h ((it, iterObj l (i + 1)) :: (nx ++ news)) → GOk s₁.gens g →
        wpAny (model prog w) A (assign target env v) (fun _ s₂ => wpAny (model prog w) A (execs body env) (TurnBack h₀ L s₁ Q news it l i Inv) (fun _ _ => False) s₂) (fun _ _ => False) ⟨h, g, s₁.drawn, tk, s₁.os⟩) ∧
      (∀ m nx h g tk, Inv vs.length m nx → Fr h₀ L h m → News h₀ L h (nx ++ news) → GOk s₁.gens g → Q .next ⟨h, g, s₁.drawn, tk, s₁.os⟩)) E s)
    (hs : ∀ x, foldedSetIterable iter env x = pure x := by intro _; rfl) : wpAny (model prog w) A (exec (.For target iter body [] pos) env) Q E s := by
  refine wpAny_For (wpAny_mono h (fun xv s₁ h₁ => ?_) fun _ _ e => e) hs
  obtain ⟨l, ol, vs, n, m₀, nx₀, news, Inv, rfl, hcl, hdl, hol, F, N, h0, turn, fin⟩ := h₁
  exact wpAny_pyIter_list (items := vs.toArray) ⟨ol, N.get (List.mem_append_right _ hol), hcl, n, hdl⟩ (for_at F N hol hdl hh Inv h0 turn fin)
theorem Pairs.snocR {news : List (Addr × Obj)} : ∀ {vs : List Value} {ps : List (Str × Int)} {v : Value} {p : Str × Int}, Pairs news vs ps → Pairs news [v] [p] → Pairs news (vs ++ [v]) (ps ++ [p])
  | [], [], _, _, _, hm => hm
  | _ :: _, _ :: _, _, _, h, hm => ⟨h.1, Pairs.snocR h.2 hm⟩
  | [], _ :: _, _, _, h, _ => h.elim
  | _ :: _, [], _, _, h, _ => h.elim
theorem Pairs.rev {news : List (Addr × Obj)} : ∀ {vs : List Value} {ps : List (Str × Int)}, Pairs news vs ps → Pairs news vs.reverse ps.reverse
  | [], [], _ => trivial
  | _ :: _, _ :: _, h => by
    rw [List.reverse_cons, List.reverse_cons]
    exact Pairs.snocR (Pairs.rev h.2) ⟨h.1, trivial⟩
  | [], _ :: _, h => h.elim
  | _ :: _, [], h => h.elim
def loopB : List Stmt := match lawB.b.drop 7 with
  | .For _ _ b _ _ :: _ => b
  | _ => []
abbrev lpNames : List Str := [Str.ofString "good", Str.ofString "rows", Str.ofString "accept", Str.ofString "k", Str.ofString "told"]
/-- at the head of the loop's body -/
structure Law5At (w : World) (base h : Heap) (L : Addr) (mean : ExcName → Option Value) (mg mb : Str → Option Value) (rl ol D : Addr) (kd : Int) (tk1 : Tok) (rv ov vs : List Value) (wd : Value) (nr no ns : Nat) (words offs : List Str) (ws rs : List (Str × Int)) (xs : List Str) (ix : Int) (sc : List Score) (nx news : List (Addr × Obj)) (o1 : Obj) (m₀ m : Str → Option Value) : Prop where
  F : Fr base L h m
  N : News base L h (nx ++ news)
  hA : ∀ y, y ∉ lpNames → m y = m₀ y
  hg : m (Str.ofString "good") = some (.bool true)
  hr : m (Str.ofString "rows") = some (.ref rl)
  h1 : m₀ (Str.ofString "offers") = some (.ref ol)
  h2 : m₀ (Str.ofString "wanted") = some wd
  h3 : m₀ (Str.ofString "scores") = some (.ref D)
  TS : TabS nx
  NN : NT news
  X : (hd.heap_39 w.params).In base
  T : Top topProg looseL mean mg mb base
  B : Below callerA base [] base
  hrl : (rl, W.listOf rv.toArray nr) ∈ news
  hol : (ol, W.listOf ov.toArray no) ∈ news
  hD : (D, W.listOf vs.toArray ns) ∈ news
  hc : (L + 1, o1) ∈ news
  hw1 : o1.data = .cell (some (.int kd tk1))
  hp : Pairs news rv rs
  hperm : rs.Perm ws
  hss : Scs news vs sc
  hpk : Picked xs ix wd
  hos : Strs ov xs
  hws : ∀ p ∈ ws, p.1 ∈ words ∧ 0 ≤ p.2 ∧ p.2 ≤ 4 ∧ (kd = 2 → 1 ≤ p.2)
  hxs : ∀ x ∈ xs, x ∈ offs
  hlw : ws.length ≤ 6
  hlx : 1 ≤ xs.length ∧ xs.length ≤ 4
/-- how the body ends -/
def End5 (base : Heap) (L : Addr) (news : List (Addr × Obj)) (m₀ : Str → Option Value) (g : Array GenState) (d : Drawn) (os : OsState) (f : Flow) (s : Shared) : Prop := f = .next ∧ ∃ m nx, (∀ y, y ∉ lpNames → m y = m₀ y) ∧ m (Str.ofString "good") = some (.bool true) ∧ Fr base L s.heap m ∧ News base L s.heap (nx ++ news) ∧ TabS nx ∧ GOk g s.gens ∧ s.drawn = d ∧ s.os = os
def Law5 (w : World) (base : Heap) (L fa : Addr) (cd : Value) (mean : ExcName → Option Value) (mg mb : Str → Option Value) (ol D : Addr) (kd : Int) (tk1 : Tok) (ov vs : List Value) (wd : Value) (no ns : Nat) (words offs : List Str) (ws : List (Str × Int)) (xs : List Str) (ix : Int) (sc : List Score) (o1 : Obj) (m₀ : Str → Option Value) (d : Drawn) (os : OsState) : Prop :=
  ∀ {h : Heap} {rl : Addr} {rv : List Value} {nr : Nat} {rs : List (Str × Int)} {nx news : List (Addr × Obj)} {m : Str → Option Value} {g : Array GenState} {tk : Nat}, Law5At w base h L mean mg mb rl ol D kd tk1 rv ov vs wd nr no ns words offs ws rs xs ix sc nx news o1 m₀ m → wpAny (model PySem.Challenge.rw_eq0045_01.row.prog w) (LawA L fa cd) (execs loopB (envOfC (Str.ofString "law") lawB.sc L fa cd)) (End5 base L news m₀ g d os) (fun _ _ => False) ⟨h, g, d, tk, os⟩

abbrev news5 (l10 D9 D wl ol L : Addr) (o1 o2 : Obj) (tp ts : List (Addr × Obj)) (wv vs ov : List Value) (nw ns no : Nat) : List (Addr × Obj) := (l10, W.listOf #[.ref wl, .ref D9] 0) :: (D9, W.listOf wv.reverse.toArray wv.reverse.length) :: (D, W.listOf vs.toArray ns) :: (wl, W.listOf wv.toArray nw) :: (ol, W.listOf ov.toArray no) :: (L + 1 + 1, o2) :: (L + 1, o1) :: (ts ++ tp)
theorem nt5 {i : Nat} {it : Addr} {l10 D9 D wl ol L : Addr} {o1 o2 : Obj} {tp ts : List (Addr × Obj)} {wv vs ov : List Value} {nw ns no : Nat} (ht : ∀ q ∈ tp, IsTup q.2) (hts : ∀ q ∈ ts, IsTup q.2) (l0 : 172 < L ∧ 303 < L ∧ 375 < L) : NT ((it, iterObj l10 (i + 1)) :: news5 l10 D9 D wl ol L o1 o2 tp ts wv vs ov nw ns no) := NT.cons (by intro h9; cases h9) <| by
  have hc : ∀ (k : Addr) (o : Obj), L < k → ((k, o) : Addr × Obj).2.cls ≠ .none ∨ (k ≠ 172 ∧ k ≠ 303 ∧ k ≠ 375) := fun k o h => .inr ⟨Nat.ne_of_gt (Nat.lt_trans l0.1 h), Nat.ne_of_gt (Nat.lt_trans l0.2.1 h), Nat.ne_of_gt (Nat.lt_trans l0.2.2 h)⟩
  have hl : ∀ (k : Addr) (x : Array Value) (n : Nat), ((k, W.listOf x n) : Addr × Obj).2.cls ≠ .none := fun k x n e => by cases e
  intro q hq
  rcases List.mem_cons.mp hq with rfl | hq
  · exact .inl (hl _ _ _)
  rcases List.mem_cons.mp hq with rfl | hq
  · exact .inl (hl _ _ _)
  rcases List.mem_cons.mp hq with rfl | hq
  · exact .inl (hl _ _ _)
  rcases List.mem_cons.mp hq with rfl | hq
  · exact .inl (hl _ _ _)
  rcases List.mem_cons.mp hq with rfl | hq
  · exact .inl (hl _ _ _)
  rcases List.mem_cons.mp hq with rfl | hq
  · exact hc _ _ (Nat.lt_succ_of_lt (Nat.lt_succ_self L))
  rcases List.mem_cons.mp hq with rfl | hq
  · exact hc _ _ (Nat.lt_succ_self L)
  have : IsTup q.2 := by
    rcases List.mem_append.mp hq with h | h
    · exact hts q h
    · exact ht q h
  obtain ⟨a, n, e⟩ := this
  refine .inl ?_
  rw [e]
  intro e9
  cases e9
theorem rows5 {l10 D9 D wl ol L : Addr} {o1 o2 : Obj} {tp ts : List (Addr × Obj)} {wv vs ov : List Value} {nw ns no : Nat} {ws : List (Str × Int)} {base h : Heap} {it : Addr} {io : Obj} {nx : List (Addr × Obj)} (_ : News base L h ((it, io) :: (nx ++ news5 l10 D9 D wl ol L o1 o2 tp ts wv vs ov nw ns no))) (hp : Pairs tp wv ws) {i : Nat} {v : Value} (hv : ([.ref wl, .ref D9] : List Value)[i]? = some v) : ∃ rl rv nr rs, v = .ref rl ∧ (rl, W.listOf rv.toArray nr) ∈ news5 l10 D9 D wl ol L o1 o2 tp ts wv vs ov nw ns no ∧ Pairs (news5 l10 D9 D wl ol L o1 o2 tp ts wv vs ov nw ns no) rv rs ∧ rs.Perm ws := by
  have hp2 : Pairs (news5 l10 D9 D wl ol L o1 o2 tp ts wv vs ov nw ns no) wv ws := Pairs.mono (fun q hq => .tail _ (.tail _ (.tail _ (.tail _ (.tail _ (.tail _ (.tail _ (List.mem_append_right _ hq)))))))) hp
  match i, hv with
  | 0, hv => cases hv; exact ⟨_, _, _, _, rfl, .tail _ (.tail _ (.tail _ (.head _))), hp2, List.Perm.refl _⟩
  | 1, hv => cases hv; exact ⟨_, _, _, _, rfl, .tail _ (.head _), hp2.rev, List.reverse_perm ws⟩
theorem tabs0 : TabS [(172, tabObj #[]), (303, tabObj #[]), (375, tabObj #[])] := ⟨_, _, _, [], rfl, .inl rfl, .inl rfl, .inl rfl, fun _ h => nomatch h⟩
theorem put_rows {m m₀ : Str → Option Value} {v : Value} (hA : ∀ y, y ∉ lpNames → m y = m₀ y) : ∀ y, y ∉ lpNames → (fun y => if y = Str.ofString "rows" then some v else m y) y = m₀ y := fun y hy => by
  have : y ≠ Str.ofString "rows" := fun e => hy (by rw [e]; exact .tail _ (.head _))
  simp only [this, if_false]
  exact hA y hy
theorem mem_five {α : Type} {q a b c d e f g x y z : α} {ts tp : List α} (h : q ∈ [x, y, z] ++ a :: b :: c :: d :: e :: f :: g :: (ts ++ tp)) : q = a ∨ q = b ∨ q ∈ c :: d :: e :: f :: g :: (ts ++ (tp ++ [x, y, z])) := by simp only [List.mem_cons, List.mem_append, List.not_mem_nil, or_false] at h ⊢; grind
theorem mem_it {α : Type} {q it : α} {nx news : List α} (h : q ∈ nx ++ it :: news) : q ∈ it :: (nx ++ news) := by simp only [List.mem_cons, List.mem_append] at h ⊢; grind
theorem mem_it' {α : Type} {q it : α} {nx news : List α} (h : q ∈ it :: (nx ++ news)) : q ∈ nx ++ it :: news := by simp only [List.mem_cons, List.mem_append] at h ⊢; grind
section
local macro_rules | `(tactic| k_mem) => `(tactic| with_reducible assumption)
local macro_rules | `(tactic| k_mem) => `(tactic| ((with_reducible (first | refine List.mem_append_right _ ?_ | refine mem_appR ?_)); k_mem))
local macro_rules | `(tactic| k_asm) => `(tactic| ((with_reducible show GOk _ _); first | exact GOk.refl _ | (intro x9; solve_by_elim)))
local macro_rules | `(tactic| k_asm) => `(tactic| ((with_reducible show News _ _ _ _); first | (with_reducible assumption) | (refine News.sub (by with_reducible assumption) (fun p9 h9 => ?_); (repeat (first | exact h9 | apply List.mem_cons_of_mem | apply List.mem_append_right)); done) | (refine News.sub (by assumption) (fun p9 h9 => ?_); (repeat (first | exact h9 | apply List.mem_cons_of_mem | apply List.mem_append_right)); done)))
theorem law_4 : ∀ {w : World} {base h : Heap} {L fa : Addr} {cd : Value} {mean : ExcName → Option Value} {mg mb : Str → Option Value} {sl wl ol cl D : Addr} {kd tn : Int} {tk1 tk2 : Tok} {wv ov vs : List Value} {wd : Value} {nw no ns : Nat} {words offs : List Str} {ws : List (Str × Int)} {xs : List Str} {ix : Int} {sc : List Score} {tp ts : List (Addr × Obj)} {o1 o2 : Obj} {g₀ g : Array GenState} {d : Drawn} {tk : Nat} {os : OsState} {QQ : Flow → Shared → Prop} {EE : Value → Shared → Prop} (XX : (hd.heap_39 w.params).In base) (A : Law4At w base h L mean mg mb sl wl ol cl D kd tn tk1 tk2 wv ov vs wd nw no ns words offs ws xs ix sc tp ts o1 o2) (hG : GOk g₀ g) (E : LawEnd base L g₀ d os QQ)
    (T5 : ∀ m₀, Law5 w base L fa cd mean mg mb ol D kd tk1 ov vs wd no ns words offs ws xs ix sc o1 m₀ d os),
  wpAny (model PySem.Challenge.rw_eq0045_01.row.prog w) (LawA L fa cd) (execs (lawB.b.drop 7) (envOfC (Str.ofString "law") lawB.sc L fa cd)) QQ EE ⟨h, g, d, tk, os⟩ := by
  w_top off
  k_fill
  intro w base h L fa cd mean mg mb sl wl ol cl D kd tn tk1 tk2 wv ov vs wd nw0 no ns words offs ws xs ix sc tp ts o1 o2 g₀ g d tk os QQ EE XX A hG E T5
  clear XX
  obtain ⟨F0, N0, X0, T0, B0, hw1, hw2, cd1, cd2, cd3, l0, hp, ht, hss, hts, hpk, hos, hws, hxs, hlw, hlx⟩ := A
  dsimp only [lawB, LawA, List.drop]
  iterate 1 (try (first | (k_unfold; (try dsimp only)) | walk1 | (dsimp only; walk1)))
  refine for_listX (h₀ := base) (L := L) rfl ?_
  iterate 4 (try (first | (k_unfold; (try dsimp only)) | walk1 | (dsimp only; walk1)))
  with_reducible rename Fr _ _ _ _ => FB
  with_reducible rename News _ _ _ _ => NB
  refine LCg.ListComp_U FB (by with_unfolding_all rfl) (by decide) (by rfl) (by decide) (by rfl) ?_
  iterate 10 (try (first | (k_unfold; (try dsimp only)) | walk1 | (dsimp only; walk1)))
  have hwv : wv.length = ws.length := hp.len
  refine len_l NB (.tail _ (.head _)) hwv (by omega) ?_
  dsimp only
  iterate 1 (try (first | (k_unfold; (try dsimp only)) | walk1 | (dsimp only; walk1)))
  refine range1_rows (by k_asm) (by k_asm) (fun h1 tk1 t1 u1 v1 hr F2 N2 _ => ?_)
  clear FB NB
  refine with_led N2 (fun led NL hin hout => ?_)
  refine LCg.CompSrc.range (n := ws.length) (by rfl) F2 NL hr (small_one (by decide) (by decide) (by omega) (by omega)) (by rw [rangeSize_one]; split <;> omega) (Nat.le_trans hlw (by decide)) ?_
  intro h3
  refine compRest_inv (fun i ys nw => ys = wv.reverse.take i ∧ ∀ q ∈ led, q ∈ nw) ?_ ?_ _ 0 [] _ (Nat.zero_add _) ⟨rfl, fun _ h => h⟩
  · rintro i ys nw v I oI C oC D9 m₂ h tk E' hi ⟨hys, hsub⟩ ⟨t5, rfl⟩ hC hx F N off ne
    have hm2 : (L + 1 + 1, o2) ∈ (I, oI) :: (C, oC) :: (D9, LCg.lst ys) :: nw := .tail _ (.tail _ (.tail _ (hsub _ (hin _ (by simp only [List.mem_cons, true_or, or_true])))))
    have hmw : (wl, W.listOf wv.toArray nw0) ∈ (I, oI) :: (C, oC) :: (D9, LCg.lst ys) :: nw := .tail _ (.tail _ (.tail _ (hsub _ (hin _ (by simp only [List.mem_cons, true_or, or_true])))))
    clear F2 N2 NL
    refine wpAny_opaque fun Q5 hQ5 => ?_
    iterate 10 (try (first | (k_unfold; (try dsimp only)) | walk1 | (dsimp only; walk1)))
    refine len_l N hmw hwv (by omega) ?_
    dsimp only
    have hjl : ws.length - 1 - i < wv.length := by omega
    have hrv : wv.reverse.take (i + 1) = wv.reverse.take i ++ [wv[ws.length - 1 - i]] := by
      have hil : i < wv.reverse.length := by rw [List.length_reverse]; omega
      rw [List.take_add_one, List.getElem?_eq_getElem hil, List.getElem_reverse]
      simp only [hwv]
      rfl
    iterate 6 (try (first | (k_unfold; (try dsimp only)) | walk1 | (dsimp only; walk1)))
    refine item_l N hmw ?h0 (v := wv[ws.length - 1 - i]) ?hx ?_
    case h0 => omega
    case hx =>
      rw [show ((ws.length : Int) - 1 - (0 + (i : Int))).toNat = ws.length - 1 - i by omega]
      exact List.getElem?_eq_getElem hjl
    refine hQ5 _ _ ?_
    clear hQ5 Q5
    refine LCg.CompEnd.intro F N nw (fun q hq => hq) off trivial ⟨?_, hsub⟩
    rw [hrv, hys]
  · rintro ys nw ⟨hys, hsub⟩ D9 h tk F N off
    rw [List.take_of_length_le (by rw [List.length_reverse]; omega)] at hys
    subst hys
    iterate 2 (try (first | (k_unfold; (try dsimp only)) | walk1 | (dsimp only; walk1)))
    with_reducible rename Fr _ _ _ _ => F10
    with_reducible rename News _ _ _ _ => N10
    refine ⟨_, _, [.ref wl, .ref D9], 0, _, [(172, tabObj #[]), (303, tabObj #[]), (375, tabObj #[])], news5 _ D9 D wl ol L o1 o2 tp ts wv vs ov nw0 ns no, fun i m nx => (∀ y, y ∉ lpNames → m y = (fun z9 => List.lookup z9 [(Str.ofString "good", .bool true), (Str.ofString "scores", .ref D), (Str.ofString "wanted", wd), (Str.ofString "offers", .ref ol), (Str.ofString "turn", .int tn tk2), (Str.ofString "cells", .ref cl), (Str.ofString "script", .ref sl)]) y) ∧ m (Str.ofString "good") = some (.bool true) ∧ TabS nx, rfl, rfl, rfl, .head _, F10, ?nn, ⟨fun _ _ => rfl, rfl, tabs0⟩, ?turn, ?fin⟩
    case nn =>
      refine News.sub N10 (fun q hq => ?_)
      rcases mem_five hq with h | h | h
      · rw [h]; exact .head _
      · rw [h]; exact .tail _ (.head _)
      · exact .tail _ (.tail _ (hsub _ (hin _ h)))
    case turn =>
      intro it i v m nx h g1 tk hv hI F11 N11 hg1
      obtain ⟨hA, hgd, hTS⟩ := hI
      obtain ⟨rl, rv, nr, rs, rfl, hrl, hpr, hpm⟩ := rows5 N11 hp hv
      iterate 2 (try (first | (k_unfold; (try dsimp only)) | walk1 | (dsimp only; walk1)))
      with_reducible rename Fr _ _ _ _ => F12
      with_reducible rename News _ _ _ _ => N12
      refine wpAny_mono (T5 _ ⟨F12, News.sub N12 (fun q hq => mem_it hq), put_rows hA, (if_neg (by decide)).trans hgd, if_pos rfl, rfl, rfl, rfl, hTS, nt5 ht hts l0, X0, T0, B0, .tail _ hrl, .tail _ (.tail _ (.tail _ (.tail _ (.tail _ (.head _))))), .tail _ (.tail _ (.tail _ (.head _))), .tail _ (.tail _ (.tail _ (.tail _ (.tail _ (.tail _ (.tail _ (.head _))))))), hw1, Pairs.mono (fun _ h9 => .tail _ h9) hpr, hpm, Scs.mono (fun _ h9 => .tail _ (.tail _ (.tail _ (.tail _ (.tail _ (.tail _ (.tail _ (.tail _ (List.mem_append_left _ h9))))))))) hss, hpk, hos, hws, hxs, hlw, hlx⟩) (fun f s₃ h3 => ?_) fun _ _ e => e
      obtain ⟨rfl, m', nx', hA', hg', F13, N13, TS', G', hd', ho'⟩ := h3
      refine ⟨m', nx', ⟨hA', hg', TS'⟩, F13, News.sub N13 (fun q hq => mem_it' hq), TabS.ne TS' N13 (fun p9 h9 => List.mem_append_left _ h9) (List.mem_append_right _ (.head _)), GOk.trans hg1 G', hd', ho'⟩
    case fin =>
      intro m nx h g1 tk hI F11 N11 hg1
      obtain ⟨hA, hgd, hTS⟩ := hI
      replace F11 := Fr.as F11 (ovr_of lpNames hA)
      simp only [List.map, hgd] at F11
      dsimp only
      iterate 3 (try (first | (k_unfold; (try dsimp only)) | walk1 | (dsimp only; walk1)))
      exact E _ _ _ _ _ _ F11 N11 hTS (GOk.trans hG hg1)
end
end Mine
end

section
open PySem PySem.W PyProof.Rows PySem.Calls PySem.Spec
set_option Elab.async false
set_option maxRecDepth 100000
set_option maxHeartbeats 0
set_option linter.unusedVariables false
namespace Mine
/-- behind accept = .. -/
structure Law6At (w : World) (base h : Heap) (L C : Addr) (mean : ExcName → Option Value) (mg mb : Str → Option Value) (ol D x dd : Addr) (hh : Int) (tt : Tok) (us ov vs : List Value) (wd : Value) (nu no ns : Nat) (words offs : List Str) (ws qs : List (Str × Int)) (Sp : Str → List Bool) (xs : List Str) (ix : Int) (sc : List Score) (nx news : List (Addr × Obj)) (m₀ m : Str → Option Value) : Prop where
  F : Fr base L h m
  N : News base L h ((x, (⟨.ref C, some dd, .seq us.toArray nu, #[]⟩ : Obj)) :: (dd, W.dictOf [⟨hh, .str (Str.ofString "provided") tt, .bool true⟩] 1) :: (nx ++ news))
  hA : ∀ y, y ∉ lpNames → m y = m₀ y
  hg : m (Str.ofString "good") = some (.bool true)
  ha : m (Str.ofString "accept") = some (.ref x)
  h1 : m₀ (Str.ofString "offers") = some (.ref ol)
  h2 : m₀ (Str.ofString "wanted") = some wd
  h3 : m₀ (Str.ofString "scores") = some (.ref D)
  TS : TabS nx
  NN : NT news
  hlt : ∀ p ∈ news, p.1 < x ∧ p.1 < dd
  X : (hd.heap_39 w.params).In base
  T : Top topProg looseL mean mg mb base
  B : Below callerA base [] base
  hol : (ol, W.listOf ov.toArray no) ∈ news
  hD : (D, W.listOf vs.toArray ns) ∈ news
  hp : Pairs news us qs
  hord : Ordered Sp qs
  hperm : qs.Perm ws
  hss : Scs news vs sc
  hpk : Picked xs ix wd
  hos : Strs ov xs
  hxs : ∀ x ∈ xs, x ∈ offs
  hws : ∀ p ∈ ws, p.1 ∈ words ∧ 0 ≤ p.2
  hlw : ws.length ≤ 6
  hlx : 1 ≤ xs.length ∧ xs.length ≤ 4
end Mine
end

section
open PySem PySem.W PyProof.Rows PySem.Calls PySem.Spec
set_option Elab.async false
set_option maxRecDepth 100000
set_option maxHeartbeats 0
set_option linter.unusedVariables false
namespace Mine
section
local macro_rules | `(tactic| walk_at "none 0") => `(tactic| fail)
local macro_rules | `(tactic| walk_at "none 1") => `(tactic| fail)
local macro_rules | `(tactic| walk_at "none 2") => `(tactic| fail)
local macro_rules | `(tactic| walk_at "none 3") => `(tactic| fail)
local macro_rules | `(tactic| walk_at "none 4") => `(tactic| fail)
local macro_rules | `(tactic| walk_at "none 5") => `(tactic| fail)
local macro_rules | `(tactic| walk_at "none 6") => `(tactic| fail)
local macro_rules | `(tactic| walk_at "none 7") => `(tactic| fail)
local macro_rules | `(tactic| walk_at "none 8") => `(tactic| fail)
local macro_rules | `(tactic| walk_at "none 9") => `(tactic| fail)
local macro_rules | `(tactic| walk_at "none 10") => `(tactic| fail)
local macro_rules | `(tactic| walk_at "none 11") => `(tactic| fail)
local macro_rules | `(tactic| walk_at "none 12") => `(tactic| fail)
local macro_rules | `(tactic| walk_at "none 13") => `(tactic| fail)
local macro_rules | `(tactic| walk_at "none 14") => `(tactic| fail)
local macro_rules | `(tactic| walk_at "none 15") => `(tactic| fail)
local macro_rules | `(tactic| k_mem) => `(tactic| with_reducible assumption)
local macro_rules | `(tactic| k_mem) => `(tactic| ((with_reducible (first | refine List.mem_append_right _ ?_ | refine mem_appR ?_)); k_mem))
local macro_rules | `(tactic| k_asm) => `(tactic| ((with_reducible show GOk _ _); first | exact GOk.refl _ | (intro x9; solve_by_elim)))
local macro_rules | `(tactic| k_asm) => `(tactic| ((with_reducible show News _ _ _ _); first | (with_reducible assumption) | (refine News.sub (by with_reducible assumption) (fun p9 h9 => ?_); (repeat (first | exact h9 | apply List.mem_cons_of_mem | apply List.mem_append_right)); done) | (refine News.sub (by assumption) (fun p9 h9 => ?_); (repeat (first | exact h9 | apply List.mem_cons_of_mem | apply List.mem_append_right)); done)))
local macro_rules | `(tactic| walk_at "call ref") => `(tactic| (
  k_here
  (with_reducible show wpAny _ _ (call (Value.ref 280) _ _) _ _ _)
  k_dflt (refine' specT_use (make_G (by with_reducible assumption : ClsOk _ _ _ _ _) (by with_reducible assumption : SpcOk _ _ _ _ _) (by with_reducible assumption : ClsNew _ _) _ _ _ _ ?k1 ?k2 ?k3 ?k4) ?kB ?kF ?kX ?kN ?kTS ?kP ?kNN ?kT ?kK ?kD ?kU ?_)
  (case kB => k_asm)
  (case kF => k_asm)
  (case kX => k_asm)
  (case kN => k_asm)
  (case kTS => with_reducible assumption)
  (case kP => (repeat (first | exact Pull.here | apply Pull.cons | apply Pull.app)))
  (case kT => k_asm)
  (case k1 => with_reducible assumption)
  (case k2 => with_reducible assumption)
  (case k3 => with_reducible assumption)
  (case k4 => with_reducible assumption)
  (case kNN => (repeat (first | (with_reducible assumption) | exact NT.nil | (refine NT.cons (by intro h9; cases h9) ?_) | refine NT.app ?_ ?_)))
  (case kK => rfl)
  (case kD => exact Nat.le_of_ble_eq_true rfl)
  (case kU => exact Nat.le_of_ble_eq_true rfl)
  k_whole
  (intro v tl tb9 h' g' tk' hR F' N' TS9 NT9 hlt hg)
  (obtain ⟨x9, d9, n9, hh9, tt9, us9, os9, e1, e2, hp9, hpm9, hord9⟩ := hR)
  subst e1
  subst e2
  (simp only [List.cons_append, List.nil_append] at N')))
theorem law_5_0 : ∀ {w : World} {base h : Heap} {L fa : Addr} {cd : Value} {mean : ExcName → Option Value} {mg mb : Str → Option Value} {rl ol D : Addr} {tk1 : Tok} {rv ov vs : List Value} {wd : Value} {nr no ns : Nat} {words offs : List Str} {ws rs : List (Str × Int)} {xs : List Str} {ix : Int} {sc : List Score} {nx news : List (Addr × Obj)} {o1 : Obj} {m₀ m : Str → Option Value} {g : Array GenState} {d : Drawn} {tk : Nat} {os : OsState} {QQ : Flow → Shared → Prop} {EE : Value → Shared → Prop} {fm : Addr} {M : Str → Str → Bool} {Ok : Str → Str → Prop} {fs : Addr} {Sp : Str → List Bool} {Oks : Str → Prop} (XX : (hd.heap_39 w.params).In base) (A : Law5At w base h L mean mg mb rl ol D 0 tk1 rv ov vs wd nr no ns words offs ws rs xs ix sc nx news o1 m₀ m)
    (hC : ClsOk w 280 fm M Ok) (hS : SpcOk w 280 fs Sp Oks) (hN : ClsNew w 280) (hsp : ∀ p ∈ words, Oks p)
    (H : ∀ {h : Heap} {x dd : Addr} {hh : Int} {tt : Tok} {us : List Value} {nu : Nat} {qs : List (Str × Int)} {nx : List (Addr × Obj)} {m : Str → Option Value} {g' : Array GenState} {tk : Nat}, Law6At w base h L 280 mean mg mb ol D x dd hh tt us ov vs wd nu no ns words offs ws qs Sp xs ix sc nx news m₀ m → GOk g g' → wpAny (model PySem.Challenge.rw_eq0045_01.row.prog w) (LawA L fa cd) (execs (loopB.drop 1) (envOfC (Str.ofString "law") lawB.sc L fa cd)) QQ EE ⟨h, g', d, tk, os⟩),
  wpAny (model PySem.Challenge.rw_eq0045_01.row.prog w) (LawA L fa cd) (execs loopB (envOfC (Str.ofString "law") lawB.sc L fa cd)) QQ EE ⟨h, g, d, tk, os⟩ := by
  w_top off
  k_fill
  intro w base h L fa cd mean mg mb rl ol D tk1 rv ov vs wd nr no ns words offs ws rs xs ix sc nx news o1 m₀ m g d tk os QQ EE fm M Ok fs Sp Oks XX A hC hS hN hsp H
  clear XX
  obtain ⟨F0, N0, hA, hgd, hro, h1, h2, h3, TS, NN, X0, T0, B0, hrl, hol, hD, hc, hw1, hp, hperm, hss, hpk, hos, hws, hxs, hlw, hlx⟩ := A
  have hsp' : ∀ p ∈ rs, Oks p.1 := fun p hp => hsp _ (hws p (hperm.mem_iff.mp hp)).1
  have hrl6 : rs.length ≤ 6 := by rw [hperm.length_eq]; exact hlw
  replace F0 := Fr.as F0 (ovr_of lpNames hA)
  simp only [List.map, hgd, hro] at F0
  dsimp only [loopB, lawB, LawA, List.drop]
  iterate 18 (try (first | (k_unfold; (try dsimp only)) | walk1 | (dsimp only; walk1)))
  with_reducible rename Fr _ _ _ _ => F9
  with_reducible rename News _ _ _ _ => N9
  with_reducible rename Pairs _ _ _ => hp9
  with_reducible rename List.Perm _ _ => hpm9
  with_reducible rename Ordered _ _ => ho9
  with_reducible rename TabS _ => TS9
  with_reducible rename GOk _ _ => hg9
  with_reducible rename ∀ p ∈ _, ∀ q ∈ _, _ => hlt9
  refine H ⟨F9, N9, fun y hy => ?_, (if_neg (by decide)).trans rfl, if_pos rfl, h1, h2, h3, TS9, NN, fun p hp => ⟨hlt9 p hp _ (.head _), hlt9 p hp _ (.tail _ (.head _))⟩, X0, T0, B0, hol, hD, hp9, ho9, hpm9.trans hperm, hss, hpk, hos, hxs, fun p hp => ⟨(hws p hp).1, (hws p hp).2.1⟩, hlw, hlx⟩ hg9
  simp only [lpNames, List.mem_cons, List.not_mem_nil, or_false, not_or] at hy
  simp only [hy, if_false]
  exact ovr_out (by simp [hy])
end
end Mine
end

section
open PySem PySem.W PyProof.Rows PySem.Calls PySem.Spec
set_option Elab.async false
set_option maxRecDepth 100000
set_option maxHeartbeats 0
set_option linter.unusedVariables false
namespace Mine
section
local macro_rules | `(tactic| walk_at "none 0") => `(tactic| fail)
local macro_rules | `(tactic| walk_at "none 1") => `(tactic| fail)
local macro_rules | `(tactic| walk_at "none 2") => `(tactic| fail)
local macro_rules | `(tactic| walk_at "none 3") => `(tactic| fail)
local macro_rules | `(tactic| walk_at "none 4") => `(tactic| fail)
local macro_rules | `(tactic| walk_at "none 5") => `(tactic| fail)
local macro_rules | `(tactic| walk_at "none 6") => `(tactic| fail)
local macro_rules | `(tactic| walk_at "none 7") => `(tactic| fail)
local macro_rules | `(tactic| walk_at "none 8") => `(tactic| fail)
local macro_rules | `(tactic| walk_at "none 9") => `(tactic| fail)
local macro_rules | `(tactic| walk_at "none 10") => `(tactic| fail)
local macro_rules | `(tactic| walk_at "none 11") => `(tactic| fail)
local macro_rules | `(tactic| walk_at "none 12") => `(tactic| fail)
local macro_rules | `(tactic| walk_at "none 13") => `(tactic| fail)
local macro_rules | `(tactic| walk_at "none 14") => `(tactic| fail)
local macro_rules | `(tactic| walk_at "none 15") => `(tactic| fail)
local macro_rules | `(tactic| walk_at "none 16") => `(tactic| fail)
local macro_rules | `(tactic| k_mem) => `(tactic| with_reducible assumption)
local macro_rules | `(tactic| k_mem) => `(tactic| ((with_reducible (first | refine List.mem_append_right _ ?_ | refine mem_appR ?_)); k_mem))
local macro_rules | `(tactic| k_asm) => `(tactic| ((with_reducible show GOk _ _); first | exact GOk.refl _ | (intro x9; solve_by_elim)))
local macro_rules | `(tactic| k_asm) => `(tactic| ((with_reducible show News _ _ _ _); first | (with_reducible assumption) | (refine News.sub (by with_reducible assumption) (fun p9 h9 => ?_); (repeat (first | exact h9 | apply List.mem_cons_of_mem | apply List.mem_append_right)); done) | (refine News.sub (by assumption) (fun p9 h9 => ?_); (repeat (first | exact h9 | apply List.mem_cons_of_mem | apply List.mem_append_right)); done)))
local macro_rules | `(tactic| walk_at "call ref") => `(tactic| (
  k_here
  (with_reducible show wpAny _ _ (call (Value.ref 342) _ _) _ _ _)
  k_dflt (refine' specT_use (make_G (by with_reducible assumption : ClsOk _ _ _ _ _) (by with_reducible assumption : SpcOk _ _ _ _ _) (by with_reducible assumption : ClsNew _ _) _ _ _ _ ?k1 ?k2 ?k3 ?k4) ?kB ?kF ?kX ?kN ?kTS ?kP ?kNN ?kT ?kK ?kD ?kU ?_)
  (case kB => k_asm)
  (case kF => k_asm)
  (case kX => k_asm)
  (case kN => k_asm)
  (case kTS => with_reducible assumption)
  (case kP => (repeat (first | exact Pull.here | apply Pull.cons | apply Pull.app)))
  (case kT => k_asm)
  (case k1 => with_reducible assumption)
  (case k2 => with_reducible assumption)
  (case k3 => with_reducible assumption)
  (case k4 => with_reducible assumption)
  (case kNN => (repeat (first | (with_reducible assumption) | exact NT.nil | (refine NT.cons (by intro h9; cases h9) ?_) | refine NT.app ?_ ?_)))
  (case kK => rfl)
  (case kD => exact Nat.le_of_ble_eq_true rfl)
  (case kU => exact Nat.le_of_ble_eq_true rfl)
  k_whole
  (intro v tl tb9 h' g' tk' hR F' N' TS9 NT9 hlt hg)
  (obtain ⟨x9, d9, n9, hh9, tt9, us9, os9, e1, e2, hp9, hpm9, hord9⟩ := hR)
  subst e1
  subst e2
  (simp only [List.cons_append, List.nil_append] at N')))
theorem law_5_1 : ∀ {w : World} {base h : Heap} {L fa : Addr} {cd : Value} {mean : ExcName → Option Value} {mg mb : Str → Option Value} {rl ol D : Addr} {tk1 : Tok} {rv ov vs : List Value} {wd : Value} {nr no ns : Nat} {words offs : List Str} {ws rs : List (Str × Int)} {xs : List Str} {ix : Int} {sc : List Score} {nx news : List (Addr × Obj)} {o1 : Obj} {m₀ m : Str → Option Value} {g : Array GenState} {d : Drawn} {tk : Nat} {os : OsState} {QQ : Flow → Shared → Prop} {EE : Value → Shared → Prop} {fm : Addr} {M : Str → Str → Bool} {Ok : Str → Str → Prop} {fs : Addr} {Sp : Str → List Bool} {Oks : Str → Prop} (XX : (hd.heap_39 w.params).In base) (A : Law5At w base h L mean mg mb rl ol D 1 tk1 rv ov vs wd nr no ns words offs ws rs xs ix sc nx news o1 m₀ m)
    (hC : ClsOk w 342 fm M Ok) (hS : SpcOk w 342 fs Sp Oks) (hN : ClsNew w 342) (hsp : ∀ p ∈ words, Oks p)
    (H : ∀ {h : Heap} {x dd : Addr} {hh : Int} {tt : Tok} {us : List Value} {nu : Nat} {qs : List (Str × Int)} {nx : List (Addr × Obj)} {m : Str → Option Value} {g' : Array GenState} {tk : Nat}, Law6At w base h L 342 mean mg mb ol D x dd hh tt us ov vs wd nu no ns words offs ws qs Sp xs ix sc nx news m₀ m → GOk g g' → wpAny (model PySem.Challenge.rw_eq0045_01.row.prog w) (LawA L fa cd) (execs (loopB.drop 1) (envOfC (Str.ofString "law") lawB.sc L fa cd)) QQ EE ⟨h, g', d, tk, os⟩),
  wpAny (model PySem.Challenge.rw_eq0045_01.row.prog w) (LawA L fa cd) (execs loopB (envOfC (Str.ofString "law") lawB.sc L fa cd)) QQ EE ⟨h, g, d, tk, os⟩ := by
  w_top off
  k_fill
  intro w base h L fa cd mean mg mb rl ol D tk1 rv ov vs wd nr no ns words offs ws rs xs ix sc nx news o1 m₀ m g d tk os QQ EE fm M Ok fs Sp Oks XX A hC hS hN hsp H
  clear XX
  obtain ⟨F0, N0, hA, hgd, hro, h1, h2, h3, TS, NN, X0, T0, B0, hrl, hol, hD, hc, hw1, hp, hperm, hss, hpk, hos, hws, hxs, hlw, hlx⟩ := A
  have hsp' : ∀ p ∈ rs, Oks p.1 := fun p hp => hsp _ (hws p (hperm.mem_iff.mp hp)).1
  have hrl6 : rs.length ≤ 6 := by rw [hperm.length_eq]; exact hlw
  replace F0 := Fr.as F0 (ovr_of lpNames hA)
  simp only [List.map, hgd, hro] at F0
  dsimp only [loopB, lawB, LawA, List.drop]
  iterate 25 (try (first | (k_unfold; (try dsimp only)) | walk1 | (dsimp only; walk1)))
  with_reducible rename Fr _ _ _ _ => F9
  with_reducible rename News _ _ _ _ => N9
  with_reducible rename Pairs _ _ _ => hp9
  with_reducible rename List.Perm _ _ => hpm9
  with_reducible rename Ordered _ _ => ho9
  with_reducible rename TabS _ => TS9
  with_reducible rename GOk _ _ => hg9
  with_reducible rename ∀ p ∈ _, ∀ q ∈ _, _ => hlt9
  refine H ⟨F9, N9, fun y hy => ?_, (if_neg (by decide)).trans rfl, if_pos rfl, h1, h2, h3, TS9, NN, fun p hp => ⟨hlt9 p hp _ (.head _), hlt9 p hp _ (.tail _ (.head _))⟩, X0, T0, B0, hol, hD, hp9, ho9, hpm9.trans hperm, hss, hpk, hos, hxs, fun p hp => ⟨(hws p hp).1, (hws p hp).2.1⟩, hlw, hlx⟩ hg9
  simp only [lpNames, List.mem_cons, List.not_mem_nil, or_false, not_or] at hy
  simp only [hy, if_false]
  exact ovr_out (by simp [hy])
end
end Mine
end

section
open PySem PySem.W PyProof.Rows PySem.Calls PySem.Spec
set_option Elab.async false
set_option maxRecDepth 100000
set_option maxHeartbeats 0
set_option linter.unusedVariables false
namespace Mine
section
local macro_rules | `(tactic| walk_at "none 0") => `(tactic| fail)
local macro_rules | `(tactic| walk_at "none 1") => `(tactic| fail)
local macro_rules | `(tactic| walk_at "none 2") => `(tactic| fail)
local macro_rules | `(tactic| walk_at "none 3") => `(tactic| fail)
local macro_rules | `(tactic| walk_at "none 4") => `(tactic| fail)
local macro_rules | `(tactic| walk_at "none 5") => `(tactic| fail)
local macro_rules | `(tactic| walk_at "none 6") => `(tactic| fail)
local macro_rules | `(tactic| walk_at "none 7") => `(tactic| fail)
local macro_rules | `(tactic| walk_at "none 8") => `(tactic| fail)
local macro_rules | `(tactic| walk_at "none 9") => `(tactic| fail)
local macro_rules | `(tactic| walk_at "none 10") => `(tactic| fail)
local macro_rules | `(tactic| walk_at "none 11") => `(tactic| fail)
local macro_rules | `(tactic| walk_at "none 12") => `(tactic| fail)
local macro_rules | `(tactic| walk_at "none 13") => `(tactic| fail)
local macro_rules | `(tactic| walk_at "none 14") => `(tactic| fail)
local macro_rules | `(tactic| walk_at "none 15") => `(tactic| fail)
local macro_rules | `(tactic| walk_at "none 16") => `(tactic| fail)
local macro_rules | `(tactic| walk_at "none 17") => `(tactic| fail)
local macro_rules | `(tactic| k_mem) => `(tactic| with_reducible assumption)
local macro_rules | `(tactic| k_mem) => `(tactic| ((with_reducible (first | refine List.mem_append_right _ ?_ | refine mem_appR ?_)); k_mem))
local macro_rules | `(tactic| k_asm) => `(tactic| ((with_reducible show GOk _ _); first | exact GOk.refl _ | (intro x9; solve_by_elim)))
local macro_rules | `(tactic| k_asm) => `(tactic| ((with_reducible show News _ _ _ _); first | (with_reducible assumption) | (refine News.sub (by with_reducible assumption) (fun p9 h9 => ?_); (repeat (first | exact h9 | apply List.mem_cons_of_mem | apply List.mem_append_right)); done) | (refine News.sub (by assumption) (fun p9 h9 => ?_); (repeat (first | exact h9 | apply List.mem_cons_of_mem | apply List.mem_append_right)); done)))
local macro_rules | `(tactic| walk_at "call ref") => `(tactic| (
  k_here
  (with_reducible show wpAny _ _ (call (Value.ref 381) _ _) _ _ _)
  k_dflt (refine' specT_use (make_G (by with_reducible assumption : ClsOk _ _ _ _ _) (by with_reducible assumption : SpcOk _ _ _ _ _) (by with_reducible assumption : ClsNew _ _) _ _ _ _ ?k1 ?k2 ?k3 ?k4) ?kB ?kF ?kX ?kN ?kTS ?kP ?kNN ?kT ?kK ?kD ?kU ?_)
  (case kB => k_asm)
  (case kF => k_asm)
  (case kX => k_asm)
  (case kN => k_asm)
  (case kTS => with_reducible assumption)
  (case kP => (repeat (first | exact Pull.here | apply Pull.cons | apply Pull.app)))
  (case kT => k_asm)
  (case k1 => with_reducible assumption)
  (case k2 => with_reducible assumption)
  (case k3 => with_reducible assumption)
  (case k4 => with_reducible assumption)
  (case kNN => (repeat (first | (with_reducible assumption) | exact NT.nil | (refine NT.cons (by intro h9; cases h9) ?_) | refine NT.app ?_ ?_)))
  (case kK => rfl)
  (case kD => exact Nat.le_of_ble_eq_true rfl)
  (case kU => exact Nat.le_of_ble_eq_true rfl)
  k_whole
  (intro v tl tb9 h' g' tk' hR F' N' TS9 NT9 hlt hg)
  (obtain ⟨x9, d9, n9, hh9, tt9, us9, os9, e1, e2, hp9, hpm9, hord9⟩ := hR)
  subst e1
  subst e2
  (simp only [List.cons_append, List.nil_append] at N')))
theorem law_5_2 : ∀ {w : World} {base h : Heap} {L fa : Addr} {cd : Value} {mean : ExcName → Option Value} {mg mb : Str → Option Value} {rl ol D : Addr} {tk1 : Tok} {rv ov vs : List Value} {wd : Value} {nr no ns : Nat} {words offs : List Str} {ws rs : List (Str × Int)} {xs : List Str} {ix : Int} {sc : List Score} {nx news : List (Addr × Obj)} {o1 : Obj} {m₀ m : Str → Option Value} {g : Array GenState} {d : Drawn} {tk : Nat} {os : OsState} {QQ : Flow → Shared → Prop} {EE : Value → Shared → Prop} {fm : Addr} {M : Str → Str → Bool} {Ok : Str → Str → Prop} {fs : Addr} {Sp : Str → List Bool} {Oks : Str → Prop} (XX : (hd.heap_39 w.params).In base) (A : Law5At w base h L mean mg mb rl ol D 2 tk1 rv ov vs wd nr no ns words offs ws rs xs ix sc nx news o1 m₀ m)
    (hC : ClsOk w 381 fm M Ok) (hS : SpcOk w 381 fs Sp Oks) (hN : ClsNew w 381) (hsp : ∀ p ∈ words, Oks p)
    (H : ∀ {h : Heap} {x dd : Addr} {hh : Int} {tt : Tok} {us : List Value} {nu : Nat} {qs : List (Str × Int)} {nx : List (Addr × Obj)} {m : Str → Option Value} {g' : Array GenState} {tk : Nat}, Law6At w base h L 381 mean mg mb ol D x dd hh tt us ov vs wd nu no ns words offs ws qs Sp xs ix sc nx news m₀ m → GOk g g' → wpAny (model PySem.Challenge.rw_eq0045_01.row.prog w) (LawA L fa cd) (execs (loopB.drop 1) (envOfC (Str.ofString "law") lawB.sc L fa cd)) QQ EE ⟨h, g', d, tk, os⟩),
  wpAny (model PySem.Challenge.rw_eq0045_01.row.prog w) (LawA L fa cd) (execs loopB (envOfC (Str.ofString "law") lawB.sc L fa cd)) QQ EE ⟨h, g, d, tk, os⟩ := by
  w_top off
  k_fill
  intro w base h L fa cd mean mg mb rl ol D tk1 rv ov vs wd nr no ns words offs ws rs xs ix sc nx news o1 m₀ m g d tk os QQ EE fm M Ok fs Sp Oks XX A hC hS hN hsp H
  clear XX
  obtain ⟨F0, N0, hA, hgd, hro, h1, h2, h3, TS, NN, X0, T0, B0, hrl, hol, hD, hc, hw1, hp, hperm, hss, hpk, hos, hws, hxs, hlw, hlx⟩ := A
  have hsp' : ∀ p ∈ rs, Oks p.1 := fun p hp => hsp _ (hws p (hperm.mem_iff.mp hp)).1
  have hrl6 : rs.length ≤ 6 := by rw [hperm.length_eq]; exact hlw
  replace F0 := Fr.as F0 (ovr_of lpNames hA)
  simp only [List.map, hgd, hro] at F0
  dsimp only [loopB, lawB, LawA, List.drop]
  iterate 25 (try (first | (k_unfold; (try dsimp only)) | walk1 | (dsimp only; walk1)))
  with_reducible rename Fr _ _ _ _ => F9
  with_reducible rename News _ _ _ _ => N9
  with_reducible rename Pairs _ _ _ => hp9
  with_reducible rename List.Perm _ _ => hpm9
  with_reducible rename Ordered _ _ => ho9
  with_reducible rename TabS _ => TS9
  with_reducible rename GOk _ _ => hg9
  with_reducible rename ∀ p ∈ _, ∀ q ∈ _, _ => hlt9
  refine H ⟨F9, N9, fun y hy => ?_, (if_neg (by decide)).trans rfl, if_pos rfl, h1, h2, h3, TS9, NN, fun p hp => ⟨hlt9 p hp _ (.head _), hlt9 p hp _ (.tail _ (.head _))⟩, X0, T0, B0, hol, hD, hp9, ho9, hpm9.trans hperm, hss, hpk, hos, hxs, fun p hp => ⟨(hws p hp).1, (hws p hp).2.1⟩, hlw, hlx⟩ hg9
  simp only [lpNames, List.mem_cons, List.not_mem_nil, or_false, not_or] at hy
  simp only [hy, if_false]
  exact ovr_out (by simp [hy])
end
end Mine
end

section
open PySem PySem.W PyProof.Rows PySem.Calls PySem.Spec
set_option Elab.async false
set_option maxRecDepth 100000
set_option maxHeartbeats 0
set_option linter.unusedVariables false
namespace Mine
/-- what best_match answers -/
structure BmO (w : World) (C fb : Addr) (Sp : Str → List Bool) (words offs : List Str) (cho : List (Str × Int) → List Str → Int) : Prop where
  ga : findIn (hd.heap_39 w.params) (.ref C) "__getattribute__" = some (some (.builtin "list.__getattribute__"))
  gt : findIn (hd.heap_39 w.params) (.ref C) "__getattr__" = some none
  bm : findIn (hd.heap_39 w.params) (.ref C) (Str.ofString "best_match") = some (some (.ref fb))
  tb : typeIn (hd.heap_39 w.params) (.ref fb) = some (.type "function")
  kb : keepIn (hd.heap_39 w.params) (.ref fb) = true
  run : ∀ {news : List (Addr × Obj)} (self d ml : Addr) (us os : List Value) (n k : Nat) (hh : Int) (tt t : Tok) (ws qs : List (Str × Int)) (xs : List Str), (self, (⟨.ref C, some d, .seq us.toArray n, #[]⟩ : Obj)) ∈ news → (d, W.dictOf [⟨hh, .str (Str.ofString "provided") tt, .bool true⟩] 1) ∈ news → (ml, W.listOf os.toArray k) ∈ news → Pairs news us qs → Strs os xs → Ordered Sp qs → qs.Perm ws → (∀ p ∈ ws, p.1 ∈ words ∧ 0 ≤ p.2) → (∀ x ∈ xs, x ∈ offs) → ws.length ≤ 6 → 1 ≤ xs.length ∧ xs.length ≤ 4 → SpecT w 600 6000 (.ref fb) [.ref self, .ref ml, .str (Str.ofString "none") t] news (fun v tl => Picked xs (cho ws xs) v ∧ tl = [])
theorem Picked.str {xs : List Str} {ix : Int} {v : Value} (h : Picked xs ix v) : ∃ y u, v = .str y u ∧ ∀ v', Picked xs ix v' → ∃ t, v' = .str y t := by
  unfold Picked at h ⊢
  by_cases h0 : 0 ≤ ix
  · simp only [h0, if_true] at h ⊢
    obtain ⟨x, t, hx, e⟩ := h
    exact ⟨x, t, e, fun v' ⟨x', t', hx', e'⟩ => ⟨t', by rw [e', Option.some.inj (hx'.symm.trans hx)]⟩⟩
  · simp only [h0, if_false] at h ⊢
    obtain ⟨t, e⟩ := h
    exact ⟨_, t, e, fun v' ⟨t', e'⟩ => ⟨t', e'⟩⟩
theorem mem_pull {α : Type} {q x d : α} {t n : List α} (h : q ∈ x :: d :: (t ++ n)) : q ∈ t ++ x :: d :: n := by simp only [List.mem_cons, List.mem_append] at h ⊢; grind
abbrev lp8 : List Str := [Str.ofString "good", Str.ofString "rows", Str.ofString "accept", Str.ofString "k", Str.ofString "told", Str.ofString "offers", Str.ofString "wanted", Str.ofString "scores"]
theorem lp_sub {y : Str} (h : y ∉ lp8) : y ∉ lpNames := fun hy => h (by simp only [lpNames, lp8, List.mem_cons, List.not_mem_nil, or_false] at hy ⊢; rcases hy with h | h | h | h | h <;> simp [h])
section
local macro_rules | `(tactic| walk_at "none 0") => `(tactic| fail)
local macro_rules | `(tactic| walk_at "none 1") => `(tactic| fail)
local macro_rules | `(tactic| walk_at "none 2") => `(tactic| fail)
local macro_rules | `(tactic| walk_at "none 3") => `(tactic| fail)
local macro_rules | `(tactic| walk_at "none 4") => `(tactic| fail)
local macro_rules | `(tactic| walk_at "none 5") => `(tactic| fail)
local macro_rules | `(tactic| walk_at "none 6") => `(tactic| fail)
local macro_rules | `(tactic| walk_at "none 7") => `(tactic| fail)
local macro_rules | `(tactic| walk_at "none 8") => `(tactic| fail)
local macro_rules | `(tactic| walk_at "none 9") => `(tactic| fail)
local macro_rules | `(tactic| walk_at "none 10") => `(tactic| fail)
local macro_rules | `(tactic| walk_at "none 11") => `(tactic| fail)
local macro_rules | `(tactic| walk_at "none 12") => `(tactic| fail)
local macro_rules | `(tactic| walk_at "none 13") => `(tactic| fail)
local macro_rules | `(tactic| walk_at "none 14") => `(tactic| fail)
local macro_rules | `(tactic| walk_at "none 15") => `(tactic| fail)
local macro_rules | `(tactic| walk_at "none 16") => `(tactic| fail)
local macro_rules | `(tactic| k_mem) => `(tactic| with_reducible assumption)
local macro_rules | `(tactic| k_inst) => `(tactic| (refine' inst_seq ?N ?h1 ?h2; (case N => k_asm); (case h1 => k_mem); (case h2 => k_mem)))
local macro_rules | `(tactic| walk_at "getMethod ref") => `(tactic| (k_here; k_dflt (refine' method_seq ?k1 ?k2 ?k3 ?k4 ?k5 ?k6 ?k7 ?k8 ?_; (case k1 => k_asm); (case k2 => k_asm); (case k3 => k_inst); (case k4 => with_reducible assumption); (case k5 => with_reducible assumption); (case k6 => with_reducible assumption); (case k7 => first | (with_reducible assumption) | k_is); (case k8 => k_get); k_whole)))
local macro_rules | `(tactic| walk_at "callWith ref") => `(tactic| (k_here; k_dflt (refine' callWith_K ?k1 ?k2 ?_; (case k1 => k_asm); (case k2 => with_reducible assumption); k_whole)))
local macro_rules | `(tactic| k_asm) => `(tactic| ((with_reducible show GOk _ _); first | exact GOk.refl _ | (intro x9; solve_by_elim)))
local macro_rules | `(tactic| k_asm) => `(tactic| ((with_reducible show News _ _ _ _); first | (with_reducible assumption) | (refine News.sub (by with_reducible assumption) (fun p9 h9 => ?_); (repeat (first | exact h9 | apply List.mem_cons_of_mem | apply List.mem_append_right)); done) | (refine News.sub (by assumption) (fun p9 h9 => ?_); (repeat (first | exact h9 | apply List.mem_cons_of_mem | apply List.mem_append_right)); done)))
local macro_rules | `(tactic| k_mem) => `(tactic| ((with_reducible (first | refine List.mem_append_right _ ?_ | refine mem_appR ?_)); k_mem))
local macro_rules | `(tactic| walk_at "call ref") => `(tactic| (
  k_here
  (with_reducible show wpAny _ _ (call (Value.ref _) [_, _, Value.str _ _] _) _ _ _)
  k_dflt (refine' specT_use (BmO.run (by with_reducible assumption : BmO _ _ _ _ _ _ _) _ _ _ _ _ _ _ _ _ _ _ _ _ ?k1 ?k2 ?k3 ?k4 ?k5 ?k6 ?k7 ?k8 ?k9 ?k10 ?k11) ?kB ?kF ?kX ?kN ?kTS ?kP ?kNN ?kT ?kK ?kD ?kU ?_)
  (case kB => k_asm)
  (case kF => k_asm)
  (case kX => k_asm)
  (case kN => k_asm)
  (case kTS => with_reducible assumption)
  (case kP => (repeat (first | exact Pull.here | apply Pull.cons | apply Pull.app)))
  (case kT => k_asm)
  (case k1 => k_dflt (exact List.Mem.head _))
  (case k2 => k_dflt (apply List.Mem.tail; exact List.Mem.head _))
  (case k3 => k_dflt (refine List.mem_cons_of_mem _ (List.mem_cons_of_mem _ ?_); with_reducible assumption))
  (case k4 => k_dflt (refine Pairs.mono (fun p9 h9 => ?_) (by with_reducible assumption); exact List.Mem.tail _ (List.Mem.tail _ h9)))
  (case k5 => with_reducible assumption)
  (case k6 => with_reducible assumption)
  (case k7 => with_reducible assumption)
  (case k8 => with_reducible assumption)
  (case k9 => with_reducible assumption)
  (case k10 => with_reducible assumption)
  (case k11 => with_reducible assumption)
  (case kNN => (repeat (first | (with_reducible assumption) | exact NT.nil | (refine NT.cons (by intro h9; cases h9) ?_) | refine NT.app ?_ ?_)))
  (case kK => rfl)
  (case kD => exact Nat.le_of_ble_eq_true rfl)
  (case kU => exact Nat.le_of_ble_eq_true rfl)
  k_whole
  (intro v tl tb9 h' g' tk' hR F' N' TS9 NT9 hlt hg)
  (obtain ⟨hR1, e2⟩ := hR)
  subst e2
  (obtain ⟨t9, e1⟩ := (by with_reducible assumption : ∀ v9, Picked _ _ v9 → ∃ t9, v9 = .str _ t9) _ hR1)
  subst e1
  (simp only [List.nil_append, List.cons_append] at N')))
theorem law_6 : ∀ {w : World} {base h : Heap} {L C fa : Addr} {cd : Value} {mean : ExcName → Option Value} {mg mb : Str → Option Value} {ol D x dd : Addr} {hh : Int} {tt : Tok} {us ov vs : List Value} {wd : Value} {nu no ns : Nat} {words offs : List Str} {ws qs : List (Str × Int)} {Sp : Str → List Bool} {xs : List Str} {sc : List Score} {nx news : List (Addr × Obj)} {m₀ m : Str → Option Value} {g : Array GenState} {d : Drawn} {tk : Nat} {os : OsState} {QQ : Flow → Shared → Prop} {EE : Value → Shared → Prop} {fb : Addr} {cho : List (Str × Int) → List Str → Int} (XX : (hd.heap_39 w.params).In base) (A : Law6At w base h L C mean mg mb ol D x dd hh tt us ov vs wd nu no ns words offs ws qs Sp xs (cho ws xs) sc nx news m₀ m) (BM : BmO w C fb Sp words offs cho)
    (H : ∀ {h : Heap} {nx : List (Addr × Obj)} {m : Str → Option Value} {g' : Array GenState} {tk : Nat}, Law6At w base h L C mean mg mb ol D x dd hh tt us ov vs wd nu no ns words offs ws qs Sp xs (cho ws xs) sc nx news m₀ m → GOk g g' → wpAny (model PySem.Challenge.rw_eq0045_01.row.prog w) (LawA L fa cd) (execs (loopB.drop 2) (envOfC (Str.ofString "law") lawB.sc L fa cd)) QQ EE ⟨h, g', d, tk, os⟩),
  wpAny (model PySem.Challenge.rw_eq0045_01.row.prog w) (LawA L fa cd) (execs (loopB.drop 1) (envOfC (Str.ofString "law") lawB.sc L fa cd)) QQ EE ⟨h, g, d, tk, os⟩ := by
  w_top off
  k_fill
  intro w base h L C fa cd mean mg mb ol D x dd hh tt us ov vs wd nu no ns words offs ws qs Sp xs sc nx news m₀ m g d tk os QQ EE fb cho XX A BM H
  clear XX
  obtain ⟨F0, N0, hA, hgd, hac, h1, h2, h3, TS, NN, hlt0, X0, T0, B0, hol, hD, hp, hord, hperm, hss, hpk, hos, hxs, hws, hlw, hlx⟩ := A
  obtain ⟨bga, bgt, bbm, btb, bkb, _⟩ := id BM
  obtain ⟨y0, u0, rfl, hsame⟩ := Picked.str hpk
  have m1 : m (Str.ofString "offers") = some (.ref ol) := (hA _ (by decide)).trans h1
  have m2 : m (Str.ofString "wanted") = some (.str y0 u0) := (hA _ (by decide)).trans h2
  have m3 : m (Str.ofString "scores") = some (.ref D) := (hA _ (by decide)).trans h3
  replace F0 := Fr.as F0 (ovr_of lp8 fun y hy => hA y (lp_sub hy))
  simp only [List.map, hgd, hac, m1, m2, m3] at F0
  dsimp only [loopB, lawB, LawA, List.drop]
  iterate 22 (try (first | (k_unfold; (try dsimp only)) | walk1 | (dsimp only; walk1)))
  with_reducible rename Fr _ _ _ _ => F9
  with_reducible rename News _ _ _ _ => N9
  with_reducible rename TabS _ => TS9
  with_reducible rename GOk _ _ => hg9
  refine H ⟨F9, News.sub N9 (fun q hq => mem_pull hq), fun y hy => ?_, by simp, (if_neg (by decide)).trans rfl, h1, h2, h3, TS9, NN, hlt0, X0, T0, B0, hol, hD, hp, hord, hperm, hss, hpk, hos, hxs, hws, hlw, hlx⟩ hg9
  have hy' : y ≠ Str.ofString "good" := fun e => hy (by rw [e]; exact .head _)
  simp only [hy', if_false]
  rw [← hA y hy]
  have e9 := congrFun (ovr_of lp8 fun y hy => hA y (lp_sub hy)) y
  simp only [List.map, hgd, hac, m1, m2, m3] at e9
  exact e9.symm
end
end Mine
end

section
open PySem PySem.W PyProof.Rows PySem.Calls PySem.Spec
open AutoSeq1 (wpAny_loadPart')
set_option Elab.async false
set_option maxRecDepth 100000
set_option linter.unusedVariables false
namespace Mine
theorem meets_enum_inst (l C : Addr) (K : Frag) (ox : Obj) (od : Option Obj) :
    Meets (Builtin.«enumerate.__new__» ⟨[.type "enumerate", .ref l], []⟩) (fun _ R s => (K.In s.heap ∧ InstAt s.heap l ox C od ∧ findIn K (.ref C) "__iter__" = some (some (.builtin "list.__iter__")) ∧ mroIn K C (.type "list") = some true) ∧
      R (.ok (.ret (.ref (s.heap.push { cls := .type "list_iterator", data := .fields #[.ref l, .int 0 0] }).objs.size)))
        { s with heap := (s.heap.push { cls := .type "list_iterator", data := .fields #[.ref l, .int 0 0] }).push { cls := .type "enumerate", data := .fields #[.none, .bool false, .ref s.heap.objs.size, rawInt 0, .none, .none] } }) :=
  .of_wp fun prog w A R s h => by
    obtain ⟨hp, g, d, tk, os⟩ := s
    obtain ⟨⟨X, I, hs, hm⟩, h⟩ := h
    have hsub := sub_enumerate
    have hl := I.at_
    wp_walk using wpAny_loadPart' hl
    refine wpAny_stack_any fun st => wpAny_pure ?_
    split
    · rename_i c _ _ _ _ _
      cases (c == Value.type "enumerate")
      · wp_walk using wpAny_loadPart' hl, iter_inst X I hs hm
        exact ⟨_, rfl, h⟩
      · wp_walk using wpAny_loadPart' hl, iter_inst X I hs hm
        exact ⟨_, rfl, h⟩
    · wp_walk using wpAny_loadPart' hl, iter_inst X I hs hm
      exact ⟨_, rfl, h⟩
section
variable {prog : Program} {w : World} {A : Around} {E : Value → Shared → Prop} {s : Shared}
def enumO (it : Addr) (i : Nat) (old : Value) : Obj := { cls := .type "enumerate", data := .fields #[.none, .bool false, .ref it, .int i 0, .none, old] }
def enumOut (it : Addr) (i : Nat) (old : Value) (a : Addr) : Obj := { cls := .type "enumerate", data := .fields #[.int a 0, .bool false, .ref it, .int i 0, .none, old] }
theorem nextOf_item {it l : Addr} {i : Nat} {ol : Obj} {items : Array Value} {n : Nat} {v : Value} {Q : Value → Shared → Prop} (ho : s.heap.get? it = some (iterObj l i))
    (hol : s.heap.get? l = some ol) (hdl : ol.data = .seq items n) (hx : items[i]? = some v)
    (hQ : ∀ h', h'.get? it = some (iterObj l (i + 1)) → Heap.SameBut it s.heap h' → Q v { s with heap := h' }) :
    wpAny (model prog w) A (Builtin.SmallTypes.nextOf (.ref it)) Q E s := by
  have hd : (iterObj l i).data = .fields #[.ref l, .int i 0] := rfl
  unfold Builtin.SmallTypes.nextOf
  refine wpAny_bind (wpAny_callSpecial?_slot (name := Str.ofString "__next__") (T := "list_iterator") ⟨_, ho, rfl⟩ slot_listiter_next
    (wpAny_call_entry slot_listiter_next (T := "list_iterator") ⟨_, ho, rfl⟩ entry_listiter_next ?_ (args_listiter_next _)))
  show wpAny _ _ (field (.ref it) 0 >>= _) _ _ s
  refine wpAny_bind (wpAny_field ho hd (x := .ref l) rfl ?_)
  show wpAny _ _ (if (Value.ref l == Value.none) = true then _ else _) _ _ s
  rw [if_neg (show ¬ ((Value.ref l == Value.none) = true) from Bool.false_ne_true)]
  show wpAny _ _ (field (.ref it) 1 >>= _) _ _ s
  refine wpAny_bind (wpAny_field ho hd (x := .int i 0) rfl ?_)
  show wpAny _ _ (seqItems? (.ref l) >>= _) _ _ s
  refine wpAny_bind (wpAny_seqItems hol hdl ?_)
  simp only [Int.toNat_natCast, hx]
  refine wpAny_bind (wpAny_setField ho hd (by simp) (wpAny_pure ⟨v, rfl, wpAny_pure (hQ _ ?_ (Heap.SameBut.update ..))⟩))
  have e := Heap.get?_update_self (Obj.mapFields fun x => x.setIfInBounds 1 (rawInt ((i : Int) + 1))) ho (Obj.isFreed_of_fields (Obj.data_mapFields hd _))
  rw [e]
  rfl
theorem nextOf_end {it l : Addr} {i : Nat} {ol : Obj} {items : Array Value} {n : Nat} {Q : Value → Shared → Prop} (hh : A.handled = none) (ho : s.heap.get? it = some (iterObj l i))
    (hol : s.heap.get? l = some ol) (hdl : ol.data = .seq items n) (hx : items[i]? = none)
    (hE : ∀ h' e, Heap.ExtBut it s.heap h' → (∃ o, h'.get? e = some o ∧ o.cls = .type "StopIteration") → E (.ref e) { s with heap := h' }) :
    wpAny (model prog w) A (Builtin.SmallTypes.nextOf (.ref it)) Q E s := by
  have hd : (iterObj l i).data = .fields #[.ref l, .int i 0] := rfl
  unfold Builtin.SmallTypes.nextOf
  refine wpAny_bind (wpAny_callSpecial?_slot (name := Str.ofString "__next__") (T := "list_iterator") ⟨_, ho, rfl⟩ slot_listiter_next
    (wpAny_call_entry slot_listiter_next (T := "list_iterator") ⟨_, ho, rfl⟩ entry_listiter_next ?_ (args_listiter_next _)))
  show wpAny _ _ (field (.ref it) 0 >>= _) _ _ s
  refine wpAny_bind (wpAny_field ho hd (x := .ref l) rfl ?_)
  show wpAny _ _ (if (Value.ref l == Value.none) = true then _ else _) _ _ s
  rw [if_neg (show ¬ ((Value.ref l == Value.none) = true) from Bool.false_ne_true)]
  show wpAny _ _ (field (.ref it) 1 >>= _) _ _ s
  refine wpAny_bind (wpAny_field ho hd (x := .int i 0) rfl ?_)
  show wpAny _ _ (seqItems? (.ref l) >>= _) _ _ s
  refine wpAny_bind (wpAny_seqItems hol hdl ?_)
  simp only [Int.toNat_natCast, hx]
  refine wpAny_bind (wpAny_rule (wpAny_bind (wpAny_setField ho hd (by simp) ?_)))
  show wpAny _ _ (newExc (.type "StopIteration") [] >>= _) _ _ _
  refine wpAny_bind ?_
  simp only [newExc, newTuple]
  refine wpAny_bind (wpAny_newObj_type ?_ (by size_fits))
  refine wpAny_bind (m := firstArgMember _ _) (wpAny_of_eq (a := Value.none) (by first | rfl | (simp only [firstArgMember]; rfl)) ?_)
  refine wpAny_newObj_type ?_ (by size_fits)
  simp only [raiseNew]
  refine wpAny_bind (wpAny_handled ?_)
  rw [show A.in1.handled = none from hh]
  refine wpAny_bind (wpAny_pure (wpAny_throw ?_))
  exact hE _ _ (((Heap.SameBut.update ..).extBut.push _).push _) ⟨_, Heap.get?_push_size _ rfl, rfl⟩

theorem enum_item {e it l : Addr} {i : Nat} {ol : Obj} {items : Array Value} {n : Nat} {x old : Value} {Q : Option Value → Shared → Prop}
    (he : s.heap.get? e = some (enumO it i old)) (hit : s.heap.get? it = some (iterObj l i)) (hol : s.heap.get? l = some ol) (hdl : ol.data = .seq items n) (hx : items[i]? = some x) (hne : e ≠ it)
    (hQ : ∀ h', h'.get? e = some (enumOut it (i + 1) x s.heap.objs.size) → h'.get? it = some (iterObj l (i + 1)) →
      h'.get? s.heap.objs.size = some { cls := .type "tuple", data := .seq #[.int i s.toks, x] } → h'.objs.size = s.heap.objs.size + 1 →
      (∀ b o, b ≠ e → b ≠ it → s.heap.get? b = some o → h'.get? b = some o) → Q (some (.ref s.heap.objs.size)) { s with heap := h', toks := s.toks + 1 }) :
    wpAny (model prog w) A (pyNext (.ref e)) Q E s := by
  have hT : s.TypeIs (.ref e) "enumerate" := ⟨_, he, rfl⟩
  obtain ⟨hp, g, d, tk, os⟩ := s
  have hel : e < hp.objs.size := Heap.lt_size he
  unfold pyNext
  refine wpAny_bind (wpAny_attempt (wpAny_callSpecial?_slot (name := Str.ofString "__next__") hT F.slot_enumerate_next
    (wpAny_call_entry F.slot_enumerate_next hT F.entry_enumerate_next ?_ (F.args_enumerate_next_1 _))))
  show wpAny _ _ (field (.ref e) 2 >>= _) _ _ _
  refine wpAny_bind (wpAny_field he rfl (x := .ref it) rfl (wpAny_bind (nextOf_item hit hol hdl hx fun h₁ it₁ s₁ => ?_)))
  replace s₁ : Heap.SameBut it hp h₁ := s₁
  have e₁ : h₁.get? e = some (enumO it i old) := (s₁.2 e hne).trans he
  show wpAny _ _ (field (.ref e) 3 >>= _) _ _ ⟨h₁, g, d, tk, os⟩
  refine wpAny_bind (wpAny_field e₁ rfl (x := .int i 0) rfl ?_)
  show wpAny _ _ (field (.ref e) 4 >>= _) _ _ ⟨h₁, g, d, tk, os⟩
  refine wpAny_bind (wpAny_field e₁ rfl (x := .none) rfl ?_)
  show wpAny _ _ (mkInt i >>= _) _ _ ⟨h₁, g, d, tk, os⟩
  refine wpAny_bind (wpAny_mkInt ?_)
  show wpAny _ _ (setField (.ref e) 3 (rawInt ((i : Int) + 1)) >>= _) _ _ ⟨h₁, g, d, tk + 1, os⟩
  refine wpAny_bind (wpAny_setField_rec e₁ (by simp) fun h₂ e₂ s₂ => ?_)
  replace e₂ : h₂.get? e = some (enumO it (i + 1) old) := e₂
  show wpAny _ _ (setField (.ref e) 4 .none >>= _) _ _ ⟨h₂, g, d, tk + 1, os⟩
  refine wpAny_bind (wpAny_setField_rec e₂ (by simp) fun h₃ e₃ s₃ => ?_)
  replace e₃ : h₃.get? e = some (enumO it (i + 1) old) := e₃
  have to₃ : ∀ b o, b ≠ e → b ≠ it → hp.get? b = some o → h₃.get? b = some o := fun b o hbe hbi hb => s₃.extBut b o hbe (s₂.extBut b o hbe (s₁.extBut b o hbi hb))
  have it₃ : h₃.get? it = some (iterObj l (i + 1)) := s₃.extBut it _ (Ne.symm hne) (s₂.extBut it _ (Ne.symm hne) it₁)
  have z₃ : h₃.objs.size = hp.objs.size := s₃.1.trans (s₂.1.trans s₁.1)
  clear e₁ s₁ e₂ s₂ s₃ it₁
  show wpAny _ _ (newTuple [.int i tk, x] >>= _) _ _ ⟨h₃, g, d, tk + 1, os⟩
  refine wpAny_bind (wpAny_newTuple ?_)
  show wpAny _ _ (Builtin.SmallTypes.ownedTupleIsFree (.ref e) >>= _) _ _ ⟨h₃.push { cls := .type "tuple", data := .seq #[.int i tk, x] }, g, d, tk + 1, os⟩
  have e₄ : (h₃.push { cls := .type "tuple", data := .seq #[.int i tk, x] }).get? e = some (enumO it (i + 1) old) := Heap.get?_push_of_some _ e₃
  have t₄ : (h₃.push { cls := .type "tuple", data := .seq #[.int i tk, x] }).get? hp.objs.size = some { cls := .type "tuple", data := .seq #[.int i tk, x] } := by rw [← z₃]; exact Heap.get?_push_size _ rfl
  have it₄ : (h₃.push { cls := .type "tuple", data := .seq #[.int i tk, x] }).get? it = some (iterObj l (i + 1)) := Heap.get?_push_of_some _ it₃
  have to₄ : ∀ b o, b ≠ e → b ≠ it → hp.get? b = some o → (h₃.push { cls := .type "tuple", data := .seq #[.int i tk, x] }).get? b = some o := fun b o hbe hbi hb => Heap.get?_push_of_some _ (to₃ b o hbe hbi hb)
  have z₄ : (h₃.push { cls := .type "tuple", data := .seq #[.int i tk, x] }).objs.size = hp.objs.size + 1 := by rw [Heap.size_push, z₃]
  rw [z₃]
  generalize h₃.push { cls := .type "tuple", data := .seq #[.int i tk, x] } = h₄ at e₄ t₄ it₄ to₄ z₄
  refine wpAny_bind (m := Builtin.SmallTypes.ownedTupleIsFree (.ref e)) ?_
  unfold Builtin.SmallTypes.ownedTupleIsFree
  refine wpAny_bind (wpAny_field e₄ rfl (x := .none) rfl (wpAny_pure ?_))
  simp only [if_true]
  refine wpAny_bind (wpAny_rule (wpAny_bind (wpAny_field e₄ rfl (x := old) rfl (wpAny_bind (wpAny_setField_rec e₄ (by simp) fun h₅ e₅ s₅ => ?_)))))
  replace e₅ : h₅.get? e = some (enumO it (i + 1) x) := e₅
  show wpAny _ _ (Builtin.SmallTypes.ownedTupleHandOut (.ref e) (.ref hp.objs.size) >>= _) _ _ ⟨h₅, g, d, tk + 1, os⟩
  refine wpAny_bind ?_
  unfold Builtin.SmallTypes.ownedTupleHandOut
  refine wpAny_bind (wpAny_setField_rec e₅ (by simp) fun h₆ e₆ s₆ => ?_)
  replace e₆ : h₆.get? e = some (enumOut it (i + 1) x hp.objs.size) := e₆
  refine wpAny_setField_rec e₆ (by simp) fun h₇ e₇ s₇ => ?_
  refine wpAny_bind (wpAny_letGo (wpAny_pure ⟨_, rfl, wpAny_pure (hQ h₇ e₇ ?_ ?_ ?_ ?_)⟩))
  · exact s₇.extBut _ _ (Ne.symm hne) (s₆.extBut _ _ (Ne.symm hne) (s₅.extBut _ _ (Ne.symm hne) it₄))
  · exact s₇.extBut _ _ (Nat.ne_of_gt hel) (s₆.extBut _ _ (Nat.ne_of_gt hel) (s₅.extBut _ _ (Nat.ne_of_gt hel) t₄))
  · exact (s₇.1.trans (s₆.1.trans s₅.1)).trans z₄
  · exact fun b o hbe hbi hb => s₇.extBut b o hbe (s₆.extBut b o hbe (s₅.extBut b o hbe (to₄ b o hbe hbi hb)))
theorem enum_end {e it l : Addr} {i : Nat} {ol : Obj} {items : Array Value} {n : Nat} {old : Value} {Q : Option Value → Shared → Prop} (hh : A.handled = none)
    (he : s.heap.get? e = some (enumO it i old)) (hit : s.heap.get? it = some (iterObj l i)) (hol : s.heap.get? l = some ol) (hdl : ol.data = .seq items n) (hx : items[i]? = none)
    (hQ : ∀ h', Heap.ExtBut it s.heap h' → Q none { s with heap := h' }) : wpAny (model prog w) A (pyNext (.ref e)) Q E s := by
  have hT : s.TypeIs (.ref e) "enumerate" := ⟨_, he, rfl⟩
  unfold pyNext
  refine wpAny_bind (wpAny_attempt (wpAny_callSpecial?_slot (name := Str.ofString "__next__") hT F.slot_enumerate_next
    (wpAny_call_entry F.slot_enumerate_next hT F.entry_enumerate_next ?_ (F.args_enumerate_next_1 _))))
  show wpAny _ _ (field (.ref e) 2 >>= _) _ _ _
  refine wpAny_bind (wpAny_field he rfl (x := .ref it) rfl (wpAny_bind (nextOf_end hh hit hol hdl hx fun h' x he' hx' => ?_)))
  obtain ⟨o, ho, hc⟩ := hx'
  exact wpAny_bind (wpAny_isInstance (T := "StopIteration") (b := true) ⟨o, ho, hc⟩ isSubtype_stop (wpAny_pure (hQ _ he')))
end
end Mine
end

section
open PySem PySem.W PyProof.Rows PySem.Calls PySem.Spec
set_option Elab.async false
set_option maxRecDepth 100000
set_option linter.unusedVariables false
namespace Mine
section
variable {prog : Program} {w : World} {A : Around} {E : Value → Shared → Prop} {s : Shared} {K : Frag} {C : Addr} {h₀ : Heap} {L : Addr}
def oldAt (vs : List Value) (i : Nat) : Value := match i with
  | 0 => .none
  | i + 1 => (vs[i]?).getD .none
theorem Fr.but2 {h₀ h h' : Heap} {L I J : Addr} {m : Str → Option Value} (F : Fr h₀ L h m) (hk : ∀ b o, b ≠ I → b ≠ J → h.get? b = some o → h'.get? b = some o) (hI : I ≠ L) (hI0 : h₀.get? I = none) (hJ : J ≠ L) (hJ0 : h₀.get? J = none) : Fr h₀ L h' m :=
  ⟨let ⟨o, es, ep, x, r⟩ := F.ns; ⟨o, es, ep, hk L o (Ne.symm hI) (Ne.symm hJ) x, r⟩, fun b o e => hk b o (fun q => by rw [q, hI0] at e; cases e) (fun q => by rw [q, hJ0] at e; cases e) (F.keep b o e), F.above⟩
theorem fresh_up {h₀ h : Heap} {L : Addr} {m : Str → Option Value} (F : Fr h₀ L h m) : h.objs.size ≠ L ∧ h₀.get? h.objs.size = none := by
  obtain ⟨oL, _, _, hL, _⟩ := F.ns
  refine ⟨Nat.ne_of_gt (Heap.lt_size hL), ?_⟩
  cases hq : h₀.get? h.objs.size with
  | none => rfl
  | some o' => exact absurd (Heap.lt_size (F.keep _ _ hq)) (Nat.lt_irrefl _)
theorem iter_enum {elts : List Expr} {k1 : Nat} {pos : Pos} {e it l : Addr} {ol : Obj} {vs : List Value} {n : Nat} (hh : A.handled = none) (hdl : ol.data = .seq vs.toArray n) (hne : e ≠ it) :
    Iter prog w A h₀ L (.Tuple elts k1 pos) (.ref e) vs.length (fun i => [(e, enumO it i (oldAt vs i)), (it, iterObj l i)]) [(l, ol)]
      (fun i v extra => ∃ T t x, vs[i]? = some x ∧ v = .ref T ∧ extra = [(T, { cls := .type "tuple", data := .seq #[.int i t, x] })]) := by
  intro i h g d tk os m rest Q Qn E hi F N hk hno k1 k2
  have he := N.get (a := e) List.mem_cons_self
  have hit := N.get (a := it) (List.mem_cons_of_mem _ List.mem_cons_self)
  have nE := N _ (List.mem_cons_self (a := (e, enumO it i (oldAt vs i))) (l := [(it, iterObj l i)] ++ rest))
  have nI := N (it, iterObj l i) (List.mem_cons_of_mem _ List.mem_cons_self)
  have hol : h.get? l = some ol := N.get (List.mem_cons_of_mem _ (List.mem_cons_of_mem _ (hk _ (List.mem_singleton.mpr rfl))))
  have Nr : News h₀ L h rest := News.sub N fun p hp => List.mem_cons_of_mem _ (List.mem_cons_of_mem _ hp)
  have offE : ∀ p ∈ rest, p.1 ≠ e := fun p hp => hno p hp _ List.mem_cons_self
  have offI : ∀ p ∈ rest, p.1 ≠ it := fun p hp => hno p hp (it, iterObj l i) (List.mem_cons_of_mem _ List.mem_cons_self)
  by_cases hlt : i < vs.length
  · refine enum_item (s := ⟨h, g, d, tk, os⟩) (x := vs[i]) he hit hol hdl (by simp [hlt]) hne fun h' e1 i1 t1 z1 old1 => ?_
    replace old1 : ∀ b o, b ≠ e → b ≠ it → h.get? b = some o → h'.get? b = some o := old1
    refine wpAny_letOwnedTupleGo_enum (e := e) (it := it) (i := ((i + 1 : Nat) : Int)) (item := vs[i]) (a := h.objs.size) e1 fun h2 e2 s2 => ?_
    replace s2 : Heap.SameBut e h' h2 := s2
    replace t1 : h'.get? h.objs.size = some { cls := .type "tuple", data := .seq #[.int i tk, vs[i]] } := t1
    have hTe : h.objs.size ≠ e := Nat.ne_of_gt (Heap.lt_size he)
    have old2 : ∀ b o, b ≠ e → b ≠ it → h.get? b = some o → h2.get? b = some o := fun b o a1 a2 a3 => s2.extBut b o a1 (old1 b o a1 a2 a3)
    refine k1 _ [(h.objs.size, _)] _ _ hlt ⟨_, tk, vs[i], by simp [hlt], rfl, rfl⟩ (Fr.but2 F old2 nE.2.1 nE.2.2 nI.2.1 nI.2.2) ?_
    intro p hp
    rcases List.mem_cons.mp hp with rfl | hp
    · exact ⟨s2.extBut _ _ hTe t1, (fresh_up F).1, (fresh_up F).2⟩
    rcases List.mem_cons.mp hp with rfl | hp
    · refine ⟨?_, nE.2⟩
      have : oldAt vs (i + 1) = vs[i] := by simp [oldAt, hlt]
      rw [this]
      exact e2
    rcases List.mem_cons.mp hp with rfl | hp
    · exact ⟨s2.extBut _ _ (Ne.symm hne) i1, nI.2⟩
    · exact ⟨old2 _ _ (offE p hp) (offI p hp) (Nr p hp).1, (Nr p hp).2⟩
  · refine enum_end (s := ⟨h, g, d, tk, os⟩) hh he hit hol hdl (by simp; omega) fun h' hs => ?_
    exact k2 _ _ (by omega) (Fr.but F hs nI.2.1 nI.2.2) (News.but Nr hs offI)
def TurnBackE (h₀ : Heap) (L : Addr) (s : Shared) (Q : Flow → Shared → Prop) (news : List (Addr × Obj)) (e it l : Addr) (i : Nat) (x : Value) (Inv : Nat → (Str → Option Value) → List (Addr × Obj) → Prop) (f : Flow) (s₃ : Shared) : Prop := match f with
  | .next | .cont => ∃ m' nx', Inv (i + 1) m' nx' ∧ Fr h₀ L s₃.heap m' ∧ News h₀ L s₃.heap ((e, enumO it (i + 1) x) :: (it, iterObj l (i + 1)) :: (nx' ++ news)) ∧ (∀ p ∈ nx', p.1 ≠ e ∧ p.1 ≠ it) ∧ GOk s.gens s₃.gens ∧ s₃.drawn = s.drawn ∧ s₃.os = s.os
  | .brk => Q .next s₃
  | .ret v => Q (.ret v) s₃
theorem for_enum {elts : List Expr} {k1 : Nat} {pos : Pos} {body : List Stmt} {env : Env} {l d : Addr} {ol od : Obj} {vs : List Value} {n : Nat} {m₀ : Str → Option Value} {nx₀ news : List (Addr × Obj)} {Q : Flow → Shared → Prop} {E' E'' : Value → Shared → Prop}
    (X : K.In h₀) (hs : findIn K (.ref C) "__iter__" = some (some (.builtin "list.__iter__"))) (hmr : mroIn K C (.type "list") = some true)
    (F : Fr h₀ L s.heap m₀) (N : News h₀ L s.heap (nx₀ ++ news)) (hol : (l, ol) ∈ news) (hcl : ol.cls = .ref C) (hdi : ol.dict = some d) (hod : (d, od) ∈ news) (hdl : ol.data = .seq vs.toArray n) (hh : A.handled = none)
    (Inv : Nat → (Str → Option Value) → List (Addr × Obj) → Prop) (h0 : Inv 0 m₀ nx₀)
    (turn : ∀ T t e it i x m nx h g tk, vs[i]? = some x → Inv i m nx → Fr h₀ L h m → News h₀ L h ((T, { cls := .type "tuple", data := .seq #[.int i t, x] }) :: (e, enumO it (i + 1) x) :: (it, iterObj l (i + 1)) :: (nx ++ news)) → GOk s.gens g →
      wpAny (model prog w) A (assign (.Tuple elts k1 pos) env (.ref T)) (fun _ s₂ => wpAny (model prog w) A (execs body env) (TurnBackE h₀ L s Q news e it l i x Inv) (fun _ _ => False) s₂) (fun _ _ => False) ⟨h, g, s.drawn, tk, s.os⟩)
    (fin : ∀ m nx h g tk, Inv vs.length m nx → Fr h₀ L h m → News h₀ L h (nx ++ news) → GOk s.gens g → Q .next ⟨h, g, s.drawn, tk, s.os⟩) :
    wpAny (model prog w) A (call (.type "enumerate") [.ref l]) (fun x s₁ => wpAny (model prog w) A (pyIter x) (fun it s₂ =>
      codeAny (model prog w) A (.forLoop (.Tuple elts k1 pos) it body [] env) (fun r s' => match r with | .ok f => Q f s' | .error e => E' e s') s₂) E'' s₁) E s := by
  have I : InstAt s.heap l ol C (some od) := ⟨N.get (List.mem_append_right _ hol), hcl, by unfold notCls; rw [hdl], by rw [hdi]; exact N.get (List.mem_append_right _ hod)⟩
  refine callType_new PySem.F.called_enumerate (by decide) (PySem.F.typeCall_enumerate_1 _) (PySem.F.newCall_enumerate_1 _) (fun obj => PySem.F.args_object_init_2 obj _) PySem.F.entry_enumerate_new
    (meets_enum_inst l C K ol (some od)) ⟨⟨X.keeps F.keep, I, hs, hmr⟩, ?_⟩
  have hz : (s.heap.push { cls := .type "list_iterator", data := .fields #[.ref l, .int 0 0] }).objs.size = s.heap.objs.size + 1 := Heap.size_push ..
  rw [hz]
  have F1 := F.push { cls := .type "list_iterator", data := .fields #[.ref l, .int 0 0] }
  have F2 := F1.push { cls := .type "enumerate", data := .fields #[.none, .bool false, .ref s.heap.objs.size, rawInt 0, .none, .none] }
  have N1 := News.push F N (iterObj l 0)
  have N2 := News.push F1 N1 (enumO s.heap.objs.size 0 .none)
  rw [hz] at N2
  have below : ∀ p ∈ nx₀ ++ news, p.1 < s.heap.objs.size := fun p hp => Heap.lt_size (N p hp).1
  refine ⟨⟨_, N2.get List.mem_cons_self, rfl⟩, ?_⟩
  refine wpAny_pyIter_enum (i := 0) (old := .none) (N2.get List.mem_cons_self) ?_
  have off : ∀ p ∈ nx₀ ++ news, ∀ i, ∀ q ∈ [(s.heap.objs.size + 1, enumO s.heap.objs.size i (oldAt vs i)), (s.heap.objs.size, iterObj l i)], p.1 ≠ q.1 := fun p hp i q hq => by
    rcases List.mem_cons.mp hq with rfl | hq
    · exact Nat.ne_of_lt (Nat.lt_succ_of_lt (below p hp))
    · rw [List.mem_singleton.mp hq]; exact Nat.ne_of_lt (below p hp)
  refine for_loop (iter_enum (n := n) (ol := ol) (l := l) (it := s.heap.objs.size) hh hdl (Nat.ne_of_gt (Nat.lt_succ_self _))) Inv (m₀ := m₀) (nx₀ := nx₀) (news := news) F2 N2 (fun p hp => by rw [List.mem_singleton.mp hp]; exact hol)
    (fun i p hp q hq => off p (List.mem_append_right _ hp) i q hq) (fun p hp q hq => off p (List.mem_append_left _ hp) 0 q hq) h0
    (fun i v extra m nx h g tk hi hP hI F₁ N₁ hg => ?_) (fun m nx h g tk hI F₁ N₁ hg => fin m nx h g tk hI F₁ N₁ hg)
  obtain ⟨T, t, x, hv, rfl, rfl⟩ := hP
  have hold : oldAt vs (i + 1) = x := by simp [oldAt, hv]
  simp only [hold] at N₁ ⊢
  refine wpAny_mono (turn T t (s.heap.objs.size + 1) s.heap.objs.size i x m nx h g tk hv hI F₁ N₁ hg) (fun _ s₂ h₂ => wpAny_mono h₂ (fun f s₃ h₃ => ?_) fun _ _ z => z.elim) fun _ _ z => z.elim
  have back : (∃ m' nx', Inv (i + 1) m' nx' ∧ Fr h₀ L s₃.heap m' ∧ News h₀ L s₃.heap ((s.heap.objs.size + 1, enumO s.heap.objs.size (i + 1) x) :: (s.heap.objs.size, iterObj l (i + 1)) :: (nx' ++ news)) ∧ (∀ p ∈ nx', p.1 ≠ s.heap.objs.size + 1 ∧ p.1 ≠ s.heap.objs.size) ∧ GOk s.gens s₃.gens ∧ s₃.drawn = s.drawn ∧ s₃.os = s.os) →
      ∃ m' nx', Inv (i + 1) m' nx' ∧ Fr h₀ L s₃.heap m' ∧ News h₀ L s₃.heap ([(s.heap.objs.size + 1, enumO s.heap.objs.size (i + 1) (oldAt vs (i + 1))), (s.heap.objs.size, iterObj l (i + 1))] ++ (nx' ++ news)) ∧ (∀ p ∈ nx', ∀ q ∈ [(s.heap.objs.size + 1, enumO s.heap.objs.size (i + 1) (oldAt vs (i + 1))), (s.heap.objs.size, iterObj l (i + 1))], p.1 ≠ q.1) ∧ GOk s.gens s₃.gens ∧ s₃.drawn = s.drawn ∧ s₃.os = s.os := by
    rintro ⟨m', nx', a1, a2, a3, a4, a5⟩
    rw [hold]
    refine ⟨m', nx', a1, a2, a3, fun p hp q hq => ?_, a5⟩
    rcases List.mem_cons.mp hq with rfl | hq
    · exact (a4 p hp).1
    · rw [List.mem_singleton.mp hq]; exact (a4 p hp).2
  cases f with
  | next => exact back h₃
  | cont => exact back h₃
  | brk => exact h₃
  | ret v => exact h₃
end
end Mine
end

section
open PySem PySem.W PyProof.Rows PySem.Calls PySem.Spec
set_option Elab.async false
set_option maxRecDepth 100000
set_option linter.unusedVariables false
namespace Mine
section
variable {prog : Program} {w : World} {A₀ A : Around} {s : Shared} {base h₀ g₀ : Heap} {outer : List Env} {L a : Addr} {m : Str → Option Value} {cn : Str} {cs : Scope} {ccd : Value} {cl : List (Str × Addr)} {news : List (Addr × Obj)} {K : Frag} {p : Program} {loose : List Str} {mean : ExcName → Option Value} {mg mb : Str → Option Value}
    {R : Result → Shared → Prop} {name qual : Str} {params : Arguments} {body : List Stmt} {scope : Scope} {dV kV doc pm cdv ct oc : Value} {an od : Option Addr} {osl : Array (Option Value)} {f : Addr} {args : Args} {binds : List (Str × Value)}
/-- a call from a frame with cells, that may catch -/
theorem code_defS0X (B : Below A₀ base [] h₀) (F : Fr h₀ L s.heap m) (X₀ : K.In h₀) (N : News h₀ L s.heap news) (T : Top p loose mean mg mb h₀) (hA : A.frames = some [envX cn cs L a ccd cl])
    (ho : K.lookup f = some ⟨oc, od, .func (fnOf name qual params body scope dV kV doc pm an cdv ct), osl⟩) (hcd : codeIn K cdv qual = true) (hroom : A.depth < recursionLimit)
    (hbind : BindsTo s (fnOf name qual params body scope dV kV doc pm an cdv ct) args binds) (hloc : ∀ y ∈ binds, scope.names.lookup y.1 = some .local)
    (h : ∀ g L' h₁, Fr h₀ L g m → Fr g L' h₁ (fun y => binds.reverse.lookup y) → News g L' h₁ news → Below A base [envX cn cs L a ccd cl] g → K.In g → Top p loose mean mg mb g → KtsDicts ([envX cn cs L a ccd cl].filterMap (·.frame)) g →
      wpAny (model prog w) (A.deeper (envOf qual scope L' f cdv)) (execs body (envOf qual scope L' f cdv))
        (fun fl s' => LeaveS0 ([envX cn cs L a ccd cl].filterMap (·.frame)) h₀ L m g R (match fl with | .ret v => v | _ => .none) s')
        (fun e s' => wpAny (model prog w) (A.deeper (envOf qual scope L' f cdv)) (leaving (envOf qual scope L' f cdv) e) (fun _ s'' => R (.error e) s'') (fun e' s'' => R (.error e') s'') s')
        { s with heap := h₁, toks := s.toks + binds.length })
    (hck : cs.kind = .function) (hco : scope.isCoroutine = false) (hgen : scope.isGenerator = false) (hk : scope.kind = .function)
    (hcell : ∀ x ∈ scope.names, x.2 ≠ .cell) : codeAny (model prog w) A (.call (.ref f) args) R s := by
  have X := X₀.keeps F.keep
  refine codeAny_call_def (fd := fnOf name qual params body scope dV kV doc pm an cdv ct) (body := body) (binds := binds) hroom (X _ _ ho) rfl (T.nolimit.keeps F.keep) (codeRec_of X hcd) rfl hbind hcell hloc (fun h₁ hns hk₁ => ?_) hco hgen hk
  obtain ⟨FG, BG, st, lv⟩ := groundX (R := R) B F N hA rfl hck
  have nm : ∀ b o, h₀.get? b = some o → b ∉ news.map (·.1) := fun b o e q => by
    obtain ⟨p, hp, rfl⟩ := List.mem_map.mp q
    rw [(N p hp).2.2] at e; cases e
  obtain ⟨oL, es, ep, hL, hLd, hLk, hLf⟩ := F.ns
  have nL : L ∉ news.map (·.1) := fun q => by
    obtain ⟨p, hp, e⟩ := List.mem_map.mp q
    exact (N p hp).2.1 e
  have hLg := hideAll_get (news.map (·.1)) hL nL
  have hNs : ∀ (sl : Array (Option Value)) h', h'.get? L = some { oL with slots := sl } → Heap.Ns h' L m := fun sl h' e => ⟨_, es, ep, e, hLd, hLk, hLf⟩
  have mem1 : ∀ b, b ∈ ([envX cn cs L a ccd cl].filterMap (·.frame)) → b = L := fun b hb => List.mem_singleton.mp hb
  refine wpAny_mono (h _ s.heap.objs.size h₁ FG ⟨hns, fun b o e => hk₁ b o (of_hideAll _ e), Nat.le_of_eq (hideAll_size _ _)⟩
    (fun p hp => ⟨hk₁ _ _ (N p hp).1, Nat.ne_of_lt (Heap.lt_size (N p hp).1), hideAll_none _ (List.mem_map_of_mem hp)⟩) BG (X₀.keeps st) (T.keeps st) (fun b hb => by
      rw [mem1 b hb]
      exact ⟨oL, es, ep, hLg, hLd⟩)) (fun fl s' hl => ?_) fun _ _ y => y
  obtain ⟨g', L', m', news', T', F', N', k⟩ := hl
  have nL₀ : h₀.get? L = none := kts_self F
  obtain ⟨sl, hs⟩ := T'.up hLg
  refine k ⟨hNs sl _ (F'.keep _ _ hs), fun b o e => F'.keep b o (T'.other b o (st b o e) (fun q => by
    rw [mem1 b q, nL₀] at e
    cases e)), F.above⟩ fun p hp => ⟨(N' p hp).1, fun q => ?_, ?_⟩
  · have := (N' p hp).2.2; rw [q, hs] at this; cases this
  · cases q : h₀.get? p.1 with
    | none => rfl
    | some o =>
      obtain ⟨sl', hs'⟩ := T'.up (st _ _ q)
      have := (N' p hp).2.2
      rw [hs'] at this
      cases this
end
/-- the contract of a call that catches within: the caller is the law's own frame -/
def SpecF (w : World) (D U : Nat) (f : Value) (args : List Value) (news : List (Addr × Obj)) (R : Value → List (Addr × Obj) → Prop) : Prop :=
  ∀ (mean : ExcName → Option Value) (mg mb : Str → Option Value) (gd : Option (List Code)) (cn : Str) (cs : Scope) (a : Addr) (ccd : Value) (cl : List (Str × Addr)) (A₀ : Around) (base h₀ : Heap) (L : Addr) (m : Str → Option Value) (s : Shared) (Q E : Value → Shared → Prop),
    Below A₀ base [] h₀ → Fr h₀ L s.heap m → (hd.heap_39 w.params).In h₀ → News h₀ L s.heap news → Top topProg looseL mean mg mb h₀ → cs.kind = .function → (hd.heap_39 w.params).In base → Top topProg looseL mean mg mb base →
    (∀ v tl h' g' tk', R v tl → Fr h₀ L h' m → News h₀ L h' (tl ++ news) → (∀ p ∈ news, ∀ q ∈ tl, p.1 < q.1) → GOk s.gens g' → Q v ⟨h', g', s.drawn, tk', s.os⟩) →
    wpAny (model PySem.Challenge.rw_eq0045_01.row.prog w) (ktrTop D U gd cn cs L a ccd cl []) (call f args) Q E s
end Mine
end

section
open PySem PySem.W PyProof.Rows PySem.Calls PySem.Spec
set_option Elab.async false
set_option maxRecDepth 100000
set_option maxHeartbeats 0
set_option linter.unusedVariables false
namespace Mine
def upd3 (a b c : Str) (o1 o2 o3 : Option Value) (m₀ : Str → Option Value) : Str → Option Value := fun y => if y = c then o3 else if y = b then o2 else if y = a then o1 else m₀ y
theorem upd3_in (a b c : Str) (m₀ : Str → Option Value) : m₀ = upd3 a b c (m₀ a) (m₀ b) (m₀ c) m₀ := by
  funext y; unfold upd3
  split
  · rename_i h; rw [h]
  · split
    · rename_i h; rw [h]
    · split
      · rename_i h; rw [h]
      · rfl
theorem upd3_step (a b c : Str) (o1 o2 o3 v1 v2 v3 : Option Value) (m₀ : Str → Option Value) : (fun y => if y = c then v3 else if y = b then v2 else if y = a then v1 else upd3 a b c o1 o2 o3 m₀ y) = upd3 a b c v1 v2 v3 m₀ := by
  funext y; unfold upd3
  split
  · rfl
  · split
    · rfl
    · split <;> rfl
section
local macro_rules | `(tactic| walk_at "none 0") => `(tactic| fail)
local macro_rules | `(tactic| walk_at "none 1") => `(tactic| fail)
local macro_rules | `(tactic| walk_at "none 2") => `(tactic| fail)
local macro_rules | `(tactic| walk_at "none 3") => `(tactic| fail)
local macro_rules | `(tactic| walk_at "none 4") => `(tactic| fail)
local macro_rules | `(tactic| walk_at "none 5") => `(tactic| fail)
local macro_rules | `(tactic| walk_at "none 6") => `(tactic| fail)
local macro_rules | `(tactic| walk_at "none 7") => `(tactic| fail)
local macro_rules | `(tactic| walk_at "none 8") => `(tactic| fail)
local macro_rules | `(tactic| walk_at "none 9") => `(tactic| fail)
local macro_rules | `(tactic| walk_at "none 10") => `(tactic| fail)
local macro_rules | `(tactic| walk_at "none 11") => `(tactic| fail)
local macro_rules | `(tactic| walk_at "none 12") => `(tactic| fail)
local macro_rules | `(tactic| walk_at "none 13") => `(tactic| fail)
local macro_rules | `(tactic| walk_at "none 14") => `(tactic| fail)
local macro_rules | `(tactic| walk_at "none 15") => `(tactic| fail)
local macro_rules | `(tactic| walk_at "none 16") => `(tactic| fail)
local macro_rules | `(tactic| walk_at "none 17") => `(tactic| fail)
local macro_rules | `(tactic| k_mem) => `(tactic| first | (with_reducible assumption) | assumption)
local macro_rules | `(tactic| k_inst) => `(tactic| (refine' inst_seq ?N ?h1 ?h2; (case N => k_asm); (case h1 => k_mem); (case h2 => k_mem)))
local macro_rules | `(tactic| walk_at "getMethod ref") => `(tactic| (k_here; k_dflt (refine' method_seq ?k1 ?k2 ?k3 ?k4 ?k5 ?k6 ?k7 ?k8 ?_; (case k1 => k_asm); (case k2 => k_asm); (case k3 => k_inst); (case k4 => with_reducible assumption); (case k5 => with_reducible assumption); (case k6 => with_reducible assumption); (case k7 => first | (with_reducible assumption) | k_is); (case k8 => k_get); k_whole)))
local macro_rules | `(tactic| walk_at "callWith ref") => `(tactic| (k_here; k_dflt (refine' callWith_K ?k1 ?k2 ?_; (case k1 => k_asm); (case k2 => with_reducible assumption); k_whole)))
local macro_rules | `(tactic| k_asm) => `(tactic| ((with_reducible show GOk _ _); first | exact GOk.refl _ | (intro x9; solve_by_elim)))
local macro_rules | `(tactic| k_asm) => `(tactic| ((with_reducible show News _ _ _ _); first | (with_reducible assumption) | (refine News.sub (by with_reducible assumption) (fun p9 h9 => ?_); (repeat (first | exact h9 | apply List.mem_cons_of_mem | apply List.mem_append_right)); done) | (refine News.sub (by assumption) (fun p9 h9 => ?_); (repeat (first | exact h9 | apply List.mem_cons_of_mem | apply List.mem_append_right)); done)))
local macro_rules | `(tactic| walk_at "call ref") => `(tactic| (
  k_here
  (with_reducible show wpAny _ _ (call (Value.ref _) [_, Value.str _ _, Value.str _ _] _) _ _ _)
  k_dflt (refine' spec_use (ClsOk.vm ?kH _ _ _ _ _ ?k1) ?kB ?kF ?kX ?kN ?kT ?kK ?kD ?kU ?_)
  (case kH => with_reducible assumption)
  (case kB => k_asm)
  (case kF => k_asm)
  (case kX => k_asm)
  (case kN => k_asm)
  (case kT => k_asm)
  (case k1 => with_reducible assumption)
  (case kK => rfl)
  (case kD => exact Nat.le_of_ble_eq_true rfl)
  (case kU => exact Nat.le_of_ble_eq_true rfl)
  k_whole
  (intro v tl h' g' tk' hR F' N' hlt hg)
  (obtain ⟨e1, e2⟩ := hR)
  subst e1
  subst e2
  (simp only [List.nil_append] at N')
  clear hlt
  try k_sweep))
theorem find_G : ∀ {w : World} {news : List (Addr × Obj)} {C fm : Addr} {M : Str → Str → Bool} {Ok : Str → Str → Prop} (hC : ClsOk w C fm M Ok) (self d : Addr) (vs : List Value) (n : Nat) (hh : Int) (tt : Tok) (pv : Value) (ws : List (Str × Int)) (x : Str) (t1 : Tok) (hself : (self, (⟨.ref C, some d, .seq vs.toArray n, #[]⟩ : Obj)) ∈ news) (hdd : (d, W.dictOf [⟨hh, .str (Str.ofString "provided") tt, pv⟩] 1) ∈ news) (hp : Pairs news vs ws) (hw : ∀ p ∈ ws, Ok x p.1), SpecF w 700 7000 (.ref 233) [.ref self, .str x t1] news (fun v tl => (match firstM (M x) ws with | some _ => ∃ (i : Nat) (t : Tok), v = .int i t | none => ∃ t, v = .int (-1) t) ∧ tl = []) := by
  unfold SpecF
  w_top off
  k_fill
  intro w news C fm M Ok hC self d vs n hh tt pv ws x t1 hself hdd hp hw mean mg mb gd cn cs a ccd cl A₀ base h₀ L m s Q E B F X N T hk XB TB ret
  obtain ⟨hga, hgt, hit, hmr, hvm, hvt, hkv, hbs, hqu, hix, _⟩ := id hC
  refine wpAny_call ?_
  k_dflt (
    refine' code_defS0X ?k1 ?k2 ?k3 ?k4 ?k5 ?kA ?k6 ?k7 ?k8 ?k9 ?kB ?_ ?cK ?c2 ?c3 ?c4 ?c5
    (case kA => exact rfl)
    (case k2 => k_asm)
    (case k1 => k_asm)
    (case k3 => k_asm)
    (case k4 => k_asm)
    (case k5 => k_asm)
    (case k6 => k_is)
    (case k7 => k_is)
    (case k8 => ktr_room)
    (case k9 => exact BindsTo.of_eq rfl)
    (case kB => exact locs rfl)
    (case cK => assumption)
    (case c2 => exact rfl)
    (case c3 => exact rfl)
    (case c4 => exact rfl)
    (case c5 => decide)
    k_whole
    intro g' L' h' FG' F' N' B' X' T' D'
    (try dsimp only)
    (try k_lift B')
    (try k_fold))
  rename Fr _ _ _ _ => F1
  replace F1 := Fr.as F1 (m' := fun z9 => List.lookup z9 [(Str.ofString "key", .str x t1), (Str.ofString "self", .ref self)]) rfl
  k_steps
  rename Fr _ _ _ _ => F2
  replace F2 := Fr.as F2 (m' := fun z9 => List.lookup z9 [(Str.ofString "key", .str x t1), (Str.ofString "self", .ref self)]) rfl
  refine wpAny_For ?_
  k_steps
  refine for_enum (K := Mine.hd.heap_39 w.params) (C := C) (nx₀ := []) (news := news) (by assumption) (by assumption) (by assumption) (by assumption) (by assumption) hself rfl rfl hdd rfl rfl
    (fun i m nx => nx = [] ∧ (∃ o1 o2 o3, m = upd3 (Str.ofString "idx") (Str.ofString "item") (Str.ofString "_quality") o1 o2 o3 _) ∧ ∀ j p, j < i → ws[j]? = some p → M x p.1 = false) ⟨rfl, ⟨_, _, _, upd3_in _ _ _ _⟩, fun j p hj => absurd hj (Nat.not_lt_zero _)⟩ ?_ ?_
  · rintro T9 t9 e9 it i v _ _ h g tk hv ⟨rfl, ⟨o1, o2, o3, rfl⟩, hno⟩ F₁ N₁ hg
    obtain ⟨p, a, t, u, n', hpi, rfl, hm⟩ := Pairs.at hp hv
    have hok := hw p (List.mem_of_getElem? hpi)
    simp only [List.nil_append] at N₁
    unfold upd3 at F₁
    k_steps
    · unfold TurnBackE
      dsimp only
      k_steps
      have hM : M x p.1 = true := by assumption
      refine ret _ [] _ _ _ ?v ?f ?n (fun _ _ _ h9 => nomatch h9) ?g
      case f => k_asm
      case n => (simp only [List.nil_append]; k_asm)
      case g => k_asm
      case v => (rw [find_at (M := M x) hno hpi hM]; exact ⟨⟨_, _, rfl⟩, rfl⟩)
    · unfold TurnBackE
      dsimp only
      refine ⟨_, [], ⟨rfl, ⟨?o1, ?o2, ?o3, ?e⟩, ?nn⟩, (by k_asm), (by simp only [List.nil_append]; k_asm), (fun _ h9 => nomatch h9), (by k_asm), rfl, rfl⟩
      case e => exact upd3_step _ _ _ _ _ _ _ _ _ _
      case nn =>
        intro j q hj hq
        rcases Nat.lt_succ_iff_lt_or_eq.mp hj with hj | rfl
        · exact hno j q hj hq
        · rw [hpi] at hq
          obtain rfl := Option.some.inj hq
          first | assumption | exact Bool.eq_false_iff.mpr (by assumption) | simp_all
  · rintro _ _ h g tk ⟨rfl, ⟨o1, o2, o3, rfl⟩, hno⟩ F₁ N₁ hg
    simp only [List.nil_append] at N₁
    unfold upd3 at F₁
    k_steps
    have hN : firstM (M x) ws = none := find_none_upto (fun j q hj hq => hno j q (by rw [Pairs.len hp]; exact hj) hq)
    refine ret _ [] _ _ _ ?v ?f ?n (fun _ _ _ h9 => nomatch h9) ?g
    case f => k_asm
    case n => (simp only [List.nil_append]; k_asm)
    case g => k_asm
    case v => (rw [hN]; exact ⟨⟨_, rfl⟩, rfl⟩)
end
end Mine
end

section
open PySem PySem.W PyProof.Rows PySem.Calls PySem.Spec
set_option Elab.async false
set_option maxRecDepth 100000
set_option maxHeartbeats 0
set_option linter.unusedVariables false
namespace Mine
def loopK : List Stmt := match loopB.drop 2 with
  | .For _ _ b _ _ :: _ => b
  | _ => []
/-- what more is asked of a class, for the inner loop -/
structure ClsK (w : World) (C : Addr) : Prop where
  ct : findIn (hd.heap_39 w.params) (.ref C) "__contains__" = some (some (.ref 212))
  gi : findIn (hd.heap_39 w.params) (.ref C) "__getitem__" = some (some (.ref 198))
  fi : findIn (hd.heap_39 w.params) (.ref C) (Str.ofString "find") = some (some (.ref 233))
def QualS (w : World) (self : Addr) (x : Str) (q : Int) (news : List (Addr × Obj)) : Prop := ∀ t1, Spec w 800 8000 (.ref 205) [.ref self, .str x t1] news (fun v tl => (∃ t, v = .int q t) ∧ tl = [])
def ContS (w : World) (self : Addr) (x : Str) (b : Bool) (news : List (Addr × Obj)) : Prop := ∀ t1, Spec w 800 8000 (.ref 212) [.ref self, .str x t1] news (fun v tl => v = .bool b ∧ tl = [])
def ItemS (w : World) (self : Addr) (x : Str) (q : Int) (news : List (Addr × Obj)) : Prop := ∀ t1, Spec w 750 7500 (.ref 198) [.ref self, .str x t1] news (fun v tl => (∃ t, v = .int q t) ∧ tl = [])
def FindS (w : World) (self : Addr) (x : Str) (P : Int → Prop) (news : List (Addr × Obj)) : Prop := ∀ t1, SpecF w 700 7000 (.ref 233) [.ref self, .str x t1] news (fun v tl => (∃ j t, v = .int j t ∧ P j) ∧ tl = [])
section
variable {w : World} {news : List (Addr × Obj)} {C fm : Addr} {M : Str → Str → Bool} {Ok : Str → Str → Prop} (hC : ClsOk w C fm M Ok) (self d : Addr) (vs : List Value) (n : Nat) (hh : Int) (tt : Tok) (pv : Value) (ws : List (Str × Int)) (x : Str) (hself : (self, (⟨.ref C, some d, .seq vs.toArray n, #[]⟩ : Obj)) ∈ news) (hdd : (d, W.dictOf [⟨hh, .str (Str.ofString "provided") tt, pv⟩] 1) ∈ news) (hp : Pairs news vs ws) (hw : ∀ p ∈ ws, Ok x p.1)
include hC hself hdd hp hw
theorem qual_s {q : Str × Int} (h : firstM (M x) ws = some q) : QualS w self x q.2 news := fun t1 => by
  have S := quality_G hC self d vs n hh tt pv ws x t1 hself hdd hp hw
  rw [h] at S
  exact S
theorem qual_n (h : firstM (M x) ws = none) : QualS w self x 0 news := fun t1 => by
  have S := quality_G hC self d vs n hh tt pv ws x t1 hself hdd hp hw
  rw [h] at S
  exact S
theorem cont_s {q : Str × Int} (h : firstM (M x) ws = some q) : ContS w self x true news := fun t1 => by
  have S := contains_G hC self d vs n hh tt pv ws x t1 hself hdd hp hw
  rw [h] at S
  exact S
theorem cont_n (h : firstM (M x) ws = none) : ContS w self x false news := fun t1 => by
  have S := contains_G hC self d vs n hh tt pv ws x t1 hself hdd hp hw
  rw [h] at S
  exact S
theorem item_s {q : Str × Int} (h : firstM (M x) ws = some q) : ItemS w self x q.2 news := fun t1 => by
  have S := getitem_G hC self d vs n hh tt pv ws x t1 hself hdd hp hw
  have e : qualOf (M x) ws = q.2 := by unfold qualOf; rw [h]
  rw [e] at S
  exact S
theorem item_n (h : firstM (M x) ws = none) : ItemS w self x 0 news := fun t1 => by
  have S := getitem_G hC self d vs n hh tt pv ws x t1 hself hdd hp hw
  have e : qualOf (M x) ws = 0 := by unfold qualOf; rw [h]
  rw [e] at S
  exact S
theorem find_s {q : Str × Int} (h : firstM (M x) ws = some q) : FindS w self x (fun j => 0 ≤ j) news := fun t1 => by
  have S := find_G hC self d vs n hh tt pv ws x t1 hself hdd hp hw
  rw [h] at S
  intro mean mg mb gd cn cs a ccd cl A₀ base h₀ L m s Q E B F X N T hk XB TB k
  refine S mean mg mb gd cn cs a ccd cl A₀ base h₀ L m s Q E B F X N T hk XB TB fun v tl h' g' tk' hR => k v tl h' g' tk' ?_
  obtain ⟨⟨i, t, e⟩, e2⟩ := hR
  exact ⟨⟨i, t, e, Int.natCast_nonneg i⟩, e2⟩
theorem find_n (h : firstM (M x) ws = none) : FindS w self x (fun j => j = -1) news := fun t1 => by
  have S := find_G hC self d vs n hh tt pv ws x t1 hself hdd hp hw
  rw [h] at S
  intro mean mg mb gd cn cs a ccd cl A₀ base h₀ L m s Q E B F X N T hk XB TB k
  refine S mean mg mb gd cn cs a ccd cl A₀ base h₀ L m s Q E B F X N T hk XB TB fun v tl h' g' tk' hR => k v tl h' g' tk' ?_
  obtain ⟨⟨t, e⟩, e2⟩ := hR
  exact ⟨⟨-1, t, e, rfl⟩, e2⟩
end
theorem specF_use {w : World} {D U dp un : Nat} {f : Value} {args : List Value} {news : List (Addr × Obj)} {R : Value → List (Addr × Obj) → Prop} {mean : ExcName → Option Value} {mg mb : Str → Option Value} {gd : Option (List Code)} {cn : Str} {cs : Scope} {a : Addr} {ccd : Value} {cl : List (Str × Addr)} {A₀ : Around} {base h₀ : Heap} {L : Addr} {m : Str → Option Value} {s : Shared} {Q E : Value → Shared → Prop}
    (S : SpecF w D U f args news R) (B : Below A₀ base [] h₀) (F : Fr h₀ L s.heap m) (X : (hd.heap_39 w.params).In h₀) (N : News h₀ L s.heap news) (T : Top topProg looseL mean mg mb h₀) (hk : cs.kind = .function) (XB : (hd.heap_39 w.params).In base) (TB : Top topProg looseL mean mg mb base) (hd : dp ≤ D) (hu : un ≤ U)
    (k : ∀ v tl h' g' tk', R v tl → Fr h₀ L h' m → News h₀ L h' (tl ++ news) → (∀ p ∈ news, ∀ q ∈ tl, p.1 < q.1) → GOk s.gens g' → Q v ⟨h', g', s.drawn, tk', s.os⟩) :
    wpAny (model PySem.Challenge.rw_eq0045_01.row.prog w) (ktrTop dp un gd cn cs L a ccd cl []) (call f args) Q E s :=
  wpAny_deep (S mean mg mb gd cn cs a ccd cl A₀ base h₀ L m s Q E B F X N T hk XB TB k) hd hu
/-- at the head of the inner loop's body -/
structure LawKAt (w : World) (base h : Heap) (L C : Addr) (mean : ExcName → Option Value) (mg mb : Str → Option Value) (ol D x dd : Addr) (hh : Int) (tt : Tok) (us ov vs : List Value) (nu no ns : Nat) (qs : List (Str × Int)) (i : Nat) (t : Tok) (y : Str) (ty : Tok) (led : List (Addr × Obj)) (m₀ m : Str → Option Value) : Prop where
  F : Fr base L h m
  N : News base L h led
  hA : ∀ y, y ∉ lpNames → m y = m₀ y
  hg : m (Str.ofString "good") = some (.bool true)
  ha : m (Str.ofString "accept") = some (.ref x)
  hk : m (Str.ofString "k") = some (.int i t)
  h1 : m₀ (Str.ofString "offers") = some (.ref ol)
  h3 : m₀ (Str.ofString "scores") = some (.ref D)
  X : (hd.heap_39 w.params).In base
  T : Top topProg looseL mean mg mb base
  B : Below callerA base [] base
  hx : (x, (⟨.ref C, some dd, .seq us.toArray nu, #[]⟩ : Obj)) ∈ led
  hdd : (dd, W.dictOf [⟨hh, .str (Str.ofString "provided") tt, .bool true⟩] 1) ∈ led
  hol : (ol, W.listOf ov.toArray no) ∈ led
  hD : (D, W.listOf vs.toArray ns) ∈ led
  hp : Pairs led us qs
  hi : i < 1000
  hy : ov[i]? = some (.str y ty)
def EndK (base : Heap) (L x : Addr) (led : List (Addr × Obj)) (m₀ : Str → Option Value) (g : Array GenState) (d : Drawn) (os : OsState) (f : Flow) (s : Shared) : Prop := f = .next ∧ ∃ m, (∀ y, y ∉ lpNames → m y = m₀ y) ∧ m (Str.ofString "good") = some (.bool true) ∧ m (Str.ofString "accept") = some (.ref x) ∧ Fr base L s.heap m ∧ News base L s.heap led ∧ GOk g s.gens ∧ s.drawn = d ∧ s.os = os
abbrev lp7 : List Str := [Str.ofString "good", Str.ofString "rows", Str.ofString "accept", Str.ofString "k", Str.ofString "told", Str.ofString "offers", Str.ofString "scores"]
theorem lp_sub7 {y : Str} (h : y ∉ lp7) : y ∉ lpNames := fun hy => h (by simp only [lpNames, lp7, List.mem_cons, List.not_mem_nil, or_false] at hy ⊢; rcases hy with h | h | h | h | h <;> simp [h])
theorem clsk0 : ∀ {w : World}, (hd.heap_39 w.params = hd.heap_39 w.params) → (PySem.Challenge.rw_eq0045_01 = PySem.Challenge.rw_eq0045_01) → ClsK w 280 := by
  w_top off
  k_fill
  intro w _ _
  exact ⟨by k_is, by k_is, by k_is⟩
theorem clsk1 : ∀ {w : World}, (hd.heap_39 w.params = hd.heap_39 w.params) → (PySem.Challenge.rw_eq0045_01 = PySem.Challenge.rw_eq0045_01) → ClsK w 342 := by
  k_fill
  intro w _ _
  exact ⟨by k_is, by k_is, by k_is⟩
theorem clsk2 : ∀ {w : World}, (hd.heap_39 w.params = hd.heap_39 w.params) → (PySem.Challenge.rw_eq0045_01 = PySem.Challenge.rw_eq0045_01) → ClsK w 381 := by
  k_fill
  intro w _ _
  exact ⟨by k_is, by k_is, by k_is⟩
end Mine
end

section
open PySem PySem.W PyProof.Rows PySem.Calls PySem.Spec
set_option Elab.async false
set_option maxRecDepth 100000
set_option maxHeartbeats 0
set_option linter.unusedVariables false
namespace Mine
section
local macro_rules | `(tactic| walk_at "none 0") => `(tactic| fail)
local macro_rules | `(tactic| walk_at "none 1") => `(tactic| fail)
local macro_rules | `(tactic| walk_at "none 2") => `(tactic| fail)
local macro_rules | `(tactic| walk_at "none 3") => `(tactic| fail)
local macro_rules | `(tactic| walk_at "none 4") => `(tactic| fail)
local macro_rules | `(tactic| walk_at "none 5") => `(tactic| fail)
local macro_rules | `(tactic| walk_at "none 6") => `(tactic| fail)
local macro_rules | `(tactic| walk_at "none 7") => `(tactic| fail)
local macro_rules | `(tactic| walk_at "none 8") => `(tactic| fail)
local macro_rules | `(tactic| walk_at "none 9") => `(tactic| fail)
local macro_rules | `(tactic| walk_at "none 10") => `(tactic| fail)
local macro_rules | `(tactic| walk_at "none 11") => `(tactic| fail)
local macro_rules | `(tactic| walk_at "none 12") => `(tactic| fail)
local macro_rules | `(tactic| k_mem) => `(tactic| with_reducible assumption)
local macro_rules | `(tactic| k_inst) => `(tactic| (refine' inst_seq ?N ?h1 ?h2; (case N => k_asm); (case h1 => k_mem); (case h2 => k_mem)))
local macro_rules | `(tactic| walk_at "getMethod ref") => `(tactic| (k_here; k_dflt (refine' method_seq ?k1 ?k2 ?k3 ?k4 ?k5 ?k6 ?k7 ?k8 ?_; (case k1 => k_asm); (case k2 => k_asm); (case k3 => k_inst); (case k4 => with_reducible assumption); (case k5 => with_reducible assumption); (case k6 => with_reducible assumption); (case k7 => first | (with_reducible assumption) | k_is); (case k8 => k_get); k_whole)))
local macro_rules | `(tactic| walk_at "callWith ref") => `(tactic| (k_here; k_dflt (refine' callWith_K ?k1 ?k2 ?_; (case k1 => k_asm); (case k2 => with_reducible assumption); k_whole)))
local macro_rules | `(tactic| k_asm) => `(tactic| ((with_reducible show GOk _ _); first | exact GOk.refl _ | (intro x9; solve_by_elim)))
local macro_rules | `(tactic| k_asm) => `(tactic| ((with_reducible show News _ _ _ _); first | (with_reducible assumption) | (refine News.sub (by with_reducible assumption) (fun p9 h9 => ?_); (repeat (first | exact h9 | apply List.mem_cons_of_mem | apply List.mem_append_right)); done)))
local macro_rules | `(tactic| walk_at "subscriptTail Name") => `(tactic| (k_here; (with_reducible show wpAny _ _ (subscriptTail _ _ (Value.ref _) (Value.int _ _)) _ _ _); k_dflt (refine' item_l ?kN ?kM ?k0 ?kx ?_; (case kN => k_asm); (case kM => k_mem); (case kx => with_reducible assumption); (case k0 => with_reducible assumption); k_whole)))
local macro_rules | `(tactic| walk_at "subscriptTail Name") => `(tactic| (k_here; (with_reducible show wpAny _ _ (subscriptTail _ _ (Value.ref _) (Value.str _ _)) _ _ _); k_dflt (refine' sub_K ?k1 ?k2 ?k3 ?k4 ?k5 ?k6 ?_; (case k1 => k_asm); (case k2 => k_asm); (case k3 => k_inst); (case k4 => with_reducible assumption); (case k5 => k_is); (case k6 => k_is); k_whole)))
local macro_rules | `(tactic| walk_at "compareOp In") => `(tactic| (k_here; (with_reducible show wpAny _ _ (compareOp CmpOp.In _ (Value.ref _)) _ _ _); k_dflt (refine' in_K ?k1 ?k2 ?k3 ?k4 ?k5 ?_; (case k1 => k_asm); (case k2 => k_asm); (case k3 => k_inst); (case k4 => with_reducible assumption); (case k5 => k_is); k_whole)))
local macro_rules | `(tactic| walk_at "call ref") => `(tactic| (
  k_here
  (with_reducible show wpAny _ _ (call (Value.ref 205) _ _) _ _ _)
  k_dflt (refine' spec_use ((by with_reducible assumption : QualS _ _ _ _ _) _) ?kB ?kF ?kX ?kN ?kT ?kK ?kD ?kU ?_)
  (case kB => k_asm)
  (case kF => k_asm)
  (case kX => k_asm)
  (case kN => k_asm)
  (case kT => k_asm)
  (case kK => rfl)
  (case kD => exact Nat.le_of_ble_eq_true rfl)
  (case kU => exact Nat.le_of_ble_eq_true rfl)
  k_whole
  (intro v tl h' g' tk' hR F' N' hlt hg)
  (obtain ⟨hR1, e2⟩ := hR)
  subst e2
  (obtain ⟨t9, e1⟩ := hR1)
  subst e1
  (simp only [List.nil_append] at N')
  clear hlt))
local macro_rules | `(tactic| walk_at "call ref") => `(tactic| (
  k_here
  (with_reducible show wpAny _ _ (call (Value.ref 212) _ _) _ _ _)
  k_dflt (refine' spec_use ((by with_reducible assumption : ContS _ _ _ _ _) _) ?kB ?kF ?kX ?kN ?kT ?kK ?kD ?kU ?_)
  (case kB => k_asm)
  (case kF => k_asm)
  (case kX => k_asm)
  (case kN => k_asm)
  (case kT => k_asm)
  (case kK => rfl)
  (case kD => exact Nat.le_of_ble_eq_true rfl)
  (case kU => exact Nat.le_of_ble_eq_true rfl)
  k_whole
  (intro v tl h' g' tk' hR F' N' hlt hg)
  (obtain ⟨hR1, e2⟩ := hR)
  subst e2
  subst hR1
  (simp only [List.nil_append] at N')
  clear hlt))
local macro_rules | `(tactic| walk_at "call ref") => `(tactic| (
  k_here
  (with_reducible show wpAny _ _ (call (Value.ref 198) _ _) _ _ _)
  k_dflt (refine' spec_use ((by with_reducible assumption : ItemS _ _ _ _ _) _) ?kB ?kF ?kX ?kN ?kT ?kK ?kD ?kU ?_)
  (case kB => k_asm)
  (case kF => k_asm)
  (case kX => k_asm)
  (case kN => k_asm)
  (case kT => k_asm)
  (case kK => rfl)
  (case kD => exact Nat.le_of_ble_eq_true rfl)
  (case kU => exact Nat.le_of_ble_eq_true rfl)
  k_whole
  (intro v tl h' g' tk' hR F' N' hlt hg)
  (obtain ⟨hR1, e2⟩ := hR)
  subst e2
  (obtain ⟨t9, e1⟩ := hR1)
  subst e1
  (simp only [List.nil_append] at N')
  clear hlt))
local macro_rules | `(tactic| walk_at "call ref") => `(tactic| (
  k_here
  (with_reducible show wpAny _ _ (call (Value.ref 233) _ _) _ _ _)
  k_dflt (refine' specF_use ((by with_reducible assumption : FindS _ _ _ _ _) _) ?kB ?kF ?kX ?kN ?kT ?kK ?kXB ?kTB ?kD ?kU ?_)
  (case kB => k_asm)
  (case kF => k_asm)
  (case kX => k_asm)
  (case kN => k_asm)
  (case kT => k_asm)
  (case kXB => k_asm)
  (case kTB => k_asm)
  (case kK => rfl)
  (case kD => exact Nat.le_of_ble_eq_true rfl)
  (case kU => exact Nat.le_of_ble_eq_true rfl)
  k_whole
  (intro v tl h' g' tk' hR F' N' hlt hg)
  (obtain ⟨hR1, e2⟩ := hR)
  subst e2
  (obtain ⟨j9, t9, e1, hP9⟩ := hR1)
  subst e1
  subst hP9
  (simp only [List.nil_append] at N')
  clear hlt))
theorem law_k_n : ∀ {w : World} {base h : Heap} {L C fa : Addr} {cd : Value} {mean : ExcName → Option Value} {mg mb : Str → Option Value} {ol D x dd : Addr} {hh : Int} {tt : Tok} {us ov vs : List Value} {nu no ns : Nat} {qs : List (Str × Int)} {i : Nat} {t : Tok} {y : Str} {ty : Tok} {led : List (Addr × Obj)} {m₀ m : Str → Option Value} {g : Array GenState} {d : Drawn} {tk : Nat} {os : OsState} {EE : Value → Shared → Prop} {fm : Addr} {M : Str → Str → Bool} {Ok : Str → Str → Prop} (XX : (hd.heap_39 w.params).In base) (hC : ClsOk w C fm M Ok) (hK : ClsK w C) (A : LawKAt w base h L C mean mg mb ol D x dd hh tt us ov vs nu no ns qs i t y ty led m₀ m) (hOk : ∀ p ∈ qs, Ok y p.1) (hM : firstM (M y) qs = none) (hv : vs[i]? = some .none),
  wpAny (model PySem.Challenge.rw_eq0045_01.row.prog w) (LawA L fa cd) (execs loopK (envOfC (Str.ofString "law") lawB.sc L fa cd)) (EndK base L x led m₀ g d os) EE ⟨h, g, d, tk, os⟩ := by
  w_top off
  k_fill
  intro w base h L C fa cd mean mg mb ol D x dd hh tt us ov vs nu no ns qs i t y ty led m₀ m g d tk os EE fm M Ok XX hC hK A hOk hM hv
  clear XX
  obtain ⟨F0, N0, hA, hgd, hac, hkk, h1, h3, X0, T0, B0, hx, hdd, hol, hD, hp, hi, hy⟩ := A
  have S1 := qual_n hC x dd us nu hh tt (.bool true) qs y hx hdd hp hOk hM
  have S2 := cont_n hC x dd us nu hh tt (.bool true) qs y hx hdd hp hOk hM
  have S3 := item_n hC x dd us nu hh tt (.bool true) qs y hx hdd hp hOk hM
  have S4 := find_n hC x dd us nu hh tt (.bool true) qs y hx hdd hp hOk hM
  obtain ⟨hga, hgt, q1, q2, q3, q4, q5, q6, hqu, q7, q8⟩ := id hC
  clear q1 q2 q3 q4 q5 q6 q7 q8
  obtain ⟨hct, hgi, hfi⟩ := hK
  clear hC hOk hp hM
  have m1 : m (Str.ofString "offers") = some (.ref ol) := (hA _ (by decide)).trans h1
  have m3 : m (Str.ofString "scores") = some (.ref D) := (hA _ (by decide)).trans h3
  have k0 : 0 ≤ (i : Int) ∧ (i : Int) < 2 ^ 60 := ⟨by omega, by omega⟩
  have hy9 : ov[((i : Nat) : Int).toNat]? = some (.str y ty) := by rw [Int.toNat_natCast]; exact hy
  have hv9 : vs[((i : Nat) : Int).toNat]? = some (.none) := by rw [Int.toNat_natCast]; exact hv
  have e0 := ovr_of lp7 fun y hy => hA y (lp_sub7 hy)
  simp only [List.map, hgd, hac, hkk, m1, m3] at e0
  replace F0 := Fr.as F0 e0
  dsimp only [loopK, loopB, lawB, LawA, List.drop]
  iterate 120 (try (first | (k_unfold; (try dsimp only)) | walk1 | (dsimp only; walk1)))
  with_reducible rename Fr _ _ _ _ => F9
  with_reducible rename News _ _ _ _ => N9
  refine ⟨rfl, _, fun z hz => ?_, ?gg, ?aa, F9, N9, (by k_asm), rfl, rfl⟩
  case gg => first | (simp; done) | (simp; with_reducible assumption)
  case aa => ((repeat (refine (if_neg (by decide)).trans ?_)); rfl)
  have h9 : ∀ b ∈ lpNames, z ≠ b := fun b hb e => hz (e ▸ hb)
  simp only [lpNames, List.mem_cons, List.not_mem_nil, or_false, forall_eq_or_imp, forall_eq] at h9
  simp only [h9, if_false]
  rw [← hA z hz]
  exact (congrFun e0 z).symm
end
end Mine
end

section
open PySem PySem.W PyProof.Rows PySem.Calls PySem.Spec
set_option Elab.async false
set_option maxRecDepth 100000
set_option maxHeartbeats 0
set_option linter.unusedVariables false
namespace Mine
section
local macro_rules | `(tactic| walk_at "none 0") => `(tactic| fail)
local macro_rules | `(tactic| walk_at "none 1") => `(tactic| fail)
local macro_rules | `(tactic| walk_at "none 2") => `(tactic| fail)
local macro_rules | `(tactic| walk_at "none 3") => `(tactic| fail)
local macro_rules | `(tactic| walk_at "none 4") => `(tactic| fail)
local macro_rules | `(tactic| walk_at "none 5") => `(tactic| fail)
local macro_rules | `(tactic| walk_at "none 6") => `(tactic| fail)
local macro_rules | `(tactic| walk_at "none 7") => `(tactic| fail)
local macro_rules | `(tactic| walk_at "none 8") => `(tactic| fail)
local macro_rules | `(tactic| walk_at "none 9") => `(tactic| fail)
local macro_rules | `(tactic| walk_at "none 10") => `(tactic| fail)
local macro_rules | `(tactic| walk_at "none 11") => `(tactic| fail)
local macro_rules | `(tactic| walk_at "none 12") => `(tactic| fail)
local macro_rules | `(tactic| walk_at "none 13") => `(tactic| fail)
local macro_rules | `(tactic| k_mem) => `(tactic| with_reducible assumption)
local macro_rules | `(tactic| k_inst) => `(tactic| (refine' inst_seq ?N ?h1 ?h2; (case N => k_asm); (case h1 => k_mem); (case h2 => k_mem)))
local macro_rules | `(tactic| walk_at "getMethod ref") => `(tactic| (k_here; k_dflt (refine' method_seq ?k1 ?k2 ?k3 ?k4 ?k5 ?k6 ?k7 ?k8 ?_; (case k1 => k_asm); (case k2 => k_asm); (case k3 => k_inst); (case k4 => with_reducible assumption); (case k5 => with_reducible assumption); (case k6 => with_reducible assumption); (case k7 => first | (with_reducible assumption) | k_is); (case k8 => k_get); k_whole)))
local macro_rules | `(tactic| walk_at "callWith ref") => `(tactic| (k_here; k_dflt (refine' callWith_K ?k1 ?k2 ?_; (case k1 => k_asm); (case k2 => with_reducible assumption); k_whole)))
local macro_rules | `(tactic| k_asm) => `(tactic| ((with_reducible show GOk _ _); first | exact GOk.refl _ | (intro x9; solve_by_elim)))
local macro_rules | `(tactic| k_asm) => `(tactic| ((with_reducible show News _ _ _ _); first | (with_reducible assumption) | (refine News.sub (by with_reducible assumption) (fun p9 h9 => ?_); (repeat (first | exact h9 | apply List.mem_cons_of_mem | apply List.mem_append_right)); done)))
local macro_rules | `(tactic| walk_at "subscriptTail Name") => `(tactic| (k_here; (with_reducible show wpAny _ _ (subscriptTail _ _ (Value.ref _) (Value.int _ _)) _ _ _); k_dflt (refine' item_l ?kN ?kM ?k0 ?kx ?_; (case kN => k_asm); (case kM => k_mem); (case kx => with_reducible assumption); (case k0 => with_reducible assumption); k_whole)))
local macro_rules | `(tactic| walk_at "subscriptTail Name") => `(tactic| (k_here; (with_reducible show wpAny _ _ (subscriptTail _ _ (Value.ref _) (Value.str _ _)) _ _ _); k_dflt (refine' sub_K ?k1 ?k2 ?k3 ?k4 ?k5 ?k6 ?_; (case k1 => k_asm); (case k2 => k_asm); (case k3 => k_inst); (case k4 => with_reducible assumption); (case k5 => k_is); (case k6 => k_is); k_whole)))
local macro_rules | `(tactic| walk_at "compareOp In") => `(tactic| (k_here; (with_reducible show wpAny _ _ (compareOp CmpOp.In _ (Value.ref _)) _ _ _); k_dflt (refine' in_K ?k1 ?k2 ?k3 ?k4 ?k5 ?_; (case k1 => k_asm); (case k2 => k_asm); (case k3 => k_inst); (case k4 => with_reducible assumption); (case k5 => k_is); k_whole)))
local macro_rules | `(tactic| walk_at "call ref") => `(tactic| (
  k_here
  (with_reducible show wpAny _ _ (call (Value.ref 205) _ _) _ _ _)
  k_dflt (refine' spec_use ((by with_reducible assumption : QualS _ _ _ _ _) _) ?kB ?kF ?kX ?kN ?kT ?kK ?kD ?kU ?_)
  (case kB => k_asm)
  (case kF => k_asm)
  (case kX => k_asm)
  (case kN => k_asm)
  (case kT => k_asm)
  (case kK => rfl)
  (case kD => exact Nat.le_of_ble_eq_true rfl)
  (case kU => exact Nat.le_of_ble_eq_true rfl)
  k_whole
  (intro v tl h' g' tk' hR F' N' hlt hg)
  (obtain ⟨hR1, e2⟩ := hR)
  subst e2
  (obtain ⟨t9, e1⟩ := hR1)
  subst e1
  (simp only [List.nil_append] at N')
  clear hlt))
local macro_rules | `(tactic| walk_at "call ref") => `(tactic| (
  k_here
  (with_reducible show wpAny _ _ (call (Value.ref 212) _ _) _ _ _)
  k_dflt (refine' spec_use ((by with_reducible assumption : ContS _ _ _ _ _) _) ?kB ?kF ?kX ?kN ?kT ?kK ?kD ?kU ?_)
  (case kB => k_asm)
  (case kF => k_asm)
  (case kX => k_asm)
  (case kN => k_asm)
  (case kT => k_asm)
  (case kK => rfl)
  (case kD => exact Nat.le_of_ble_eq_true rfl)
  (case kU => exact Nat.le_of_ble_eq_true rfl)
  k_whole
  (intro v tl h' g' tk' hR F' N' hlt hg)
  (obtain ⟨hR1, e2⟩ := hR)
  subst e2
  subst hR1
  (simp only [List.nil_append] at N')
  clear hlt))
local macro_rules | `(tactic| walk_at "call ref") => `(tactic| (
  k_here
  (with_reducible show wpAny _ _ (call (Value.ref 198) _ _) _ _ _)
  k_dflt (refine' spec_use ((by with_reducible assumption : ItemS _ _ _ _ _) _) ?kB ?kF ?kX ?kN ?kT ?kK ?kD ?kU ?_)
  (case kB => k_asm)
  (case kF => k_asm)
  (case kX => k_asm)
  (case kN => k_asm)
  (case kT => k_asm)
  (case kK => rfl)
  (case kD => exact Nat.le_of_ble_eq_true rfl)
  (case kU => exact Nat.le_of_ble_eq_true rfl)
  k_whole
  (intro v tl h' g' tk' hR F' N' hlt hg)
  (obtain ⟨hR1, e2⟩ := hR)
  subst e2
  (obtain ⟨t9, e1⟩ := hR1)
  subst e1
  (simp only [List.nil_append] at N')
  clear hlt))
local macro_rules | `(tactic| walk_at "call ref") => `(tactic| (
  k_here
  (with_reducible show wpAny _ _ (call (Value.ref 233) _ _) _ _ _)
  k_dflt (refine' specF_use ((by with_reducible assumption : FindS _ _ _ _ _) _) ?kB ?kF ?kX ?kN ?kT ?kK ?kXB ?kTB ?kD ?kU ?_)
  (case kB => k_asm)
  (case kF => k_asm)
  (case kX => k_asm)
  (case kN => k_asm)
  (case kT => k_asm)
  (case kXB => k_asm)
  (case kTB => k_asm)
  (case kK => rfl)
  (case kD => exact Nat.le_of_ble_eq_true rfl)
  (case kU => exact Nat.le_of_ble_eq_true rfl)
  k_whole
  (intro v tl h' g' tk' hR F' N' hlt hg)
  (obtain ⟨hR1, e2⟩ := hR)
  subst e2
  (obtain ⟨j9, t9, e1, hP9⟩ := hR1)
  subst e1
  (simp only [List.nil_append] at N')
  clear hlt))
theorem law_k_s : ∀ {w : World} {base h : Heap} {L C fa : Addr} {cd : Value} {mean : ExcName → Option Value} {mg mb : Str → Option Value} {ol D x dd : Addr} {hh : Int} {tt : Tok} {us ov vs : List Value} {nu no ns : Nat} {qs : List (Str × Int)} {i : Nat} {t : Tok} {y : Str} {ty : Tok} {led : List (Addr × Obj)} {m₀ m : Str → Option Value} {g : Array GenState} {d : Drawn} {tk : Nat} {os : OsState} {EE : Value → Shared → Prop} {fm : Addr} {M : Str → Str → Bool} {Ok : Str → Str → Prop} (XX : (hd.heap_39 w.params).In base) (hC : ClsOk w C fm M Ok) (hK : ClsK w C) (A : LawKAt w base h L C mean mg mb ol D x dd hh tt us ov vs nu no ns qs i t y ty led m₀ m) (hOk : ∀ p ∈ qs, Ok y p.1) {p : Str × Int} (hM : firstM (M y) qs = some p) {f : Int} {a9 : Addr} {u1 u2 : Tok} {n9 : Nat} (hv : vs[i]? = some (.ref a9)) (hm9 : (a9, T2 p.2 f u1 u2 n9) ∈ led),
  wpAny (model PySem.Challenge.rw_eq0045_01.row.prog w) (LawA L fa cd) (execs loopK (envOfC (Str.ofString "law") lawB.sc L fa cd)) (EndK base L x led m₀ g d os) EE ⟨h, g, d, tk, os⟩ := by
  w_top off
  k_fill
  intro w base h L C fa cd mean mg mb ol D x dd hh tt us ov vs nu no ns qs i t y ty led m₀ m g d tk os EE fm M Ok XX hC hK A hOk p hM f a9 u1 u2 n9 hv hm9
  clear XX
  obtain ⟨F0, N0, hA, hgd, hac, hkk, h1, h3, X0, T0, B0, hx, hdd, hol, hD, hp, hi, hy⟩ := A
  have S1 := qual_s hC x dd us nu hh tt (.bool true) qs y hx hdd hp hOk hM
  have S2 := cont_s hC x dd us nu hh tt (.bool true) qs y hx hdd hp hOk hM
  have S3 := item_s hC x dd us nu hh tt (.bool true) qs y hx hdd hp hOk hM
  have S4 := find_s hC x dd us nu hh tt (.bool true) qs y hx hdd hp hOk hM
  obtain ⟨hga, hgt, q1, q2, q3, q4, q5, q6, hqu, q7, q8⟩ := id hC
  clear q1 q2 q3 q4 q5 q6 q7 q8
  obtain ⟨hct, hgi, hfi⟩ := hK
  clear hC hOk hp hM
  have m1 : m (Str.ofString "offers") = some (.ref ol) := (hA _ (by decide)).trans h1
  have m3 : m (Str.ofString "scores") = some (.ref D) := (hA _ (by decide)).trans h3
  have k0 : 0 ≤ (i : Int) ∧ (i : Int) < 2 ^ 60 := ⟨by omega, by omega⟩
  have hy9 : ov[((i : Nat) : Int).toNat]? = some (.str y ty) := by rw [Int.toNat_natCast]; exact hy
  have hv9 : vs[((i : Nat) : Int).toNat]? = some (.ref a9) := by rw [Int.toNat_natCast]; exact hv
  have e0 := ovr_of lp7 fun y hy => hA y (lp_sub7 hy)
  simp only [List.map, hgd, hac, hkk, m1, m3] at e0
  replace F0 := Fr.as F0 e0
  dsimp only [loopK, loopB, lawB, LawA, List.drop]
  iterate 120 (try (first | exact absurd rfl (by with_reducible assumption : p.2 ≠ p.2) | (k_unfold; (try dsimp only)) | walk1 | (dsimp only; walk1)))
  all_goals (try exact absurd rfl (by with_reducible assumption : p.2 ≠ p.2))
  with_reducible rename Fr _ _ _ _ => F9
  with_reducible rename News _ _ _ _ => N9
  refine ⟨rfl, _, fun z hz => ?_, ?gg, ?aa, F9, N9, (by k_asm), rfl, rfl⟩
  case gg => first | (simp; done) | (simp; with_reducible assumption)
  case aa => ((repeat (refine (if_neg (by decide)).trans ?_)); rfl)
  have h9 : ∀ b ∈ lpNames, z ≠ b := fun b hb e => hz (e ▸ hb)
  simp only [lpNames, List.mem_cons, List.not_mem_nil, or_false, forall_eq_or_imp, forall_eq] at h9
  simp only [h9, if_false]
  rw [← hA z hz]
  exact (congrFun e0 z).symm
end
end Mine
end

section
open PySem PySem.W PyProof.Rows PySem.Calls PySem.Spec
set_option Elab.async false
set_option maxRecDepth 100000
set_option maxHeartbeats 0
set_option linter.unusedVariables false
namespace Mine
section
local macro_rules | `(tactic| walk_at "none 0") => `(tactic| fail)
local macro_rules | `(tactic| walk_at "none 1") => `(tactic| fail)
local macro_rules | `(tactic| walk_at "none 2") => `(tactic| fail)
local macro_rules | `(tactic| walk_at "none 3") => `(tactic| fail)
local macro_rules | `(tactic| walk_at "none 4") => `(tactic| fail)
local macro_rules | `(tactic| walk_at "none 5") => `(tactic| fail)
local macro_rules | `(tactic| walk_at "none 6") => `(tactic| fail)
local macro_rules | `(tactic| walk_at "none 7") => `(tactic| fail)
local macro_rules | `(tactic| walk_at "none 8") => `(tactic| fail)
local macro_rules | `(tactic| walk_at "none 9") => `(tactic| fail)
local macro_rules | `(tactic| walk_at "none 10") => `(tactic| fail)
local macro_rules | `(tactic| walk_at "none 11") => `(tactic| fail)
local macro_rules | `(tactic| walk_at "none 12") => `(tactic| fail)
local macro_rules | `(tactic| walk_at "none 13") => `(tactic| fail)
local macro_rules | `(tactic| walk_at "none 14") => `(tactic| fail)
local macro_rules | `(tactic| walk_at "none 15") => `(tactic| fail)
local macro_rules | `(tactic| walk_at "none 16") => `(tactic| fail)
local macro_rules | `(tactic| walk_at "none 17") => `(tactic| fail)
local macro_rules | `(tactic| walk_at "none 18") => `(tactic| fail)
local macro_rules | `(tactic| walk_at "none 19") => `(tactic| fail)
local macro_rules | `(tactic| walk_at "none 20") => `(tactic| fail)
local macro_rules | `(tactic| walk_at "none 21") => `(tactic| fail)
local macro_rules | `(tactic| k_mem) => `(tactic| with_reducible assumption)
local macro_rules | `(tactic| k_inst) => `(tactic| (refine' inst_seq ?N ?h1 ?h2; (case N => k_asm); (case h1 => k_mem); (case h2 => k_mem)))
local macro_rules | `(tactic| walk_at "getMethod ref") => `(tactic| (k_here; k_dflt (refine' method_seq ?k1 ?k2 ?k3 ?k4 ?k5 ?k6 ?k7 ?k8 ?_; (case k1 => k_asm); (case k2 => k_asm); (case k3 => k_inst); (case k4 => with_reducible assumption); (case k5 => with_reducible assumption); (case k6 => with_reducible assumption); (case k7 => first | (with_reducible assumption) | k_is); (case k8 => k_get); k_whole)))
local macro_rules | `(tactic| walk_at "callWith ref") => `(tactic| (k_here; k_dflt (refine' callWith_K ?k1 ?k2 ?_; (case k1 => k_asm); (case k2 => with_reducible assumption); k_whole)))
local macro_rules | `(tactic| k_asm) => `(tactic| ((with_reducible show GOk _ _); first | exact GOk.refl _ | (intro x9; solve_by_elim)))
local macro_rules | `(tactic| k_asm) => `(tactic| ((with_reducible show News _ _ _ _); first | (with_reducible assumption) | (refine News.sub (by with_reducible assumption) (fun p9 h9 => ?_); (repeat (first | exact h9 | apply List.mem_cons_of_mem | apply List.mem_append_right)); done)))
local macro_rules | `(tactic| k_mem) => `(tactic| ((with_reducible (first | refine List.mem_append_right _ ?_ | refine mem_appR ?_)); k_mem))
theorem End5.of {base : Heap} {L : Addr} {news : List (Addr × Obj)} {m₀ : Str → Option Value} {g g' : Array GenState} {d : Drawn} {os : OsState} {f : Flow} {s : Shared} (hG : GOk g g') (h : End5 base L news m₀ g' d os f s) : End5 base L news m₀ g d os f s := by
  obtain ⟨e, m, nx, h1, h2, h3, h4, h5, h6, h7⟩ := h
  exact ⟨e, m, nx, h1, h2, h3, h4, h5, GOk.trans hG h6, h7⟩
theorem put_k {m m₀ : Str → Option Value} {v : Value} (hA : ∀ y, y ∉ lpNames → m y = m₀ y) : ∀ y, y ∉ lpNames → (fun y => if y = Str.ofString "k" then some v else m y) y = m₀ y := fun y hy => by
  have : y ≠ Str.ofString "k" := fun e => hy (by rw [e]; exact .tail _ (.tail _ (.tail _ (.head _))))
  simp only [this, if_false]
  exact hA y hy
theorem mem_low {α : Type} {q x d : α} {t n : List α} (h : q ∈ t ++ n) : q ∈ [] ++ x :: d :: (t ++ n) := by simp only [List.mem_cons, List.mem_append, List.nil_append] at h ⊢; grind
theorem law_7 : ∀ {w : World} {base h : Heap} {L C fa : Addr} {cd : Value} {mean : ExcName → Option Value} {mg mb : Str → Option Value} {ol D x dd : Addr} {hh : Int} {tt : Tok} {us ov vs : List Value} {wd : Value} {nu no ns : Nat} {words offs : List Str} {ws qs : List (Str × Int)} {Sp : Str → List Bool} {xs : List Str} {ix : Int} {nx news : List (Addr × Obj)} {m₀ m : Str → Option Value} {g : Array GenState} {d : Drawn} {tk : Nat} {os : OsState} {EE : Value → Shared → Prop} {fm : Addr} {M : Str → Str → Bool} {Ok : Str → Str → Prop} {Ft : Str → Str → Int} (XX : (hd.heap_39 w.params).In base) (A : Law6At w base h L C mean mg mb ol D x dd hh tt us ov vs wd nu no ns words offs ws qs Sp xs ix (scoresOf Ft ws xs) nx news m₀ m)
    (hC : ClsOk w C fm M Ok) (hK : ClsK w C) (ok : FitOk M Sp Ft words offs) (hOk : ∀ x ∈ offs, ∀ p ∈ words, Ok x p),
  wpAny (model PySem.Challenge.rw_eq0045_01.row.prog w) (LawA L fa cd) (execs (loopB.drop 2) (envOfC (Str.ofString "law") lawB.sc L fa cd)) (End5 base L news m₀ g d os) EE ⟨h, g, d, tk, os⟩ := by
  w_top off
  k_fill
  intro w base h L C fa cd mean mg mb ol D x dd hh tt us ov vs wd nu no ns words offs ws qs Sp xs ix nx news m₀ m g d tk os EE fm M Ok Ft XX A hC hK ok hOk
  obtain ⟨F0, N0, hA, hgd, hac, h1, h2, h3, TS, NN, hlt0, X0, T0, B0, hol, hD, hp, hord, hperm, hss, hpk, hos, hxs, hws, hlw, hlx⟩ := A
  have hq : ∀ p ∈ qs, p.1 ∈ words := fun p h => (hws p (hperm.mem_iff.mp h)).1
  have hov : ov.length = xs.length := hos.length
  have m1 : m (Str.ofString "offers") = some (.ref ol) := (hA _ (by decide)).trans h1
  have m3 : m (Str.ofString "scores") = some (.ref D) := (hA _ (by decide)).trans h3
  have e0 := ovr_of lp7 fun y hy => hA y (lp_sub7 hy)
  simp only [List.map, hgd, hac, m1, m3] at e0
  have FA := F0
  replace F0 := Fr.as F0 e0
  dsimp only [loopB, lawB, LawA, List.drop]
  iterate 1 (try (first | (k_unfold; (try dsimp only)) | walk1 | (dsimp only; walk1)))
  refine for_rangeX (n := xs.length) (h₀ := base) (L := L) (news := (x, (⟨.ref C, some dd, .seq us.toArray nu, #[]⟩ : Obj)) :: (dd, W.dictOf [⟨hh, .str (Str.ofString "provided") tt, .bool true⟩] 1) :: (nx ++ news)) (fun i m' nx' => (∀ y, y ∉ lpNames → m' y = m₀ y) ∧ m' (Str.ofString "good") = some (.bool true) ∧ m' (Str.ofString "accept") = some (.ref x) ∧ nx' = []) rfl (by omega) ?h ?turn ?fin
  case h =>
    iterate 10 (try (first | (k_unfold; (try dsimp only)) | walk1 | (dsimp only; walk1)))
    refine len_l N0 (.tail _ (.tail _ (List.mem_append_right _ hol))) hov (by omega) ?_
    dsimp only
    iterate 1 (try (first | (k_unfold; (try dsimp only)) | walk1 | (dsimp only; walk1)))
    refine range1_rows (by k_asm) (by k_asm) (fun h1 tk1 t1 u1 v1 hr F2 N2 _ => ?_)
    refine ⟨_, _, _, _, m, [], rfl, hr, Fr.as F2 e0.symm, News.sub N2 (fun q hq => ?_), ⟨hA, hgd, hac, rfl⟩, rfl, rfl, rfl⟩
    first | exact hq | exact List.mem_cons_of_mem _ hq
  case turn =>
    clear F0 N0 FA
    rintro it i v m' nx' h g1 tk hi ⟨t5, rfl⟩ ⟨hA', hg', ha', rfl⟩ F11 N11 hg1
    iterate 2 (try (first | (k_unfold; (try dsimp only)) | walk1 | (dsimp only; walk1)))
    with_reducible rename Fr _ _ _ _ => F12
    with_reducible rename News _ _ _ _ => N12
    have hlo : i < ov.length := by omega
    obtain ⟨y, ty, hoy, hxy⟩ := strs_some hos hi
    have hyo : y ∈ offs := hxs y (List.mem_of_getElem? hxy)
    have hsc : (scoresOf Ft ws xs)[i]? = some ((firstM (M y) qs).map fun p => (p.2, Ft p.1 y)) := by
      unfold scoresOf
      rw [List.getElem?_map, hxy, Option.map_some, score_eq ok hq hperm hord hyo]
    have A7 := (show LawKAt w base _ L C mean mg mb ol D x dd hh tt us ov vs nu no ns qs i t5 y ty ((it, rIter xs.length (i + 1)) :: ([] ++ (x, (⟨.ref C, some dd, .seq us.toArray nu, #[]⟩ : Obj)) :: (dd, W.dictOf [⟨hh, .str (Str.ofString "provided") tt, .bool true⟩] 1) :: (nx ++ news))) m₀ _ from ⟨F12, N12, put_k hA', (if_neg (by decide)).trans hg', (if_neg (by decide)).trans ha', if_pos rfl, h1, h3, X0, T0, B0, .tail _ (.head _), .tail _ (.tail _ (.head _)), .tail _ (.tail _ (.tail _ (List.mem_append_right _ hol))), .tail _ (.tail _ (.tail _ (List.mem_append_right _ hD))), Pairs.mono (fun q hq => .tail _ (.tail _ (.tail _ (List.mem_append_right _ hq)))) hp, by omega, hoy⟩)
    have hOk7 : ∀ p ∈ qs, Ok y p.1 := fun p hp => hOk y hyo p.1 (hq p hp)
    cases hf : firstM (M y) qs with
    | none =>
      rw [hf] at hsc
      refine wpAny_mono (law_k_n XX hC hK A7 hOk7 hf (hss.none_at hsc)) (fun f s₃ h3 => ?_) fun _ _ e => e
      obtain ⟨rfl, m5, hA5, hg5, ha5, F5, N5, G5, hd5, ho5⟩ := h3
      exact ⟨m5, [], ⟨hA5, hg5, ha5, rfl⟩, F5, N5, (fun _ h => nomatch h), GOk.trans hg1 G5, hd5, ho5⟩
    | some p =>
      rw [hf] at hsc
      obtain ⟨a9, u1, u2, n9, hv, hm9⟩ := hss.some_at (q := p.2) (f := Ft p.1 y) hsc
      refine wpAny_mono (law_k_s XX hC hK A7 hOk7 hf hv (.tail _ (.tail _ (.tail _ (List.mem_append_right _ hm9))))) (fun f s₃ h3 => ?_) fun _ _ e => e
      obtain ⟨rfl, m5, hA5, hg5, ha5, F5, N5, G5, hd5, ho5⟩ := h3
      exact ⟨m5, [], ⟨hA5, hg5, ha5, rfl⟩, F5, N5, (fun _ h => nomatch h), GOk.trans hg1 G5, hd5, ho5⟩
  case fin =>
    intro m' nx' h g1 tk hI F11 N11 hg1
    obtain ⟨hA', hg', _, rfl⟩ := hI
    dsimp only
    iterate 1 (try (first | (k_unfold; (try dsimp only)) | walk1 | (dsimp only; walk1)))
    exact ⟨rfl, m', nx, hA', hg', F11, News.sub N11 (fun q hq => mem_low hq), TS, hg1, rfl, rfl⟩
end
end Mine
end

section
open PySem PySem.W PyProof.Rows PySem.Calls PySem.Spec
set_option Elab.async false
set_option maxRecDepth 100000
set_option linter.unusedVariables false
namespace Mine
/-- best_match of Accept and MIMEAccept, as the law wants it -/
theorem bmo_G {w : World} {C fm : Addr} {M : Str → Str → Bool} {Ok : Str → Str → Prop} (hC : ClsOk w C fm M Ok) {fs : Addr} {Sp : Str → List Bool} {Oks : Str → Prop} (hS : SpcOk w C fs Sp Oks) {Ft : Str → Str → Int} {words offs : List Str} (ok : FitOk M Sp Ft words offs) (hOk : ∀ x ∈ offs, ∀ p ∈ words, Ok x p) (hsp : ∀ p ∈ words, Oks p)
    (hbm : findIn (hd.heap_39 w.params) (.ref C) (Str.ofString "best_match") = some (some (.ref 269))) (htb : typeIn (hd.heap_39 w.params) (.ref 269) = some (.type "function")) (hkb : keepIn (hd.heap_39 w.params) (.ref 269) = true) : BmO w C 269 Sp words offs (fun ws xs => bestIx (scoresOf Ft ws xs)) where
  ga := hC.ga
  gt := hC.gt
  bm := hbm
  tb := htb
  kb := hkb
  run := fun {news} self d ml us os n k hh tt t ws qs xs hself hdd hml hp hos hord hperm hws hxs hlw hlx => by
    have hq : ∀ p ∈ qs, p.1 ∈ words := fun p h => (hws p (hperm.mem_iff.mp h)).1
    refine SpecT.mono (SpecT.weak (best_G hC hS self d ml us os n k hh tt (.bool true) (.str (Str.ofString "none") t) _ (.inl rfl) qs xs hself hdd hp hml hos (fun x hx p h => hOk x (hxs x hx) p.1 (hq p h)) (fun p h => hsp _ (hq p h))) (by decide) (by decide)) fun v tl h => ?_
    obtain ⟨h, e⟩ := h
    refine ⟨?_, e⟩
    have b := best_eq ok hq hperm hord hxs
    show Picked xs (bestIx (scoresOf Ft ws xs)) v
    unfold Picked
    cases hb : bestOf M Sp qs xs with
    | none =>
      rw [hb] at h b
      dsimp only at h b
      rw [b, if_neg (by decide)]
      exact ⟨t, h⟩
    | some r =>
      obtain ⟨x, q, bs⟩ := r
      rw [hb] at h b
      dsimp only at h b
      obtain ⟨j, e1, e2, _⟩ := b
      obtain ⟨t', e3⟩ := h
      rw [e1, if_pos (by omega)]
      exact ⟨x, t', by rw [Int.toNat_natCast]; exact e2, e3⟩
end Mine
end

section
open PySem PySem.W PyProof.Rows PySem.Calls PySem.Spec
set_option Elab.async false
set_option maxRecDepth 100000
set_option linter.unusedVariables false
namespace Mine
theorem okp0_menu : ∀ x ∈ offs0, ∀ p ∈ words0, Okp0 x p := by unfold Okp0; decide +kernel
def mainB (x : Str) : Bool := decide (x.length ≤ 300) && (match splitStr langCode x 1 with
  | some (a :: r) => decide (a = mainL x) && decide ((a :: r).length ≤ 1000)
  | _ => false)
theorem mainB_ok {x : Str} (h : mainB x = true) : MainOk x := by
  unfold mainB at h
  unfold MainOk
  simp only [Bool.and_eq_true, decide_eq_true_eq] at h
  refine ⟨h.1, ?_⟩
  have h2 := h.2
  split at h2
  · rename_i a r e
    simp only [Bool.and_eq_true, decide_eq_true_eq] at h2
    refine ⟨r, ?_, ?_⟩
    · rw [← h2.1]; exact e
    · rw [← h2.1]; exact h2.2
  · cases h2
theorem main_menu : ∀ x ∈ words2 ++ offs2, MainOk x := fun x hx => mainB_ok ((by decide +kernel : ∀ x ∈ words2 ++ offs2, mainB x = true) x hx)
theorem hst_menu : ∀ x ∈ words2 ++ offs2, Txt.startswith x (mainL x) = true := by decide +kernel
end Mine
end

section
open PySem PySem.W PyProof.Rows PySem.Calls PySem.Spec
set_option Elab.async false
set_option maxRecDepth 100000
set_option linter.unusedVariables false
namespace Mine
theorem okf0_menu : ∀ x ∈ offs0, ∀ p ∈ words0, Okf0 p x := by unfold Okf0; decide +kernel
theorem okf2_menu : ∀ x ∈ offs2, ∀ p ∈ words2, Okf0 p x := by unfold Okf0; decide +kernel
theorem okf2a_menu : ∀ x ∈ offs2, ∀ p ∈ words2, Okf0 (mainT p) x := by unfold Okf0; decide +kernel
theorem okf2b_menu : ∀ x ∈ offs2, ∀ p ∈ words2, Okf0 p (mainT x) := by unfold Okf0; decide +kernel
theorem oks1_menu : ∀ x ∈ words1, Oks1 x := fun x hx => ⟨(by decide +kernel : ∀ x ∈ words1, x.length ≤ 300) x hx, rawT x, raw_at hx, (by decide +kernel : ∀ x ∈ words1, (rawT x).length ≤ 1000) x hx⟩
theorem tab_menu : ∀ x ∈ words1 ++ offs1, InTab x := fun x hx => by
  obtain ⟨v, e⟩ := Option.isSome_iff_exists.mp ((by decide +kernel : ∀ x ∈ words1 ++ offs1, (typeTab.lookup x).isSome = true) x hx)
  exact ⟨v, e, lookup_mem e⟩
theorem okf1_menu : ∀ x ∈ offs1, ∀ p ∈ words1, Okf1 p x := fun x hx p hp => ⟨tab_menu p (List.mem_append_left _ hp), tab_menu x (List.mem_append_right _ hx)⟩
def maintB (x : Str) : Bool := decide (x.length ≤ 300) && (decide ((Txt.replace x (Str.ofString "_") (Str.ofString "-")).length ≤ 300) && (match Txt.split (Txt.replace x (Str.ofString "_") (Str.ofString "-")) (Str.ofString "-") with
  | a :: r => decide (a = mainT x) && decide (r.length ≤ 300)
  | _ => false))
theorem maintB_ok {x : Str} (h : maintB x = true) : MainTOk x := by
  unfold maintB at h
  unfold MainTOk
  simp only [Bool.and_eq_true, decide_eq_true_eq] at h
  refine ⟨h.1, h.2.1, ?_⟩
  have h2 := h.2.2
  split at h2
  · rename_i a r e
    simp only [Bool.and_eq_true, decide_eq_true_eq] at h2
    exact ⟨r, by rw [← h2.1]; exact e, h2.2⟩
  · cases h2
theorem maint_menu : ∀ x ∈ words2 ++ offs2, MainTOk x := fun x hx => maintB_ok ((by decide +kernel : ∀ x ∈ words2 ++ offs2, maintB x = true) x hx)
end Mine
end

section
open PySem PySem.W PyProof.Rows PySem.Calls PySem.Spec
set_option Elab.async false
set_option maxRecDepth 100000
set_option linter.unusedVariables false
namespace Mine
def mokB (star : Bool) (x : Str) : Bool := decide (x.length ≤ 300) && (match lowT x with
  | a :: b :: p => decide (p.length ≤ 1) && (p.all PyData.strOk && (!(Builtin.Str.occurrences x (Str.ofString "/") 0 x.length 1).isEmpty && (star || (!(a == Str.ofString "*") && !(b == Str.ofString "*")))))
  | _ => false)
theorem mokB_ok {star : Bool} {x : Str} (hx : x ∈ words1 ++ offs1) (h : mokB star x = true) : ∃ a b p, MOk x a b p ∧ (star = false → (a == Str.ofString "*") = false ∧ (b == Str.ofString "*") = false) := by
  unfold mokB at h
  simp only [Bool.and_eq_true, decide_eq_true_eq] at h
  have h2 := h.2
  split at h2
  · rename_i a b p e
    simp only [Bool.and_eq_true, Bool.or_eq_true, decide_eq_true_eq, Bool.not_eq_true'] at h2
    refine ⟨a, b, p, ⟨h.1, by rw [low_at hx, e], h2.1, h2.2.1, h2.2.2.1⟩, fun hs => ?_⟩
    rcases h2.2.2.2 with h9 | h9
    · rw [hs] at h9; cases h9
    · exact h9
  · cases h2
theorem okp1_menu : ∀ x ∈ offs1, ∀ p ∈ words1, Okp1 x p := fun x hx p hp => by
  obtain ⟨a, b, r, h1, h2⟩ := mokB_ok (star := false) (List.mem_append_right _ hx) ((by decide +kernel : ∀ x ∈ offs1, mokB false x = true) x hx)
  obtain ⟨a', b', r', h3, _⟩ := mokB_ok (star := true) (List.mem_append_left _ hp) ((by decide +kernel : ∀ x ∈ words1, mokB true x = true) p hp)
  exact ⟨a, b, r, a', b', r', h1, h3, h2 rfl⟩
end Mine
end

section
open PySem PySem.W PyProof.Rows PySem.Calls PySem.Spec
set_option Elab.async false
set_option maxRecDepth 100000
set_option linter.unusedVariables false
namespace Mine
theorem bmo0 : ∀ {w : World}, (hd.heap_39 w.params = hd.heap_39 w.params) → (PySem.Challenge.rw_eq0045_01 = PySem.Challenge.rw_eq0045_01) → BmO w 280 269 Sp0 words0 offs0 (fun ws xs => bestIx (scoresOf fit0 ws xs)) := by
  w_top off
  k_fill
  intro w _ _
  exact bmo_G (cls0 rfl rfl) (spc0 rfl rfl) ok0 okp0_menu (fun _ _ => trivial) (by k_is) (by k_is) (by k_is)
theorem bmo1 : ∀ {w : World}, (hd.heap_39 w.params = hd.heap_39 w.params) → (PySem.Challenge.rw_eq0045_01 = PySem.Challenge.rw_eq0045_01) → BmO w 342 269 Sp1 words1 offs1 (fun ws xs => bestIx (scoresOf fitM ws xs)) := by
  k_fill
  intro w _ _
  exact bmo_G (cls1 rfl rfl) (spc1 rfl rfl) ok1 okp1_menu oks1_menu (by k_is) (by k_is) (by k_is)
end Mine
end

section
open PySem PySem.W PyProof.Rows PySem.Calls PySem.Spec
set_option Elab.async false
set_option maxRecDepth 100000
set_option maxHeartbeats 0
set_option linter.unusedVariables false
namespace Mine
theorem frame3 {h₀ h : Heap} {L : Addr} {a b c : Str} {x y y' z : Value} (F : Fr h₀ L h (fun n => if n = a then some x else if n = b then some y else if n = b then some y' else List.lookup n [(c, z)])) : Fr h₀ L h (fun n => List.lookup n [(a, x), (b, y), (c, z)]) := by
  refine Fr.as F ?_
  funext n
  simp only [lookup_at, List.lookup_nil]
  by_cases h : n = b <;> simp [h]
theorem law_1 : ∀ {w : World} {base h : Heap} {L fa : Addr} {cd : Value} {mean : ExcName → Option Value} {mg mb : Str → Option Value} {sl : Addr} {sv : List Value} {ns : List Int} {o1 o2 : Obj} {g : Array GenState} {d : Drawn} {tk : Nat} {os : OsState} {QQ : Flow → Shared → Prop} {EE : Value → Shared → Prop} (XX : (hd.heap_39 w.params).In base) (A : LawAt w base h L mean mg mb sl sv ns o1 o2)
    (H : ∀ {h : Heap} {D : Addr} {cs : List (Int × Tok)} {kd tn : Int} {tk1 tk2 : Tok} {o1 o2 : Obj} {tk : Nat}, Law2At w base h L mean mg mb sl D cs kd tn tk1 tk2 o1 o2 → wpAny (model PySem.Challenge.rw_eq0045_01.row.prog w) (LawA L fa cd) (execs (lawB.b.drop 3) (envOfC (Str.ofString "law") lawB.sc L fa cd)) QQ EE ⟨h, g, d, tk, os⟩),
  wpAny (model PySem.Challenge.rw_eq0045_01.row.prog w) (LawA L fa cd) (execs lawB.b (envOfC (Str.ofString "law") lawB.sc L fa cd)) QQ EE ⟨h, g, d, tk, os⟩ := by
  w_top off
  k_fill
  intro w base h L fa cd mean mg mb sl sv ns o1 o2 g d tk os QQ EE XX A H
  clear XX
  obtain ⟨F0, N0, X0, T0, B0, hscr, hints, hlay, hw1, hw2, cd1, cd2, cd3, l0⟩ := A
  dsimp only [lawB, LawA]
  iterate 13 (try (first | (k_unfold; (try dsimp only)) | walk1 | (dsimp only; walk1)))
  with_reducible rename IntsAre _ (List.map _ _) => hys
  iterate 33 (try (first | (k_unfold; (try dsimp only)) | walk1 | (dsimp only; walk1)))
  with_reducible rename Fr _ _ _ _ => FA
  with_reducible rename News _ _ _ _ => NA
  have hyl := hys.length
  have hy8 : ys.length ≤ 8 := by rw [hyl, List.length_map, List.length_take]; omega
  refine sliceTail FA NA (News.isList NA (.head _)) (Nat.le_of_ble_eq_true rfl) (.int _ _) .none (fun D2 h2 F2 N2 l2 => ?_)
  clear FA NA
  rw [cutL_from, ← hyl] at N2
  iterate 1 (try (first | (k_unfold; (try dsimp only)) | walk1 | (dsimp only; walk1)))
  refine add_L F2 N2 (News.isList (n := ys.length) N2 (.tail _ (.tail _ (.head _)))) (News.isList N2 (.head _)) (by simp only [List.length_drop, List.length_cons, List.length_nil]; omega) (fun D3 h3 F3 N3 l3 => ?_)
  clear F2
  obtain ⟨cs, hcs, hcl, hcr⟩ := cells_ok hys
  obtain ⟨c0, c1, c2, c3, c4, c5, c6, c7, t0, t1, t2, t3, t4, t5, t6, t7, rfl, ecs⟩ := ints_eight hcs hcl
  rw [ecs] at N3
  replace N3 := News.sub N3 (fun q (hq : q ∈ _ :: _ :: _ :: _ :: _ :: _ :: []) => mem_keep hq)
  clear N2 hcs ecs hcl hys hyl hy8
  dsimp only
  iterate 34 (try (first | (k_unfold; (try dsimp only)) | walk1 | (dsimp only; walk1)))
  dsimp only
  with_reducible rename Fr _ _ _ _ => F9
  with_reducible rename News _ _ _ _ => N9
  with_reducible rename Obj.data _ = Data.cell (some _) => hk9
  refine H (cs := [(c0, t0), (c1, t1), (c2, t2), (c3, t3), (c4, t4), (c5, t5), (c6, t6), (c7, t7)]) ⟨frame3 F9, News.sub N9 ?nn, X0, T0, B0, hk9, hw2, cd1, cd2, cd3, l0, rfl, ?rr, ⟨_, rfl, rfl, rfl⟩⟩
  case nn => (intro q hq; first | exact hq | exact List.mem_cons_of_mem _ hq | exact List.mem_cons_of_mem _ (List.mem_cons_of_mem _ hq))
  case rr =>
    intro p hp
    refine hcr p.1 ?_
    simp only [List.mem_cons, List.not_mem_nil, or_false] at hp ⊢
    rcases hp with rfl | rfl | rfl | rfl | rfl | rfl | rfl | rfl <;> simp
end Mine
end

section
open PySem PySem.W PyProof.Rows PySem.Calls PySem.Spec
set_option Elab.async false
set_option maxRecDepth 100000
set_option maxHeartbeats 0
set_option linter.unusedVariables false
namespace Mine
local macro_rules | `(tactic| walk_at "none 0") => `(tactic| fail)
local macro_rules | `(tactic| walk_at "none 1") => `(tactic| fail)
local macro_rules | `(tactic| walk_at "none 2") => `(tactic| fail)
local macro_rules | `(tactic| walk_at "none 3") => `(tactic| fail)
local macro_rules | `(tactic| walk_at "none 4") => `(tactic| fail)
local macro_rules | `(tactic| walk_at "none 5") => `(tactic| fail)
local macro_rules | `(tactic| walk_at "none 6") => `(tactic| fail)
local macro_rules | `(tactic| walk_at "none 7") => `(tactic| fail)
local macro_rules | `(tactic| walk_at "none 8") => `(tactic| fail)
local macro_rules | `(tactic| walk_at "none 9") => `(tactic| fail)
local macro_rules | `(tactic| walk_at "none 10") => `(tactic| fail)
local macro_rules | `(tactic| walk_at "none 11") => `(tactic| fail)
local macro_rules | `(tactic| walk_at "none 12") => `(tactic| fail)
local macro_rules | `(tactic| walk_at "none 13") => `(tactic| fail)
local macro_rules | `(tactic| walk_at "none 14") => `(tactic| fail)
local macro_rules | `(tactic| walk_at "none 15") => `(tactic| fail)
local macro_rules | `(tactic| walk_at "none 16") => `(tactic| fail)
local macro_rules | `(tactic| walk_at "none 17") => `(tactic| fail)
local macro_rules | `(tactic| walk_at "none 18") => `(tactic| fail)
local macro_rules | `(tactic| walk_at "none 19") => `(tactic| fail)
local macro_rules | `(tactic| walk_at "none 20") => `(tactic| fail)
local macro_rules | `(tactic| walk_at "none 21") => `(tactic| fail)
local macro_rules | `(tactic| walk_at "none 22") => `(tactic| fail)
local macro_rules | `(tactic| walk_at "none 23") => `(tactic| fail)
local macro_rules | `(tactic| k_mem) => `(tactic| with_reducible assumption)
local macro_rules | `(tactic| walk_at "subscriptTail") => `(tactic| (k_here; (with_reducible show wpAny _ _ (subscriptTail _ _ (Value.ref _) (Value.int _ _)) _ _ _); k_dflt (refine' item_b ?kF ?kl ?k0 ?kx ?_; (case kF => k_asm); (case kl => with_reducible assumption); (case k0 => first | (with_reducible assumption) | decide); (case kx => first | (with_reducible assumption) | rfl); k_whole)))
theorem law_2_0 : ∀ {w : World} {base h : Heap} {L fa : Addr} {cd : Value} {mean : ExcName → Option Value} {mg mb : Str → Option Value} {sl D : Addr} {cs : List (Int × Tok)} {tn : Int} {tk1 tk2 : Tok} {o1 o2 : Obj} {g : Array GenState} {d : Drawn} {tk : Nat} {os : OsState} {QQ : Flow → Shared → Prop} {EE : Value → Shared → Prop} (XX : (hd.heap_39 w.params).In base) (A : Law2At w base h L mean mg mb sl D cs 0 tn tk1 tk2 o1 o2)
    (H : ∀ {h : Heap} {wl ol : Addr} {wv ov : List Value} {nw no : Nat} {ws : List (Str × Int)} {xs : List Str} {tp : List (Addr × Obj)} {o2 : Obj} {tk : Nat}, Law3At w base h L mean mg mb sl wl ol D 0 tn tk1 tk2 wv ov nw no words0 offs0 ws xs tp o1 o2 → wpAny (model PySem.Challenge.rw_eq0045_01.row.prog w) (LawA L fa cd) (execs (lawB.b.drop 5) (envOfC (Str.ofString "law") lawB.sc L fa cd)) QQ EE ⟨h, g, d, tk, os⟩),
  wpAny (model PySem.Challenge.rw_eq0045_01.row.prog w) (LawA L fa cd) (execs (lawB.b.drop 3) (envOfC (Str.ofString "law") lawB.sc L fa cd)) QQ EE ⟨h, g, d, tk, os⟩ := by
  w_top off
  k_fill
  intro w base h L fa cd mean mg mb sl D cs tn tk1 tk2 o1 o2 g d tk os QQ EE XX A H
  clear XX
  obtain ⟨F0, N0, X0, T0, B0, hw1, hw2, cd1, cd2, cd3, l0, hl, hr, p0, hp0, hkd, htn⟩ := A
  have ht4 : 0 ≤ tn ∧ tn < 4 := by rw [htn, Int.fmod_eq_emod_of_nonneg _ (by decide)]; omega
  match cs, hl, hp0 with
  | [q0, q1, q2, q3, q4, q5, q6, q7], _, hp0 =>
  cases hp0
  simp only [List.map_cons, List.map_nil] at N0
  dsimp only [lawB, LawA, List.drop]
  have hO : base.IsList 391 _ := ⟨_, X0 _ _ rfl, rfl, _, rfl⟩
  have hO0 : base.IsList 388 _ := ⟨_, X0 _ _ rfl, rfl, _, rfl⟩
  have hW : base.IsList 387 _ := ⟨_, X0 _ _ rfl, rfl, _, rfl⟩
  have hW0 : base.IsList 384 _ := ⟨_, X0 _ _ rfl, rfl, _, rfl⟩
  have hSW := strs_of hW0 (xs := words0) (.cons (.cons (.cons (.cons (.cons (.cons (.nil)))))))
  obtain ⟨tN, rfl⟩ := Int.eq_ofNat_of_zero_le ht4.1
  iterate 15 (try (first | (k_unfold; (try dsimp only)) | walk1 | (dsimp only; walk1)))
  with_reducible rename Fr _ _ _ _ => FA
  with_reducible rename News _ _ _ _ => NA
  refine sliceTail FA NA (hO0.at fun o e => FA.keep _ o e) (Nat.le_of_ble_eq_true rfl) (.int _ _) .none (fun D2 h2 F2 N2 l2 => ?_)
  rw [cutL_from] at N2
  clear FA NA
  iterate 10 (try (first | (k_unfold; (try dsimp only)) | walk1 | (dsimp only; walk1)))
  with_reducible rename Fr _ _ _ _ => FA
  refine sliceTail FA N2 (hO0.at fun o e => FA.keep _ o e) (Nat.le_of_ble_eq_true rfl) .none (.int _ _) (fun D4 h4 F4 N4 l4 => ?_)
  rw [cutL_upto] at N4
  clear FA N2
  iterate 1 (try (first | (k_unfold; (try dsimp only)) | walk1 | (dsimp only; walk1)))
  refine add_L F4 N4 (News.isList N4 (.tail _ (.head _))) (News.isList N4 (.head _)) (by simp only [List.length_drop, List.length_take, List.length_cons, List.length_nil]; omega) (fun D5 h5 F5 N5 l5 => ?_)
  dsimp only
  iterate 18 (try (first | (k_unfold; (try dsimp only)) | walk1 | (dsimp only; walk1)))
  obtain ⟨nN, hnN, hn1, hn4⟩ : ∃ nN : Nat, 1 + (p0.1.fdiv 12).fmod 4 = (nN : Int) ∧ 1 ≤ nN ∧ nN ≤ 4 := by
    have := Int.fmod_eq_emod_of_nonneg (p0.1.fdiv 12) (show (0 : Int) ≤ 4 by decide)
    exact ⟨(1 + (p0.1.fdiv 12).fmod 4).toNat, by omega, by omega, by omega⟩
  with_reducible rename Fr _ _ _ _ => FA
  refine sliceTail (hi := some (nN : Int)) FA N5 (News.isList N5 (.head _)) (by simp only [List.length_append, List.length_drop, List.length_take, List.length_cons, List.length_nil]; omega) .none (by rw [← hnN]; exact .int _ _) (fun D6 h6 F6 N6 l6 => ?_)
  rw [cutL_upto] at N6
  clear FA N5 N4 F4
  replace N6 := News.sub N6 (fun q (hq : q ∈ _ :: _ :: _ :: _ :: _ :: _ :: _ :: []) => mem_keepO hq)
  obtain ⟨ov, N7, hos⟩ : ∃ ov : List Value, News base L h6 ((D6, W.listOf ov.toArray 0) :: [(D, W.listOf #[.int p0.1 p0.2, .int q1.1 q1.2, .int q2.1 q2.2, .int q3.1 q3.2, .int q4.1 q4.2, .int q5.1 q5.2, .int q6.1 q6.2, .int q7.1 q7.2] 0), (L + 1 + 1, o2), (L + 1, o1), (172, tabObj #[]), (303, tabObj #[]), (375, tabObj #[])]) ∧ Strs ov ((offs0.drop tN ++ offs0.take tN).take nN) := ⟨_, N6, strs_cut (.cons (.cons (.cons (.cons (.nil))))) tN nN⟩
  clear N6
  dsimp only
  iterate 4 (try (first | (k_unfold; (try dsimp only)) | walk1 | (dsimp only; walk1)))
  with_reducible rename Fr _ _ _ _ => FB
  with_reducible rename News _ _ _ _ => NB
  refine LCg.ListComp_U FB (by with_unfolding_all rfl) (by decide) (by rfl) (by decide) (by rfl) ?_
  iterate 17 (try (first | (k_unfold; (try dsimp only)) | walk1 | (dsimp only; walk1)))
  obtain ⟨rN, hrN, hr6⟩ : ∃ rN : Nat, 2 + q1.1.fmod 7 = ((2 + rN : Nat) : Int) ∧ rN ≤ 6 := by
    have := Int.fmod_eq_emod_of_nonneg q1.1 (show (0 : Int) ≤ 7 by decide)
    exact ⟨(q1.1.fmod 7).toNat, by omega, by omega⟩
  refine sliceTail (lo := some ((2 : Nat) : Int)) (hi := some (((2 + rN : Nat)) : Int)) FB NB (News.isList NB (.tail _ (.head _))) (Nat.le_of_ble_eq_true rfl) (.int _ _) (by rw [← hrN]; exact .int _ _) (fun D8 h8 F8 N8 l8 => ?_)
  rw [cutL_run _ _ _ (by simp only [List.length_cons, List.length_nil]; omega) (by omega), Nat.add_sub_cancel_left] at N8
  have e8 : (List.drop 2 [Value.int p0.1 p0.2, .int q1.1 q1.2, .int q2.1 q2.2, .int q3.1 q3.2, .int q4.1 q4.2, .int q5.1 q5.2, .int q6.1 q6.2, .int q7.1 q7.2]).take rN = (([q2, q3, q4, q5, q6, q7] : List (Int × Tok)).take rN).map fun p => Value.int p.1 p.2 := by rw [List.map_take]; rfl
  rw [e8] at N8
  clear e8 FB NB
  have hcl : ∀ c ∈ ([q2, q3, q4, q5, q6, q7] : List (Int × Tok)).take rN, 0 ≤ c.1 ∧ c.1 < 100000 := fun c hc => hr c (.tail _ (.tail _ (List.mem_of_mem_take hc)))
  have hcl6 : (([q2, q3, q4, q5, q6, q7] : List (Int × Tok)).take rN).length ≤ 6 := by rw [List.length_take]; simp only [List.length_cons, List.length_nil]; omega
  generalize ([q2, q3, q4, q5, q6, q7] : List (Int × Tok)).take rN = cl at N8 hcl hcl6
  dsimp only
  refine with_led N8 (fun led NL hin hout => ?_)
  refine LCg.CompSrc.ledger (by rfl) F8 NL (hin _ (.head _)) (by rw [List.size_toArray, List.length_map]; exact Nat.le_trans hcl6 (by decide)) ?_
  intro h9
  refine compRest_inv (fun i ys nw => Pairs nw ys ((cl.take i).map fun c => wishK 0 words0 c.1) ∧ ∀ q ∈ led, q ∈ nw) ?_ ?_ _ 0 [] _ (Nat.zero_add _) ⟨trivial, fun _ h => h⟩
  · rintro i ys nw v I oI C oC D9 m₂ h tk E' hi ⟨hP, hsub⟩ hv hC hx F N off ne
    obtain ⟨c, hci, rfl⟩ : ∃ c, cl[i]? = some c ∧ v = .int c.1 c.2 := by
      rw [List.getElem?_toArray, List.getElem?_map] at hv
      obtain ⟨c, h1, h2⟩ := Option.map_eq_some_iff.mp hv
      exact ⟨c, h1, h2.symm⟩
    have hc0 := hcl c (List.mem_of_getElem? hci)
    have hm0 : 0 ≤ c.1.fmod 6 ∧ c.1.fmod 6 < 6 := by rw [Int.fmod_eq_emod_of_nonneg _ (by decide)]; omega
    have hm1 : 0 ≤ c.1.fmod 6 ∧ c.1.fmod 6 < 2 ^ 60 := ⟨hm0.1, by omega⟩
    obtain ⟨x5, t5, hx5, hy5⟩ := strs_some hSW (i := (c.1.fmod 6).toNat) (show (c.1.fmod 6).toNat < 6 by omega)
    have hmemK : (L + 1, o1) ∈ (I, oI) :: (C, oC) :: (D9, LCg.lst ys) :: nw := .tail _ (.tail _ (.tail _ (hsub _ (hin _ (.tail _ (.tail _ (.tail _ (.tail _ (.head _)))))))))
    clear F8 N8 NL
    refine wpAny_opaque fun Q5 hQ5 => ?_
    iterate 41 (try (first | (k_unfold; (try dsimp only)) | walk1 | (dsimp only; walk1)))
    refine hQ5 _ _ ?_
    clear hQ5 Q5
    with_reducible rename News _ _ _ _ => N6
    with_reducible rename Fr _ _ _ _ => F6
    with_reducible rename _ ∧ _ ∧ _ ∧ AllLt _ _ => l6
    have e1 : cl.take (i + 1) = cl.take i ++ [c] := by rw [List.take_add_one, hci]; rfl
    refine LCg.CompEnd.intro F6 N6 ((_, _) :: nw) (fun q hq => mem_rotI hq) ⟨⟨Nat.ne_of_gt l6.1, Nat.ne_of_gt l6.2.1, Nat.ne_of_gt l6.2.2.1⟩, off⟩ (.inr ⟨_, .tail _ (hsub _ (hin _ (.head _))), rfl, _, rfl⟩) ⟨?_, fun q hq => .tail _ (hsub q hq)⟩
    rw [e1, List.map_append]
    have e2 : wishK 0 words0 c.1 = (x5, (c.1.fdiv 6).fmod 5) := by
      have e3 : words0.getD (c.1.fmod (words0.length : Int)).toNat (Str.ofString "") = x5 := by
        rw [List.getD_eq_getElem?_getD]
        show (words0[(c.1.fmod 6).toNat]?).getD _ = x5
        rw [hy5]
        rfl
      unfold wishK
      rw [e3]
      rfl
    refine Pairs.snoc (p := wishK 0 words0 c.1) (Pairs.mono (fun _ h => .tail _ h) hP) (by rw [e2]; exact .head _)
  · rintro ys nw ⟨hP, hsub⟩ D9 h tk F N off
    rw [List.size_toArray, List.length_map, List.take_length] at hP
    have N5 : News _ _ h ((D9, W.listOf ys.toArray ys.length) :: (D6, W.listOf ov.toArray 0) :: (nw ++ [(D, W.listOf #[.int p0.1 p0.2, .int q1.1 q1.2, .int q2.1 q2.2, .int q3.1 q3.2, .int q4.1 q4.2, .int q5.1 q5.2, .int q6.1 q6.2, .int q7.1 q7.2] 0), (L + 1 + 1, o2), (L + 1, o1), (172, tabObj #[]), (303, tabObj #[]), (375, tabObj #[])])) := fun q hq => by
      rcases List.mem_cons.mp hq with rfl | hq
      · exact N _ (.head _)
      rcases List.mem_cons.mp hq with rfl | hq
      · exact N _ (.tail _ (hsub _ (hin _ (.tail _ (.head _)))))
      rcases List.mem_append.mp hq with hq | hq
      · exact N _ (.tail _ hq)
      · exact N _ (.tail _ (hsub _ (hin _ (.tail _ (.tail _ hq)))))
    clear N8 NL N F8 hin hout hsub
    obtain ⟨tp, ht1, ht2, hP2⟩ := Pairs.own hP
    have N9 : News base L h ((L + 1 + 1, o2) :: (D9, W.listOf ys.toArray ys.length) :: (D6, W.listOf ov.toArray 0) :: (tp ++ [(L + 1, o1), (172, tabObj #[]), (303, tabObj #[]), (375, tabObj #[])])) := News.sub N5 (fun q hq => mem_three' ht1 hq)
    clear N5 hP
    dsimp only
    refine storeX_C F N9 (by rfl) (UpdF.head (cell_put N9 ht2 hw1 hw2 l0)) hw2 (fun h' o' F' N' d' => ?_)
    clear N9 F
    dsimp only
    refine H (wl := D9) (ol := D6) (wv := ys) (ov := ov) (nw := ys.length) (no := 0) (tp := tp) (o2 := o') (ws := cl.map fun c => wishK 0 words0 c.1) ⟨Fr.as F' (by funext n; simp only [lookup_at, List.lookup_nil]), News.sub N' (fun q hq => mem_three hq), X0, T0, B0, hw1, d', cd1, cd2, cd3, l0, hP2, ht2, hos, ?_, ?_, ?_, ?_⟩
    · intro p hp
      obtain ⟨c, _, rfl⟩ := List.mem_map.mp hp
      exact wishK_ok (by decide)
    · intro x hx
      rcases List.mem_append.mp (List.mem_of_mem_take hx) with hx | hx
      · exact List.mem_of_mem_drop hx
      · exact List.mem_of_mem_take hx
    · rw [List.length_map]; exact hcl6
    · rw [List.length_take, List.length_append, List.length_drop, List.length_take]
      simp only [List.length_cons, List.length_nil]
      omega
end Mine
end

section
open PySem PySem.W PyProof.Rows PySem.Calls PySem.Spec
set_option Elab.async false
set_option maxRecDepth 100000
set_option maxHeartbeats 0
set_option linter.unusedVariables false
namespace Mine
local macro_rules | `(tactic| walk_at "none 0") => `(tactic| fail)
local macro_rules | `(tactic| walk_at "none 1") => `(tactic| fail)
local macro_rules | `(tactic| walk_at "none 2") => `(tactic| fail)
local macro_rules | `(tactic| walk_at "none 3") => `(tactic| fail)
local macro_rules | `(tactic| walk_at "none 4") => `(tactic| fail)
local macro_rules | `(tactic| walk_at "none 5") => `(tactic| fail)
local macro_rules | `(tactic| walk_at "none 6") => `(tactic| fail)
local macro_rules | `(tactic| walk_at "none 7") => `(tactic| fail)
local macro_rules | `(tactic| walk_at "none 8") => `(tactic| fail)
local macro_rules | `(tactic| walk_at "none 9") => `(tactic| fail)
local macro_rules | `(tactic| walk_at "none 10") => `(tactic| fail)
local macro_rules | `(tactic| walk_at "none 11") => `(tactic| fail)
local macro_rules | `(tactic| walk_at "none 12") => `(tactic| fail)
local macro_rules | `(tactic| walk_at "none 13") => `(tactic| fail)
local macro_rules | `(tactic| walk_at "none 14") => `(tactic| fail)
local macro_rules | `(tactic| walk_at "none 15") => `(tactic| fail)
local macro_rules | `(tactic| walk_at "none 16") => `(tactic| fail)
local macro_rules | `(tactic| walk_at "none 17") => `(tactic| fail)
local macro_rules | `(tactic| walk_at "none 18") => `(tactic| fail)
local macro_rules | `(tactic| walk_at "none 19") => `(tactic| fail)
local macro_rules | `(tactic| walk_at "none 20") => `(tactic| fail)
local macro_rules | `(tactic| walk_at "none 21") => `(tactic| fail)
local macro_rules | `(tactic| walk_at "none 22") => `(tactic| fail)
local macro_rules | `(tactic| walk_at "none 23") => `(tactic| fail)
local macro_rules | `(tactic| walk_at "none 24") => `(tactic| fail)
local macro_rules | `(tactic| k_mem) => `(tactic| with_reducible assumption)
local macro_rules | `(tactic| walk_at "subscriptTail") => `(tactic| (k_here; (with_reducible show wpAny _ _ (subscriptTail _ _ (Value.ref _) (Value.int _ _)) _ _ _); k_dflt (refine' item_b ?kF ?kl ?k0 ?kx ?_; (case kF => k_asm); (case kl => with_reducible assumption); (case k0 => first | (with_reducible assumption) | decide); (case kx => first | (with_reducible assumption) | rfl); k_whole)))
theorem law_2_1 : ∀ {w : World} {base h : Heap} {L fa : Addr} {cd : Value} {mean : ExcName → Option Value} {mg mb : Str → Option Value} {sl D : Addr} {cs : List (Int × Tok)} {tn : Int} {tk1 tk2 : Tok} {o1 o2 : Obj} {g : Array GenState} {d : Drawn} {tk : Nat} {os : OsState} {QQ : Flow → Shared → Prop} {EE : Value → Shared → Prop} (XX : (hd.heap_39 w.params).In base) (A : Law2At w base h L mean mg mb sl D cs 1 tn tk1 tk2 o1 o2)
    (H : ∀ {h : Heap} {wl ol : Addr} {wv ov : List Value} {nw no : Nat} {ws : List (Str × Int)} {xs : List Str} {tp : List (Addr × Obj)} {o2 : Obj} {tk : Nat}, Law3At w base h L mean mg mb sl wl ol D 1 tn tk1 tk2 wv ov nw no words1 offs1 ws xs tp o1 o2 → wpAny (model PySem.Challenge.rw_eq0045_01.row.prog w) (LawA L fa cd) (execs (lawB.b.drop 5) (envOfC (Str.ofString "law") lawB.sc L fa cd)) QQ EE ⟨h, g, d, tk, os⟩),
  wpAny (model PySem.Challenge.rw_eq0045_01.row.prog w) (LawA L fa cd) (execs (lawB.b.drop 3) (envOfC (Str.ofString "law") lawB.sc L fa cd)) QQ EE ⟨h, g, d, tk, os⟩ := by
  w_top off
  k_fill
  intro w base h L fa cd mean mg mb sl D cs tn tk1 tk2 o1 o2 g d tk os QQ EE XX A H
  clear XX
  obtain ⟨F0, N0, X0, T0, B0, hw1, hw2, cd1, cd2, cd3, l0, hl, hr, p0, hp0, hkd, htn⟩ := A
  have ht4 : 0 ≤ tn ∧ tn < 4 := by rw [htn, Int.fmod_eq_emod_of_nonneg _ (by decide)]; omega
  match cs, hl, hp0 with
  | [q0, q1, q2, q3, q4, q5, q6, q7], _, hp0 =>
  cases hp0
  simp only [List.map_cons, List.map_nil] at N0
  dsimp only [lawB, LawA, List.drop]
  have hO : base.IsList 391 _ := ⟨_, X0 _ _ rfl, rfl, _, rfl⟩
  have hO0 : base.IsList 389 _ := ⟨_, X0 _ _ rfl, rfl, _, rfl⟩
  have hW : base.IsList 387 _ := ⟨_, X0 _ _ rfl, rfl, _, rfl⟩
  have hW0 : base.IsList 385 _ := ⟨_, X0 _ _ rfl, rfl, _, rfl⟩
  have hSW := strs_of hW0 (xs := words1) (.cons (.cons (.cons (.cons (.cons (.cons (.cons (.nil))))))))
  obtain ⟨tN, rfl⟩ := Int.eq_ofNat_of_zero_le ht4.1
  iterate 15 (try (first | (k_unfold; (try dsimp only)) | walk1 | (dsimp only; walk1)))
  with_reducible rename Fr _ _ _ _ => FA
  with_reducible rename News _ _ _ _ => NA
  refine sliceTail FA NA (hO0.at fun o e => FA.keep _ o e) (Nat.le_of_ble_eq_true rfl) (.int _ _) .none (fun D2 h2 F2 N2 l2 => ?_)
  rw [cutL_from] at N2
  clear FA NA
  iterate 10 (try (first | (k_unfold; (try dsimp only)) | walk1 | (dsimp only; walk1)))
  with_reducible rename Fr _ _ _ _ => FA
  refine sliceTail FA N2 (hO0.at fun o e => FA.keep _ o e) (Nat.le_of_ble_eq_true rfl) .none (.int _ _) (fun D4 h4 F4 N4 l4 => ?_)
  rw [cutL_upto] at N4
  clear FA N2
  iterate 1 (try (first | (k_unfold; (try dsimp only)) | walk1 | (dsimp only; walk1)))
  refine add_L F4 N4 (News.isList N4 (.tail _ (.head _))) (News.isList N4 (.head _)) (by simp only [List.length_drop, List.length_take, List.length_cons, List.length_nil]; omega) (fun D5 h5 F5 N5 l5 => ?_)
  dsimp only
  iterate 18 (try (first | (k_unfold; (try dsimp only)) | walk1 | (dsimp only; walk1)))
  obtain ⟨nN, hnN, hn1, hn4⟩ : ∃ nN : Nat, 1 + (p0.1.fdiv 12).fmod 4 = (nN : Int) ∧ 1 ≤ nN ∧ nN ≤ 4 := by
    have := Int.fmod_eq_emod_of_nonneg (p0.1.fdiv 12) (show (0 : Int) ≤ 4 by decide)
    exact ⟨(1 + (p0.1.fdiv 12).fmod 4).toNat, by omega, by omega, by omega⟩
  with_reducible rename Fr _ _ _ _ => FA
  refine sliceTail (hi := some (nN : Int)) FA N5 (News.isList N5 (.head _)) (by simp only [List.length_append, List.length_drop, List.length_take, List.length_cons, List.length_nil]; omega) .none (by rw [← hnN]; exact .int _ _) (fun D6 h6 F6 N6 l6 => ?_)
  rw [cutL_upto] at N6
  clear FA N5 N4 F4
  replace N6 := News.sub N6 (fun q (hq : q ∈ _ :: _ :: _ :: _ :: _ :: _ :: _ :: []) => mem_keepO hq)
  obtain ⟨ov, N7, hos⟩ : ∃ ov : List Value, News base L h6 ((D6, W.listOf ov.toArray 0) :: [(D, W.listOf #[.int p0.1 p0.2, .int q1.1 q1.2, .int q2.1 q2.2, .int q3.1 q3.2, .int q4.1 q4.2, .int q5.1 q5.2, .int q6.1 q6.2, .int q7.1 q7.2] 0), (L + 1 + 1, o2), (L + 1, o1), (172, tabObj #[]), (303, tabObj #[]), (375, tabObj #[])]) ∧ Strs ov ((offs1.drop tN ++ offs1.take tN).take nN) := ⟨_, N6, strs_cut (.cons (.cons (.cons (.cons (.cons (.nil)))))) tN nN⟩
  clear N6
  dsimp only
  iterate 4 (try (first | (k_unfold; (try dsimp only)) | walk1 | (dsimp only; walk1)))
  with_reducible rename Fr _ _ _ _ => FB
  with_reducible rename News _ _ _ _ => NB
  refine LCg.ListComp_U FB (by with_unfolding_all rfl) (by decide) (by rfl) (by decide) (by rfl) ?_
  iterate 17 (try (first | (k_unfold; (try dsimp only)) | walk1 | (dsimp only; walk1)))
  obtain ⟨rN, hrN, hr6⟩ : ∃ rN : Nat, 2 + q1.1.fmod 7 = ((2 + rN : Nat) : Int) ∧ rN ≤ 6 := by
    have := Int.fmod_eq_emod_of_nonneg q1.1 (show (0 : Int) ≤ 7 by decide)
    exact ⟨(q1.1.fmod 7).toNat, by omega, by omega⟩
  refine sliceTail (lo := some ((2 : Nat) : Int)) (hi := some (((2 + rN : Nat)) : Int)) FB NB (News.isList NB (.tail _ (.head _))) (Nat.le_of_ble_eq_true rfl) (.int _ _) (by rw [← hrN]; exact .int _ _) (fun D8 h8 F8 N8 l8 => ?_)
  rw [cutL_run _ _ _ (by simp only [List.length_cons, List.length_nil]; omega) (by omega), Nat.add_sub_cancel_left] at N8
  have e8 : (List.drop 2 [Value.int p0.1 p0.2, .int q1.1 q1.2, .int q2.1 q2.2, .int q3.1 q3.2, .int q4.1 q4.2, .int q5.1 q5.2, .int q6.1 q6.2, .int q7.1 q7.2]).take rN = (([q2, q3, q4, q5, q6, q7] : List (Int × Tok)).take rN).map fun p => Value.int p.1 p.2 := by rw [List.map_take]; rfl
  rw [e8] at N8
  clear e8 FB NB
  have hcl : ∀ c ∈ ([q2, q3, q4, q5, q6, q7] : List (Int × Tok)).take rN, 0 ≤ c.1 ∧ c.1 < 100000 := fun c hc => hr c (.tail _ (.tail _ (List.mem_of_mem_take hc)))
  have hcl6 : (([q2, q3, q4, q5, q6, q7] : List (Int × Tok)).take rN).length ≤ 6 := by rw [List.length_take]; simp only [List.length_cons, List.length_nil]; omega
  generalize ([q2, q3, q4, q5, q6, q7] : List (Int × Tok)).take rN = cl at N8 hcl hcl6
  dsimp only
  refine with_led N8 (fun led NL hin hout => ?_)
  refine LCg.CompSrc.ledger (by rfl) F8 NL (hin _ (.head _)) (by rw [List.size_toArray, List.length_map]; exact Nat.le_trans hcl6 (by decide)) ?_
  intro h9
  refine compRest_inv (fun i ys nw => Pairs nw ys ((cl.take i).map fun c => wishK 1 words1 c.1) ∧ ∀ q ∈ led, q ∈ nw) ?_ ?_ _ 0 [] _ (Nat.zero_add _) ⟨trivial, fun _ h => h⟩
  · rintro i ys nw v I oI C oC D9 m₂ h tk E' hi ⟨hP, hsub⟩ hv hC hx F N off ne
    obtain ⟨c, hci, rfl⟩ : ∃ c, cl[i]? = some c ∧ v = .int c.1 c.2 := by
      rw [List.getElem?_toArray, List.getElem?_map] at hv
      obtain ⟨c, h1, h2⟩ := Option.map_eq_some_iff.mp hv
      exact ⟨c, h1, h2.symm⟩
    have hc0 := hcl c (List.mem_of_getElem? hci)
    have hm0 : 0 ≤ c.1.fmod 7 ∧ c.1.fmod 7 < 7 := by rw [Int.fmod_eq_emod_of_nonneg _ (by decide)]; omega
    have hm1 : 0 ≤ c.1.fmod 7 ∧ c.1.fmod 7 < 2 ^ 60 := ⟨hm0.1, by omega⟩
    obtain ⟨x5, t5, hx5, hy5⟩ := strs_some hSW (i := (c.1.fmod 7).toNat) (show (c.1.fmod 7).toNat < 7 by omega)
    have hmemK : (L + 1, o1) ∈ (I, oI) :: (C, oC) :: (D9, LCg.lst ys) :: nw := .tail _ (.tail _ (.tail _ (hsub _ (hin _ (.tail _ (.tail _ (.tail _ (.tail _ (.head _)))))))))
    clear F8 N8 NL
    refine wpAny_opaque fun Q5 hQ5 => ?_
    iterate 41 (try (first | (k_unfold; (try dsimp only)) | walk1 | (dsimp only; walk1)))
    refine hQ5 _ _ ?_
    clear hQ5 Q5
    with_reducible rename News _ _ _ _ => N6
    with_reducible rename Fr _ _ _ _ => F6
    with_reducible rename _ ∧ _ ∧ _ ∧ AllLt _ _ => l6
    have e1 : cl.take (i + 1) = cl.take i ++ [c] := by rw [List.take_add_one, hci]; rfl
    refine LCg.CompEnd.intro F6 N6 ((_, _) :: nw) (fun q hq => mem_rotI hq) ⟨⟨Nat.ne_of_gt l6.1, Nat.ne_of_gt l6.2.1, Nat.ne_of_gt l6.2.2.1⟩, off⟩ (.inr ⟨_, .tail _ (hsub _ (hin _ (.head _))), rfl, _, rfl⟩) ⟨?_, fun q hq => .tail _ (hsub q hq)⟩
    rw [e1, List.map_append]
    have e2 : wishK 1 words1 c.1 = (x5, (c.1.fdiv 6).fmod 5) := by
      have e3 : words1.getD (c.1.fmod (words1.length : Int)).toNat (Str.ofString "") = x5 := by
        rw [List.getD_eq_getElem?_getD]
        show (words1[(c.1.fmod 7).toNat]?).getD _ = x5
        rw [hy5]
        rfl
      unfold wishK
      rw [e3]
      rfl
    refine Pairs.snoc (p := wishK 1 words1 c.1) (Pairs.mono (fun _ h => .tail _ h) hP) (by rw [e2]; exact .head _)
  · rintro ys nw ⟨hP, hsub⟩ D9 h tk F N off
    rw [List.size_toArray, List.length_map, List.take_length] at hP
    have N5 : News _ _ h ((D9, W.listOf ys.toArray ys.length) :: (D6, W.listOf ov.toArray 0) :: (nw ++ [(D, W.listOf #[.int p0.1 p0.2, .int q1.1 q1.2, .int q2.1 q2.2, .int q3.1 q3.2, .int q4.1 q4.2, .int q5.1 q5.2, .int q6.1 q6.2, .int q7.1 q7.2] 0), (L + 1 + 1, o2), (L + 1, o1), (172, tabObj #[]), (303, tabObj #[]), (375, tabObj #[])])) := fun q hq => by
      rcases List.mem_cons.mp hq with rfl | hq
      · exact N _ (.head _)
      rcases List.mem_cons.mp hq with rfl | hq
      · exact N _ (.tail _ (hsub _ (hin _ (.tail _ (.head _)))))
      rcases List.mem_append.mp hq with hq | hq
      · exact N _ (.tail _ hq)
      · exact N _ (.tail _ (hsub _ (hin _ (.tail _ (.tail _ hq)))))
    clear N8 NL N F8 hin hout hsub
    obtain ⟨tp, ht1, ht2, hP2⟩ := Pairs.own hP
    have N9 : News base L h ((L + 1 + 1, o2) :: (D9, W.listOf ys.toArray ys.length) :: (D6, W.listOf ov.toArray 0) :: (tp ++ [(L + 1, o1), (172, tabObj #[]), (303, tabObj #[]), (375, tabObj #[])])) := News.sub N5 (fun q hq => mem_three' ht1 hq)
    clear N5 hP
    dsimp only
    refine storeX_C F N9 (by rfl) (UpdF.head (cell_put N9 ht2 hw1 hw2 l0)) hw2 (fun h' o' F' N' d' => ?_)
    clear N9 F
    dsimp only
    refine H (wl := D9) (ol := D6) (wv := ys) (ov := ov) (nw := ys.length) (no := 0) (tp := tp) (o2 := o') (ws := cl.map fun c => wishK 1 words1 c.1) ⟨Fr.as F' (by funext n; simp only [lookup_at, List.lookup_nil]), News.sub N' (fun q hq => mem_three hq), X0, T0, B0, hw1, d', cd1, cd2, cd3, l0, hP2, ht2, hos, ?_, ?_, ?_, ?_⟩
    · intro p hp
      obtain ⟨c, _, rfl⟩ := List.mem_map.mp hp
      exact wishK_ok (by decide)
    · intro x hx
      rcases List.mem_append.mp (List.mem_of_mem_take hx) with hx | hx
      · exact List.mem_of_mem_drop hx
      · exact List.mem_of_mem_take hx
    · rw [List.length_map]; exact hcl6
    · rw [List.length_take, List.length_append, List.length_drop, List.length_take]
      simp only [List.length_cons, List.length_nil]
      omega
end Mine
end

section
open PySem PySem.W PyProof.Rows PySem.Calls PySem.Spec
set_option Elab.async false
set_option maxRecDepth 100000
set_option maxHeartbeats 0
set_option linter.unusedVariables false
namespace Mine
local macro_rules | `(tactic| walk_at "none 0") => `(tactic| fail)
local macro_rules | `(tactic| walk_at "none 1") => `(tactic| fail)
local macro_rules | `(tactic| walk_at "none 2") => `(tactic| fail)
local macro_rules | `(tactic| walk_at "none 3") => `(tactic| fail)
local macro_rules | `(tactic| walk_at "none 4") => `(tactic| fail)
local macro_rules | `(tactic| walk_at "none 5") => `(tactic| fail)
local macro_rules | `(tactic| walk_at "none 6") => `(tactic| fail)
local macro_rules | `(tactic| walk_at "none 7") => `(tactic| fail)
local macro_rules | `(tactic| walk_at "none 8") => `(tactic| fail)
local macro_rules | `(tactic| walk_at "none 9") => `(tactic| fail)
local macro_rules | `(tactic| walk_at "none 10") => `(tactic| fail)
local macro_rules | `(tactic| walk_at "none 11") => `(tactic| fail)
local macro_rules | `(tactic| walk_at "none 12") => `(tactic| fail)
local macro_rules | `(tactic| walk_at "none 13") => `(tactic| fail)
local macro_rules | `(tactic| walk_at "none 14") => `(tactic| fail)
local macro_rules | `(tactic| walk_at "none 15") => `(tactic| fail)
local macro_rules | `(tactic| walk_at "none 16") => `(tactic| fail)
local macro_rules | `(tactic| walk_at "none 17") => `(tactic| fail)
local macro_rules | `(tactic| walk_at "none 18") => `(tactic| fail)
local macro_rules | `(tactic| walk_at "none 19") => `(tactic| fail)
local macro_rules | `(tactic| walk_at "none 20") => `(tactic| fail)
local macro_rules | `(tactic| walk_at "none 21") => `(tactic| fail)
local macro_rules | `(tactic| walk_at "none 22") => `(tactic| fail)
local macro_rules | `(tactic| walk_at "none 23") => `(tactic| fail)
local macro_rules | `(tactic| walk_at "none 24") => `(tactic| fail)
local macro_rules | `(tactic| walk_at "none 25") => `(tactic| fail)
local macro_rules | `(tactic| k_mem) => `(tactic| with_reducible assumption)
local macro_rules | `(tactic| walk_at "subscriptTail") => `(tactic| (k_here; (with_reducible show wpAny _ _ (subscriptTail _ _ (Value.ref _) (Value.int _ _)) _ _ _); k_dflt (refine' item_b ?kF ?kl ?k0 ?kx ?_; (case kF => k_asm); (case kl => with_reducible assumption); (case k0 => first | (with_reducible assumption) | decide); (case kx => first | (with_reducible assumption) | rfl); k_whole)))
theorem law_2_2 : ∀ {w : World} {base h : Heap} {L fa : Addr} {cd : Value} {mean : ExcName → Option Value} {mg mb : Str → Option Value} {sl D : Addr} {cs : List (Int × Tok)} {tn : Int} {tk1 tk2 : Tok} {o1 o2 : Obj} {g : Array GenState} {d : Drawn} {tk : Nat} {os : OsState} {QQ : Flow → Shared → Prop} {EE : Value → Shared → Prop} (XX : (hd.heap_39 w.params).In base) (A : Law2At w base h L mean mg mb sl D cs 2 tn tk1 tk2 o1 o2)
    (H : ∀ {h : Heap} {wl ol : Addr} {wv ov : List Value} {nw no : Nat} {ws : List (Str × Int)} {xs : List Str} {tp : List (Addr × Obj)} {o2 : Obj} {tk : Nat}, Law3At w base h L mean mg mb sl wl ol D 2 tn tk1 tk2 wv ov nw no words2 offs2 ws xs tp o1 o2 → wpAny (model PySem.Challenge.rw_eq0045_01.row.prog w) (LawA L fa cd) (execs (lawB.b.drop 5) (envOfC (Str.ofString "law") lawB.sc L fa cd)) QQ EE ⟨h, g, d, tk, os⟩),
  wpAny (model PySem.Challenge.rw_eq0045_01.row.prog w) (LawA L fa cd) (execs (lawB.b.drop 3) (envOfC (Str.ofString "law") lawB.sc L fa cd)) QQ EE ⟨h, g, d, tk, os⟩ := by
  w_top off
  k_fill
  intro w base h L fa cd mean mg mb sl D cs tn tk1 tk2 o1 o2 g d tk os QQ EE XX A H
  clear XX
  obtain ⟨F0, N0, X0, T0, B0, hw1, hw2, cd1, cd2, cd3, l0, hl, hr, p0, hp0, hkd, htn⟩ := A
  have ht4 : 0 ≤ tn ∧ tn < 4 := by rw [htn, Int.fmod_eq_emod_of_nonneg _ (by decide)]; omega
  match cs, hl, hp0 with
  | [q0, q1, q2, q3, q4, q5, q6, q7], _, hp0 =>
  cases hp0
  simp only [List.map_cons, List.map_nil] at N0
  dsimp only [lawB, LawA, List.drop]
  have hO : base.IsList 391 _ := ⟨_, X0 _ _ rfl, rfl, _, rfl⟩
  have hO0 : base.IsList 390 _ := ⟨_, X0 _ _ rfl, rfl, _, rfl⟩
  have hW : base.IsList 387 _ := ⟨_, X0 _ _ rfl, rfl, _, rfl⟩
  have hW0 : base.IsList 386 _ := ⟨_, X0 _ _ rfl, rfl, _, rfl⟩
  have hSW := strs_of hW0 (xs := words2) (.cons (.cons (.cons (.cons (.cons (.cons (.nil)))))))
  obtain ⟨tN, rfl⟩ := Int.eq_ofNat_of_zero_le ht4.1
  iterate 15 (try (first | (k_unfold; (try dsimp only)) | walk1 | (dsimp only; walk1)))
  with_reducible rename Fr _ _ _ _ => FA
  with_reducible rename News _ _ _ _ => NA
  refine sliceTail FA NA (hO0.at fun o e => FA.keep _ o e) (Nat.le_of_ble_eq_true rfl) (.int _ _) .none (fun D2 h2 F2 N2 l2 => ?_)
  rw [cutL_from] at N2
  clear FA NA
  iterate 10 (try (first | (k_unfold; (try dsimp only)) | walk1 | (dsimp only; walk1)))
  with_reducible rename Fr _ _ _ _ => FA
  refine sliceTail FA N2 (hO0.at fun o e => FA.keep _ o e) (Nat.le_of_ble_eq_true rfl) .none (.int _ _) (fun D4 h4 F4 N4 l4 => ?_)
  rw [cutL_upto] at N4
  clear FA N2
  iterate 1 (try (first | (k_unfold; (try dsimp only)) | walk1 | (dsimp only; walk1)))
  refine add_L F4 N4 (News.isList N4 (.tail _ (.head _))) (News.isList N4 (.head _)) (by simp only [List.length_drop, List.length_take, List.length_cons, List.length_nil]; omega) (fun D5 h5 F5 N5 l5 => ?_)
  dsimp only
  iterate 18 (try (first | (k_unfold; (try dsimp only)) | walk1 | (dsimp only; walk1)))
  obtain ⟨nN, hnN, hn1, hn4⟩ : ∃ nN : Nat, 1 + (p0.1.fdiv 12).fmod 4 = (nN : Int) ∧ 1 ≤ nN ∧ nN ≤ 4 := by
    have := Int.fmod_eq_emod_of_nonneg (p0.1.fdiv 12) (show (0 : Int) ≤ 4 by decide)
    exact ⟨(1 + (p0.1.fdiv 12).fmod 4).toNat, by omega, by omega, by omega⟩
  with_reducible rename Fr _ _ _ _ => FA
  refine sliceTail (hi := some (nN : Int)) FA N5 (News.isList N5 (.head _)) (by simp only [List.length_append, List.length_drop, List.length_take, List.length_cons, List.length_nil]; omega) .none (by rw [← hnN]; exact .int _ _) (fun D6 h6 F6 N6 l6 => ?_)
  rw [cutL_upto] at N6
  clear FA N5 N4 F4
  replace N6 := News.sub N6 (fun q (hq : q ∈ _ :: _ :: _ :: _ :: _ :: _ :: _ :: []) => mem_keepO hq)
  obtain ⟨ov, N7, hos⟩ : ∃ ov : List Value, News base L h6 ((D6, W.listOf ov.toArray 0) :: [(D, W.listOf #[.int p0.1 p0.2, .int q1.1 q1.2, .int q2.1 q2.2, .int q3.1 q3.2, .int q4.1 q4.2, .int q5.1 q5.2, .int q6.1 q6.2, .int q7.1 q7.2] 0), (L + 1 + 1, o2), (L + 1, o1), (172, tabObj #[]), (303, tabObj #[]), (375, tabObj #[])]) ∧ Strs ov ((offs2.drop tN ++ offs2.take tN).take nN) := ⟨_, N6, strs_cut (.cons (.cons (.cons (.cons (.nil))))) tN nN⟩
  clear N6
  dsimp only
  iterate 4 (try (first | (k_unfold; (try dsimp only)) | walk1 | (dsimp only; walk1)))
  with_reducible rename Fr _ _ _ _ => FB
  with_reducible rename News _ _ _ _ => NB
  refine LCg.ListComp_U FB (by with_unfolding_all rfl) (by decide) (by rfl) (by decide) (by rfl) ?_
  iterate 17 (try (first | (k_unfold; (try dsimp only)) | walk1 | (dsimp only; walk1)))
  obtain ⟨rN, hrN, hr6⟩ : ∃ rN : Nat, 2 + q1.1.fmod 7 = ((2 + rN : Nat) : Int) ∧ rN ≤ 6 := by
    have := Int.fmod_eq_emod_of_nonneg q1.1 (show (0 : Int) ≤ 7 by decide)
    exact ⟨(q1.1.fmod 7).toNat, by omega, by omega⟩
  refine sliceTail (lo := some ((2 : Nat) : Int)) (hi := some (((2 + rN : Nat)) : Int)) FB NB (News.isList NB (.tail _ (.head _))) (Nat.le_of_ble_eq_true rfl) (.int _ _) (by rw [← hrN]; exact .int _ _) (fun D8 h8 F8 N8 l8 => ?_)
  rw [cutL_run _ _ _ (by simp only [List.length_cons, List.length_nil]; omega) (by omega), Nat.add_sub_cancel_left] at N8
  have e8 : (List.drop 2 [Value.int p0.1 p0.2, .int q1.1 q1.2, .int q2.1 q2.2, .int q3.1 q3.2, .int q4.1 q4.2, .int q5.1 q5.2, .int q6.1 q6.2, .int q7.1 q7.2]).take rN = (([q2, q3, q4, q5, q6, q7] : List (Int × Tok)).take rN).map fun p => Value.int p.1 p.2 := by rw [List.map_take]; rfl
  rw [e8] at N8
  clear e8 FB NB
  have hcl : ∀ c ∈ ([q2, q3, q4, q5, q6, q7] : List (Int × Tok)).take rN, 0 ≤ c.1 ∧ c.1 < 100000 := fun c hc => hr c (.tail _ (.tail _ (List.mem_of_mem_take hc)))
  have hcl6 : (([q2, q3, q4, q5, q6, q7] : List (Int × Tok)).take rN).length ≤ 6 := by rw [List.length_take]; simp only [List.length_cons, List.length_nil]; omega
  generalize ([q2, q3, q4, q5, q6, q7] : List (Int × Tok)).take rN = cl at N8 hcl hcl6
  dsimp only
  refine with_led N8 (fun led NL hin hout => ?_)
  refine LCg.CompSrc.ledger (by rfl) F8 NL (hin _ (.head _)) (by rw [List.size_toArray, List.length_map]; exact Nat.le_trans hcl6 (by decide)) ?_
  intro h9
  refine compRest_inv (fun i ys nw => Pairs nw ys ((cl.take i).map fun c => wishK 2 words2 c.1) ∧ ∀ q ∈ led, q ∈ nw) ?_ ?_ _ 0 [] _ (Nat.zero_add _) ⟨trivial, fun _ h => h⟩
  · rintro i ys nw v I oI C oC D9 m₂ h tk E' hi ⟨hP, hsub⟩ hv hC hx F N off ne
    obtain ⟨c, hci, rfl⟩ : ∃ c, cl[i]? = some c ∧ v = .int c.1 c.2 := by
      rw [List.getElem?_toArray, List.getElem?_map] at hv
      obtain ⟨c, h1, h2⟩ := Option.map_eq_some_iff.mp hv
      exact ⟨c, h1, h2.symm⟩
    have hc0 := hcl c (List.mem_of_getElem? hci)
    have hm0 : 0 ≤ c.1.fmod 6 ∧ c.1.fmod 6 < 6 := by rw [Int.fmod_eq_emod_of_nonneg _ (by decide)]; omega
    have hm1 : 0 ≤ c.1.fmod 6 ∧ c.1.fmod 6 < 2 ^ 60 := ⟨hm0.1, by omega⟩
    obtain ⟨x5, t5, hx5, hy5⟩ := strs_some hSW (i := (c.1.fmod 6).toNat) (show (c.1.fmod 6).toNat < 6 by omega)
    have hmemK : (L + 1, o1) ∈ (I, oI) :: (C, oC) :: (D9, LCg.lst ys) :: nw := .tail _ (.tail _ (.tail _ (hsub _ (hin _ (.tail _ (.tail _ (.tail _ (.tail _ (.head _)))))))))
    clear F8 N8 NL
    refine wpAny_opaque fun Q5 hQ5 => ?_
    iterate 41 (try (first | (k_unfold; (try dsimp only)) | walk1 | (dsimp only; walk1)))
    refine hQ5 _ _ ?_
    clear hQ5 Q5
    with_reducible rename News _ _ _ _ => N6
    with_reducible rename Fr _ _ _ _ => F6
    with_reducible rename _ ∧ _ ∧ _ ∧ AllLt _ _ => l6
    have e1 : cl.take (i + 1) = cl.take i ++ [c] := by rw [List.take_add_one, hci]; rfl
    refine LCg.CompEnd.intro F6 N6 ((_, _) :: nw) (fun q hq => mem_rotI hq) ⟨⟨Nat.ne_of_gt l6.1, Nat.ne_of_gt l6.2.1, Nat.ne_of_gt l6.2.2.1⟩, off⟩ (.inr ⟨_, .tail _ (hsub _ (hin _ (.head _))), rfl, _, rfl⟩) ⟨?_, fun q hq => .tail _ (hsub q hq)⟩
    rw [e1, List.map_append]
    have e2 : wishK 2 words2 c.1 = (x5, 1 + (c.1.fdiv 6).fmod 4) := by
      have e3 : words2.getD (c.1.fmod (words2.length : Int)).toNat (Str.ofString "") = x5 := by
        rw [List.getD_eq_getElem?_getD]
        show (words2[(c.1.fmod 6).toNat]?).getD _ = x5
        rw [hy5]
        rfl
      unfold wishK
      rw [e3]
      rfl
    refine Pairs.snoc (p := wishK 2 words2 c.1) (Pairs.mono (fun _ h => .tail _ h) hP) (by rw [e2]; exact .head _)
  · rintro ys nw ⟨hP, hsub⟩ D9 h tk F N off
    rw [List.size_toArray, List.length_map, List.take_length] at hP
    have N5 : News _ _ h ((D9, W.listOf ys.toArray ys.length) :: (D6, W.listOf ov.toArray 0) :: (nw ++ [(D, W.listOf #[.int p0.1 p0.2, .int q1.1 q1.2, .int q2.1 q2.2, .int q3.1 q3.2, .int q4.1 q4.2, .int q5.1 q5.2, .int q6.1 q6.2, .int q7.1 q7.2] 0), (L + 1 + 1, o2), (L + 1, o1), (172, tabObj #[]), (303, tabObj #[]), (375, tabObj #[])])) := fun q hq => by
      rcases List.mem_cons.mp hq with rfl | hq
      · exact N _ (.head _)
      rcases List.mem_cons.mp hq with rfl | hq
      · exact N _ (.tail _ (hsub _ (hin _ (.tail _ (.head _)))))
      rcases List.mem_append.mp hq with hq | hq
      · exact N _ (.tail _ hq)
      · exact N _ (.tail _ (hsub _ (hin _ (.tail _ (.tail _ hq)))))
    clear N8 NL N F8 hin hout hsub
    obtain ⟨tp, ht1, ht2, hP2⟩ := Pairs.own hP
    have N9 : News base L h ((L + 1 + 1, o2) :: (D9, W.listOf ys.toArray ys.length) :: (D6, W.listOf ov.toArray 0) :: (tp ++ [(L + 1, o1), (172, tabObj #[]), (303, tabObj #[]), (375, tabObj #[])])) := News.sub N5 (fun q hq => mem_three' ht1 hq)
    clear N5 hP
    dsimp only
    refine storeX_C F N9 (by rfl) (UpdF.head (cell_put N9 ht2 hw1 hw2 l0)) hw2 (fun h' o' F' N' d' => ?_)
    clear N9 F
    dsimp only
    refine H (wl := D9) (ol := D6) (wv := ys) (ov := ov) (nw := ys.length) (no := 0) (tp := tp) (o2 := o') (ws := cl.map fun c => wishK 2 words2 c.1) ⟨Fr.as F' (by funext n; simp only [lookup_at, List.lookup_nil]), News.sub N' (fun q hq => mem_three hq), X0, T0, B0, hw1, d', cd1, cd2, cd3, l0, hP2, ht2, hos, ?_, ?_, ?_, ?_⟩
    · intro p hp
      obtain ⟨c, _, rfl⟩ := List.mem_map.mp hp
      exact wishK_ok (by decide)
    · intro x hx
      rcases List.mem_append.mp (List.mem_of_mem_take hx) with hx | hx
      · exact List.mem_of_mem_drop hx
      · exact List.mem_of_mem_take hx
    · rw [List.length_map]; exact hcl6
    · rw [List.length_take, List.length_append, List.length_drop, List.length_take]
      simp only [List.length_cons, List.length_nil]
      omega
end Mine
end

section
open PySem PySem.W PyProof.Rows PySem.Calls PySem.Spec
set_option Elab.async false
set_option maxRecDepth 100000
set_option linter.unusedVariables false
namespace Mine
theorem cho_1 {w : World} {k : Int} {Ft : Str → Str → Int} {Okf : Str → Str → Prop} {words offs : List Str} (hF : FitSpec w k Ft Okf) (hk : k ≠ 2) (hOkf : ∀ x ∈ offs, ∀ p ∈ words, Okf p x) : ChO w k words offs Ft (fun ws xs => bestIx (scoresOf Ft ws xs)) :=
  fun u wl ol wv ov nw no ws xs h1 h2 hp hos hw hx hlx hlw => chosen_1 hF hk u wl ol wv ov nw no ws xs h1 h2 hp hos (fun x hx' p hp' => hOkf x (hx x hx') p.1 (hw p hp')) hlx
theorem cho_2 {w : World} {words offs : List Str} (hF0 : FitSpec w 0 fit0 Okf0) (hF2 : FitSpec w 2 fit0 Okf0) (hOkf : ∀ x ∈ offs, ∀ p ∈ words, Okf0 p x) (hmw : ∀ p ∈ words, MainTOk p) (hmx : ∀ x ∈ offs, MainTOk x) (hok1 : ∀ x ∈ offs, ∀ p ∈ words, Okf0 (mainT p) x) (hok3 : ∀ x ∈ offs, ∀ p ∈ words, Okf0 p (mainT x)) : ChO w 2 words offs fit0 chosen2 :=
  fun u wl ol wv ov nw no ws xs h1 h2 hp hos hw hx hlx hlw => chosen_2 hF0 hF2 u wl ol wv ov nw no ws xs h1 h2 hp hos (fun x hx' p hp' => hOkf x (hx x hx') p.1 (hw p hp')) hlx hlw (fun p hp' => hmw _ (hw p hp')) (fun x hx' => hmx _ (hx x hx'))
    (fun x hx' p hp' => by
      obtain ⟨q, hq, rfl⟩ := List.mem_map.mp hp'
      exact hok1 x (hx x hx') q.1 (hw q hq))
    (fun x hx' p hp' => by
      obtain ⟨y, hy, rfl⟩ := List.mem_map.mp hx'
      exact hok3 y (hx y hy) p.1 (hw p hp'))
end Mine
end

section
open PySem PySem.W PyProof.Rows PySem.Calls PySem.Spec
set_option Elab.async false
set_option maxRecDepth 100000
set_option linter.unusedVariables false
namespace Mine
theorem cho0 {w : World} : ChO w 0 words0 offs0 fit0 (fun ws xs => bestIx (scoresOf fit0 ws xs)) := cho_1 fitS0 (by decide) okf0_menu
theorem cho1 {w : World} : ChO w 1 words1 offs1 fitM (fun ws xs => bestIx (scoresOf fitM ws xs)) := cho_1 fitS1 (by decide) okf1_menu
theorem cho2 {w : World} : ChO w 2 words2 offs2 fit0 chosen2 := cho_2 fitS0 fitS2 okf2_menu (fun p hp => maint_menu p (List.mem_append_left _ hp)) (fun x hx => maint_menu x (List.mem_append_right _ hx)) okf2a_menu okf2b_menu
end Mine
end

section
open PySem PySem.W PyProof.Rows PySem.Calls PySem.Spec
set_option Elab.async false
set_option maxRecDepth 100000
set_option linter.unusedVariables false
namespace Mine
/-- the law's run, from the contracts of the loop's body -/
theorem law_from {w : World} {base h : Heap} {L fa : Addr} {cd : Value} {mean : ExcName → Option Value} {mg mb : Str → Option Value} {sl : Addr} {sv : List Value} {ns : List Int} {o1 o2 : Obj} {g : Array GenState} {d : Drawn} {tk : Nat} {os : OsState} {QQ : Flow → Shared → Prop} {EE : Value → Shared → Prop} (A : LawAt w base h L mean mg mb sl sv ns o1 o2) (fin : LawEnd base L g d os QQ)
    (B0 : ∀ {ol D : Addr} {tk1 : Tok} {ov vs : List Value} {wd : Value} {no ns : Nat} {ws : List (Str × Int)} {xs : List Str} {o1 : Obj} (m₀ : Str → Option Value), Law5 w base L fa cd mean mg mb ol D 0 tk1 ov vs wd no ns words0 offs0 ws xs (bestIx (scoresOf fit0 ws xs)) (scoresOf fit0 ws xs) o1 m₀ d os)
    (B1 : ∀ {ol D : Addr} {tk1 : Tok} {ov vs : List Value} {wd : Value} {no ns : Nat} {ws : List (Str × Int)} {xs : List Str} {o1 : Obj} (m₀ : Str → Option Value), Law5 w base L fa cd mean mg mb ol D 1 tk1 ov vs wd no ns words1 offs1 ws xs (bestIx (scoresOf fitM ws xs)) (scoresOf fitM ws xs) o1 m₀ d os)
    (B2 : ∀ {ol D : Addr} {tk1 : Tok} {ov vs : List Value} {wd : Value} {no ns : Nat} {ws : List (Str × Int)} {xs : List Str} {o1 : Obj} (m₀ : Str → Option Value), Law5 w base L fa cd mean mg mb ol D 2 tk1 ov vs wd no ns words2 offs2 ws xs (chosen2 ws xs) (scoresOf fit0 ws xs) o1 m₀ d os) :
  wpAny (model PySem.Challenge.rw_eq0045_01.row.prog w) (LawA L fa cd) (execs lawB.b (envOfC (Str.ofString "law") lawB.sc L fa cd)) QQ EE ⟨h, g, d, tk, os⟩ := by
  have X := A.X
  refine law_1 X A fun {h D cs kd tn tk1 tk2 o1 o2 tk} A2 => ?_
  obtain ⟨p, hp, hk, _⟩ := A2.hk
  have h3 : kd = 0 ∨ kd = 1 ∨ kd = 2 := by rw [hk, Int.fmod_eq_emod_of_nonneg _ (by decide)]; omega
  clear hk
  rcases h3 with rfl | rfl | rfl
  · exact law_2_0 X A2 fun A3 => law_3 X A3 cho0 fun A4 hG => law_4 X A4 hG fin fun m₀ => B0 m₀
  · exact law_2_1 X A2 fun A3 => law_3 X A3 cho1 fun A4 hG => law_4 X A4 hG fin fun m₀ => B1 m₀
  · exact law_2_2 X A2 fun A3 => law_3 X A3 cho2 fun A4 hG => law_4 X A4 hG fin fun m₀ => B2 m₀
end Mine
end

section
open PySem PySem.W PyProof.Rows PySem.Calls PySem.Spec
set_option Elab.async false
set_option maxRecDepth 100000
set_option linter.unusedVariables false
namespace Mine
def lokB (x : Str) : Bool := decide (x.length ≤ 300) && (match splitStr langCode (Txt.lower x) 0 with
  | some px => decide (px.length ≤ 1000) && px.all PyData.strOk
  | _ => false)
theorem lokB_ok {x : Str} (h : lokB x = true) : ∃ px, LOk x px := by
  unfold lokB at h
  simp only [Bool.and_eq_true, decide_eq_true_eq] at h
  have h2 := h.2
  split at h2
  · rename_i px e
    simp only [Bool.and_eq_true, decide_eq_true_eq] at h2
    exact ⟨px, h.1, e, h2.1, h2.2⟩
  · cases h2
theorem lok_menu : ∀ x ∈ words2 ++ offs2 ++ offs2.map mainL, ∃ px, LOk x px := fun x hx => lokB_ok ((by decide +kernel : ∀ x ∈ words2 ++ offs2 ++ offs2.map mainL, lokB x = true) x hx)
theorem okp2_menu : ∀ x ∈ offs2, ∀ p ∈ words2, Okp2 x p := fun x hx p hp => by
  obtain ⟨px, h1⟩ := lok_menu x (List.mem_append_left _ (List.mem_append_right _ hx))
  obtain ⟨py, h2⟩ := lok_menu p (List.mem_append_left _ (List.mem_append_left _ hp))
  exact ⟨px, py, h1, h2⟩
theorem okp2m_menu : ∀ x ∈ offs2, ∀ p ∈ words2, Okp2 (mainL x) p := fun x hx p hp => by
  obtain ⟨px, h1⟩ := lok_menu (mainL x) (List.mem_append_right _ (List.mem_map_of_mem hx))
  obtain ⟨py, h2⟩ := lok_menu p (List.mem_append_left _ (List.mem_append_left _ hp))
  exact ⟨px, py, h1, h2⟩
theorem okp0m_menu : ∀ x ∈ offs2, ∀ p ∈ words2, Okp0 x (mainL p) := by unfold Okp0; decide +kernel
end Mine
end

section
open PySem PySem.W PyProof.Rows PySem.Calls PySem.Spec
set_option Elab.async false
set_option maxRecDepth 100000
set_option linter.unusedVariables false
namespace Mine
theorem starts_menu : ∀ x ∈ offs2, ∀ y ∈ offs2, Txt.startswith x (mainT y) = true → mainT x = mainT y := by decide +kernel
theorem best_ix {M : Str → Str → Bool} {Sp : Str → List Bool} {fit : Str → Str → Int} {words offs : List Str} (ok : FitOk M Sp fit words offs) {ws os : List (Str × Int)} (hw : ∀ p ∈ os, p.1 ∈ words) (hp : os.Perm ws) (ho : Ordered Sp os) {xs : List Str} (hx : ∀ x ∈ xs, x ∈ offs) :
    (bestOf M Sp os xs = none ∧ bestIx (scoresOf fit ws xs) = -1) ∨ ∃ x q s, ∃ k : Nat, bestOf M Sp os xs = some (x, q, s) ∧ bestIx (scoresOf fit ws xs) = k ∧ xs[k]? = some x ∧ ∀ j < k, (scoresOf fit ws xs)[j]? ≠ (scoresOf fit ws xs)[k]? := by
  have b := best_eq ok hw hp ho hx
  cases hb : bestOf M Sp os xs with
  | none =>
    rw [hb] at b
    exact .inl ⟨rfl, b⟩
  | some r =>
    obtain ⟨x, q, s⟩ := r
    rw [hb] at b
    obtain ⟨k, h1, h2, h3⟩ := b
    exact .inr ⟨x, q, s, k, rfl, h1, h2, h3⟩
theorem find_first {xs : List Str} {f : Str → Bool} {k : Nat} {x : Str} (hk : xs[k]? = some x) (hx : f x = true) (hn : ∀ j y, j < k → xs[j]? = some y → f y = false) : xs.find? f = some x := by
  obtain ⟨hlt, e⟩ := List.getElem?_eq_some_iff.mp hk
  rw [List.find?_eq_some_iff_getElem]
  refine ⟨hx, k, hlt, e, fun j hj => ?_⟩
  have hj' : j < xs.length := Nat.lt_trans hj hlt
  have := hn j xs[j] hj (List.getElem?_eq_getElem hj')
  rw [this]; rfl
theorem lang_picked {ws qs : List (Str × Int)} {xs : List Str} {t : Tok} {v : Value} (hq : ∀ p ∈ qs, p.1 ∈ words2) (hperm : qs.Perm ws) (hord : Ordered Sp0 qs) (hxs : ∀ x ∈ xs, x ∈ offs2) (h : LangR qs xs (.str (Str.ofString "none") t) v) : Picked xs (chosen2 ws xs) v := by
  unfold LangR at h
  unfold chosen2
  have em : ∀ us : List (Str × Int), us.Perm (qs.map fun p => (mainL p.1, p.2)) → us.Perm (ws.map fun p => (mainT p.1, p.2)) := fun us hu => by
    refine hu.trans ?_
    have e : (qs.map fun p => (mainL p.1, p.2)) = qs.map fun p => (mainT p.1, p.2) := List.map_congr_left fun p hp => by rw [main_eq p.1 (List.mem_append_left _ (hq p hp))]
    rw [e]
    exact hperm.map _
  have ex : xs.map mainL = xs.map mainT := List.map_congr_left fun x hx => main_eq x (List.mem_append_right _ (hxs x hx))
  have pick : ∀ (k : Nat) (x : Str), xs[k]? = some x → (∃ t, v = .str x t) → Picked xs (k : Int) v := fun k x hk ⟨t, e⟩ => by
    unfold Picked
    rw [if_pos (by omega), Int.toNat_natCast]
    exact ⟨x, t, hk, e⟩
  rcases best_ix ok2 hq hperm hord hxs with ⟨hb, hi⟩ | ⟨x, q, s, k, hb, hi, hk, _⟩
  · rw [hb] at h
    obtain ⟨us, hus, hou, h⟩ := h
    rw [hi, if_neg (by decide)]
    have hpu := em us hus
    have huw : ∀ p ∈ us, p.1 ∈ words2.map mainT := fun p hp => by
      obtain ⟨r, hr, e⟩ := List.mem_map.mp (hpu.mem_iff.mp hp)
      rw [← e]
      exact List.mem_map_of_mem (hq r (hperm.mem_iff.mpr hr))
    rcases best_ix ok2a huw hpu hou hxs with ⟨hb2, hi2⟩ | ⟨x, q, s, k, hb2, hi2, hk, _⟩
    · rw [hb2] at h
      dsimp only at h
      rw [hi2, if_neg (by decide)]
      rw [ex] at h
      have hxm : ∀ x ∈ xs.map mainT, x ∈ offs2.map mainT := fun x hx => by
        obtain ⟨y, hy, e⟩ := List.mem_map.mp hx
        rw [← e]
        exact List.mem_map_of_mem (hxs y hy)
      rcases best_ix ok2b hq hperm hord hxm with ⟨hb3, hi3⟩ | ⟨r, q, s, k, hb3, hi3, hk, hne⟩
      · rw [hb3] at h
        dsimp only at h
        rw [hi3]
        unfold Picked
        rw [if_neg (by decide)]
        exact ⟨t, h⟩
      · rw [hb3] at h
        dsimp only at h
        obtain ⟨x, t', hf, e⟩ := h
        rw [hi3]
        have hlk : k < xs.length := by
          have := (List.getElem?_eq_some_iff.mp hk).1
          rwa [List.length_map] at this
        have hxk : xs[k]? = some xs[k] := List.getElem?_eq_getElem hlk
        have hmem : xs[k] ∈ offs2 := hxs _ (List.getElem_mem hlk)
        have hr : mainT xs[k] = r := by
          rw [List.getElem?_map, hxk, Option.map_some] at hk
          exact Option.some.inj hk
        have hst : Txt.startswith xs[k] r = true := by
          rw [← hr, ← main_eq xs[k] (List.mem_append_right _ hmem)]
          exact hst_menu xs[k] (List.mem_append_right _ hmem)
        have hfx := find_first (f := fun x => Txt.startswith x r) hxk hst (fun j y hj hy => by
          cases hs : Txt.startswith y r with
          | false => rfl
          | true =>
            have hym : y ∈ offs2 := hxs _ (List.mem_of_getElem? hy)
            have e9 := starts_menu y hym xs[k] hmem (by rw [hr]; exact hs)
            refine absurd ?_ (hne j hj)
            unfold scoresOf
            simp only [List.getElem?_map, hy, hxk, Option.map_some, e9])
        rw [hfx] at hf
        refine pick k xs[k] hxk ⟨t', ?_⟩
        rw [e, ← Option.some.inj hf]
    · rw [hb2] at h
      dsimp only at h
      rw [hi2, if_pos (by omega)]
      exact pick k x hk h
  · rw [hb] at h
    dsimp only at h
    rw [hi, if_pos (by omega)]
    exact pick k x hk h
theorem bmo2 : ∀ {w : World}, (hd.heap_39 w.params = hd.heap_39 w.params) → (PySem.Challenge.rw_eq0045_01 = PySem.Challenge.rw_eq0045_01) → BmO w 381 378 Sp0 words2 offs2 chosen2 := by
  w_top off
  k_fill
  intro w _ _
  refine ⟨by k_is, by k_is, by k_is, by k_is, by k_is, ?_⟩
  intro news self d ml us os n k hh tt t ws qs xs hself hdd hml hp hos hord hperm hws hxs hlw hlx
  have hq : ∀ p ∈ qs, p.1 ∈ words2 := fun p h => (hws p (hperm.mem_iff.mp h)).1
  refine SpecT.mono (bmL self d ml us os n k hh tt (.bool true) (.str (Str.ofString "none") t) qs xs hself hdd hp hml hos (fun x hx p h => okp2_menu x (hxs x hx) p.1 (hq p h)) (by rw [hperm.length_eq]; exact hlw) (fun p h => main_menu p.1 (List.mem_append_left _ (hq p h))) (fun x hx p h => okp0m_menu x (hxs x hx) p.1 (hq p h)) (fun x hx => main_menu x (List.mem_append_right _ (hxs x hx))) (fun x hx p h => okp2m_menu x (hxs x hx) p.1 (hq p h)) (by omega) (fun x hx => hst_menu x (List.mem_append_right _ (hxs x hx)))) fun v tl h => ?_
  exact ⟨lang_picked hq hperm hord hxs h.1, h.2⟩
end Mine
end

section
open PySem PySem.W PyProof.Rows PySem.Calls PySem.Spec
set_option Elab.async false
set_option maxRecDepth 100000
set_option linter.unusedVariables false
namespace Mine
section
variable {w : World} {base : Heap} {L fa : Addr} {cd : Value} {mean : ExcName → Option Value} {mg mb : Str → Option Value} {d : Drawn} {os : OsState} {ol D : Addr} {tk1 : Tok} {ov vs : List Value} {wd : Value} {no ns : Nat} {ws : List (Str × Int)} {xs : List Str} {o1 : Obj}
theorem body_0 (m₀ : Str → Option Value) : Law5 w base L fa cd mean mg mb ol D 0 tk1 ov vs wd no ns words0 offs0 ws xs (bestIx (scoresOf fit0 ws xs)) (scoresOf fit0 ws xs) o1 m₀ d os := by
  intro h rl rv nr rs nx news m g tk A
  refine law_5_0 A.X A (cls0 rfl rfl) (spc0 rfl rfl) (new0 rfl rfl) (fun _ _ => trivial) fun A6 hG => ?_
  refine law_6 (cho := fun ws xs => bestIx (scoresOf fit0 ws xs)) A6.X A6 (bmo0 rfl rfl) fun A7 hG7 => ?_
  exact wpAny_mono (law_7 A7.X A7 (cls0 rfl rfl) (clsk0 rfl rfl) ok0 okp0_menu) (fun _ _ h9 => End5.of (GOk.trans hG hG7) h9) fun _ _ e => e
theorem body_1 (m₀ : Str → Option Value) : Law5 w base L fa cd mean mg mb ol D 1 tk1 ov vs wd no ns words1 offs1 ws xs (bestIx (scoresOf fitM ws xs)) (scoresOf fitM ws xs) o1 m₀ d os := by
  intro h rl rv nr rs nx news m g tk A
  refine law_5_1 A.X A (cls1 rfl rfl) (spc1 rfl rfl) (new1 rfl rfl) oks1_menu fun A6 hG => ?_
  refine law_6 (cho := fun ws xs => bestIx (scoresOf fitM ws xs)) A6.X A6 (bmo1 rfl rfl) fun A7 hG7 => ?_
  exact wpAny_mono (law_7 A7.X A7 (cls1 rfl rfl) (clsk1 rfl rfl) ok1 okp1_menu) (fun _ _ h9 => End5.of (GOk.trans hG hG7) h9) fun _ _ e => e
theorem body_2 (m₀ : Str → Option Value) : Law5 w base L fa cd mean mg mb ol D 2 tk1 ov vs wd no ns words2 offs2 ws xs (chosen2 ws xs) (scoresOf fit0 ws xs) o1 m₀ d os := by
  intro h rl rv nr rs nx news m g tk A
  refine law_5_2 A.X A (cls2 rfl rfl) (spc2 rfl rfl) (new2 rfl rfl) (fun _ _ => trivial) fun A6 hG => ?_
  refine law_6 (cho := chosen2) A6.X A6 (bmo2 rfl rfl) fun A7 hG7 => ?_
  exact wpAny_mono (law_7 A7.X A7 (cls2 rfl rfl) (clsk2 rfl rfl) ok2 okp2_menu) (fun _ _ h9 => End5.of (GOk.trans hG hG7) h9) fun _ _ e => e
end
theorem law_abs {w : World} {base h : Heap} {L fa : Addr} {cd : Value} {mean : ExcName → Option Value} {mg mb : Str → Option Value} {sl : Addr} {sv : List Value} {ns : List Int} {o1 o2 : Obj} {g : Array GenState} {d : Drawn} {tk : Nat} {os : OsState} {QQ : Flow → Shared → Prop} {EE : Value → Shared → Prop} (A : LawAt w base h L mean mg mb sl sv ns o1 o2) (fin : LawEnd base L g d os QQ) :
  wpAny (model PySem.Challenge.rw_eq0045_01.row.prog w) (LawA L fa cd) (execs lawB.b (envOfC (Str.ofString "law") lawB.sc L fa cd)) QQ EE ⟨h, g, d, tk, os⟩ :=
  law_from A fin (fun m₀ => body_0 m₀) (fun m₀ => body_1 m₀) (fun m₀ => body_2 m₀)
end Mine
end

section
open PySem PySem.W PyProof.Rows PySem.Calls PySem.Spec
set_option Elab.async false
set_option maxRecDepth 100000
set_option maxHeartbeats 0
set_option linter.unusedVariables false
namespace Mine
local macro_rules | `(tactic| km_lay $T:ident $hmg:ident $ho:ident $hd:ident $cd:ident) => do
  let h8 := Lean.mkIdent `hT8
  let h9 := Lean.mkIdent `hT9
  `(tactic| have $h9 : TabsAt ([(176, 172), (307, 303), (377, 375)] : List (Addr × Addr)) _ := List.forall_mem_cons.mpr ⟨⟨codeHd_of_K (c := 176) (P := 172) (by assumption) (by kernel_rfl), $h8 172 (by k_mem)⟩, List.forall_mem_cons.mpr ⟨⟨codeHd_of_K (c := 307) (P := 303) (by assumption) (by kernel_rfl), $h8 303 (by k_mem)⟩, List.forall_mem_cons.mpr ⟨⟨codeHd_of_K (c := 377) (P := 375) (by assumption) (by kernel_rfl), $h8 375 (by k_mem)⟩, fun _ h => nomatch h⟩⟩⟩)
theorem postB {M : Model} {A : Around} {cd : Code} {s s₁ : Shared} {cw : ClaimW} {cl : Str → Option Addr} {mean : ExcName → Option Value} {args : List WData} {tabs : List (Addr × Addr)} (hT : TabsAt tabs s₁.heap)
    (h : codeAny M A cd (fun r s' => (∃ v d, r = .ok (.ret v) ∧ (∀ cls, cw.raises args cls = false) ∧ ReadsW cw.records cl s'.heap v d [] ∧ cw.post args d args = true) ∧ (∀ b o, (ghostOf s₁.heap tabs).get? b = some o → s'.heap.get? b = some o) ∧ s'.os = s₁.os ∧ AllBare s'.gens ∧ GrownAll tabs s'.heap) s) : codeAny M A cd (GoodWG cw cl mean args s₁) s := by
  refine codeAny_mono h fun r s' hp => ?_
  obtain ⟨⟨v, d, h1, h2, h3, h4⟩, hk, ho, hb, hgr⟩ := hp
  have plain : ∀ b o, b ∉ tabs.map (·.2) → s₁.heap.get? b = some o → s'.heap.get? b = some o := fun b o hn e => hk b o (ghost_ne e hn)
  have tabl : ∀ b o, b ∈ tabs.map (·.2) → s₁.heap.get? b = some o → isCodeTable s₁.heap b ∧ o = tabObj #[] ∧ ∃ ps, s'.heap.get? b = some (tabObj ps) := by
    intro b o hm e
    obtain ⟨q, hq, hqb⟩ := List.mem_map.mp hm
    subst hqb
    have t1 := (hT q hq).2
    rw [t1] at e
    exact ⟨((hT q hq).1.tab t1).isCodeTable, (Option.some.inj e).symm, hgr.get q hq⟩
  refine ⟨.inl ⟨v, d, [], h1, h2, h3, h4, fun _ => ⟨List.nodup_nil, fun _ ha => nomatch ha⟩⟩, ⟨fun b o e => ?_, fun b o e => ?_⟩, ho, hb⟩
  · by_cases hm : b ∈ tabs.map (·.2)
    · obtain ⟨k1, k2, ps, k3⟩ := tabl b o hm e
      subst k2
      exact .inr (.inl ⟨k1, rfl, #[], ps, rfl, by rw [Array.empty_append]; exact k3⟩)
    · exact .inl (plain b o hm e)
  · by_cases hm : b ∈ tabs.map (·.2)
    · obtain ⟨_, _, ps, k3⟩ := tabl b o hm e
      exact ⟨_, k3⟩
    · exact ⟨o, plain b o hm e⟩
local macro_rules | `(tactic| kn_posts) => do
  let h := Lean.mkIdent `hT9
  `(tactic| refine postB $h ?_)
theorem hold : PySem.Challenge.rw_eq0045_01.Holds := hd (by
  w_top off
  k_go0
  with_reducible rename Fr _ _ _ _ => F0
  with_reducible rename News _ _ _ _ => N0
  with_reducible rename CellsAre _ _ _ => X09
  clear X09
  with_reducible rename Obj.data _ = _ => hw0
  revert hw0
  with_reducible rename Obj.data _ = _ => hw1
  intro hw0
  with_reducible rename Heap.CodeRec _ _ _ => hcd9
  replace hw0 := (show Obj.data _ = Data.cell none from hw0)
  replace hw1 := (show Obj.data _ = Data.cell none from hw1)
  with_reducible rename Heap.IsList (ghostOf _ _) _ _ => hscr
  with_reducible rename IntsAre _ _ => hints
  dsimp only at F0 ⊢
  clear hcd9
  replace F0 := Fr.as F0 (m' := fun z9 => List.lookup z9 [(Str.ofString "script", .ref _)]) (by funext y9; simp only [lookup_at, List.lookup_nil]; rfl)
  with_reducible rename Below _ _ _ _ => B0
  with_reducible rename Top _ _ _ _ _ (ghostOf _ _) => T0
  with_reducible rename Frag.In _ (ghostOf _ _) => XX0
  with_reducible rename _ < _ ∧ _ < _ ∧ _ < _ => ll0
  have T1 := T0
  change Top topProg looseL _ _ _ _ at T1
  with_reducible rename PyData.layable0 (PyData.list _) = true => hlay0
  refine law_abs (cd := _) ⟨F0, N0, XX0, T1, B0, hscr, hints, hlay0, hw0, hw1, by assumption, by assumption, by assumption, ll0⟩ ?_
  intro m' h' g' tk' tb rest FZ NZ TZ GZ
  with_reducible rename Shared.gens _ = #[] => hg9
  obtain ⟨p1, p2, p3, cds, rfl, _⟩ := TZ
  refine ⟨⟨.bool true, .bool true, rfl, fun _ => rfl, .bool _, ?post⟩, FZ.keep, rfl, GZ (by rw [hg9]; exact AllBare.empty), GrownAt.of NZ (.head _), GrownAt.of NZ (.tail _ (.head _)), GrownAt.of NZ (.tail _ (.tail _ (.head _))), trivial⟩
  refine postW_of (X := true) (by first | rfl | kernel_rfl | with_unfolding_all rfl) ?_ rfl
  first | (with_unfolding_all rfl) | kernel_rfl! | (simp [WTm.value, PySem.Challenge.rw_eq0045_01]; done) | (show WTm.value _ (.eq .res (.lit (.bool true))) _ = _; simp [WTm.value]; done))
end Mine
end
theorem PySem.Challenge.cw_eq0045_01_holds : PySem.Challenge.rw_eq0045_01.Holds :=
  Mine.hold
