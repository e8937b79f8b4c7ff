import PyProof.Rows.All
import Wide.All
import OpenK.AllK
import Wide.FinOn
import PySem.Challenge.RW_il0003_01
set_option Elab.async false
section
open PySem PySem.W PyProof.Rows
set_option maxRecDepth 100000
set_option maxHeartbeats 8000000
namespace Mine
open_top hd for PySem.Challenge.rw_il0003_01
end Mine
end
section
open PySem PySem.W PySem.Calls PyProof.Rows PySem.Spec
set_option maxRecDepth 100000
set_option maxHeartbeats 8000000
namespace Mine
section
variable {prog : Program} {w : World} {M : Model} {A : Around} {E : Value → Shared → Prop} {s : Shared} {b : Array UInt8} {t u : Tok}
theorem type_bytes {Q : Value → Shared → Prop} (hq : Q (.type "bytes") s) : wpAny (model prog w) A (call (.type "type") [.bytes b t]) Q E s := by
  obtain ⟨h, g, d, tt, os⟩ := s
  refine wpAny_call (codeAny_of_tree ?_)
  show wpAny _ _ (callAny (.type "type") ⟨[.bytes b t], []⟩) _ _ _
  simp only [callAny]
  refine wpAny_pure ⟨Code.quiet_builtin _ (by decide +kernel), codeAny_builtin entry_type_call ?_⟩
  unfold Builtin.«type.__call__»
  dsimp only
  unfold shownTypeOf
  repeat (first | wp_step)
  exact hq
theorem type_int {i : Int} {Q : Value → Shared → Prop} (hq : Q (.type "int") s) : wpAny (model prog w) A (call (.type "type") [.int i t]) Q E s := by
  obtain ⟨h, g, d, tt, os⟩ := s
  refine wpAny_call (codeAny_of_tree ?_)
  show wpAny _ _ (callAny (.type "type") ⟨[.int i t], []⟩) _ _ _
  simp only [callAny]
  refine wpAny_pure ⟨Code.quiet_builtin _ (by decide +kernel), codeAny_builtin entry_type_call ?_⟩
  unfold Builtin.«type.__call__»
  dsimp only
  unfold shownTypeOf
  repeat (first | wp_step)
  exact hq
end
open Builtin Bytes
theorem gives_hex (c : UInt8) (t : Tok) : Gives («bytes.hex» ⟨[.bytes [c].toArray t], []⟩) (.str ⟨#[hexDigit (c.toNat / 16), hexDigit (c.toNat % 16)]⟩) := .of_eq (by kernel_rfl)
theorem gives_upper (b : Array UInt8) (t : Tok) : Gives («bytes.upper» ⟨[.bytes b t], []⟩) (.bytes (b.toList.map toUpper).toArray) := .of_eq (by kernel_rfl)
theorem gives_lower (b : Array UInt8) (t : Tok) : Gives («bytes.lower» ⟨[.bytes b t], []⟩) (.bytes (b.toList.map toLower).toArray) := .of_eq (by kernel_rfl)
theorem slot_bytes_upper : Slot "bytes" "upper" "bytes.upper" :=
  .of (owner := "bytes") (n := "upper") (by rw [typeLookup_type, builtinLookup_eq_fast]; kernel_rfl) (by decide +kernel) (by decide +kernel) (by decide +kernel)
    (by first | exact .inl (by decide +kernel) | exact .inr (by decide +kernel)) (by rw [isSubtype_type]; kernel_rfl)
theorem type_bytes_upper : typeOf (.builtin "bytes.upper") = pure (.type "method_descriptor") := by show builtinType _ = _; rw [builtinType_eq_fast]; kernel_rfl
theorem entry_bytes_upper : entryFor table "bytes.upper" = some Builtin.«bytes.upper» := entryFor_of_tree (by kernel_rfl)
theorem args_bytes_upper_1 (a : Value) : argsOk "bytes.upper" ⟨[a], []⟩ := by
  unfold argsOk; rw [signature?_of (id := "bytes.upper") (n := ['r', 'e', 'p', 'p', 'u']) (o := ['s', 'e', 't', 'y', 'b']) (by kernel_rfl) FB.owner_bytes]; kernel_rfl
theorem slot_bytes_lower : Slot "bytes" "lower" "bytes.lower" :=
  .of (owner := "bytes") (n := "lower") (by rw [typeLookup_type, builtinLookup_eq_fast]; kernel_rfl) (by decide +kernel) (by decide +kernel) (by decide +kernel)
    (by first | exact .inl (by decide +kernel) | exact .inr (by decide +kernel)) (by rw [isSubtype_type]; kernel_rfl)
theorem type_bytes_lower : typeOf (.builtin "bytes.lower") = pure (.type "method_descriptor") := by show builtinType _ = _; rw [builtinType_eq_fast]; kernel_rfl
theorem entry_bytes_lower : entryFor table "bytes.lower" = some Builtin.«bytes.lower» := entryFor_of_tree (by kernel_rfl)
theorem args_bytes_lower_1 (a : Value) : argsOk "bytes.lower" ⟨[a], []⟩ := by
  unfold argsOk; rw [signature?_of (id := "bytes.lower") (n := ['r', 'e', 'w', 'o', 'l']) (o := ['s', 'e', 't', 'y', 'b']) (by kernel_rfl) FB.owner_bytes]; kernel_rfl
theorem encode_ascii_tree (x : Str) (t u : Tok) : «str.encode» ⟨[.str x t, .str (Str.ofString "ascii") u], []⟩ = (do ret (← _codecs.encodeRoad "str.encode" (.str x t) x (Str.ofString "ascii") none)) := by kernel_rfl
theorem encodeRoad_ascii (id : String) (self : Value) (x : Str) (errors : Option Str) : _codecs.encodeRoad id self x (Str.ofString "ascii") errors = (do mkBytes (← _codecs.encodeNarrow id _codecs.asciiCodec errors self x)) := by kernel_rfl
end Mine
end
section
open PySem PySem.W PySem.Calls PyProof.Rows PySem.Spec
set_option maxRecDepth 100000
set_option maxHeartbeats 8000000
namespace Mine
open Builtin Bytes
def hexCh : List Nat := [48, 49, 50, 51, 52, 53, 54, 55, 56, 57, 65, 66, 67, 68, 69, 70, 97, 98, 99, 100, 101, 102]
theorem enc_ascii (id : String) (self : Value) : ∀ p ∈ hexCh, ∀ q ∈ hexCh, _codecs.encodeNarrow id _codecs.asciiCodec none self ⟨#[p, q]⟩ = pure #[p.toUInt8, q.toUInt8] := by
  unfold hexCh
  repeat' (first | exact List.forall_mem_nil _ | refine List.forall_mem_cons.mpr ⟨?_, ?_⟩)
  all_goals (repeat' (first | exact List.forall_mem_nil _ | refine List.forall_mem_cons.mpr ⟨?_, ?_⟩))
  all_goals kernel_rfl
theorem gives_encode (p q : Nat) (hp : p ∈ hexCh) (hq : q ∈ hexCh) (t u : Tok) : Gives («str.encode» ⟨[.str ⟨#[p, q]⟩ t, .str (Str.ofString "ascii") u], []⟩) (.bytes #[p.toUInt8, q.toUInt8]) := by
  refine .of_eq ?_
  rw [encode_ascii_tree, encodeRoad_ascii, enc_ascii _ _ p hp q hq]
  rfl
end Mine
end
section
open PySem PySem.W PySem.Calls PyProof.Rows PySem.Spec
set_option maxRecDepth 100000
set_option maxHeartbeats 8000000
namespace Mine
open Builtin Builtin.Re
/-- the machine run on, four steps a turn -/
def drive : Nat → Sre.M → Option Sre.M
  | 0, _ => none
  | k + 1, m => if (m.runFor 4).outcome.isSome = true then some (m.runFor 4) else drive k (m.runFor 4)
section
variable {M : Model} {A : Around} {E : Value → Shared → Prop} {s : Shared}
theorem reDrive_of {Q : Sre.M → Shared → Prop} : ∀ (k turns : Nat) (m m' : Sre.M), drive k m = some m' → k ≤ turns → Q m' s → wpAny M A (reDrive turns m) Q E s
  | 0, _, _, _, h, _, _ => by cases h
  | k + 1, 0, _, _, _, hk, _ => by omega
  | k + 1, turns + 1, m, m', h, hk, hq => by
    unfold drive at h
    unfold reDrive
    show wpAny M A (if (m.runFor reTurnSteps).outcome.isSome = true then _ else _) Q E s
    have e : reTurnSteps = 4 := rfl
    rw [e]
    by_cases hc : (m.runFor 4).outcome.isSome = true
    · rw [if_pos hc] at h ⊢
      cases h
      exact wpAny_pure hq
    · rw [if_neg hc] at h ⊢
      exact wpAny_bind (wpAny_rule (reDrive_of k turns _ m' h (by omega) hq))
theorem forRules {c : Nat → Bool} {n : Nat → String} {Q : PUnit → Shared → Prop} (hq : Q () s) : ∀ l : List Nat, wpAny M A (forIn l PUnit.unit fun i _ => do
      if c i = true then rule (n i)
      pure (ForInStep.yield PUnit.unit)) Q E s
  | [] => wpAny_pure hq
  | i :: l => by
    rw [List.forIn_cons]
    refine wpAny_bind ?_
    dsimp only
    by_cases hc : c i = true
    · rw [if_pos hc]; exact wpAny_bind (wpAny_rule (wpAny_pure (forRules hq l)))
    · rw [if_neg hc]; exact wpAny_pure (forRules hq l)
end
/-- what the machine says of two signs -/
def says (code : Array Nat) (p q : Nat) : Option Bool := (drive 40 (Sre.forSearch code #[p, q] 0 0 2 false)).bind fun m => match m.outcome with
  | some .matched => some true
  | some .failed => some false
  | _ => none
def reCode : Array Nat := #[14, 12, 4, 1, 1, 21, 22, 48, 57, 22, 65, 70, 0, 13, 9, 21, 22, 48, 57, 22, 65, 70, 0, 1]
theorem says_hex : ∀ p ∈ hexCh, ∀ q ∈ hexCh, says reCode p q = some (decide (97 ≤ p) || decide (97 ≤ q)) := by decide +kernel
theorem runToEnd_of {M : Model} {A : Around} {E : Value → Shared → Prop} {s : Shared} {p q : Nat} {y : Bool} {Q : Option Sre.M → Shared → Prop} (h : says reCode p q = some y) (hq : ∀ m : Sre.M, Q (if y then some m else none) s) :
    wpAny M A (reRunToEnd (Sre.forSearch reCode #[p, q] 0 0 2 false)) Q E s := by
  unfold says at h
  cases hd : drive 40 (Sre.forSearch reCode #[p, q] 0 0 2 false) with
  | none => rw [hd] at h; cases h
  | some m' =>
    rw [hd] at h
    unfold reRunToEnd
    refine wpAny_bind (reDrive_of 40 _ _ m' hd (by decide) ?_)
    refine wpAny_bind (forRules ?_ _)
    dsimp only [Option.bind] at h
    cases ho : m'.outcome with
    | none => rw [ho] at h; cases h
    | some o =>
      rw [ho] at h
      cases o with
      | matched => cases h; exact wpAny_pure (hq m')
      | failed => cases h; exact wpAny_pure (hq m')
      | stuck _ => cases h
end Mine
end
section
open PySem PySem.W PySem.Calls PyProof.Rows PySem.Spec
set_option maxRecDepth 100000
set_option maxHeartbeats 8000000
namespace Mine
open Builtin Builtin.Re
abbrev patObj (a : Value) (c : Addr) : Obj := { cls := .type "re.Pattern", data := .fields #[a, .int 0 319, .int 0 0, .none, .none, .ref c, .int 1 0] }
theorem plainAttrs_pat : PlainAttrs "re.Pattern" :=
  ⟨⟨"object.__getattribute__", by rw [typeLookup_type, builtinLookup_eq_fast]; kernel_rfl, by decide +kernel⟩, by rw [typeLookup_type, builtinLookup_eq_fast]; kernel_rfl⟩
theorem slot_pat_search : Slot "re.Pattern" "search" "re.Pattern.search" :=
  .of (owner := "re.Pattern") (n := "search") (by rw [typeLookup_type, builtinLookup_eq_fast]; kernel_rfl) (by decide +kernel) (by decide +kernel) (by decide +kernel)
    (by first | exact .inl (by decide +kernel) | exact .inr (by decide +kernel)) (by rw [isSubtype_type]; kernel_rfl)
theorem type_pat_search : typeOf (.builtin "re.Pattern.search") = pure (.type "method_descriptor") := by show builtinType _ = _; rw [builtinType_eq_fast]; kernel_rfl
theorem entry_pat_search : entryFor table "re.Pattern.search" = some Builtin.«re.Pattern.search» := entryFor_of_tree (by kernel_rfl)
theorem args_pat_search (a b : Value) : argsOk "re.Pattern.search" ⟨[a, b], []⟩ := by
  unfold argsOk
  kernel_rfl
theorem named_eq (v : Value) : reNamed "re.Pattern.search" "search" ["string", "pos", "endpos"] 1 [v] [] = pure [some v, none, none] := by kernel_rfl
theorem textOf_eq (b : Array UInt8) (t : Tok) : reTextOf (.bytes b t) = pure (b.map (·.toNat), 1) := by
  unfold reTextOf
  have : asStr? (.bytes b t) = pure none := rfl
  rw [this, KBy.quiet_eq]
  rfl
end Mine
end
section
open PySem PySem.W PySem.Calls PyProof.Rows PySem.Spec
set_option maxRecDepth 100000
set_option maxHeartbeats 8000000
namespace Mine
open Builtin Builtin.Re
def codeVals : Array Value := #[.int 14 0, .int 12 0, .int 4 0, .int 1 0, .int 1 0, .int 21 0, .int 22 0, .int 48 0, .int 57 0, .int 22 0, .int 65 0, .int 70 0, .int 0 0, .int 13 0, .int 9 0, .int 21 0, .int 22 0, .int 48 0, .int 57 0, .int 22 0, .int 65 0, .int 70 0, .int 0 0, .int 1 0]
abbrev Found (o : Obj) : Prop := o.cls = .type "re.Match" ∧ o.dict = none
theorem newMatch_of {M : Model} {A : Around} {E : Value → Shared → Prop} {s : Shared} {pt st : Value} {pos lim : Nat} {m : Sre.M} {Q : Value → Shared → Prop}
    (h : ∀ h' r o, (∀ b o, s.heap.get? b = some o → h'.get? b = some o) → h'.get? r = some o → Found o → Q (.ref r) { s with heap := h' }) : wpAny M A (reNewMatch pt st 0 pos lim m) Q E s := by
  unfold reNewMatch
  dsimp only
  refine bm_if_false (by rfl) ?_
  refine wpAny_bind ?_
  unfold newTuple
  refine wpAny_newObj_type ?_ (by show _ ≤ sizeLine; rw [sizeLine_eq]; simp)
  unfold newFields
  refine wpAny_newObj_type ?_ (by show _ ≤ _; simp [sizeLine_eq])
  refine h _ _ _ (fun b o e => Heap.get?_push_of_some _ (Heap.get?_push_of_some _ e)) (Heap.get?_push_size _ rfl) ⟨rfl, rfl⟩
theorem fieldsOf_of {M : Model} {A : Around} {E : Value → Shared → Prop} {s : Shared} {p : Addr} {o : Obj} {vs : Array Value} {Q : Array Value → Shared → Prop} (hp : s.heap.get? p = some o) (hd : o.data = .fields vs) (h : Q vs s) : wpAny M A (fieldsOf (.ref p)) Q E s := by
  unfold fieldsOf
  dsimp only
  refine wpAny_bind (wpAny_load hp ?_)
  rw [hd]
  exact wpAny_pure h
theorem rawItems_of {M : Model} {A : Around} {E : Value → Shared → Prop} {s : Shared} {p : Addr} {o : Obj} {vs : Array Value} {n : Nat} {Q : Array Int → Shared → Prop} (hp : s.heap.get? p = some o) (hd : o.data = .seq vs n) (h : Q (vs.map reRawOf) s) : wpAny M A (reRawItems (.ref p)) Q E s := by
  unfold reRawItems seqItems?
  dsimp only
  refine wpAny_bind (wpAny_bind (wpAny_load hp ?_))
  rw [hd]
  exact wpAny_pure (wpAny_pure h)
theorem noColl_of {M : Model} {A : Around} {E : Value → Shared → Prop} {s : Shared} {b : Array UInt8} {t : Tok} {Q : Unit → Shared → Prop} (h : Q () s) : wpAny M A (reNoCollectionInside (.bytes b t) 1) Q E s := by
  unfold reNoCollectionInside
  refine bm_if_true (by rfl) ?_
  refine wpAny_bind (wpAny_of_eq KBy.isInstance_eq ?_)
  refine bm_if_false (by rfl) ?_
  exact wpAny_pure h
theorem textOf_eq2 (a q : UInt8) (t : Tok) : reTextOf (.bytes #[a, q] t) = pure (#[a.toNat, q.toNat], 1) := by
  rw [textOf_eq]
  simp
theorem codeIs : (codeVals.map reRawOf).map (fun x => x.toNat) = reCode := by decide +kernel
theorem meets_search {p c : Addr} {pv : Value} {a q : UInt8} {t : Tok} {y : Bool} (hy : says reCode a.toNat q.toNat = some y) :
    Meets («re.Pattern.search» ⟨[.ref p, .bytes #[a, q] t], []⟩) (fun _ R s => s.heap.get? p = some (patObj pv c) ∧ s.heap.get? c = some { cls := .type "tuple", data := .seq codeVals } ∧
      (y = false → R (.ok (.ret .none)) s) ∧ (y = true → ∀ h' r o, (∀ b o, s.heap.get? b = some o → h'.get? b = some o) → h'.get? r = some o → Found o → R (.ok (.ret (.ref r))) { s with heap := h' })) := by
  refine .of_wp fun prog w A R s hS => ?_
  obtain ⟨hp, hc, hn, hm⟩ := hS
  unfold «re.Pattern.search» reTarget
  dsimp only
  refine wpAny_bind (wpAny_bind (wpAny_of_eq (named_eq _) ?_))
  dsimp only
  refine wpAny_bind (wpAny_pure ?_)
  refine wpAny_bind (wpAny_pure ?_)
  refine wpAny_bind (fieldsOf_of hp rfl ?_)
  refine wpAny_bind (wpAny_of_eq (textOf_eq2 _ _ _) ?_)
  refine wpAny_ite (KBy.ite_no (show ¬ (false = true) from Bool.false_ne_true) ?_)
  refine wpAny_ite (KBy.ite_no (show ¬ (false = true) from Bool.false_ne_true) ?_)
  refine wpAny_bind (noColl_of ?_)
  refine wpAny_bind (rawItems_of (p := c) hc rfl ?_)
  refine wpAny_pure ?_
  rw [codeIs]
  show wpAny _ _ (reAnswer ⟨.ref p, .bytes #[a, q] t, reCode, #[a.toNat, q.toNat], 1, 0, 0, 2⟩ (Sre.forSearch reCode #[a.toNat, q.toNat] 0 0 2 false)) _ _ _
  unfold reAnswer
  refine wpAny_bind (runToEnd_of hy fun m => ?_)
  cases y with
  | false => exact wpAny_pure ⟨_, rfl, hn rfl⟩
  | true =>
    refine wpAny_bind (newMatch_of fun h' r o hk hr ho => ?_)
    exact wpAny_pure ⟨_, rfl, hm rfl h' r o hk hr ho⟩
section
variable {prog : Program} {w : World} {A : Around} {E : Value → Shared → Prop} {s : Shared}
theorem pat_method {M : Model} {p c : Addr} {pv : Value} {pl : Sem Bool} {Q : Value × List Value → Shared → Prop} (hp : s.heap.get? p = some (patObj pv c)) (h : Q (.builtin "re.Pattern.search", [.ref p]) s) : wpAny M A (getMethod (.ref p) "search" pl) Q E s :=
  getMethod_builtin (T := "re.Pattern") ⟨_, hp, rfl⟩ plainAttrs_pat slot_pat_search type_pat_search (fun a e => by cases e; exact ⟨_, hp, rfl⟩) h
theorem pat_search {p c : Addr} {pv : Value} {a q : UInt8} {t : Tok} {Q : Value → Shared → Prop} (y : Bool) (hy : says reCode a.toNat q.toNat = some y) (hp : s.heap.get? p = some (patObj pv c)) (hc : s.heap.get? c = some { cls := .type "tuple", data := .seq codeVals })
    (hn : y = false → Q .none s) (hm : y = true → ∀ h' r o, (∀ b o, s.heap.get? b = some o → h'.get? b = some o) → h'.get? r = some o → Found o → Q (.ref r) { s with heap := h' }) :
    wpAny (model prog w) A (call (.builtin "re.Pattern.search") [.ref p, .bytes #[a, q] t]) Q E s :=
  call_meets slot_pat_search (T := "re.Pattern") ⟨_, hp, rfl⟩ entry_pat_search (args_pat_search _ _) (meets_search hy) ⟨hp, hc, hn, hm⟩
theorem noBool_match : typeLookup (.type "re.Match") "__bool__" = pure none := by rw [typeLookup_type, builtinLookup_eq_fast]; kernel_rfl
theorem noLen_match : typeLookup (.type "re.Match") "__len__" = pure none := by rw [typeLookup_type, builtinLookup_eq_fast]; kernel_rfl
theorem truthy_match {r : Addr} {o : Obj} {Q : Bool → Shared → Prop} (hr : s.heap.get? r = some o) (ho : Found o) (h : Q true s) : wpAny (model prog w) A (truthy (.ref r)) Q E s := by
  have hT : s.TypeIs (.ref r) "re.Match" := ⟨o, hr, ho.1⟩
  unfold truthy
  dsimp only
  refine wpAny_bind ?_
  unfold callSpecial?
  refine wpAny_bind (wpAny_specialOf hT noBool_match ?_)
  refine wpAny_pure ?_
  dsimp only
  refine wpAny_bind (wpAny_specialOf hT noLen_match ?_)
  refine bm_if_true (by rfl) ?_
  exact wpAny_pure h
end
end Mine
end
section
open PySem PySem.W PySem.Calls PyProof.Rows PySem.Spec
set_option maxRecDepth 100000
set_option maxHeartbeats 8000000
namespace Mine
abbrev PR : Program := Challenge.rw_il0003_01.row.prog
noncomputable abbrev LO : List Str := looseW hd.view_39 [Str.ofString "_twin_re_1", Str.ofString "bytes_types", Str.ofString "_NO_SEP", Str.ofString "b2a_hex", Str.ofString "hexlify", Str.ofString "unhexlify", Str.ofString "b16decode", Str.ofString "_deduplicate"]
/-- all that stood stands -/
abbrev Kp (h h' : Heap) : Prop := ∀ b o, h.get? b = some o → h'.get? b = some o
structure Std (w : World) (mean : ExcName → Option Value) (mg mb : Str → Option Value) (h : Heap) : Prop where
  X : (hd.heap_39 w.params).In h
  T : Top hd.view_39 LO mean mg mb h
theorem Std.keeps {w mean mg mb h h'} (S : Std w mean mg mb h) (k : Kp h h') : Std w mean mg mb h' := ⟨S.X.keeps k, S.T.keeps k⟩
def Does (w : World) (mean : ExcName → Option Value) (mg mb : Str → Option Value) (f : Addr) (args : Args) (d u : Nat) (Pre : Heap → Prop) (Out : Heap → Value → Heap → Prop) : Prop :=
  ∀ (dp un : Nat) (gd : Option (List Code)) (fr : Option (List Env)) (s : Shared) (R : Result → Shared → Prop), Std w mean mg mb s.heap → Pre s.heap → dp + d < recursionLimit → un + u < cLine →
    (∀ v h' tk', Kp s.heap h' → Out s.heap v h' → R (.ok (.ret v)) { s with heap := h', toks := tk' }) → codeAny (model PR w) { handled := none, depth := dp, frames := fr, guards := gd, units := un } (.call (.ref f) args) R s

theorem enter_ {w mean mg mb} {A : Around} {s : Shared} {R : Result → Shared → Prop} {name qual : Str} {params : Arguments} {body : List Stmt} {scope : Scope} {dV kV doc pm cdv ct oc : Value} {an od : Option Addr} {osl : Array (Option Value)} {f : Addr} {args : Args} {binds : List (Str × Value)}
    (S : Std w mean mg mb s.heap) (hroom : A.depth < recursionLimit)
    (ho : (hd.heap_39 w.params).lookup f = some ⟨oc, od, .func (fnOf name qual params body scope dV kV doc pm an cdv ct), osl⟩) (hcd : codeIn (hd.heap_39 w.params) cdv qual = true)
    (hbind : BindsTo s (fnOf name qual params body scope dV kV doc pm an cdv ct) args binds) (hloc : ∀ y ∈ binds, scope.names.lookup y.1 = some .local)
    (h : ∀ h₁, Fr s.heap s.heap.objs.size h₁ (fun y => binds.reverse.lookup y) → News s.heap s.heap.objs.size h₁ [] →
      wpAny (model PR w) (A.deeper (envOf qual scope s.heap.objs.size f cdv)) (execs body (envOf qual scope s.heap.objs.size f cdv))
        (fun fl s' => R (.ok (.ret (match fl with | .ret v => v | _ => .none))) s')
        (fun e s' => wpAny (model PR w) (A.deeper (envOf qual scope s.heap.objs.size f cdv)) (leaving (envOf qual scope s.heap.objs.size f cdv) e) (fun _ s'' => R (.error e) s'') (fun e' s'' => R (.error e') s'') s')
        { s with heap := h₁, toks := s.toks + binds.length })
    (hco : scope.isCoroutine = false) (hgen : scope.isGenerator = false) (hk : scope.kind = .function)
    (hcell : ∀ x ∈ scope.names, x.2 ≠ .cell) : codeAny (model PR w) A (.call (.ref f) args) R s :=
  codeAny_call_def hroom (S.X _ _ ho) rfl S.T.nolimit (codeRec_of S.X hcd) rfl hbind hcell hloc (fun h₁ hns hk₁ => h h₁ ⟨hns, hk₁, Nat.le_refl _⟩ News.nil) hco hgen hk

theorem use_ {w mean mg mb} {f : Addr} {pos : List Value} {kw : List (Str × Value)} {d u : Nat} {Pre : Heap → Prop} {Out : Heap → Value → Heap → Prop} {A : Around} {s : Shared} {Q E : Value → Shared → Prop} {h₀ : Heap} {L : Addr} {m : Str → Option Value} {news : List (Addr × Obj)}
    (C : Does w mean mg mb f ⟨pos, kw⟩ d u Pre Out) (S : Std w mean mg mb h₀) (F : Fr h₀ L s.heap m) (N : News h₀ L s.heap news) (hpre : Pre s.heap) (hd : A.depth + d < recursionLimit) (hu : A.units + u < cLine) (hh : A.handled = none)
    (h : ∀ v h' tk', Kp s.heap h' → Out s.heap v h' → Fr h₀ L h' m → News h₀ L h' news → Q v { s with heap := h', toks := tk' }) : wpAny (model PR w) A (call (.ref f) pos kw) Q E s := by
  obtain ⟨ah, dp, fr, gd, un⟩ := A
  dsimp only at hd hu hh
  subst hh
  exact wpAny_call (C dp un gd fr s _ (S.keeps F.keep) hpre hd hu fun v h' tk' hk ho => h v h' tk' hk ho (F.keeps hk) (N.grown hk))

section
variable {prog : Program} {w : World} {M : Model} {A : Around} {E : Value → Shared → Prop} {s : Shared} {b : Array UInt8} {t u : Tok} {pl : Sem Bool}
theorem m_upper {Q : Value × List Value → Shared → Prop} (h : Q (.builtin "bytes.upper", [.bytes b t]) s) : wpAny M A (getMethod (.bytes b t) "upper" pl) Q E s := by
  with_reducible exact KBd.method_of (.bytes b t) (typeIs_bytes _ _ _) slot_bytes_upper type_bytes_upper KBd.noRef h
theorem m_lower {Q : Value × List Value → Shared → Prop} (h : Q (.builtin "bytes.lower", [.bytes b t]) s) : wpAny M A (getMethod (.bytes b t) "lower" pl) Q E s := by
  with_reducible exact KBd.method_of (.bytes b t) (typeIs_bytes _ _ _) slot_bytes_lower type_bytes_lower KBd.noRef h
theorem m_hex {Q : Value × List Value → Shared → Prop} (h : Q (.builtin "bytes.hex", [.bytes b t]) s) : wpAny M A (getMethod (.bytes b t) "hex" pl) Q E s := by
  with_reducible exact KBd.method_of (.bytes b t) (typeIs_bytes _ _ _) FB.slot_bytes_hex FB.type_bytes_hex KBd.noRef h
open Builtin.Bytes in
theorem x_upper {Q : Value → Shared → Prop} (hz : b.size ≤ 1000) (h : ∀ t' k, Q (.bytes (b.toList.map toUpper).toArray t') { s with toks := k }) : wpAny (model prog w) A (call (.builtin "bytes.upper") [.bytes b t]) Q E s :=
  call_gives slot_bytes_upper (typeIs_bytes _ _ _) entry_bytes_upper (args_bytes_upper_1 _) (gives_upper b t) ⟨by rw [sizeLine_eq]; simp; omega, h _ _⟩
open Builtin.Bytes in
theorem x_lower {Q : Value → Shared → Prop} (hz : b.size ≤ 1000) (h : ∀ t' k, Q (.bytes (b.toList.map toLower).toArray t') { s with toks := k }) : wpAny (model prog w) A (call (.builtin "bytes.lower") [.bytes b t]) Q E s :=
  call_gives slot_bytes_lower (typeIs_bytes _ _ _) entry_bytes_lower (args_bytes_lower_1 _) (gives_lower b t) ⟨by rw [sizeLine_eq]; simp; omega, h _ _⟩
open Builtin.Bytes in
theorem x_hex {c : UInt8} {Q : Value → Shared → Prop} (h : ∀ t' k, Q (.str ⟨#[hexDigit (c.toNat / 16), hexDigit (c.toNat % 16)]⟩ t') { s with toks := k }) : wpAny (model prog w) A (call (.builtin "bytes.hex") [.bytes [c].toArray t]) Q E s :=
  call_gives FB.slot_bytes_hex (typeIs_bytes _ _ _) FB.entry_bytes_hex (FB.args_bytes_hex_1 _) (gives_hex c t) ⟨by show 2 ≤ sizeLine; decide, h _ _⟩
theorem x_encode {p q : Nat} {Q : Value → Shared → Prop} (hp : p ∈ hexCh) (hq : q ∈ hexCh) (h : ∀ t' k, Q (.bytes #[p.toUInt8, q.toUInt8] t') { s with toks := k }) : wpAny (model prog w) A (call (.builtin "str.encode") [.str ⟨#[p, q]⟩ t, .str (Str.ofString "ascii") u]) Q E s :=
  call_gives F.slot_str_encode rfl F.entry_str_encode (F.args_str_encode_2 _ _) (gives_encode p q hp hq t u) ⟨by show 2 ≤ sizeLine; decide, h _ _⟩
end
end Mine
end
section
open PySem PySem.W PySem.Calls PyProof.Rows PySem.Spec
set_option maxRecDepth 100000
set_option maxHeartbeats 8000000
namespace Mine
local macro_rules | `(tactic| walk_at "call type:type") => `(tactic| (k_here; first | (refine type_bytes ?_) | (refine type_int ?_)))
local macro_rules | `(tactic| walk_at "getMethod bytes") => `(tactic| (k_here; first | (with_reducible refine m_upper ?_) | (with_reducible refine m_lower ?_) | (with_reducible refine m_hex ?_)))
local macro_rules | `(tactic| walk_at "call builtin:bytes.hex") => `(tactic| (k_here; (refine x_hex ?_); intro _ _))
local macro_rules | `(tactic| walk_at "call builtin:bytes.upper") => `(tactic| (k_here; (refine x_upper (by simp) ?_); intro _ _; (try simp only [List.map_cons, List.map_nil])))
local macro_rules | `(tactic| walk_at "call builtin:bytes.lower") => `(tactic| (k_here; (refine x_lower (by simp) ?_); intro _ _; (try simp only [List.map_cons, List.map_nil])))
theorem hexDigit_mem : ∀ n < 16, Builtin.Bytes.hexDigit n ∈ hexCh := by decide +kernel
theorem hexHi (c : UInt8) : Builtin.Bytes.hexDigit (c.toNat / 16) ∈ hexCh := hexDigit_mem _ (by have := c.toNat_lt; omega)
theorem hexLo (c : UInt8) : Builtin.Bytes.hexDigit (c.toNat % 16) ∈ hexCh := hexDigit_mem _ (by omega)
local macro_rules | `(tactic| walk_at "call builtin:str.encode") => `(tactic| (k_here; (refine x_encode (hexHi _) (hexLo _) ?_); intro _ _))
theorem m_encode {M : Model} {A : Around} {E : Value → Shared → Prop} {s : Shared} {x : Str} {t : Tok} {pl : Sem Bool} {Q : Value × List Value → Shared → Prop} (h : Q (.builtin "str.encode", [.str x t]) s) : wpAny M A (getMethod (.str x t) "encode" pl) Q E s := by
  exact getMethod_builtin (T := "str") (show s.TypeIs (.str x t) "str" from by exact rfl) F.plainAttrs_str F.slot_str_encode F.type_str_encode (fun _ e => nomatch e) h
local macro_rules | `(tactic| walk_at "getMethod str") => `(tactic| (k_here; (with_reducible refine m_encode ?_)))
-- the entry of a def
local macro_rules | `(tactic| ktr_unf) => `(tactic| (
  (have kf : Challenge.rw_il0003_01 = Challenge.rw_il0003_01 ∧ hd.heap_39 = hd.heap_39 := by (k_fill; exact ⟨rfl, rfl⟩));
  clear kf;
  refine' enter_ (by assumption) ?k0 ?k1 ?k2 ?k3 ?k4 ?_ ?k5 ?k6 ?k7 ?k8;
  (case k0 => (dsimp only; omega));
  (case k1 => k_is);
  (case k2 => k_is);
  (case k3 => first | exact BindsTo.of_eq rfl | exact binds_K (by k_in) rfl (by k_is) rfl rfl rfl);
  (case k4 => exact locs rfl);
  (case k5 => rfl);
  (case k6 => rfl);
  (case k7 => rfl);
  (case k8 => decide);
  intro h₁ F N;
  dsimp only;
  k_unmd;
  k_fold))

theorem c_buffer {w mean mg mb b t} : Does w mean mg mb 78 ⟨[.bytes b t], []⟩ 5 20 (fun _ => True) (fun _ v _ => v = .bytes b t) := by
  intro dp un gd fr s R S _ hdp hu ret
  have KX := S.X
  have T := S.T
  ktr_unf
  k_steps
  exact ret _ _ _ (Fr.keep (by assumption)) rfl
local macro_rules | `(tactic| walk_at "call ref") => `(tactic| (k_here; k_dflt (refine' use_ c_buffer ?kS ?kF ?kN ?kp ?kd ?ku ?kh ?_; (case kS => assumption); (case kF => k_asm); (case kN => k_asm); (case kp => trivial); (case kd => ktr_room); (case ku => ktr_units); (case kh => rfl); k_whole); intro v' h' tk' hk' ho' F' N'; subst ho'; (try k_sweep)))
theorem c_b2a {w mean mg mb c t} : Does w mean mg mb 87 ⟨[.bytes [c].toArray t], []⟩ 15 60 (fun _ => True) (fun _ v _ => ∃ t', v = .bytes #[(Builtin.Bytes.hexDigit (c.toNat / 16)).toUInt8, (Builtin.Bytes.hexDigit (c.toNat % 16)).toUInt8] t') := by
  intro dp un gd fr s R S _ hdp hu ret
  have KX := S.X
  have T := S.T
  ktr_unf
  k_steps
  exact ret _ _ _ (Fr.keep (by assumption)) ⟨_, rfl⟩
/-- the figures of an octet, great -/
def fig (n : Nat) : UInt8 := (if n < 10 then 48 + n else 55 + n).toUInt8
def low (n : Nat) : UInt8 := (if n < 10 then 48 + n else 87 + n).toUInt8
theorem up_digit : ∀ n < 16, Builtin.Bytes.toUpper (Builtin.Bytes.hexDigit n).toUInt8 = fig n := by decide +kernel
local macro_rules | `(tactic| walk_at "call ref") => `(tactic| (k_here; k_dflt (refine' use_ c_b2a ?kS ?kF ?kN ?kp ?kd ?ku ?kh ?_; (case kS => assumption); (case kF => k_asm); (case kN => k_asm); (case kp => trivial); (case kd => ktr_room); (case ku => ktr_units); (case kh => rfl); k_whole); intro v' h' tk' hk' ho' F' N'; obtain ⟨t', ho'⟩ := ho'; subst ho'; (try k_sweep)))
theorem c_encode {w mean mg mb c t} : Does w mean mg mb 108 ⟨[.bytes [c].toArray t], []⟩ 25 90 (fun _ => True) (fun _ v _ => ∃ t', v = .bytes #[fig (c.toNat / 16), fig (c.toNat % 16)] t') := by
  intro dp un gd fr s R S _ hdp hu ret
  have KX := S.X
  have T := S.T
  ktr_unf
  k_steps
  rw [up_digit _ (by have := c.toNat_lt; omega), up_digit _ (by omega)]
  exact ret _ _ _ (Fr.keep (by assumption)) ⟨_, rfl⟩
end Mine
end
section
open PySem PySem.W PySem.Calls PyProof.Rows PySem.Spec
set_option maxRecDepth 100000
set_option maxHeartbeats 8000000
namespace Mine
local macro_rules | `(tactic| walk_at "call type:type") => `(tactic| (k_here; first | (refine type_bytes ?_) | (refine type_int ?_)))
local macro_rules | `(tactic| walk_at "getMethod bytes") => `(tactic| (k_here; first | (with_reducible refine m_upper ?_) | (with_reducible refine m_lower ?_) | (with_reducible refine m_hex ?_)))
local macro_rules | `(tactic| walk_at "call builtin:bytes.upper") => `(tactic| (k_here; (refine x_upper (by simp) ?_); intro _ _; (try simp only [List.map_cons, List.map_nil])))
local macro_rules | `(tactic| walk_at "call builtin:bytes.lower") => `(tactic| (k_here; (refine x_lower (by simp) ?_); intro _ _; (try simp only [List.map_cons, List.map_nil])))
section
variable {prog : Program} {w : World} {A : Around} {E : Value → Shared → Prop} {s : Shared} {value slice : PySem.Expr} {a b : UInt8} {t u : Tok} {h₀ : Heap} {L : Addr} {m : Str → Option Value} {news : List (Addr × Obj)} {Q : Value → Shared → Prop}
theorem slice_lo (hF : Fr h₀ L s.heap m) (hN : News h₀ L s.heap news) (h : ∀ h' t' k, Fr h₀ L h' m → News h₀ L h' news → Q (.bytes #[a] t') { s with heap := h', toks := k })
    (hs : subscripted slice false (.bytes #[a, b] t) (.ref s.heap.objs.size) = operate [.ref s.heap.objs.size, .bytes #[a, b] t] (getItem (.bytes #[a, b] t) (.ref s.heap.objs.size)) := by with_unfolding_all rfl)
    (ht : ∀ r, letTemporaryGo value (.bytes #[a, b] t) r = pure () := by intro _; with_unfolding_all rfl) :
    wpAny (model prog w) A (subscriptTail value slice (.bytes #[a, b] t) (.ref s.heap.objs.size)) Q E { s with heap := s.heap.push { cls := .type "slice", data := .fields #[.none, .int 1 u, .none] } } :=
  KBy.slice_N (lo := none) (hi := some 1) hF hN (by constructor) (by constructor) (by kernel_rfl) (by show 1 ≤ 16777216; decide) (fun h' t' k f n => h h' t' k f n) hs ht
theorem picked_hi : KBy.picked #[a, b] (some 1) none = #[b] := by kernel_rfl
theorem slice_hi (hF : Fr h₀ L s.heap m) (hN : News h₀ L s.heap news) (h : ∀ h' t' k, Fr h₀ L h' m → News h₀ L h' news → Q (.bytes #[b] t') { s with heap := h', toks := k })
    (hs : subscripted slice false (.bytes #[a, b] t) (.ref s.heap.objs.size) = operate [.ref s.heap.objs.size, .bytes #[a, b] t] (getItem (.bytes #[a, b] t) (.ref s.heap.objs.size)) := by with_unfolding_all rfl)
    (ht : ∀ r, letTemporaryGo value (.bytes #[a, b] t) r = pure () := by intro _; with_unfolding_all rfl) :
    wpAny (model prog w) A (subscriptTail value slice (.bytes #[a, b] t) (.ref s.heap.objs.size)) Q E { s with heap := s.heap.push { cls := .type "slice", data := .fields #[.int 1 u, .none, .none] } } :=
  KBy.slice_N (lo := some 1) (hi := none) hF hN (by constructor) (by constructor) (by kernel_rfl) (by rw [picked_hi]; show 1 ≤ 16777216; decide) (fun h' t' k f n => by rw [picked_hi]; exact h h' t' k f n) hs ht
end
local macro_rules | `(tactic| walk_at "subscriptTail") => `(tactic| (k_here; (with_reducible show wpAny _ _ (subscriptTail _ (Expr.Slice _ _ none _) (Value.bytes _ _) (Value.ref _)) _ _ _); (with_reducible rename Fr _ _ _ _ => F'); (with_reducible rename News _ _ _ _ => N'); first | (refine slice_lo (s := ⟨_, _, _, _, _⟩) F' N' ?_) | (refine slice_hi (s := ⟨_, _, _, _, _⟩) F' N' ?_); intro _ _ _ _ _))
local macro_rules | `(tactic| ktr_unf) => `(tactic| (
  (have kf : Challenge.rw_il0003_01 = Challenge.rw_il0003_01 ∧ hd.heap_39 = hd.heap_39 := by (k_fill; exact ⟨rfl, rfl⟩));
  clear kf;
  refine' enter_ (by assumption) ?k0 ?k1 ?k2 ?k3 ?k4 ?_ ?k5 ?k6 ?k7 ?k8;
  (case k0 => (dsimp only; omega));
  (case k1 => k_is);
  (case k2 => k_is);
  (case k3 => first | exact BindsTo.of_eq rfl | exact binds_K (by k_in) rfl (by k_is) rfl rfl rfl);
  (case k4 => exact locs rfl);
  (case k5 => rfl);
  (case k6 => rfl);
  (case k7 => rfl);
  (case k8 => decide);
  intro h₁ F N;
  dsimp only;
  k_unmd;
  k_fold))
local macro_rules | `(tactic| walk_at "call ref") => `(tactic| (k_here; k_dflt (refine' use_ c_encode ?kS ?kF ?kN ?kp ?kd ?ku ?kh ?_; (case kS => assumption); (case kF => k_asm); (case kN => k_asm); (case kp => trivial); (case kd => ktr_room); (case ku => ktr_units); (case kh => rfl); k_whole); intro v' h' tk' hk' ho' F' N'; obtain ⟨t', ho'⟩ := ho'; subst ho'; (try k_sweep)))
/-- the octet of an int, its spelling's number -/
def oc (x : Int) : Nat := (Int.fmod x 256).toNat
def sp (x : Int) : Nat := (Int.fmod (Int.fdiv x 256) 4).toNat
def great (o : Nat) : Array UInt8 := #[fig (o / 16), fig (o % 16)]
def spA (k o : Nat) : UInt8 := match k with
  | 0 => fig (o / 16)
  | 1 => low (o / 16)
  | 2 => low (o / 16)
  | _ => fig (o / 16)
def spB (k o : Nat) : UInt8 := match k with
  | 0 => fig (o % 16)
  | 1 => low (o % 16)
  | 2 => fig (o % 16)
  | _ => low (o % 16)
abbrev spell (k o : Nat) : Array UInt8 := #[spA k o, spB k o]
theorem low_fig : ∀ n < 16, Builtin.Bytes.toLower (fig n) = low n := by decide +kernel
theorem oc_lt (x : Int) : oc x < 256 := by
  have h0 := Int.fmod_nonneg_of_pos x (show (0 : Int) < 256 by decide)
  have h1 := Int.fmod_lt_of_pos x (show (0 : Int) < 256 by decide)
  unfold oc
  omega
theorem oc_u8 (x : Int) : (Int.fmod x 256).toNat.toUInt8.toNat = oc x := by
  have h := oc_lt x
  show (Int.fmod x 256).toNat % 256 = _
  unfold oc at h ⊢
  omega
theorem c_spelled {w mean mg mb x t} : Does w mean mg mb 145 ⟨[.int x t], []⟩ 35 120 (fun _ => True) (fun _ v _ => ∃ t', v = .bytes (spell (sp x) (oc x)) t') := by
  intro dp un gd fr s R S _ hdp hu ret
  have KX := S.X
  have T := S.T
  ktr_unf
  k_steps
  all_goals (
    (rename Int.fmod (Int.fdiv x 256) 4 = _ => hk)
    have h1 : oc x / 16 < 16 := by (have := oc_lt x; omega)
    have h2 : oc x % 16 < 16 := by omega
    simp only [oc_u8, low_fig _ h1, low_fig _ h2]
    refine ret _ _ _ (Fr.keep (by assumption)) ?_
    unfold sp
    rw [hk]
    exact ⟨_, rfl⟩)
end Mine
end
section
open PySem PySem.W PySem.Calls PyProof.Rows PySem.Spec
set_option maxRecDepth 100000
set_option maxHeartbeats 8000000
namespace Mine
local macro_rules | `(tactic| ktr_unf) => `(tactic| (
  (have kf : Challenge.rw_il0003_01 = Challenge.rw_il0003_01 ∧ hd.heap_39 = hd.heap_39 := by (k_fill; exact ⟨rfl, rfl⟩));
  clear kf;
  refine' enter_ (by assumption) ?k0 ?k1 ?k2 ?k3 ?k4 ?_ ?k5 ?k6 ?k7 ?k8;
  (case k0 => (dsimp only; omega));
  (case k1 => k_is);
  (case k2 => k_is);
  (case k3 => first | exact BindsTo.of_eq rfl | exact binds_K (by k_in) rfl (by k_is) rfl rfl rfl);
  (case k4 => exact locs rfl);
  (case k5 => rfl);
  (case k6 => rfl);
  (case k7 => rfl);
  (case k8 => decide);
  intro h₁ F N;
  dsimp only;
  k_unmd;
  k_fold))
def figN (n : Nat) : Nat := if n < 10 then 48 + n else 55 + n
theorem figN_mem : ∀ n < 16, figN n ∈ hexCh := by decide +kernel
theorem figN_u8 (n : Nat) : (figN n).toUInt8 = fig n := rfl
abbrev digs : Str := Str.ofString "0123456789ABCDEF"
theorem figs_is : ∀ o : Nat, o < 256 → (Txt.item digs (Int.fdiv (o : Int) 16) ++ Txt.item digs (Int.fmod (o : Int) 16)).cps = #[figN (o / 16), figN (o % 16)] := by decide +kernel
theorem figs_eq {i : Int} (h0 : 0 ≤ i) (h1 : i < 256) : Txt.item digs (Int.fdiv i 16) ++ Txt.item digs (Int.fmod i 16) = ⟨#[figN (i.toNat / 16), figN (i.toNat % 16)]⟩ := by
  have h := figs_is i.toNat (by omega)
  rw [Int.toNat_of_nonneg h0] at h
  exact PySem.Str.ext' h
theorem c_figures {w mean mg mb} {i : Int} {t} (h0 : 0 ≤ i) (h1 : i < 256) : Does w mean mg mb 152 ⟨[.int i t], []⟩ 15 60 (fun _ => True) (fun _ v _ => ∃ t', v = .str ⟨#[figN (i.toNat / 16), figN (i.toNat % 16)]⟩ t') := by
  intro dp un gd fr s R S _ hdp hu ret
  have KX := S.X
  have T := S.T
  ktr_unf
  k_steps
  dsimp only
  rw [figs_eq h0 h1]
  exact ret _ _ _ (Fr.keep (by assumption)) ⟨_, rfl⟩
end Mine
end
section
open PySem PySem.W PySem.Calls PyProof.Rows PySem.Spec
set_option maxRecDepth 100000
set_option maxHeartbeats 8000000
namespace Mine
local macro_rules | `(tactic| ktr_unf) => `(tactic| (
  (have kf : Challenge.rw_il0003_01 = Challenge.rw_il0003_01 ∧ hd.heap_39 = hd.heap_39 := by (k_fill; exact ⟨rfl, rfl⟩));
  clear kf;
  refine' enter_ (by assumption) ?k0 ?k1 ?k2 ?k3 ?k4 ?_ ?k5 ?k6 ?k7 ?k8;
  (case k0 => (dsimp only; omega));
  (case k1 => k_is);
  (case k2 => k_is);
  (case k3 => first | exact BindsTo.of_eq rfl | exact binds_K (by k_in) rfl (by k_is) rfl rfl rfl);
  (case k4 => exact locs rfl);
  (case k5 => rfl);
  (case k6 => rfl);
  (case k7 => rfl);
  (case k8 => decide);
  intro h₁ F N;
  dsimp only;
  k_unmd;
  k_fold))
local macro_rules | `(tactic| walk_at "call type:type") => `(tactic| (k_here; first | (refine type_bytes ?_) | (refine type_int ?_)))
local macro_rules | `(tactic| walk_at "getMethod bytes") => `(tactic| (k_here; first | (with_reducible refine m_upper ?_) | (with_reducible refine m_lower ?_) | (with_reducible refine m_hex ?_)))
local macro_rules | `(tactic| walk_at "call builtin:bytes.upper") => `(tactic| (k_here; (refine x_upper (by simp) ?_); intro _ _; (try simp only [List.map_cons, List.map_nil])))
local macro_rules | `(tactic| walk_at "call builtin:bytes.lower") => `(tactic| (k_here; (refine x_lower (by simp) ?_); intro _ _; (try simp only [List.map_cons, List.map_nil])))
theorem c_ascii {w mean mg mb b t} : Does w mean mg mb 71 ⟨[.bytes b t], []⟩ 10 30 (fun _ => True) (fun _ v _ => v = .bytes b t) := by
  intro dp un gd fr s R S _ hdp hu ret
  have KX := S.X
  have T := S.T
  ktr_unf
  k_steps
  exact ret _ _ _ (Fr.keep (by assumption)) rfl
theorem c_fromdata {w mean mg mb b t} : Does w mean mg mb 51 ⟨[.bytes b t], []⟩ 10 30 (fun _ => True) (fun _ v _ => v = .bytes b t) := by
  intro dp un gd fr s R S _ hdp hu ret
  have KX := S.X
  have T := S.T
  ktr_unf
  k_steps
  exact ret _ _ _ (Fr.keep (by assumption)) rfl
def hv (c : Int) : Int := if 48 ≤ c ∧ c ≤ 57 then c - 48 else if 65 ≤ c ∧ c ≤ 70 then c - 55 else if 97 ≤ c ∧ c ≤ 102 then c - 87 else 16
theorem c_hexval {w mean mg mb} {c : Int} {t} (h0 : 0 ≤ c) (h1 : c < 256) : Does w mean mg mb 94 ⟨[.int c t], []⟩ 10 30 (fun _ => True) (fun _ v _ => ∃ t', v = .int (hv c) t') := by
  intro dp un gd fr s R S _ hdp hu ret
  have KX := S.X
  have T := S.T
  have fin : ∀ y tk h' tk', Kp s.heap h' → y = hv c → R (.ok (.ret (.int y tk))) { s with heap := h', toks := tk' } := fun y tk h' tk' hk e => by subst e; exact ret _ _ _ hk ⟨_, rfl⟩
  ktr_unf
  k_steps
  all_goals (
    dsimp only
    refine fin _ _ _ _ (Fr.keep (by assumption)) ?_
    unfold hv
    (repeat' split) <;> omega)
local macro_rules | `(tactic| walk_at "call ref") => `(tactic| (k_here; k_dflt (refine' use_ c_ascii ?kS ?kF ?kN ?kp ?kd ?ku ?kh ?_; (case kS => assumption); (case kF => k_asm); (case kN => k_asm); (case kp => trivial); (case kd => ktr_room); (case ku => ktr_units); (case kh => rfl); k_whole); intro v' h' tk' hk' ho' F' N'; subst ho'; (try k_sweep)))
local macro_rules | `(tactic| walk_at "call ref") => `(tactic| (k_here; k_dflt (refine' use_ (c_hexval (by omega) (by omega)) ?kS ?kF ?kN ?kp ?kd ?ku ?kh ?_; (case kS => assumption); (case kF => k_asm); (case kN => k_asm); (case kp => trivial); (case kd => ktr_room); (case ku => ktr_units); (case kh => rfl); k_whole); intro v' h' tk' hk' ho' F' N'; obtain ⟨t', ho'⟩ := ho'; subst ho'; (try k_sweep)))
theorem hv_lt : ∀ c ∈ hexCh, 0 ≤ hv (c : Int) ∧ hv (c : Int) < 16 := by decide +kernel
theorem x_len2 {prog : Program} {w : World} {A : Around} {E : Value → Shared → Prop} {s : Shared} {p q : UInt8} {t : Tok} {Q : Value → Shared → Prop} (h : Q (.int 2 (s.toks + 1)) { s with toks := s.toks + 1 + 1 }) : wpAny (model prog w) A (call (.builtin "len") [.bytes #[p, q] t]) Q E s :=
  len_bytes (by show 2 ≤ 1099511627776; decide) h
local macro_rules | `(tactic| walk_at "call builtin:len") => `(tactic| (k_here; (refine x_len2 ?_)))
section
variable {prog : Program} {w : World} {A : Around} {E : Value → Shared → Prop} {s : Shared} {value slice : PySem.Expr} {p q : UInt8} {t u : Tok} {Q : Value → Shared → Prop}
theorem x_item0 (h : Q (.int p.toNat s.toks) { s with toks := s.toks + 1 })
    (hs : subscripted slice false (.bytes #[p, q] t) (.int 0 u) = operate [.bytes #[p, q] t, .int 0 u] (getItem (.bytes #[p, q] t) (.int 0 u)) := by with_unfolding_all rfl)
    (ht : ∀ r, letTemporaryGo value (.bytes #[p, q] t) r = pure () := by intro _; with_unfolding_all rfl) :
    wpAny (model prog w) A (subscriptTail value slice (.bytes #[p, q] t) (.int 0 u)) Q E s :=
  KBy.item_N (x := [p, q]) (i := 0) (by show 2 ≤ 1099511627776; decide) (by decide) (by show (0 : Int) < 2; decide) h hs ht
theorem x_item1 (h : Q (.int q.toNat s.toks) { s with toks := s.toks + 1 })
    (hs : subscripted slice false (.bytes #[p, q] t) (.int (0 + 1) u) = operate [.bytes #[p, q] t, .int (0 + 1) u] (getItem (.bytes #[p, q] t) (.int (0 + 1) u)) := by with_unfolding_all rfl)
    (ht : ∀ r, letTemporaryGo value (.bytes #[p, q] t) r = pure () := by intro _; with_unfolding_all rfl) :
    wpAny (model prog w) A (subscriptTail value slice (.bytes #[p, q] t) (.int (0 + 1) u)) Q E s :=
  KBy.item_N (x := [p, q]) (i := 0 + 1) (by show 2 ≤ 1099511627776; decide) (by decide) (by show (0 : Int) + 1 < 2; decide) h hs ht
end
local macro_rules | `(tactic| walk_at "subscriptTail") => `(tactic| (k_here; (with_reducible show wpAny _ _ (subscriptTail _ _ (Value.bytes _ _) (Value.int _ _)) _ _ _); first | (with_reducible refine x_item0 ?_) | (with_reducible refine x_item1 ?_)))
theorem bytes_one {prog : Program} {w : World} {A : Around} {E : Value → Shared → Prop} {s : Shared} {h₀ : Heap} {L l : Addr} {m : Str → Option Value} {news : List (Addr × Obj)} {i : Int} {tk : Tok} {n : Nat} {Q : Value → Shared → Prop} (F : Fr h₀ L s.heap m) (N : News h₀ L s.heap news)
    (hm : (l, W.listOf (#[].push (.int i tk)) n) ∈ news) (h0 : 0 ≤ i) (h1 : i < 256) (hh : A.handled = none)
    (h : ∀ h' t k, Fr h₀ L h' m → News h₀ L h' news → Q (.bytes #[i.toNat.toUInt8] t) { s with heap := h', toks := k }) : wpAny (model prog w) A (call (.type "bytes") [.ref l]) Q E s :=
  bytes_K (vs := [.int i tk]) (ns := [i]) F N ⟨_, (N _ hm).1, rfl, _, rfl⟩ (.cons i tk .nil) (fun x hx => by rw [List.mem_singleton.mp hx]; exact ⟨h0, h1⟩) (by rw [sizeLine_eq]; simp) hh fun h' t k f nn _ => h h' t k f nn
theorem hv_four : Int.toNat 4 = 4 := rfl
local macro_rules | `(tactic| walk_at "call type:bytes") => `(tactic| (k_here; k_dflt (refine' bytes_one ?F ?N ?m ?a ?b ?h ?_; (case F => k_asm); (case N => k_asm); (case m => k_mem); (case a => (simp only [hv_four]; omega)); (case b => (simp only [hv_four]; omega)); (case h => rfl); k_whole); intro h' t' k' F' N'; (try k_sweep)))
theorem c_a2b {w mean mg mb p q t} (hp : p.toNat ∈ hexCh) (hq : q.toNat ∈ hexCh) : Does w mean mg mb 101 ⟨[.bytes [p, q].toArray t], []⟩ 25 80 (fun _ => True) (fun _ v _ => ∃ t', v = .bytes #[(hv p.toNat * 16 + hv q.toNat).toNat.toUInt8] t') := by
  intro dp un gd fr s R S _ hdp hu ret
  have KX := S.X
  have T := S.T
  have p9 := p.toNat_lt
  have q9 := q.toNat_lt
  obtain ⟨a1, a2⟩ := hv_lt _ hp
  obtain ⟨a3, a4⟩ := hv_lt _ hq
  ktr_unf
  k_steps
  exact ret _ _ _ (Fr.keep (by assumption)) ⟨_, rfl⟩
end Mine
end
section
open PySem PySem.W PySem.Calls PyProof.Rows PySem.Spec
set_option maxRecDepth 100000
set_option maxHeartbeats 8000000
namespace Mine
local macro_rules | `(tactic| ktr_unf) => `(tactic| (
  (have kf : Challenge.rw_il0003_01 = Challenge.rw_il0003_01 ∧ hd.heap_39 = hd.heap_39 := by (k_fill; exact ⟨rfl, rfl⟩));
  clear kf;
  refine' enter_ (by assumption) ?k0 ?k1 ?k2 ?k3 ?k4 ?_ ?k5 ?k6 ?k7 ?k8;
  (case k0 => (dsimp only; omega));
  (case k1 => k_is);
  (case k2 => k_is);
  (case k3 => first | exact BindsTo.of_eq rfl | exact binds_K (by k_in) rfl (by k_is) rfl rfl rfl);
  (case k4 => exact locs rfl);
  (case k5 => rfl);
  (case k6 => rfl);
  (case k7 => rfl);
  (case k8 => decide);
  intro h₁ F N;
  dsimp only;
  k_unmd;
  k_fold))
local macro_rules | `(tactic| walk_at "call type:type") => `(tactic| (k_here; first | (refine type_bytes ?_) | (refine type_int ?_)))
local macro_rules | `(tactic| walk_at "getMethod bytes") => `(tactic| (k_here; first | (with_reducible refine m_upper ?_) | (with_reducible refine m_lower ?_) | (with_reducible refine m_hex ?_)))
local macro_rules | `(tactic| walk_at "call builtin:bytes.upper") => `(tactic| (k_here; (refine x_upper (by simp) ?_); intro _ _; (try simp only [List.map_cons, List.map_nil])))
local macro_rules | `(tactic| walk_at "call builtin:bytes.lower") => `(tactic| (k_here; (refine x_lower (by simp) ?_); intro _ _; (try simp only [List.map_cons, List.map_nil])))
local macro_rules | `(tactic| walk_at "call ref") => `(tactic| (k_here; k_dflt (refine' use_ c_fromdata ?kS ?kF ?kN ?kp ?kd ?ku ?kh ?_; (case kS => assumption); (case kF => k_asm); (case kN => k_asm); (case kp => trivial); (case kd => ktr_room); (case ku => ktr_units); (case kh => rfl); k_whole); intro v' h' tk' hk' ho' F' N'; subst ho'; (try k_sweep)))
local macro_rules | `(tactic| walk_at "call ref") => `(tactic| (k_here; k_dflt (refine' use_ (c_a2b (by assumption) (by assumption)) ?kS ?kF ?kN ?kp ?kd ?ku ?kh ?_; (case kS => assumption); (case kF => k_asm); (case kN => k_asm); (case kp => trivial); (case kd => ktr_room); (case ku => ktr_units); (case kh => rfl); k_whole); intro v' h' tk' hk' ho' F' N'; obtain ⟨t', ho'⟩ := ho'; subst ho'; (try k_sweep)))
local macro_rules | `(tactic| walk_at "getMethod ref") => `(tactic| (k_here; k_dflt (refine' pat_method (c := 42) ?hp ?_; (case hp => exact Frag.In.keeps (by assumption) (Fr.keep (by assumption)) 43 _ (by k_is)); k_whole)))
local macro_rules | `(tactic| walk_at "call builtin:re.Pattern.search") => `(tactic| (k_here; k_dflt (refine' pat_search (c := 42) false ?hy ?hp ?hc ?_ ?hm; (case hy => assumption); (case hp => exact Frag.In.keeps (by assumption) (Fr.keep (by assumption)) 43 _ (by k_is)); (case hc => exact Frag.In.keeps (by assumption) (Fr.keep (by assumption)) 42 _ (by k_is)); (case hm => exact fun e => nomatch e)); intro _))
open Builtin.Bytes in
theorem c_dec_pos {w mean mg mb p q t} (hs : says reCode (toUpper p).toNat (toUpper q).toNat = some false) (hp : (toUpper p).toNat ∈ hexCh) (hq : (toUpper q).toNat ∈ hexCh) : Does w mean mg mb 116 ⟨[.bytes #[p, q] t, .bool true], []⟩ 40 140 (fun _ => True) (fun _ v _ => ∃ t', v = .bytes #[(hv (toUpper p).toNat * 16 + hv (toUpper q).toNat).toNat.toUInt8] t') := by
  intro dp un gd fr s R S _ hdp hu ret
  have KX := S.X
  have T := S.T
  ktr_unf
  k_steps
  exact ret _ _ _ (Fr.keep (by assumption)) ⟨_, rfl⟩
open Builtin.Bytes in
theorem c_dec_kw {w mean mg mb p q t} (hs : says reCode (toUpper p).toNat (toUpper q).toNat = some false) (hp : (toUpper p).toNat ∈ hexCh) (hq : (toUpper q).toNat ∈ hexCh) : Does w mean mg mb 116 ⟨[.bytes #[p, q] t], [(Str.ofString "casefold", .bool true)]⟩ 40 140 (fun _ => True) (fun _ v _ => ∃ t', v = .bytes #[(hv (toUpper p).toNat * 16 + hv (toUpper q).toNat).toNat.toUInt8] t') := by
  intro dp un gd fr s R S _ hdp hu ret
  have KX := S.X
  have T := S.T
  ktr_unf
  k_steps
  exact ret _ _ _ (Fr.keep (by assumption)) ⟨_, rfl⟩
end Mine
end
section
open PySem PySem.W PySem.Calls PyProof.Rows PySem.Spec Builtin Builtin.ObjectAttr Builtin.Getset_descriptor
set_option maxRecDepth 100000
set_option maxHeartbeats 8000000
namespace Mine
def ExcAt (e C : Addr) (h : Heap) : Prop := ∃ o, h.get? e = some o ∧ o.cls = .ref C
theorem exc_ty {e C : Addr} {M : Model} {h : Heap} (I : ExcAt e C h) : Looks M h (typeOf (.ref e)) (.ref C) := by
  obtain ⟨o, ho, hc⟩ := I
  intro A Q E s k q
  unfold typeOf
  first
    | exact wpAny_bind (wpAny_loadPart (k _ _ ho) (by rw [hc]; exact wpAny_pure q))
    | (unfold loadHead; exact wpAny_bind (wpAny_loadPart (k _ _ ho) (by rw [hc]; exact wpAny_pure q)))
section
variable {prog : Program} {w : World} {A : Around} {E : Value → Shared → Prop} {K : Frag} {e C : Addr}
theorem exc_class_get {s : Shared} {R : Result → Shared → Prop} {tp : Value} (X : K.In s.heap) (I : ExcAt e C s.heap) (hm : mroIn K C (.type "object") = some true)
    (h : R (.ok (.ret (.ref C))) s) : codeAny (model prog w) A (.call (.builtin "getset_descriptor.__get__") ⟨[.builtin "object.__class__", .ref e, tp], []⟩) R s := by
  obtain ⟨hh, g, dr, t, os⟩ := s
  have L0 := exc_ty (M := model prog w) I
  have L1 := looks_mroIn (M := model prog w) X hm
  refine codeAny_call_builtin KF.slot_gs.plain KF.entry_gs (KF.slot_gs.check _ _ _ _ _ _ _ _ KF.type_class (KF.args_gs _ _ _) ?_)
  unfold Builtin.«getset_descriptor.__get__» descrGet
  rw [dga_obj]
  refine wpAny_bind (wpAny_pure ?_)
  unfold descrGetter descrCheckInstance descrNameAndClass isInstance
  simp only [KF.owner_class]
  repeat lk
  refine ⟨Code.quiet_builtin _ (by decide +kernel), codeAny_builtin KF.entry_class ?_⟩
  unfold Builtin.«object.__class__» shownTypeOf
  repeat lk
  exact h
structure ExcCls (K : Frag) (C : Addr) : Prop where
  ga : findIn K (.ref C) "__getattribute__" = some (some (.builtin "BaseException.__getattribute__"))
  hook : findIn K (.ref C) "__getattr__" = some none
  cls : findIn K (.ref C) "__class__" = some (some (.builtin "object.__class__"))
  obj : mroIn K C (.type "object") = some true
  base : mroIn K C (.type "BaseException") = some true
theorem exc_check_ga {s : Shared} {nameV : Value} {Q : Unit → Shared → Prop} {M : Model} (X : K.In s.heap) (I : ExcAt e C s.heap) (Z : ExcCls K C) (hq : Q () s) : wpAny M A (checkBuiltinCall "BaseException.__getattribute__" ⟨[.ref e, nameV], []⟩) Q E s := by
  have hk : builtinKind "BaseException.__getattribute__" = some .slot := by decide +kernel
  have hsplit : splitId "BaseException.__getattribute__" = some ("BaseException", "__getattribute__") := by decide +kernel
  have ha := F.args_bexc_ga (.ref e) nameV
  obtain ⟨hh, g, dr, t, os⟩ := s
  have L0 := exc_ty (M := M) I
  have L1 := looks_mroIn (M := M) X Z.base
  simp only [checkBuiltinCall, hk, hsplit]
  refine wpAny_bind ?_
  unfold isInstance
  refine wpAny_bind (L0.at (L1.at ?_))
  repeat (first | wp_step)
  exact hq
theorem exc_class_entry {s : Shared} {tk : Tok} {Q : Fin → Shared → Prop} (X : K.In s.heap) (I : ExcAt e C s.heap) (Z : ExcCls K C) (hq : Q (.done (.ret (.ref C))) s) :
    wpAny (model prog w) A (Builtin.«object.__getattribute__» ⟨[.ref e, .str "__class__" tk], []⟩) Q E s := by
  obtain ⟨hh, g, dr, t, os⟩ := s
  have L0 := exc_ty (M := model prog w) I
  have L1 := looks_findIn (M := model prog w) X Z.cls
  have hT5 : (⟨hh, g, dr, t, os⟩ : Shared).TypeIs (.builtin "object.__class__") "getset_descriptor" := F.typeOf_object_class
  have f5 := F.typeOf_object_class
  have f6 := F.slot_gs_get.lookup
  have f7 := F.slot_gs_set.lookup
  repeat (any_goals (first | assumption | (with_reducible refine Looks.at (by assumption) ?_) | wp_step))
  refine exc_class_get X I Z.obj ?_
  repeat (any_goals (first | assumption | wp_step))
theorem exc_class_call {s : Shared} {tk : Tok} {R : Result → Shared → Prop} (X : K.In s.heap) (I : ExcAt e C s.heap) (Z : ExcCls K C) (hq : R (.ok (.ret (.ref C))) s) :
    codeAny (model prog w) A (.call (.builtin "BaseException.__getattribute__") ⟨[.ref e, .str "__class__" tk], []⟩) R s :=
  codeAny_call_builtin F.attr_ValueError.ga.plain F.entry_bexc_ga (exc_check_ga X I Z (exc_class_entry X I Z hq))
theorem exc_class_by {s : Shared} {tk : Tok} {Q : Value → Shared → Prop} (X : K.In s.heap) (I : ExcAt e C s.heap) (Z : ExcCls K C) (hq : Q (.ref C) s) :
    wpAny (model prog w) A (getAttrBy (.ref e) (.str "__class__" tk) false) Q E s := by
  obtain ⟨hh, g, dr, t, os⟩ := s
  have L0 := exc_ty (M := model prog w) I
  have L1 := looks_findIn (M := model prog w) X Z.ga
  have L2 := looks_findIn (M := model prog w) X Z.hook
  have f3 := F.attr_ValueError.ga.bind (.ref e)
  have hx0 : (false && onTheHeap (Value.builtin "BaseException.__getattribute__")) = false := rfl
  have hx2 : (Value.builtin "BaseException.__getattribute__" == Value.builtin "object.__getattribute__") = false := by decide +kernel
  have hx1 : (onTheHeap (Value.ref C) && Value.builtin "BaseException.__getattribute__" == Value.builtin "object.__getattribute__") = false := by rw [hx2]; rfl
  repeat (any_goals (first | assumption | (with_reducible refine Looks.at (by assumption) ?_) | wp_step))
  refine exc_class_call X I Z ?_
  repeat (any_goals (first | assumption | wp_step))
theorem exc_class_attr {s : Shared} {Q : Option Value → Shared → Prop} (X : K.In s.heap) (I : ExcAt e C s.heap) (Z : ExcCls K C) (hq : Q (some (.ref C)) { s with toks := s.toks + 1 }) : wpAny (model prog w) A (getAttr? (.ref e) "__class__") Q E s := by
  obtain ⟨hh, g, dr, t, os⟩ := s
  unfold getAttr? getAttrBy?
  repeat (any_goals (first | assumption | (with_reducible refine exc_class_by X I Z ?_) | wp_step))
end
theorem kitx_exc {K : Frag} {e C : Addr} {od : Option Addr} {cd : ClassData} {sl : Array (Option Value)} (hC : K.lookup C = some ⟨.type "type", od, .cls cd, sl⟩) (Z : ExcCls K C) : KitX K (.ref e) (.ref C) (ExcAt e C) where
  ty := fun _ _ _ I => exc_ty I
  it := fun _ _ X _ => by
    intro A' Q' E' s' k q
    unfold isType loadHead
    exact wpAny_bind (wpAny_loadPart (k _ _ (X _ _ hC)) (wpAny_pure q))
  ne := fun h tp dd its n sl X htp => by
    refine Bool.eq_false_iff.mpr fun q => ?_
    have e : C = tp := Value.ref.inj (beq_iff_eq.mp q)
    subst e
    have z := (X _ _ hC).symm.trans htp
    exact absurd (Value.type.inj (congrArg Obj.cls (Option.some.inj z))) (by decide)
  ca := fun X I k => exc_class_attr X I Z k
end Mine
end
section
open PySem PySem.W PySem.Calls PyProof.Rows PySem.Spec
set_option maxRecDepth 100000
set_option maxHeartbeats 8000000
namespace Mine
local macro_rules | `(tactic| ktr_unf) => `(tactic| (
  (have kf : Challenge.rw_il0003_01 = Challenge.rw_il0003_01 ∧ hd.heap_39 = hd.heap_39 := by (k_fill; exact ⟨rfl, rfl⟩));
  clear kf;
  refine' enter_ (by assumption) ?k0 ?k1 ?k2 ?k3 ?k4 ?_ ?k5 ?k6 ?k7 ?k8;
  (case k0 => (dsimp only; omega));
  (case k1 => k_is);
  (case k2 => k_is);
  (case k3 => first | exact BindsTo.of_eq rfl | exact binds_K (by k_in) rfl (by k_is) rfl rfl rfl);
  (case k4 => exact locs rfl);
  (case k5 => rfl);
  (case k6 => rfl);
  (case k7 => rfl);
  (case k8 => decide);
  intro h₁ F N;
  dsimp only;
  k_unmd;
  k_fold))
local macro_rules | `(tactic| walk_at "call type:type") => `(tactic| (k_here; first | (refine type_bytes ?_) | (refine type_int ?_)))
local macro_rules | `(tactic| walk_at "getMethod bytes") => `(tactic| (k_here; first | (with_reducible refine m_upper ?_) | (with_reducible refine m_lower ?_) | (with_reducible refine m_hex ?_)))
local macro_rules | `(tactic| walk_at "call builtin:bytes.upper") => `(tactic| (k_here; (refine x_upper (by simp) ?_); intro _ _; (try simp only [List.map_cons, List.map_nil])))
local macro_rules | `(tactic| walk_at "call builtin:bytes.lower") => `(tactic| (k_here; (refine x_lower (by simp) ?_); intro _ _; (try simp only [List.map_cons, List.map_nil])))
/-- a call that may note frames: the caller's frame object is turned in its slots alone -/
def DoesT (w : World) (mean : ExcName → Option Value) (mg mb : Str → Option Value) (f : Addr) (args : Args) (d u : Nat) (Pre : Heap → Prop) (Out : Heap → Value → Heap → Prop) : Prop :=
  ∀ (dp un : Nat) (gd : Option (List Code)) (env : Env) (base : Heap) (L : Addr) (s : Shared) (R : Result → Shared → Prop), env.frame = some L → Below { handled := none, depth := dp, frames := some [env], guards := gd, units := un } base [env] s.heap → Std w mean mg mb base → Std w mean mg mb s.heap → KtsDicts ([env].filterMap (·.frame)) s.heap → Pre s.heap → dp + d < recursionLimit → un + u < cLine →
    (∀ v h' tk' g', KtsTurn ([env].filterMap (·.frame)) s.heap g' → Kp g' h' → Out s.heap v h' → R (.ok (.ret v)) { s with heap := h', toks := tk' }) → codeAny (model PR w) { handled := none, depth := dp, frames := some [env], guards := gd, units := un } (.call (.ref f) args) R s
theorem pat_hit {prog : Program} {w : World} {A : Around} {E : Value → Shared → Prop} {s : Shared} {h₀ : Heap} {L : Addr} {m : Str → Option Value} {news : List (Addr × Obj)} {p c : Addr} {pv : Value} {a q : UInt8} {t : Tok} {Q : Value → Shared → Prop} (hy : says reCode a.toNat q.toNat = some true) (hp : s.heap.get? p = some (patObj pv c)) (hc : s.heap.get? c = some { cls := .type "tuple", data := .seq codeVals })
    (F : Fr h₀ L s.heap m) (N : News h₀ L s.heap news) (h : ∀ h' r o, Fr h₀ L h' m → News h₀ L h' news → h'.get? r = some o → Found o → Q (.ref r) { s with heap := h' }) :
    wpAny (model prog w) A (call (.builtin "re.Pattern.search") [.ref p, .bytes #[a, q] t]) Q E s :=
  pat_search true hy hp hc (fun e => nomatch e) fun _ h' r o hk hr ho => h h' r o (F.keeps hk) (N.grown hk) hr ho
local macro_rules | `(tactic| walk_at "call ref") => `(tactic| (k_here; k_dflt (refine' use_ c_fromdata ?kS ?kF ?kN ?kp ?kd ?ku ?kh ?_; (case kF => k_asm); (case kN => k_asm); (case kS => first | assumption | exact ⟨by assumption, by assumption⟩); (case kp => trivial); (case kd => ktr_room); (case ku => ktr_units); (case kh => rfl); k_whole); intro v' h' tk' hk' ho' F' N'; subst ho'; (try k_sweep)))
local macro_rules | `(tactic| walk_at "call ref") => `(tactic| (k_here; k_dflt (refine' use_ (c_a2b (by assumption) (by assumption)) ?kS ?kF ?kN ?kp ?kd ?ku ?kh ?_; (case kF => k_asm); (case kN => k_asm); (case kS => first | assumption | exact ⟨by assumption, by assumption⟩); (case kp => trivial); (case kd => ktr_room); (case ku => ktr_units); (case kh => rfl); k_whole); intro v' h' tk' hk' ho' F' N'; obtain ⟨t', ho'⟩ := ho'; subst ho'; (try k_sweep)))
local macro_rules | `(tactic| walk_at "getMethod ref") => `(tactic| (k_here; k_dflt (refine' pat_method (c := 42) ?hp ?_; (case hp => exact Frag.In.keeps (by assumption) (Fr.keep (by assumption)) 43 _ (by k_is)); k_whole)))
local macro_rules | `(tactic| walk_at "call builtin:re.Pattern.search") => `(tactic| (k_here; k_dflt (first
  | (refine' pat_hit (c := 42) ?hy ?hp ?hc ?F ?N ?_; (case hy => assumption); (case hp => exact Frag.In.keeps (by assumption) (Fr.keep (by assumption)) 43 _ (by k_is)); (case hc => exact Frag.In.keeps (by assumption) (Fr.keep (by assumption)) 42 _ (by k_is)); (case F => k_asm); (case N => k_asm); k_whole; intro h' r' o' F' N' hr' ho'; (try k_sweep))
  | (refine' pat_search (c := 42) false ?hy ?hp ?hc ?_ ?hm; (case hy => assumption); (case hp => exact Frag.In.keeps (by assumption) (Fr.keep (by assumption)) 43 _ (by k_is)); (case hc => exact Frag.In.keeps (by assumption) (Fr.keep (by assumption)) 42 _ (by k_is)); (case hm => exact fun e => nomatch e); intro _))))
local macro_rules | `(tactic| walk_at "truthy ref") => `(tactic| (k_here; (refine truthy_match (by assumption) (by assumption) ?_)))
local macro_rules | `(tactic| walk_at "call ref") => `(tactic| (k_here; k_dflt ((with_reducible show wpAny _ _ (call (Value.ref 116) _ _) _ _ _); refine wpAny_call ?_; refine' code_defS ?k1 ?k2 ?k3 ?k4 ?k5 ?XB ?TB ?D ?T0 ?kA ?k6 ?k7 ?k8 ?k9 ?kB ?_ ?cK ?c2 ?c3 ?c4 ?c5; (case kA => exact rfl); (case k2 => k_asm); (case k1 => k_asm); (case XB => assumption); (case TB => assumption); (case D => assumption); (case T0 => first | assumption | exact KtsTurn.refl); (case k3 => k_asm); (case k4 => k_asm); (case k5 => k_asm); (case k6 => k_is); (case k7 => k_is); (case k8 => ktr_room); (case k9 => first | exact binds_K (by k_in) rfl (by k_is) rfl rfl rfl | exact BindsTo.of_eq rfl); (case kB => exact locs rfl); (case cK => exact rfl); (case c2 => exact rfl); (case c3 => exact rfl); (case c4 => exact rfl); (case c5 => decide); k_whole; intro g' L' h' FG' F' N' B' X' T' D'; (try dsimp only); (try k_lift B'); (try k_fold))))
theorem err61 {P : Params} : ExcCls (hd.heap_39 P) 61 := by
  have kf : Challenge.rw_il0003_01 = Challenge.rw_il0003_01 ∧ hd.heap_39 = hd.heap_39 := by (k_fill; exact ⟨rfl, rfl⟩)
  exact ⟨by k_is, by k_is, by k_is, by k_is, by k_is⟩
theorem got_excAt {n : List (Addr × Obj)} {e t C : Addr} {vs : List Value} {g h : Heap} {L : Addr} (G : Got n e t (.ref C) vs) (N : News g L h n) : ExcAt e C h := by
  obtain ⟨oe, ot, ws, nt, h1, _, hc, _⟩ := G
  exact ⟨oe, (N _ h1).1, hc⟩
local macro_rules | `(tactic| walk_at "call builtin:isinstance") => `(tactic| (k_here; k_dflt (refine' kia_one (K := hd.heap_39 _) (kitx_exc (C := 61) ?hC err61) ?X ?c ?ee ?nb ?_; (case hC => k_is); (case X => k_in); (case c => exact got_excAt (by assumption) (by assumption)); (case ee => kit_is); (case nb => kit_nb); k_whole); intro _))
theorem turn_none {fs : List Addr} {g g' : Heap} (T : KtsTurn fs g g') {b : Addr} (e : g'.get? b = none) : g.get? b = none := by
  cases q : g.get? b with
  | none => rfl
  | some o =>
    obtain ⟨sl, z⟩ := T.up q
    rw [e] at z
    cases z
theorem c_ref_no {w mean mg mb p q t} (hs : says reCode p.toNat q.toNat = some true) : DoesT w mean mg mb 164 ⟨[.ref 116, .bytes #[p, q] t], []⟩ 60 200 (fun _ => True) (fun h v h' => ∃ r n, v = .ref r ∧ h.get? r = none ∧ h'.get? r = some { cls := .type "tuple", data := .seq #[.bool false, .bool true] n }) := by
  intro dp un gd env base L s R hL B Sb S D _ hdp hu ret
  have XB := Sb.X
  have TB := Sb.T
  have KX := S.X
  have T := S.T
  ktr_unf
  k_steps
  exact ret _ _ _ _ (by assumption) (Fr.keep (by assumption)) ⟨_, _, rfl, turn_none (fs := [env].filterMap (·.frame)) (by assumption) (News.fresh (by assumption) (List.Mem.head _)), News.get (by assumption) (List.Mem.head _)⟩
theorem c_ref_ok {w mean mg mb p q t} (hs : says reCode p.toNat q.toNat = some false) (hp : p.toNat ∈ hexCh) (hq : q.toNat ∈ hexCh) : DoesT w mean mg mb 164 ⟨[.ref 116, .bytes #[p, q] t], []⟩ 60 200 (fun _ => True) (fun h v h' => ∃ r n, v = .ref r ∧ h.get? r = none ∧ h'.get? r = some { cls := .type "tuple", data := .seq #[.bool false, .bool false] n }) := by
  intro dp un gd env base L s R hL B Sb S D _ hdp hu ret
  have XB := Sb.X
  have TB := Sb.T
  have KX := S.X
  have T := S.T
  ktr_unf
  k_steps
  exact ret _ _ _ _ KtsTurn.refl (Fr.keep (by assumption)) ⟨_, _, rfl, News.fresh (by assumption) (List.Mem.head _), News.get (by assumption) (List.Mem.head _)⟩
end Mine
end
section
open PySem PySem.W PySem.Calls PyProof.Rows PySem.Spec PySem.SeqAt
set_option maxRecDepth 100000
set_option maxHeartbeats 8000000
namespace Mine
/-- a kind of values: which are of it, what each is read as; == is equality of what is read -/
structure KD (δ : Type) [DecidableEq δ] where
  Ok : Heap → Value → Prop
  key : Heap → Value → δ
  mono : ∀ {h h' : Heap} {v : Value}, (∀ b o, h.get? b = some o → h'.get? b = some o) → Ok h v → Ok h' v ∧ key h' v = key h v
  eq : ∀ {A : Around} {s : Shared} {y x : Value}, A.units + 4 < cLine → Ok s.heap y → Ok s.heap x → EqAt A s y x (decide (key s.heap y = key s.heap x))
section
variable {A : Around} {s : Shared}
theorem eqAt_bytes (b c : Array UInt8) (t u : Tok) : EqAt A s (.bytes b t) (.bytes c u) (decide (b = c)) := fun prog w E Q h => by
  unfold eqBool
  refine wpAny_holding ?_
  have hd : decide (b = c) = (b.toList == c.toList) := by
    rw [Bool.eq_iff_iff, decide_eq_true_eq, beq_iff_eq]
    exact ⟨fun e => by rw [e], fun e => by cases b; cases c; simpa using e⟩
  rw [hd] at h
  refine wpAny_ite_split (fun hab => ?_) (fun _ => ?_)
  · have e : b = c := by have := eq_of_beq hab; injection this
    subst e
    exact wpAny_bind (wpAny_rule (wpAny_pure (by simpa using h)))
  · exact wpAny_bind (eq_bytes (prog := prog) (w := w) (wpAny_truthy_bool h))
theorem truthOfDropped_bool {M : Model} {A : Around} {E : Value → Shared → Prop} {b : Bool} {Q : Bool → Shared → Prop} (h : Q b s) : wpAny M A (truthOfDropped (.bool b)) Q E s := wpAny_truthy_bool h
end
def bytesOf : Value → Array UInt8
  | .bytes b _ => b
  | _ => #[]
def isBytes : Value → Prop
  | .bytes _ _ => True
  | _ => False
/-- bytes -/
def kB : KD (Array UInt8) where
  Ok := fun _ v => isBytes v
  key := fun _ v => bytesOf v
  mono := fun _ h => ⟨h, rfl⟩
  eq := fun {A s y x} _ hy hx => by
    cases y <;> first | exact hy.elim | skip
    cases x <;> first | exact hx.elim | skip
    exact eqAt_bytes _ _ _ _
/-- a list of one bytes -/
def IsRow (h : Heap) (v : Value) (b : Array UInt8) : Prop := ∃ a t, v = .ref a ∧ h.IsList a #[.bytes b t]
def rowKey (h : Heap) (v : Value) : Array UInt8 := match v with
  | .ref a => (match h.get? a with
    | some ⟨_, _, .seq vs _, _⟩ => bytesOf (vs.getD 0 .none)
    | _ => #[])
  | _ => #[]
theorem rowKey_is {h : Heap} {v : Value} {b : Array UInt8} (x : IsRow h v b) : rowKey h v = b := by
  obtain ⟨a, t, rfl, ⟨c, d, da, sl⟩, ho, _, n, hd⟩ := x
  simp only at hd
  subst hd
  unfold rowKey
  simp only [ho]
  rfl
theorem IsRow.keeps {h h' : Heap} {v : Value} {b : Array UInt8} (k : ∀ b o, h.get? b = some o → h'.get? b = some o) (x : IsRow h v b) : IsRow h' v b := by
  obtain ⟨a, t, rfl, o, ho, r⟩ := x
  exact ⟨a, t, rfl, o, k _ _ ho, r⟩
def kR : KD (Array UInt8) where
  Ok := fun h v => ∃ b, IsRow h v b
  key := rowKey
  mono := fun k ⟨b, x⟩ => ⟨⟨b, x.keeps k⟩, by rw [rowKey_is (x.keeps k), rowKey_is x]⟩
  eq := fun {A s y x} hu ⟨b, hy⟩ ⟨c, hx⟩ => by
    rw [rowKey_is hy, rowKey_is hx]
    obtain ⟨a, t, rfl, hy⟩ := hy
    obtain ⟨a', t', rfl, hx⟩ := hx
    by_cases e : a = a'
    · subst e
      obtain ⟨o, ho, _, n, hd⟩ := hy
      obtain ⟨o', ho', _, n', hd'⟩ := hx
      rw [ho] at ho'
      cases ho'
      rw [hd] at hd'
      cases hd'
      rw [decide_eq_true rfl]
      exact EqAt.same _
    · have q := RcAt.lists (e := fun _ => decide (b = c)) hy hx rfl (show A.units < cLine by omega) (fun j h1 h2 => by
        have : j = 0 := by simpa using h1
        subst this
        exact eqAt_bytes _ _ _ _)
      have e2 : (List.range (#[Value.bytes b t]).size).all (fun _ => decide (b = c)) = decide (b = c) := by
        show (List.range 1).all _ = _
        simp [List.range, List.range.loop]
      rw [e2] at q
      exact EqAt.of_refs e q
/-- the first of each -/
def uniq {δ : Type} [DecidableEq δ] (k : Value → δ) (vs : List Value) : List Value := vs.foldl (fun acc v => if acc.any (fun y => decide (k y = k v)) then acc else acc ++ [v]) []
end Mine
end
section
open PySem PySem.W PySem.Calls PyProof.Rows PySem.Spec PySem.SeqAt
set_option maxRecDepth 100000
set_option maxHeartbeats 8000000
namespace Mine
theorem entry_unchain : entryFor table "proto.unchain" = some Builtin.«proto.unchain» := entryFor_of_tree (by kernel_rfl)
/-- an exception that has no context -/
def NoCtx (e : Addr) (h : Heap) : Prop := ∃ o vs, h.get? e = some o ∧ o.data = .fields vs ∧ vs[2]? = some .none
section
variable {prog : Program} {w : World} {A : Around} {E : Value → Shared → Prop} {s : Shared}
theorem raiseNew_held {α : Type} {e x : Addr} {ox : Obj} {xs : Array Value} {Q : α → Shared → Prop} (hh : A.handled = some (.ref e)) (hne : e ≠ x) (hc : NoCtx e s.heap) (hx : s.heap.get? x = some ox) (hxd : ox.data = .fields xs) (hsz : 2 < xs.size)
    (h : E (.ref x) { s with heap := s.heap.update x (Obj.mapFields (·.setIfInBounds 2 (.ref e))) }) : wpAny (model prog w) A (raiseNew (.ref x) : Sem α) Q E s := by
  obtain ⟨oe, vs, he, hd, h2⟩ := hc
  unfold raiseNew
  refine wpAny_bind (wpAny_handled ?_)
  rw [hh]
  dsimp only
  have hb : (Value.ref e != Value.ref x) = true := by simp [hne]
  rw [if_pos hb]
  refine wpAny_bind (wpAny_holding (wpAny_runValue ?_))
  refine codeAny_builtin entry_unchain ?_
  show wpAny _ _ (field (.ref e) 2 >>= _) _ _ _
  refine wpAny_bind (wpAny_field he hd h2 ?_)
  rw [if_pos (by rfl)]
  refine wpAny_bind (wpAny_pure ?_)
  refine wpAny_pure ?_
  unfold updateField
  refine wpAny_bind (wpAny_bind (wpAny_load hx ?_))
  rw [hxd]
  dsimp only
  rw [if_pos hsz]
  exact wpAny_update hx (wpAny_throw h)
theorem pyNext_end_held {it l e : Addr} {i : Nat} {items : Array Value} {Q : Option Value → Shared → Prop} (hh : A.handled = some (.ref e)) (hc : NoCtx e s.heap) (hne : e ≠ it)
    (hit : s.heap.IsListIter it l i) (hl : s.heap.IsList l items) (hx : items[i]? = none)
    (hQ : ∀ h', Heap.ExtBut it s.heap h' → Q none { s with heap := h' }) : wpAny (model prog w) A (pyNext (.ref it)) Q E s := by
  obtain ⟨o, ho, hcl, hd⟩ := id hit
  obtain ⟨ol, hol, _, nl, hdl⟩ := hl
  unfold pyNext
  refine wpAny_bind (wpAny_attempt (wpAny_callSpecial?_slot (name := Str.ofString "__next__") hit.typeIs slot_listiter_next
    (wpAny_call_entry slot_listiter_next hit.typeIs entry_listiter_next ?_ (args_listiter_next _))))
  show wpAny _ _ (field (.ref it) 0 >>= _) _ _ s
  refine wpAny_bind (wpAny_field ho hd (x := .ref l) rfl ?_)
  refine bm_if_false (by rfl) ?_
  refine wpAny_bind (wpAny_field ho hd (x := .int i 0) rfl ?_)
  refine wpAny_bind (wpAny_seqItems hol hdl ?_)
  simp only [Int.toNat_natCast, hx]
  refine wpAny_bind (wpAny_rule (wpAny_bind (wpAny_setField ho hd (by simp) ?_)))
  have hc' : NoCtx e (s.heap.update it (Obj.mapFields fun x => x.setIfInBounds 0 Value.none)) := by
    obtain ⟨oe, vs, q1, q2, q3⟩ := hc
    exact ⟨oe, vs, (Heap.get?_update_other _ _ (Ne.symm hne)).trans q1, q2, q3⟩
  refine wpAny_bind ?_
  simp only [newExc, newTuple]
  refine wpAny_bind (wpAny_newObj_type ?_ (by size_fits))
  refine wpAny_bind (m := firstArgMember _ _) (wpAny_of_eq (a := Value.none) (by first | rfl | (simp only [firstArgMember]; rfl)) ?_)
  refine wpAny_newObj_type ?_ (by size_fits)
  have hlt : ∀ {b o}, (s.heap.update it (Obj.mapFields fun x => x.setIfInBounds 0 Value.none)).get? b = some o → b < (s.heap.update it (Obj.mapFields fun x => x.setIfInBounds 0 Value.none)).objs.size := fun e => Heap.lt_size e
  have hex : Heap.ExtBut it s.heap (s.heap.update it (Obj.mapFields fun x => x.setIfInBounds 0 Value.none)) := (Heap.SameBut.update ..).extBut
  dsimp only
  generalize s.heap.update it (Obj.mapFields fun x => x.setIfInBounds 0 Value.none) = H at hc' hex hlt ⊢
  have hne' : e ≠ (H.push { cls := Value.type "tuple", data := Data.seq #[] }).objs.size := by
    obtain ⟨oe, vs, q1, _⟩ := hc'
    exact Nat.ne_of_lt (by rw [Heap.size_push]; exact Nat.lt_succ_of_lt (hlt q1))
  refine raiseNew_held (A := A.in1) hh hne' ?_ (Heap.get?_push_size _ rfl) rfl (by simp; omega) ?_
  · obtain ⟨oe, vs, q1, q2, q3⟩ := hc'
    exact ⟨oe, vs, Heap.get?_push_of_some _ (Heap.get?_push_of_some _ q1), q2, q3⟩
  · dsimp only
    refine wpAny_bind (wpAny_isInstance (T := "StopIteration") (b := true) ⟨_, Heap.get?_update_self _ (Heap.get?_push_size _ rfl) rfl, rfl⟩ isSubtype_stop ?_)
    refine wpAny_pure (hQ _ ?_)
    intro b o hb eb
    have q := hex b o hb eb
    have hb' := hlt q
    refine (Heap.get?_update_other _ _ ?_).trans (Heap.get?_push_of_some _ (Heap.get?_push_of_some _ q))
    exact Nat.ne_of_gt (by rw [Heap.size_push]; exact Nat.lt_succ_of_lt hb')
end
theorem NoCtx.keeps {e : Addr} {h h' : Heap} (x : NoCtx e h) (k : ∀ o, h.get? e = some o → h'.get? e = some o) : NoCtx e h' := by
  obtain ⟨o, vs, q1, q2⟩ := x
  exact ⟨o, vs, k _ q1, q2⟩
theorem walks_held {prog : Program} {w : World} {A : Around} {e : Addr} (hh : A.handled = some (.ref e)) (I ax : Addr) (hne : ax ≠ I) (hneE : e ≠ I) (items : Array Value) :
    Walks prog w A I [I, ax, e] [I] items.size (fun i v => items[i]? = some v) (fun i h => (h.IsListIter I ax i ∧ h.IsList ax items) ∧ NoCtx e h) where
  sub := fun b hb => by simp at hb; simp [hb]
  frame := fun _ _ _ st hk => ⟨⟨st.1.1.at fun o q => hk I (by simp) o q, st.1.2.at fun o q => hk ax (by simp) o q⟩, st.2.keeps fun o q => hk e (by simp) o q⟩
  item := fun i s Q E hi st hQ => by
    refine wpAny_pyNext_list_item st.1.1 st.1.2 (x := items[i]) (by simp [hi]) fun h' hit' hs' => ?_
    exact hQ _ h' s.toks (by simp [hi]) ⟨⟨hit', st.1.2.extBut hs'.extBut hne⟩, st.2.keeps fun o q => hs'.extBut e o hneE q⟩ fun b o hb q => hs'.extBut b o (fun h => hb (by simp [h])) q
  done := fun s Q E st hQ => pyNext_end_held hh st.2 hneE st.1.1 st.1.2 (by simp) fun h' he' => hQ h' s.toks fun b o hb q => he' b o (fun h => hb (by simp [h])) q
  self := fun _ _ _ _ st hQ => wpAny_pyIter_listiter st.1.1 hQ
end Mine
end
section
open PySem PySem.W PySem.Calls PyProof.Rows PySem.Spec PySem.SeqAt
set_option maxRecDepth 100000
set_option maxHeartbeats 8000000
namespace Mine
section
variable {prog : Program} {w : World} {A : Around} {E : Value → Shared → Prop} {s : Shared} {env : Env} {h₀ : Heap} {x : Str} {body : List Stmt} {Q : Flow → Shared → Prop}
/-- the end of a turn: the iterator as it stood, the invariant of what else was made -/
def TurnEnd (h₀ : Heap) (L : Addr) (J : (Str → Option Value) → List (Addr × Obj) → Prop) (I : Addr) (oI : Obj) (s₁ : Shared) (Q : Flow → Shared → Prop) (f : Flow) (s₂ : Shared) : Prop :=
  match f with
  | .ret v => Q (.ret v) s₂
  | .brk => Q .next s₂
  | _ => ∃ h' tk m' nx, s₂ = { s₁ with heap := h', toks := tk } ∧ Fr h₀ L h' m' ∧ News h₀ L h' ((I, oI) :: nx) ∧ (∀ p ∈ nx, p.1 ≠ I) ∧ J m' nx
/-- a loop over a list's items, whatever they are -/
theorem iter_vals {l : Addr} {its : Array Value} {fp : List Addr} {St : Nat → Heap → Prop} {m₀ : Str → Option Value} {news : List (Addr × Obj)} (J : Nat → (Str → Option Value) → List (Addr × Obj) → Prop)
    (hl : s.heap.IsList l its) (W : Walks prog w A s.heap.objs.size fp [s.heap.objs.size] its.size (fun i v => its[i]? = some v) St)
    (hStI : ∀ i h, St i h → ∃ o, h.get? s.heap.objs.size = some o) (hst : St 0 (s.heap.push { cls := .type "list_iterator", data := .fields #[.ref l, .int 0 0] })) (hL : env.locals ∉ fp) (hIfp : s.heap.objs.size ∈ fp)
    (F : Fr h₀ env.locals s.heap m₀) (N : News h₀ env.locals s.heap news) (hj : J 0 m₀ news)
    (hkeep : ∀ b ∈ fp, b = s.heap.objs.size ∨ (∃ o, h₀.get? b = some o) ∨ ∃ o, ∀ i m₁ n₁, J i m₁ n₁ → (b, o) ∈ n₁)
    (turn : ∀ i v m₁ news₁ h tk I oI, its[i]? = some v → J i m₁ news₁ → (∀ p ∈ news₁, p.1 ≠ I) → Fr h₀ env.locals h (fun y => if y = x then some v else m₁ y) → News h₀ env.locals h ((I, oI) :: news₁) →
      wpAny (model prog w) A (execs body env) (TurnEnd h₀ env.locals (J (i + 1)) I oI { s with heap := h, toks := tk } Q) E { s with heap := h, toks := tk })
    (done : ∀ m₁ news₁ h tk, J its.size m₁ news₁ → Fr h₀ env.locals h m₁ → News h₀ env.locals h news₁ → Q .next { s with heap := h, toks := tk }) :
    wpAny (model prog w) A (pyIter (.ref l)) (fun it s₂ => LoopAtV prog w A h₀ env x body Q E it s₂) E s := by
  refine wpAny_pyIter_list hl ?_
  have hI₀ : h₀.get? s.heap.objs.size = none := next_is_new F
  refine ⟨_, _, _, its.size, _, _, m₀, news, J, rfl, W, hL, ?_, ?_, hst, F.push _, (fun p hp => ⟨Heap.get?_push_of_some _ (N p hp).1, (N p hp).2⟩), hj, ?_, ?_⟩
  · intro b hb
    rw [List.mem_singleton.mp hb]
    exact hI₀
  · intro p hp hI
    exact absurd (Heap.lt_size (N p hp).1) ((List.mem_singleton.mp hI) ▸ Nat.lt_irrefl _)
  · rintro i v m₁ news₁ s₁ own ⟨hh', tk', rfl⟩ hin hP hJ hoff hown hownAt hall hSt F₁ N₁
    have hoff' : ∀ p ∈ news₁, p.1 ≠ s.heap.objs.size := fun p hp q => hoff p hp (List.mem_singleton.mpr q)
    have hLI : env.locals ≠ s.heap.objs.size := fun q => hL (q ▸ hIfp)
    · obtain ⟨oI, hoI⟩ := hStI _ _ hSt
      have NI : News h₀ env.locals hh' ((s.heap.objs.size, oI) :: news₁) := fun p hp => by
        rcases List.mem_cons.mp hp with rfl | hp
        · exact ⟨hoI, Ne.symm hLI, hI₀⟩
        · exact N₁ p (List.mem_append_right _ hp)
      refine wpAny_mono (turn i v m₁ news₁ hh' tk' _ oI hP hJ hoff' F₁ NI) (fun f s₂ p => ?_) fun _ _ e => e
      have fin : (∃ h' tk m' nx, s₂ = { s with heap := h', toks := tk } ∧ Fr h₀ env.locals h' m' ∧ News h₀ env.locals h' ((s.heap.objs.size, oI) :: nx) ∧ (∀ p ∈ nx, p.1 ≠ s.heap.objs.size) ∧ J (i + 1) m' nx) →
          LoopStepU h₀ env.locals [s.heap.objs.size] own (J (i + 1)) { s with heap := hh', toks := tk' } .next s₂ := by
        rintro ⟨h', tk, m', nx, e, F', N', ho, hm⟩
        refine ⟨rfl, h', tk, m', nx, e, F', fun p hp => ?_, fun p hp hq => ho p hp (List.mem_singleton.mp hq), hm⟩
        rcases List.mem_append.mp hp with hp | hp
        · have hat := hownAt p hp
          rcases hkeep p.1 (hown p hp) with q | ⟨o, q⟩ | ⟨o, q⟩
          · have : p.2 = oI := by rw [q, hoI] at hat; exact (Option.some.inj hat).symm
            have hp' : p = (s.heap.objs.size, oI) := Prod.ext q this
            rw [hp']
            exact N' _ (.head _)
          · have := (N₁ p (List.mem_append_left _ hp)).2.2
            rw [q] at this
            cases this
          · have h1 := (N₁ _ (List.mem_append_right _ (q i m₁ news₁ hJ))).1
            have : p.2 = o := by rw [h1] at hat; exact (Option.some.inj hat).symm
            have hp' : p = (p.1, o) := Prod.ext rfl this
            rw [hp']
            exact N' _ (.tail _ (q (i + 1) m' nx hm))
        · exact N' _ (.tail _ hp)
      cases f with
      | ret v => exact .ret p
      | brk => exact .brk p
      | next => exact .next (fin p)
      | cont => exact .cont (fin p)
  · rintro h' tk m' news' F' N' _ hJ
    exact done m' news' h' tk hJ F' N'
end
end Mine
end
section
open PySem PySem.W PySem.Calls PyProof.Rows PySem.Spec PySem.SeqAt
set_option maxRecDepth 100000
set_option maxHeartbeats 8000000
namespace Mine
/-- no exception held, or one without a context -/
def HOk (ha : Option Value) (h : Heap) : Prop := ha = none ∨ ∃ e, ha = some (.ref e) ∧ NoCtx e h
section
variable {prog : Program} {w : World} {A : Around} {E : Value → Shared → Prop} {s : Shared} {env : Env} {h₀ : Heap} {x : Str} {body : List Stmt} {Q : Flow → Shared → Prop}
theorem notL_seq {h : Heap} {L b : Addr} {m : Str → Option Value} {o : Obj} (F : Fr h₀ L h m) (ho : h.get? b = some o) (hnd : ∀ es n, o.data ≠ .dict es n) : L ≠ b := fun q => by
  obtain ⟨oL, es, ep, hL, hd, _⟩ := F.ns
  rw [q, ho] at hL
  cases hL
  exact hnd _ _ hd
def TurnE (h₀ : Heap) (L : Addr) (m : Str → Option Value) (G : List (Addr × Obj) → Prop) (I : Addr) (oI : Obj) (s₁ : Shared) (Q : Flow → Shared → Prop) (f : Flow) (s₂ : Shared) : Prop :=
  match f with
  | .ret v => Q (.ret v) s₂
  | .brk => Q .next s₂
  | _ => ∃ h' tk nx, s₂ = { s₁ with heap := h', toks := tk } ∧ Fr h₀ L h' m ∧ News h₀ L h' ((I, oI) :: nx) ∧ (∀ p ∈ nx, p.1 ≠ I) ∧ G nx
theorem iterV {l : Addr} {its : Array Value} {m₀ : Str → Option Value} {news : List (Addr × Obj)} (G : Nat → List (Addr × Obj) → Prop)
    (hH : HOk A.handled s.heap) (hHe : ∀ e, A.handled = some (.ref e) → ∃ o, h₀.get? e = some o) (hl : s.heap.IsList l its)
    (hlk : (∃ o, h₀.get? l = some o) ∨ ∃ o, ∀ i n₁, G i n₁ → (l, o) ∈ n₁)
    (F : Fr h₀ env.locals s.heap m₀) (N : News h₀ env.locals s.heap news) (hj : G 0 news)
    (turn : ∀ i v news₁ h tk I oI, its[i]? = some v → G i news₁ → (∀ p ∈ news₁, p.1 ≠ I) → Fr h₀ env.locals h (fun y => if y = x then some v else m₀ y) → News h₀ env.locals h ((I, oI) :: news₁) →
      wpAny (model prog w) A (execs body env) (TurnE h₀ env.locals (fun y => if y = x then some v else m₀ y) (G (i + 1)) I oI { s with heap := h, toks := tk } Q) E { s with heap := h, toks := tk })
    (done : ∀ tv news₁ h tk, G its.size news₁ → Fr h₀ env.locals h (fun y => if y = x then tv else m₀ y) → News h₀ env.locals h news₁ → Q .next { s with heap := h, toks := tk }) :
    wpAny (model prog w) A (pyIter (.ref l)) (fun it s₂ => LoopAtV prog w A h₀ env x body Q E it s₂) E s := by
  obtain ⟨ol, hol, hlc, nl, hld⟩ := id hl
  have hne : l ≠ s.heap.objs.size := Nat.ne_of_lt (Heap.lt_size hol)
  have hLl : env.locals ≠ l := notL_seq F hol (fun _ _ q => by rw [hld] at q; cases q)
  have hLI : env.locals ≠ s.heap.objs.size := Nat.ne_of_lt F.ns.lt
  have hm₀ : m₀ = fun y => if y = x then m₀ x else m₀ y := by
    funext y
    split
    · next q => rw [q]
    · rfl
  have core : ∀ {fp : List Addr} {St : Nat → Heap → Prop} (W : Walks prog w A s.heap.objs.size fp [s.heap.objs.size] its.size (fun i v => its[i]? = some v) St)
    (hStI : ∀ i h, St i h → ∃ o, h.get? s.heap.objs.size = some o) (hst : St 0 (s.heap.push { cls := .type "list_iterator", data := .fields #[.ref l, .int 0 0] })) (hL : env.locals ∉ fp) (hIfp : s.heap.objs.size ∈ fp)
    (hkeep : ∀ b ∈ fp, b = s.heap.objs.size ∨ (∃ o, h₀.get? b = some o) ∨ ∃ o, ∀ i n₁, G i n₁ → (b, o) ∈ n₁), wpAny (model prog w) A (pyIter (.ref l)) (fun it s₂ => LoopAtV prog w A h₀ env x body Q E it s₂) E s := by
    intro fp St W hStI hst hL hIfp hkeep
    refine iter_vals (fun i m nx => (∃ tv, m = fun y => if y = x then tv else m₀ y) ∧ G i nx) hl W hStI hst hL hIfp F N ⟨⟨_, hm₀⟩, hj⟩ (fun b hb => ?_) ?_ ?_
    · rcases hkeep b hb with q | q | ⟨o, q⟩
      · exact .inl q
      · exact .inr (.inl q)
      · exact .inr (.inr ⟨o, fun i m₁ n₁ g => q i n₁ g.2⟩)
    · rintro i v m₁ news₁ h tk I oI hv ⟨⟨tv, rfl⟩, g⟩ hap F₁ N₁
      have e : (fun y => if y = x then some v else (fun y => if y = x then tv else m₀ y) y) = fun y => if y = x then some v else m₀ y := by
        funext y
        dsimp only
        split <;> rfl
      rw [e] at F₁
      refine wpAny_mono (turn i v news₁ h tk I oI hv g hap F₁ N₁) (fun f s₂ p => ?_) fun _ _ e => e
      cases f with
      | ret v => exact p
      | brk => exact p
      | next => obtain ⟨h', tk, nx, q1, q2, q3, q4, q5⟩ := p; exact ⟨h', tk, _, nx, q1, q2, q3, q4, ⟨_, rfl⟩, q5⟩
      | cont => obtain ⟨h', tk, nx, q1, q2, q3, q4, q5⟩ := p; exact ⟨h', tk, _, nx, q1, q2, q3, q4, ⟨_, rfl⟩, q5⟩
    · rintro m₁ news₁ h tk ⟨⟨tv, rfl⟩, g⟩ F₁ N₁
      exact done tv news₁ h tk g F₁ N₁
  have hpI : (s.heap.push { cls := .type "list_iterator", data := .fields #[.ref l, .int 0 0] }).IsListIter s.heap.objs.size l 0 := ⟨_, Heap.get?_push_size _ rfl, rfl, rfl⟩
  have hpl : (s.heap.push { cls := .type "list_iterator", data := .fields #[.ref l, .int 0 0] }).IsList l its := hl.at fun o e => Heap.get?_push_of_some _ e
  have hStI : ∀ {i : Nat} {h : Heap}, h.IsListIter s.heap.objs.size l i → ∃ o, h.get? s.heap.objs.size = some o := fun ⟨o, q, _⟩ => ⟨o, q⟩
  rcases hH with hh | ⟨e, hh, hc⟩
  · refine core (Walks.list (prog := prog) (w := w) hh s.heap.objs.size l hne its) (fun i h st => hStI st.1) ⟨hpI, hpl⟩ (by simp [hLI, hLl]) (by simp) (fun b hb => ?_)
    simp only [List.mem_cons, List.not_mem_nil, or_false] at hb
    rcases hb with rfl | rfl
    · exact .inl rfl
    · exact .inr hlk
  · obtain ⟨oe, vse, q1, q2, q3⟩ := id hc
    have hLe : env.locals ≠ e := notL_seq F q1 (fun _ _ q => by rw [q2] at q; cases q)
    have heI : e ≠ s.heap.objs.size := Nat.ne_of_lt (Heap.lt_size q1)
    refine core (walks_held (prog := prog) (w := w) hh s.heap.objs.size l hne heI its) (fun i h st => hStI st.1.1) ⟨⟨hpI, hpl⟩, hc.keeps fun o q => Heap.get?_push_of_some _ q⟩ (by simp [hLI, hLl, hLe]) (by simp) (fun b hb => ?_)
    simp only [List.mem_cons, List.not_mem_nil, or_false] at hb
    rcases hb with rfl | rfl | rfl
    · exact .inl rfl
    · exact .inr hlk
    · exact .inr (.inl (hHe _ hh))
theorem notIn_KD {δ : Type} [DecidableEq δ] (D : KD δ) {h0 : Heap} {l : Addr} {its : List Value} {x : Value} {Q : Value → Shared → Prop} (k : ∀ b o, h0.get? b = some o → s.heap.get? b = some o) (hl : s.heap.IsList l its.toArray)
    (hok : ∀ y ∈ its, D.Ok h0 y) (hx : D.Ok h0 x) (hu : A.units + 5 < cLine) (h : Q (.bool (!its.any fun y => decide (D.key h0 y = D.key h0 x))) s) : wpAny (model prog w) A (compareOp .NotIn x (.ref l)) Q E s := by
  refine notIn_listAt (fun y => decide (D.key s.heap y = D.key s.heap x)) hl (fun y hy => D.eq (by show A.units + 1 + 4 < cLine; omega) (D.mono k (hok y (by simpa using hy))).1 (D.mono k hx).1) ?_
  have e : its.toArray.any (fun y => decide (D.key s.heap y = D.key s.heap x)) = its.any fun y => decide (D.key h0 y = D.key h0 x) := by
    rw [List.any_toArray, (D.mono k hx).2]
    rw [Bool.eq_iff_iff, List.any_eq_true, List.any_eq_true]
    constructor
    · rintro ⟨y, hy, e⟩
      exact ⟨y, hy, by rw [← (D.mono k (hok y hy)).2]; exact e⟩
    · rintro ⟨y, hy, e⟩
      exact ⟨y, hy, by rw [(D.mono k (hok y hy)).2]; exact e⟩
  rw [e]
  exact h
theorem in_KD {δ : Type} [DecidableEq δ] (D : KD δ) {h0 : Heap} {l : Addr} {its : List Value} {x : Value} {Q : Value → Shared → Prop} (k : ∀ b o, h0.get? b = some o → s.heap.get? b = some o) (hl : s.heap.IsList l its.toArray)
    (hok : ∀ y ∈ its, D.Ok h0 y) (hx : D.Ok h0 x) (hu : A.units + 5 < cLine) (h : Q (.bool (its.any fun y => decide (D.key h0 y = D.key h0 x))) s) : wpAny (model prog w) A (compareOp .In x (.ref l)) Q E s := by
  refine in_listAt (fun y => decide (D.key s.heap y = D.key s.heap x)) hl (fun y hy => D.eq (by show A.units + 1 + 4 < cLine; omega) (D.mono k (hok y (by simpa using hy))).1 (D.mono k hx).1) ?_
  have e : its.toArray.any (fun y => decide (D.key s.heap y = D.key s.heap x)) = its.any fun y => decide (D.key h0 y = D.key h0 x) := by
    rw [List.any_toArray, (D.mono k hx).2]
    rw [Bool.eq_iff_iff, List.any_eq_true, List.any_eq_true]
    constructor
    · rintro ⟨y, hy, e⟩
      exact ⟨y, hy, by rw [← (D.mono k (hok y hy)).2]; exact e⟩
    · rintro ⟨y, hy, e⟩
      exact ⟨y, hy, by rw [(D.mono k (hok y hy)).2]; exact e⟩
  rw [e]
  exact h
theorem uniq_step {δ : Type} [DecidableEq δ] (k : Value → δ) {vs : List Value} {i : Nat} {v : Value} (h : vs[i]? = some v) : uniq k (vs.take (i + 1)) = if (uniq k (vs.take i)).any (fun y => decide (k y = k v)) then uniq k (vs.take i) else uniq k (vs.take i) ++ [v] := by
  have e : vs.take (i + 1) = vs.take i ++ [v] := by rw [List.take_add_one, h]; rfl
  rw [e]
  unfold uniq
  rw [List.foldl_append]
  rfl
theorem uniq_sub {δ : Type} [DecidableEq δ] (k : Value → δ) {vs : List Value} : ∀ v ∈ uniq k vs, v ∈ vs := by
  have : ∀ (xs acc : List Value), ∀ v ∈ xs.foldl (fun acc v => if acc.any (fun y => decide (k y = k v)) then acc else acc ++ [v]) acc, v ∈ acc ∨ v ∈ xs := by
    intro xs
    induction xs with
    | nil => intro acc v hv; exact .inl hv
    | cons a t ih =>
      intro acc v hv
      rcases ih _ v hv with h | h
      · dsimp only at h
        split at h
        · exact .inl h
        · rcases List.mem_append.mp h with h | h
          · exact .inl h
          · exact .inr (by simp [List.mem_singleton.mp h])
      · exact .inr (.tail _ h)
  intro v hv
  rcases this vs [] v hv with h | h
  · cases h
  · exact h
theorem uniq_len {δ : Type} [DecidableEq δ] (k : Value → δ) {vs : List Value} : (uniq k vs).length ≤ vs.length := by
  have : ∀ (xs acc : List Value), (xs.foldl (fun acc v => if acc.any (fun y => decide (k y = k v)) then acc else acc ++ [v]) acc).length ≤ acc.length + xs.length := by
    intro xs
    induction xs with
    | nil => intro acc; simp
    | cons a t ih =>
      intro acc
      refine Nat.le_trans (ih _) ?_
      dsimp only
      split <;> simp <;> omega
  simpa [uniq] using this vs []
end
end Mine
end
section
open PySem PySem.W PySem.Calls PyProof.Rows PySem.Spec PySem.SeqAt
set_option maxRecDepth 100000
set_option maxHeartbeats 8000000
namespace Mine
local macro_rules | `(tactic| ktr_unf) => `(tactic| (
  (have kf : Challenge.rw_il0003_01 = Challenge.rw_il0003_01 ∧ hd.heap_39 = hd.heap_39 := by (k_fill; exact ⟨rfl, rfl⟩));
  clear kf;
  refine' enter_ (by assumption) ?k0 ?k1 ?k2 ?k3 ?k4 ?_ ?k5 ?k6 ?k7 ?k8;
  (case k0 => (dsimp only; omega));
  (case k1 => k_is);
  (case k2 => k_is);
  (case k3 => first | exact BindsTo.of_eq rfl | exact binds_K (by k_in) rfl (by k_is) rfl rfl rfl);
  (case k4 => exact locs rfl);
  (case k5 => rfl);
  (case k6 => rfl);
  (case k7 => rfl);
  (case k8 => decide);
  intro h₁ F N;
  dsimp only;
  k_unmd;
  k_fold))
local macro_rules | `(tactic| walk_at "call type:type") => `(tactic| (k_here; first | (refine type_bytes ?_) | (refine type_int ?_)))
local macro_rules | `(tactic| walk_at "getMethod bytes") => `(tactic| (k_here; first | (with_reducible refine m_upper ?_) | (with_reducible refine m_lower ?_) | (with_reducible refine m_hex ?_)))
local macro_rules | `(tactic| walk_at "call builtin:bytes.upper") => `(tactic| (k_here; (refine x_upper (by simp) ?_); intro _ _; (try simp only [List.map_cons, List.map_nil])))
local macro_rules | `(tactic| walk_at "call builtin:bytes.lower") => `(tactic| (k_here; (refine x_lower (by simp) ?_); intro _ _; (try simp only [List.map_cons, List.map_nil])))

local macro_rules | `(tactic| walk_at "exec For Name Name cons nil") => `(tactic| (k_here; (rename Fr _ _ _ _ => lF'); (with_unfolding_all refine' For_invVF lF' ?k1 ?k2 ?_; (case k1 => exact rfl); (case k2 => exact rfl); k_whole)))
/-- a call that grows the heap and gives a list of its own -/
def DoesL (w : World) (mean : ExcName → Option Value) (mg mb : Str → Option Value) (f : Addr) (args : Args) (d u : Nat) (Pre : Heap → Prop) (res : Heap → List Value) : Prop :=
  ∀ (ha : Option Value) (dp un : Nat) (gd : Option (List Code)) (fr : Option (List Env)) (s : Shared) (R : Result → Shared → Prop), HOk ha s.heap → Std w mean mg mb s.heap → Pre s.heap → dp + d < recursionLimit → un + u < cLine →
    (∀ r n h' tk', Kp s.heap h' → s.heap.get? r = none → h'.get? r = some (listOf (res s.heap).toArray n) → R (.ok (.ret (.ref r))) { s with heap := h', toks := tk' }) → codeAny (model PR w) { handled := ha, depth := dp, frames := fr, guards := gd, units := un } (.call (.ref f) args) R s
theorem c_dedup {w mean mg mb} {δ : Type} [DecidableEq δ] (D : KD δ) {l : Addr} {vs : List Value} (hsz : vs.length ≤ 63) : DoesL w mean mg mb 131 ⟨[.ref l], []⟩ 60 200 (fun h => h.IsList l vs.toArray ∧ ∀ v ∈ vs, D.Ok h v) (fun h => uniq (D.key h) vs) := by
  intro ha dp un gd fr s R hH S hP hdp hu ret
  have KX := S.X
  have T := S.T
  ktr_unf
  k_steps
  rename Fr _ _ _ _ => F₁
  rename News _ _ _ _ => N₁
  have hl0 := hP.1
  have hok0 := hP.2
  refine iterV (fun i nx => ∃ n, nx = [(_, listOf (uniq (D.key s.heap) (vs.take i)).toArray n)]) ?_ ?_ (hl0.at fun o e => F₁.keep l o e) (.inl ?_) F₁ N₁ ⟨0, rfl⟩ ?_ ?_
  · rcases hH with q | ⟨e, q1, q2⟩
    · exact .inl q
    · exact .inr ⟨e, q1, q2.keeps fun o q => F₁.keep _ o q⟩
  · intro e q
    rcases hH with q' | ⟨e', q1, o, _, q2, _⟩
    · exact absurd (q'.symm.trans q) nofun
    · cases q1.symm.trans q
      exact ⟨o, q2⟩
  · exact let ⟨o, q, _⟩ := hl0; ⟨o, q⟩
  · rintro i v _ h tk' I oI hv ⟨n, rfl⟩ hap F₂ N₂
    have hv' : vs[i]? = some v := by simpa using hv
    clear F₁ N₁
    have hmem : ∀ y ∈ uniq (D.key s.heap) (vs.take i), y ∈ vs := fun y hy => List.mem_of_mem_take (uniq_sub _ y hy)
    have hvm : v ∈ vs := List.mem_of_getElem? hv'
    have hlen : (uniq (D.key s.heap) (vs.take i)).length ≤ 63 := Nat.le_trans (uniq_len _) (by simp; omega)
    k_steps
    refine notIn_KD D (h0 := s.heap) F₂.keep ⟨_, News.get N₂ (.tail _ (.head _)), rfl, n, rfl⟩ (fun y hy => hok0 y (hmem y hy)) (hok0 v hvm) (by ktr_units) ?_
    have step := uniq_step (D.key s.heap) hv'
    generalize (uniq (D.key s.heap) (vs.take i)).any (fun y => decide (D.key s.heap y = D.key s.heap v)) = bb at step ⊢
    cases bb
    · k_steps
      refine append_K F₂ N₂ (.tail (Ne.symm (hap _ (.head _))) (.head (by simp))) ?_ (by rw [sizeLine_eq]; simp; omega)
      intro h' F₃ N₃
      k_steps
      refine ⟨_, _, _, rfl, F₃, N₃, by simpa using hap _ (.head _), ?_⟩
      rw [step]
      exact ⟨n + 1, by simp⟩
    · k_steps
      refine ⟨_, _, _, rfl, F₂, N₂, by simpa using hap _ (.head _), ?_⟩
      rw [step]
      exact ⟨n, rfl⟩
  · rintro tv _ h tk' ⟨n, rfl⟩ F₂ N₂
    clear F₁ N₁
    have e : vs.take vs.toArray.size = vs := by simp
    rw [e] at N₂
    k_steps
    exact ret _ _ _ _ F₂.keep (News.fresh N₂ (.head _)) (News.get N₂ (.head _))
theorem use_l {w mean mg mb} {f : Addr} {pos : List Value} {kw : List (Str × Value)} {d u : Nat} {Pre : Heap → Prop} {res : Heap → List Value} {A : Around} {s : Shared} {Q E : Value → Shared → Prop} {h₀ : Heap} {L : Addr} {m : Str → Option Value} {news : List (Addr × Obj)}
    (C : DoesL w mean mg mb f ⟨pos, kw⟩ d u Pre res) (S : Std w mean mg mb h₀) (F : Fr h₀ L s.heap m) (N : News h₀ L s.heap news) (hpre : Pre s.heap) (hd : A.depth + d < recursionLimit) (hu : A.units + u < cLine) (hh : HOk A.handled s.heap)
    (h : ∀ r n h' tk', Kp s.heap h' → Fr h₀ L h' m → News h₀ L h' ((r, listOf (res s.heap).toArray n) :: news) → (∀ p ∈ news, p.1 ≠ r) → Q (.ref r) { s with heap := h', toks := tk' }) : wpAny (model PR w) A (call (.ref f) pos kw) Q E s := by
  obtain ⟨ah, dp, fr, gd, un⟩ := A
  dsimp only at hd hu hh
  refine wpAny_call (C ah dp un gd fr s _ hh (S.keeps F.keep) hpre hd hu fun r n h' tk' hk hf ho => h r n h' tk' hk (F.keeps hk) (News.more (F.keeps hk) (N.grown hk) ho nofun ?_) fun p hp q => ?_)
  · cases hr : h₀.get? r with
    | none => rfl
    | some o => exact absurd (hf.symm.trans (F.keep r o hr)) nofun
  · have z := (N p hp).1
    rw [q, hf] at z
    cases z
end Mine
end
section
open PySem PySem.W PySem.Calls PyProof.Rows PySem.Spec PySem.SeqAt
set_option maxRecDepth 100000
set_option maxHeartbeats 8000000
namespace Mine
section
variable {M : Model} {A : Around} {E : Value → Shared → Prop} {s : Shared}
theorem newEntry_c {base : Heap} {env : Env} {outer : List Env} {L e : Addr} {oe : Obj} {vs : Array Value} {head a0 : Value} {hadNext : Bool} {Q : Unit → Shared → Prop}
    (hfr : A.frames = some (env :: outer)) (hl : s.heap.FunFrames base (env :: outer)) (hf : env.frame = some L)
    (he : s.heap.get? e = some oe) (hkb : base.StaysIn s.heap) (hen : base.get? e = none) (hd : oe.data = .fields vs) (hsz : 1 < vs.size) (h0 : vs[0]? = some a0) (h2 : vs[2]? = some .none)
    (h : ∀ h', Heap.LeftW base (env :: outer) e oe.cls a0 s.heap h' → NoCtx e h' → Q () { s with heap := h' }) :
    wpAny M A (do let a ← frameOf env; let pl ← entryPlaceOf L hadNext; let b ← EntryCells.newEntry head a .none (rawInt L) .none pl; setField (.ref e) 1 b) (fun _ s' => wpAny M A (setFlight (.ref e) none) Q E s') E s := by
  have hene : e ∉ (env :: outer).filterMap (·.frame) := fun hm => by
    obtain ⟨_, o, ho, hnf⟩ := hl.mem hm
    rw [he] at ho; injection ho with ho; subst ho; exact hnf vs hd
  refine wpAny_bind (wpAny_frameOf_fun hfr hl hf fun h₁ hs₁ => ?_)
  refine wpAny_bind (wpAny_entryPlaceOf fun pl hpl => ?_)
  unfold EntryCells.newEntry newFields
  refine wpAny_bind (wpAny_newObj_type ?_ (hpl.sizeOk5 _ _ _ _ _))
  have he₁ : h₁.get? e = some oe := (hs₁.2.1 e hene).trans he
  have kb₁ : base.StaysIn h₁ := fun b o hbo => (hs₁.2.1 b fun hm => by rw [(hl.mem hm).1] at hbo; cases hbo).trans (hkb b o hbo)
  have he₂ := Heap.get?_push_of_some (h := h₁) { cls := .type "traceback", dict := none, data := .fields ([head, .ref L, .none, rawInt L, .none] ++ (if pl.isEmpty then List.replicate 6 Value.none else pl)).toArray } he₁
  refine wpAny_setField he₂ hd hsz ?_
  have hTe : h₁.objs.size ≠ e := Nat.ne_of_gt (Heap.lt_size he₁)
  have hd₃ := Obj.data_mapFields hd (·.setIfInBounds 1 (Value.ref h₁.objs.size))
  have he₃ := Heap.get?_update_self (Obj.mapFields (·.setIfInBounds 1 (Value.ref h₁.objs.size))) he₂ (Obj.isFreed_of_fields hd₃)
  have hT₃ := (Heap.get?_update_other (h₁.push { cls := .type "traceback", dict := none, data := .fields ([head, .ref L, .none, rawInt L, .none] ++ (if pl.isEmpty then List.replicate 6 Value.none else pl)).toArray })
    (Obj.mapFields (·.setIfInBounds 1 (Value.ref h₁.objs.size))) (Ne.symm hTe)).trans (Heap.get?_push_size h₁ rfl)
  unfold setFlight
  refine wpAny_bind (wpAny_field he₃ hd₃ (x := .ref h₁.objs.size) (by simp [hsz]) ?_)
  rw [if_pos (show (Value.ref h₁.objs.size != Value.none) = true from by simp)]
  refine wpAny_setField hT₃ rfl (by simp only [List.size_toArray, List.length_append, List.length_cons, List.length_nil] <;> omega) (h _ ?_ ?_)
  · have keep : ∀ b o, b ≠ e → h₁.get? b = some o →
        (((h₁.push { cls := .type "traceback", dict := none, data := .fields ([head, .ref L, .none, rawInt L, .none] ++ (if pl.isEmpty then List.replicate 6 Value.none else pl)).toArray }).update e (Obj.mapFields (·.setIfInBounds 1 (Value.ref h₁.objs.size)))).update h₁.objs.size
          (Obj.mapFields (·.setIfInBounds 3 ((none : Option Addr).elim Value.none fun f => rawInt f)))).get? b = some o := fun b o hbe hb => by
      have hbT : h₁.objs.size ≠ b := Nat.ne_of_gt (Heap.lt_size hb)
      rw [Heap.get?_update_other _ _ hbT, Heap.get?_update_other _ _ (Ne.symm hbe)]
      exact Heap.get?_push_of_some _ hb
    have noRecord : ∀ b o, s.heap.get? b = some o → (∀ vs, o.data ≠ .fields vs) → b ≠ e := fun b o hb hnf q => by
      rw [q, he] at hb; injection hb with hb; subst hb; exact hnf vs hd
    refine ⟨fun b o hbo => keep b o (fun q => by rw [q, hen] at hbo; cases hbo) (kb₁ b o hbo), hl.of_keeps fun b o hb hnf => ?_, ?_, fun b o hb hnf => ?_⟩
    · obtain ⟨sl, hs⟩ := hs₁.2.2 b o hb
      exact ⟨_, keep b _ (noRecord b o hb hnf) hs, rfl⟩
    · refine ⟨_, _, h₁.objs.size, _, _, ?_, ⟨Obj.cls_mapFields _ _, by rw [Array.getElem?_setIfInBounds_ne (by decide)]; exact h0⟩, hd₃, by simp [hsz], kb₁.fresh, hTe, Heap.get?_update_self _ hT₃ (Obj.isFreed_of_fields (Obj.data_mapFields rfl _)), Obj.data_mapFields rfl _, by first | (simp; done) | (rcases hpl with rfl | ⟨_, _, _, _, _, _, _, rfl⟩ <;> simp)⟩
      rw [Heap.get?_update_other _ _ hTe]; exact he₃
    · obtain ⟨sl, hs⟩ := hs₁.2.2 b o hb
      exact ⟨sl, keep b _ (noRecord b o hb hnf) hs⟩
  · exact ⟨_, _, (Heap.get?_update_other _ _ hTe).trans he₃, hd₃, by rw [Array.getElem?_setIfInBounds_ne (by decide)]; exact h2⟩
theorem note_first {base : Heap} {env : Env} {outer : List Env} {L e : Addr} {oe : Obj} {vs : Array Value} {a0 : Value} {Q : Unit → Shared → Prop}
    (hfr : A.frames = some (env :: outer)) (hl : s.heap.FunFrames base (env :: outer)) (hf : env.frame = some L)
    (he : s.heap.get? e = some oe) (hkb : base.StaysIn s.heap) (hen : base.get? e = none) (hd : oe.data = .fields vs) (h1 : vs[1]? = some .none) (h0 : vs[0]? = some a0) (h2 : vs[2]? = some .none)
    (h : ∀ h', Heap.LeftW base (env :: outer) e oe.cls a0 s.heap h' → NoCtx e h' → Q () { s with heap := h' }) : wpAny M A (noteFrame (.ref e) env) (fun _ s₂ => wpAny M A (setFlight (.ref e) none) Q E s₂) E s := by
  unfold noteFrame
  simp only [hf]
  refine wpAny_bind (wpAny_field he hd h1 ?_)
  rw [if_neg (by decide)]
  exact newEntry_c hfr hl hf he hkb hen hd (Array.getElem?_eq_some_iff.mp h1).1 h0 h2 h
theorem flight_c {base : Heap} {l : List Env} {e : Addr} {cls a0 : Value} {Q : Unit → Shared → Prop} (hh : Heap.FlyingW base l e cls a0 s.heap) (hc : NoCtx e s.heap)
    (h : ∀ h', Heap.FlyingW base l e cls a0 h' → s.heap.UpToSlots h' → NoCtx e h' → Q () { s with heap := h' }) : wpAny M A (setFlight (.ref e) none) Q E s := by
  obtain ⟨hkb, hen, hl, oe, vs, T, oT, ts, he, hcls, hd, h1, hnT, hTe, hT, hdT, h3⟩ := hh
  have hsz3 : 3 < ts.size := (Array.getElem?_eq_some_iff.mp h3).1
  have other : ∀ b, b ≠ T → (s.heap.update T (Obj.mapFields (·.setIfInBounds 3 ((none : Option Addr).elim Value.none fun f => rawInt f)))).get? b = s.heap.get? b :=
    fun b hb => Heap.get?_update_other _ _ (Ne.symm hb)
  have noRecord : ∀ b o, s.heap.get? b = some o → (∀ vs, o.data ≠ .fields vs) → b ≠ T := fun b o hb hnf q => by
    rw [q, hT] at hb; injection hb with hb; subst hb; exact hnf ts hdT
  unfold setFlight
  refine wpAny_bind (wpAny_field he hd h1 ?_)
  rw [if_pos (show (Value.ref T != Value.none) = true from by simp)]
  refine wpAny_setField hT hdT hsz3 (h _ ⟨fun b o hbo => (other b fun q => by rw [q, hnT] at hbo; cases hbo).trans (hkb b o hbo), hen,
    hl.of_keeps fun b o hb hnf => ⟨o, (other b (noRecord b o hb hnf)).trans hb, rfl⟩, ?_⟩ (fun b o hb hnf => ⟨o.slots, (other b (noRecord b o hb hnf)).trans hb⟩) ?_)
  · exact ⟨oe, vs, T, _, _, (other e (Ne.symm hTe)).trans he, hcls, hd, h1, hnT, hTe, Heap.get?_update_self _ hT (Obj.isFreed_of_fields (Obj.data_mapFields hdT _)), Obj.data_mapFields hdT _, by simp [hsz3]⟩
  · exact hc.keeps fun o q => (other e (Ne.symm hTe)).trans q
end
section
variable {prog : Program} {w : World} {A₀ : Around} {E : Value → Shared → Prop} {s' : Shared} {base g g₀ G : Heap} {outer : List Env} {L a e : Addr} {m : Str → Option Value} {name : Str} {scope : Scope} {cd : Value}
  {b₀ : Stmt} {suite : List Stmt} {pos np : Pos} {rest : List ExceptHandler} {Q : Flow → Shared → Prop} {news : List (Addr × Obj)} {KF : Frag}
  {p : Program} {loose : List Str} {mean : ExcName → Option Value} {mg mb : Str → Option Value} {x : Str} {X T' : String}
/-- an exception raised in this frame and caught in it -/
theorem caught_own0 (R : Heap.NewExc G s'.heap e X) (F : Fr g L G m) (N : News g L G news) (K : Below A₀ base outer g) (XB : KF.In base) (TB : Top p loose mean mg mb base)
    (D : KtsDicts (outer.filterMap (·.frame)) g) (T0 : KtsTurn (outer.filterMap (·.frame)) g₀ g)
    (ex : nsIn KF mainGlobals x = some none) (hv : bootBuiltins x = some (.type T')) (hn' : x ≠ "__name__")
    (hexc : isSubtype (.type T') (.type "BaseException") = pure true) (hnt : isSubtype (.type ((Manifest.find? T').elim "type" fun y => y.metatype)) (.type "tuple") = pure false) (hsub : isSubtype (.type X) (.type T') = pure true)
    (k : ∀ h' g', NoCtx e h' → g'.get? e = none → RaisedSN base g' (envOf name scope L a cd :: outer) e (.type X) news h' → KtsTurn (outer.filterMap (·.frame)) g₀ g' → Fr g' L h' m → News g' L h' news → Below A₀ base outer g' → KF.In g' → Top p loose mean mg mb g' → KtsDicts (outer.filterMap (·.frame)) g' →
      wpAny (model prog w) ((A₀.deeper (envOf name scope L a cd)).mark (some (.ref e))) (execs (b₀ :: suite) (envOf name scope L a cd)) Q E { s' with heap := h' })
    (hk : scope.kind = .function := by rfl) (hx : (envOf name scope L a cd).kindOf x = some .globalImplicit := by rfl) (hd : (x == ("__debug__" : Str)) = false := by decide)
    (hE : PassesOwnAt (model prog w) ((A₀.deeper (envOf name scope L a cd)).mark (some (.ref e))) (A₀.deeper (envOf name scope L a cd)) (envOf name scope L a cd) E := by passes_own) :
    wpAny (model prog w) (A₀.deeper (envOf name scope L a cd)) (noteFrame (.ref e) (envOf name scope L a cd))
      (fun _ s₂ => wpAny (model prog w) (A₀.deeper (envOf name scope L a cd)) (setFlight (.ref e) none) (fun _ s₃ =>
        wpAny (model prog w) (A₀.deeper (envOf name scope L a cd)) (handleBy (.ref e) (envOf name scope L a cd) (.ExceptHandler (some (.Name x np)) none (b₀ :: suite) pos :: rest)) Q E s₃) E s₂) E s' := by
  have K' := K.push (name := name) (a := a) (cd := cd) F hk
  have hin : ∀ env ∈ (envOf name scope L a cd :: outer), ∀ b, env.frame = some b → b ∈ (envOf name scope L a cd :: outer).filterMap (·.frame) := fun env he b hb => List.mem_filterMap.mpr ⟨env, he, hb⟩
  have hBG : ∀ b o, G.get? b = some o → b ∉ (envOf name scope L a cd :: outer).filterMap (·.frame) → (hideAll G ((envOf name scope L a cd :: outer).filterMap (·.frame))).get? b = some o := fun b o q nm => hideAll_get _ q nm
  have st : base.StaysIn (hideAll G ((envOf name scope L a cd :: outer).filterMap (·.frame))) := fun b o q => hideAll_get _ (K'.stays b o q) fun hm => by
    rw [(K'.frames.mem hm).1] at q; cases q
  have hl : ∀ q ∈ news, (hideAll G ((envOf name scope L a cd :: outer).filterMap (·.frame))).get? q.1 = some q.2 ∧ g.get? q.1 = none ∧ base.get? q.1 = none := fun q hq => by
    refine ⟨hideAll_get _ (N q hq).1 fun hm => ?_, (N q hq).2.2, fresh_of_stays K.stays (N q hq).2.2⟩
    obtain ⟨env, he, hf⟩ := List.mem_filterMap.mp hm
    rcases List.mem_cons.mp he with rfl | he
    · exact (N q hq).2.1 (Option.some.inj hf).symm
    · obtain ⟨o, ho, _⟩ := (K.frames.mem (List.mem_filterMap.mpr ⟨env, he, hf⟩)).2
      rw [(N q hq).2.2] at ho; cases ho
  obtain ⟨ob, tp, he, hcls, hdt⟩ := R.there
  have hen : (hideAll G ((envOf name scope L a cd :: outer).filterMap (·.frame))).get? e = none := by
    cases q : (hideAll G ((envOf name scope L a cd :: outer).filterMap (·.frame))).get? e with
    | none => rfl
    | some o => have := of_hideAll _ q; rw [R.new] at this; cases this
  have hge : g.get? e = none := kts_none F.keep R.new
  have hLn : (hideAll G ((envOf name scope L a cd :: outer).filterMap (·.frame))).get? L = none := by
    obtain ⟨_, ⟨L', _, hf, hn', _⟩, _⟩ := funFrames_hide K'.frames hin
    obtain rfl : L = L' := Option.some.inj hf
    exact hn'
  have hsm : G.UpToSlots s'.heap := Heap.UpToSlots.of_keeps R.keeps
  refine note_first (a0 := tp) (Around.frames_deeper K.stack) ((funFrames_hide K'.frames hin).of_keeps fun b o hb _ => ⟨o, R.keeps b o hb, rfl⟩) rfl he (fun b o hb => R.keeps b o (of_hideAll _ hb)) hen hdt rfl rfl rfl fun h₅ hL hc₅ => ?_
  rw [hcls] at hL
  obtain ⟨f1, f2, f3, hsm₅⟩ := hL
  have hheld : Heap.FlyingW (hideAll G ((envOf name scope L a cd :: outer).filterMap (·.frame))) (envOf name scope L a cd :: outer) e (.type X) tp h₅ := ⟨f1, hen, f2, f3⟩
  obtain ⟨g₅, T₅, F₅, K₅⟩ := kts_ground K F hBG hheld.1 (hsm.trans hsm₅)
  have X₅ : KF.In g₅ := XB.keeps K₅.stays
  have P₅ : TopRead p loose mg mb g₅ := topRead_of (TB.keeps K₅.stays)
  obtain ⟨ob', hob, hobc⟩ := hheld.there
  refine wpAny_handleBy_builtin (X := X) (T := T') (b := true) hexc hnt hsub (name_B F₅ X₅ P₅ ex hv hn' ⟨rfl, ⟨ob', hob, hobc⟩, ?_⟩ hk hx hd)
  refine flight_c hheld hc₅ fun h₆ hfl₆ hsm₆ hc₆ => ?_
  obtain ⟨g₆, T₆, F₆, K₆⟩ := kts_ground K F hBG hfl₆.1 ((hsm.trans hsm₅).trans hsm₆)
  have Nl : News g₆ L h₆ news := fun q hq => ⟨hfl₆.1 _ _ (hl q hq).1, (fun z => by have := (hl q hq).1; rw [z, hLn] at this; cases this), T₆.none_ _ (N q hq).2.2⟩
  have X₆ : KF.In g₆ := XB.keeps K₆.stays
  have P₆ : Top p loose mean mg mb g₆ := TB.keeps K₆.stays
  have D₆ : KtsDicts (outer.filterMap (·.frame)) g₆ := D.turn T₆
  have RS : RaisedSN base g₆ (envOf name scope L a cd :: outer) e (.type X) news h₆ := by
    refine ⟨_, tp, st, fun b o q nm => ?_, fun q hq => ⟨(hl q hq).1, T₆.none_ _ (N q hq).2.2, (hl q hq).2.2⟩, hfl₆⟩
    cases z : g.get? b with
    | none => rw [T₆.none_ _ z] at q; cases q
    | some o' =>
      have z' := T₆.other _ _ z fun hm => nm (by
        obtain ⟨env, he, hf⟩ := List.mem_filterMap.mp hm
        exact hin env (.tail _ he) b hf)
      rw [q] at z'
      cases z'
      exact hBG b o (F.keep b o z) nm
  exact wpAny_passesOwnAt hE (k h₆ g₆ hc₆ (T₆.none_ _ hge) RS (T0.trans T₆) F₆ Nl K₆ X₆ P₆ D₆)
end
end Mine
end
section
open PySem PySem.W PySem.Calls PyProof.Rows PySem.Spec PySem.SeqAt PySem.MeetsSeq
namespace Mine
section
variable {δ : Type} [DecidableEq δ] (k : Value → δ)
def remd (cur : List Value) (v : Value) : Option (List Value) := if cur.any (fun y => decide (k y = k v)) then some (cur.eraseP fun y => decide (k y = k v)) else none
def remAll : List Value → List Value → Option (List Value)
  | cur, [] => some cur
  | cur, v :: vs => match remd k cur v with
    | some c => remAll c vs
    | none => none
def cmpB (vs₁ vs₂ : List Value) : Bool := match remAll k (uniq k vs₂) (uniq k vs₁) with
  | some [] => true
  | _ => false
theorem remAll_append (cur xs ys : List Value) : remAll k cur (xs ++ ys) = match remAll k cur xs with
    | some c => remAll k c ys
    | none => none := by
  induction xs generalizing cur with
  | nil => rfl
  | cons a t ih =>
    show (match remd k cur a with | some c => remAll k c (t ++ ys) | none => none) = match (match remd k cur a with | some c => remAll k c t | none => none) with | some c => remAll k c ys | none => none
    cases remd k cur a with
    | none => rfl
    | some c => exact ih c
theorem remAll_step {cur c xs : List Value} {i : Nat} {v : Value} (h : remAll k cur (xs.take i) = some c) (hv : xs[i]? = some v) : remAll k cur (xs.take (i + 1)) = remd k c v := by
  have e : xs.take (i + 1) = xs.take i ++ [v] := by rw [List.take_add_one, hv]; rfl
  rw [e, remAll_append, h]
  show (match remd k c v with | some d => some d | none => none) = _
  cases remd k c v <;> rfl
theorem remAll_none {cur c xs : List Value} {i : Nat} {v : Value} (h : remAll k cur (xs.take i) = some c) (hv : xs[i]? = some v) (hn : remd k c v = none) : remAll k cur xs = none := by
  have hs := remAll_step k h hv
  rw [hn] at hs
  rw [← List.take_append_drop (i + 1) xs, remAll_append, hs]
theorem remd_sub {cur c : List Value} {v : Value} (h : remd k cur v = some c) : c.length ≤ cur.length ∧ ∀ y ∈ c, y ∈ cur := by
  unfold remd at h
  split at h
  · cases h
    exact ⟨List.eraseP_sublist.length_le, fun y hy => List.mem_of_mem_eraseP hy⟩
  · cases h
theorem remAll_sub {cur c xs : List Value} (h : remAll k cur xs = some c) : c.length ≤ cur.length ∧ ∀ y ∈ c, y ∈ cur := by
  induction xs generalizing cur with
  | nil => cases h; exact ⟨Nat.le_refl _, fun y hy => hy⟩
  | cons a t ih =>
    unfold remAll at h
    split at h
    · next c' hc =>
      obtain ⟨l1, m1⟩ := remd_sub k hc
      obtain ⟨l2, m2⟩ := ih h
      exact ⟨Nat.le_trans l2 l1, fun y hy => m1 y (m2 y hy)⟩
    · cases h
end
theorem eqGives_bytes (b c : Array UInt8) (t u : Tok) : EqGives (.bytes b t) (.bytes c u) (decide (b = c)) := fun prog w A E s Q h => eqAt_bytes (A := A) (s := s) b c t u prog w E Q h
end Mine
end
section
open PySem PySem.W PySem.Calls PyProof.Rows PySem.Spec PySem.SeqAt PySem.MeetsSeq
namespace Mine
section
variable {prog : Program} {w : World} {A : Around} {E : Value → Shared → Prop} {s : Shared} {h₀ : Heap} {L D : Addr} {m : Str → Option Value} {news news' : List (Addr × Obj)}
theorem eqGives_by {y x : Value} (hy : isBytes y) (hx : isBytes x) : EqGives y x (decide (bytesOf y = bytesOf x)) := by
  cases y <;> first | exact hy.elim | skip
  cases x <;> first | exact hx.elim | skip
  exact eqGives_bytes _ _ _ _
theorem eraseP_at {α : Type} (p : α → Bool) : ∀ (l : List α), l.any p = true → ∃ j, ∃ hj : j < l.length, p l[j] = true ∧ (∀ m (hm : m < l.length), m < j → p l[m] = false) ∧ l.eraseP p = l.eraseIdx j
  | [], h => by simp at h
  | a :: t, h => by
    by_cases ha : p a = true
    · exact ⟨0, by simp, ha, fun m hm h0 => absurd h0 (Nat.not_lt_zero _), by simp [ha]⟩
    · have ht : t.any p = true := by simpa [ha] using h
      obtain ⟨j, hj, h1, h2, h3⟩ := eraseP_at p t ht
      refine ⟨j + 1, by simpa using hj, h1, fun m hm hmj => ?_, by simp [ha, h3]⟩
      cases m with
      | zero => simpa using ha
      | succ m => exact h2 m (by simpa using hm) (by omega)
theorem remove_K {cur c : List Value} {n : Nat} {x : Value} {Q : Value → Shared → Prop} (hb : ∀ y ∈ cur, isBytes y) (hx : isBytes x) (hr : remd bytesOf cur x = some c) (F : Fr h₀ L s.heap m) (N : News h₀ L s.heap news)
    (U : Upd D (listOf cur.toArray n) (listOf c.toArray (n + 1)) news news') (h : ∀ h', Fr h₀ L h' m → News h₀ L h' news' → Q .none { s with heap := h' }) (hsz : cur.length ≤ 1000) : wpAny (model prog w) A (call (.builtin "list.remove") [.ref D, x]) Q E s := by
  obtain ⟨pre, post, rfl, rfl, a, b⟩ := U.split
  have z := N (D, listOf cur.toArray n) (List.mem_append.mpr (.inr (.head _)))
  unfold remd at hr
  split at hr
  · next hany =>
    cases hr
    obtain ⟨j, hj, h1, h2, h3⟩ := eraseP_at _ cur hany
    refine call_meets PySem.F.slot_list_remove ⟨_, z.1, rfl⟩ PySem.F.entry_list_remove (PySem.F.args_list_remove_2 _ _) (list_remove D cur.toArray n x (fun y => decide (bytesOf y = bytesOf x)) (fun y hy => eqGives_by (hb y (by simpa using hy)) hx) j (by simpa using hj) (by simpa using h1) (fun m hm hmj => by simpa using h2 m (by simpa using hm) hmj) (by rw [sizeLine_eq]; simp; omega)) ⟨z.1, ?_⟩
    have hz : (cur.eraseIdx j).length + 1 = cur.length := by rw [List.length_eraseIdx_of_lt hj]; omega
    have em : Obj.mapSeq (fun xs => xs.eraseIdxIfInBounds j) (listOf cur.toArray n) = listOf (cur.eraseIdx j).toArray (n + 1) := by
      have e1 : cur.toArray.eraseIdxIfInBounds j = (cur.eraseIdx j).toArray := by simp
      unfold Obj.mapSeq
      simp only [e1]
      rw [if_neg (by simp; omega)]
    rw [h3] at h
    refine h _ (F.change (Heap.SameBut.update ..) z.2.1 z.2.2) (news_set N a b (Heap.SameBut.update ..) ?_)
    rw [Heap.get?_update_self _ z.1 (by rw [em]; rfl), em]
  · cases hr
theorem remove_none {cur : List Value} {n : Nat} {x : Value} {Q : Value → Shared → Prop} (hh : A.handled = none) (hb : ∀ y ∈ cur, isBytes y) (hx : isBytes x) (hr : remd bytesOf cur x = none) (ho : s.heap.get? D = some (listOf cur.toArray n))
    (h : ∀ h' tk e, Heap.NewExc s.heap h' e "ValueError" → E (.ref e) { s with heap := h', toks := tk }) : wpAny (model prog w) A (call (.builtin "list.remove") [.ref D, x]) Q E s := by
  unfold remd at hr
  split at hr
  · cases hr
  · next hany =>
    refine call_meets F.slot_list_remove ⟨_, ho, rfl⟩ F.entry_list_remove (F.args_list_remove_2 _ _) (list_remove_none D cur.toArray n x (fun y => decide (bytesOf y = bytesOf x)) (fun y hy => eqGives_by (hb y (by simpa using hy)) hx) (fun m hm => ?_)) ⟨ho, hh, h⟩
    simp only [List.any_eq_true, not_exists, not_and] at hany
    have := hany (cur[m]'(by simpa using hm)) (List.getElem_mem _)
    simpa using this
end
end Mine
end
section
open PySem PySem.W PySem.Calls PyProof.Rows PySem.Spec PySem.SeqAt PySem.MeetsSeq
set_option maxRecDepth 100000
set_option maxHeartbeats 8000000
namespace Mine
local macro_rules | `(tactic| ktr_unf) => `(tactic| (
  (have kf : Challenge.rw_il0003_01 = Challenge.rw_il0003_01 ∧ hd.heap_39 = hd.heap_39 := by (k_fill; exact ⟨rfl, rfl⟩));
  clear kf;
  refine' enter_ (by assumption) ?k0 ?k1 ?k2 ?k3 ?k4 ?_ ?k5 ?k6 ?k7 ?k8;
  (case k0 => (dsimp only; omega));
  (case k1 => k_is);
  (case k2 => k_is);
  (case k3 => first | exact BindsTo.of_eq rfl | exact binds_K (by k_in) rfl (by k_is) rfl rfl rfl);
  (case k4 => exact locs rfl);
  (case k5 => rfl);
  (case k6 => rfl);
  (case k7 => rfl);
  (case k8 => decide);
  intro h₁ F N;
  dsimp only;
  k_unmd;
  k_fold))
local macro_rules | `(tactic| walk_at "call type:type") => `(tactic| (k_here; first | (refine type_bytes ?_) | (refine type_int ?_)))
local macro_rules | `(tactic| walk_at "getMethod bytes") => `(tactic| (k_here; first | (with_reducible refine m_upper ?_) | (with_reducible refine m_lower ?_) | (with_reducible refine m_hex ?_)))
local macro_rules | `(tactic| walk_at "call builtin:bytes.upper") => `(tactic| (k_here; (refine x_upper (by simp) ?_); intro _ _; (try simp only [List.map_cons, List.map_nil])))
local macro_rules | `(tactic| walk_at "call builtin:bytes.lower") => `(tactic| (k_here; (refine x_lower (by simp) ?_); intro _ _; (try simp only [List.map_cons, List.map_nil])))

local macro_rules | `(tactic| walk_at "exec For Name Name cons nil") => `(tactic| (k_here; (rename Fr _ _ _ _ => lF'); (with_unfolding_all refine' For_invVF lF' ?k1 ?k2 ?_; (case k1 => exact rfl); (case k2 => exact rfl); k_whole)))

theorem c_compare {w mean mg mb} {l₁ l₂ : Addr} {vs₁ vs₂ : List Value} (hz₁ : vs₁.length ≤ 63) (hz₂ : vs₂.length ≤ 63) (hb₁ : ∀ v ∈ vs₁, isBytes v) (hb₂ : ∀ v ∈ vs₂, isBytes v) : DoesT w mean mg mb 138 ⟨[.ref l₁, .ref l₂], []⟩ 100 400 (fun h => h.IsList l₁ vs₁.toArray ∧ h.IsList l₂ vs₂.toArray) (fun _ v _ => v = .bool (cmpB bytesOf vs₁ vs₂)) := by
  intro dp un gd env base L s R hL B Sb S D hP hdp hu ret
  have XB := Sb.X
  have TB := Sb.T
  have KX := S.X
  have T := S.T
  obtain ⟨hl₁, hl₂⟩ := hP
  ktr_unf
  k_steps
  rename Fr _ _ _ _ => F₁
  rename News _ _ _ _ => N₁
  refine use_l (c_dedup kB hz₁) S F₁ N₁ ⟨hl₁.at fun o e => F₁.keep _ o e, hb₁⟩ (by ktr_room) (by ktr_units) (.inl rfl) ?_
  clear F₁ N₁
  intro r₁ n₁ h' tk' _ F₁ N₁ ha
  replace N₁ : News _ _ _ [(r₁, listOf (uniq bytesOf vs₁).toArray n₁)] := N₁
  clear ha
  k_steps
  rename Fr _ _ _ _ => F₁
  rename News _ _ _ _ => N₁
  refine use_l (c_dedup kB hz₂) S F₁ N₁ ⟨hl₂.at fun o e => F₁.keep _ o e, hb₂⟩ (by ktr_room) (by ktr_units) (.inl rfl) ?_
  clear F₁ N₁
  intro r₂ n₂ h' tk' _ F₁ N₁ ha
  replace N₁ : News _ _ _ [(r₂, listOf (uniq bytesOf vs₂).toArray n₂), (r₁, listOf (uniq bytesOf vs₁).toArray n₁)] := N₁
  clear ha
  have hle₁ : (uniq bytesOf vs₁).length ≤ 63 := Nat.le_trans (uniq_len _) hz₁
  have hle₂ : (uniq bytesOf vs₂).length ≤ 63 := Nat.le_trans (uniq_len _) hz₂
  k_steps
  rename Fr _ _ _ _ => F₁
  rename News _ _ _ _ => N₁
  rename _ < _ ∧ _ < _ => l1
  refine iterV (fun i nx => ∃ cur n, remAll bytesOf (uniq bytesOf vs₂) ((uniq bytesOf vs₁).take i) = some cur ∧ nx = [(_, listOf cur.toArray n), (r₂, listOf (uniq bytesOf vs₂).toArray n₂), (r₁, listOf (uniq bytesOf vs₁).toArray n₁)]) (.inl rfl) nofun (N₁.isList (.tail _ (.tail _ (.head _)))) (.inr ⟨listOf (uniq bytesOf vs₁).toArray n₁, ?_⟩) F₁ N₁ ⟨_, _, rfl, rfl⟩ ?_ ?_
  · rintro i _ ⟨cur, n, _, rfl⟩
    exact .tail _ (.tail _ (.head _))
  · rintro i v _ h tk' I oI hv ⟨cur, n, hcur, rfl⟩ hap F₂ N₂
    have hv' : (uniq bytesOf vs₁)[i]? = some v := by simpa using hv
    have hbv : isBytes v := hb₁ _ (uniq_sub _ _ (List.mem_of_getElem? hv'))
    have hbc : ∀ y ∈ cur, isBytes y := fun y hy => hb₂ _ (uniq_sub _ _ ((remAll_sub _ hcur).2 y hy))
    have hlc : cur.length ≤ 63 := Nat.le_trans (remAll_sub _ hcur).1 hle₂
    clear F₁ N₁
    k_steps
    cases hr : remd bytesOf cur v with
    | some c =>
      refine remove_K hbc hbv hr F₂ N₂ (.tail (Ne.symm (hap _ (.head _))) (.head (by simp only [List.mem_cons, List.not_mem_nil, or_false]; rintro p (rfl | rfl) <;> exact Nat.ne_of_lt (by first | exact l1.1 | exact l1.2)))) ?_ (by omega)
      intro h' F₃ N₃
      k_steps
      exact ⟨_, _, _, rfl, F₃, N₃, by simpa using hap, c, n + 1, (remAll_step _ hcur hv').trans hr, rfl⟩
    | none =>
      have hall := remAll_none _ hcur hv' hr
      refine remove_none rfl hbc hbv hr (N₂.get (.tail _ (.head _))) ?_
      intro h' tk' e X
      k_steps
      refine caught_own0 (T' := "ValueError") (news := []) X F₂ News.nil B XB TB D KtsTurn.refl (by k_is) PyProof.Rows.Boot.«ValueError» (by decide +kernel) PySem.F.isExc_ValueError PySem.F.notTuple_ValueError (by rw [isSubtype_type]; kernel_rfl) ?_
      intro h₇ g₇ hc _ RS T₇ F₇ N₇ B₇ X₇ P₇ D₇
      clear RS
      clear F₂ N₂
      k_steps
      exact ret _ _ _ _ T₇ F₇.keep (by show Value.bool false = .bool (cmpB _ _ _); unfold cmpB; rw [hall])
  · rintro tv _ h tk' ⟨cur, n, hcur, rfl⟩ F₂ N₂
    clear F₁ N₁
    have e : (uniq bytesOf vs₁).take (uniq bytesOf vs₁).toArray.size = uniq bytesOf vs₁ := by simp
    rw [e] at hcur
    have hlc : cur.length ≤ 63 := Nat.le_trans (remAll_sub _ hcur).1 hle₂
    k_steps
    refine ret _ _ _ _ KtsTurn.refl F₂.keep ?_
    show Value.bool _ = .bool (cmpB _ _ _)
    unfold cmpB
    rw [hcur]
    cases cur <;> simp
end Mine
end
section
open PySem PySem.W PySem.Calls PyProof.Rows PySem.Spec PySem.SeqAt
set_option maxRecDepth 100000
set_option maxHeartbeats 8000000
namespace Mine
section
variable {prog : Program} {w : World} {A : Around} {h₀ : Heap} {L : Addr} {m : Str → Option Value} {env : Env} {elt ct : Expr} {x : Str} {scope : Scope} {cl : List (Str × Addr)} {s : Shared} {S : List (Addr × Obj) → Prop} {P : Nat → Value → Prop} {Fin : List Value → List (Addr × Obj) → Prop} {news : List (Addr × Obj)}
theorem compEnd_mono {s₁ : Shared} {I C D : Addr} {oI oC oD : Obj} {r r' : Value → List (Addr × Obj) → Prop} {y : Value} {s₂ : Shared} (h : LCg.CompEnd h₀ L m s₁ I oI C oC D oD S r y s₂) (k : ∀ news', r y news' → r' y news') : LCg.CompEnd h₀ L m s₁ I oI C oC D oD S r' y s₂ := by
  obtain ⟨h', tk, news', e, F, N, o, hS, hr⟩ := h
  exact ⟨h', tk, news', e, F, N, o, hS, k _ hr⟩
theorem rest_T {n : Nat} (J : Nat → List Value → List (Addr × Obj) → Prop) (h0 : J 0 [] news)
    (turn : ∀ i v I oI C oC D m₂ ys ns h tk (E' : Value → Shared → Prop), i < n → P i v → J i ys ns → LCg.NsObj oC m₂ → m₂ x = some v → Fr h₀ L h m → News h₀ L h ((I, oI) :: (C, oC) :: (D, LCg.lst ys) :: ns) → LCg.Off3 I C D ns → ((@Ne Nat I C) ∧ (@Ne Nat I D) ∧ (@Ne Nat C D)) →
      wpAny (model prog w) A (isTrue ct (compEnvC scope cl C env) (eval ct (compEnvC scope cl C env))) (fun ok s' => if ok = true then
        wpAny (model prog w) A (eval elt (compEnvC scope cl C env)) (LCg.CompEnd h₀ L m { s with heap := h, toks := tk } I oI C oC D (LCg.lst ys) S (fun y news' => J (i + 1) (ys ++ [y]) news')) E' s'
        else LCg.CompEnd h₀ L m { s with heap := h, toks := tk } I oI C oC D (LCg.lst ys) S (fun _ news' => J (i + 1) ys news') Value.none s') E' { s with heap := h, toks := tk })
    (fin : ∀ ys ns, J n ys ns → Fin ys ns) : LCt.CompRestT prog w A h₀ L m env ct elt x scope cl s S P Fin n 0 [] news := by
  have key : ∀ (j i : Nat) (ys : List Value) (ns : List (Addr × Obj)), i + j = n → J i ys ns → LCt.CompRestT prog w A h₀ L m env ct elt x scope cl s S P Fin j i ys ns := by
    intro j
    induction j with
    | zero =>
      intro i ys ns hi hj
      obtain rfl : i = n := by omega
      exact fin ys ns hj
    | succ j ih =>
      intro i ys ns hi hj
      refine LCt.CompRestT.succ fun v I oI C oC D m₂ h tk E' hP hns hv F N off ne => ?_
      refine wpAny_mono (turn i v I oI C oC D m₂ ys ns h tk E' (by omega) hP hj hns hv F N off ne) (fun ok s' q => ?_) fun _ _ e => e
      cases ok with
      | true =>
        rw [if_pos rfl] at q ⊢
        exact wpAny_mono q (fun y s₂ r => compEnd_mono r fun news' z => ih _ _ _ (by omega) z) fun _ _ e => e
      | false =>
        rw [if_neg (by decide)] at q ⊢
        exact compEnd_mono q fun news' z => ih _ _ _ (by omega) z
  exact key n 0 [] news (by omega) h0
theorem rest_U {n : Nat} (J : Nat → List Value → List (Addr × Obj) → Prop) (h0 : J 0 [] news)
    (turn : ∀ i v I oI C oC D m₂ ys ns h tk (E' : Value → Shared → Prop), i < n → P i v → J i ys ns → LCg.NsObj oC m₂ → m₂ x = some v → Fr h₀ L h m → News h₀ L h ((I, oI) :: (C, oC) :: (D, LCg.lst ys) :: ns) → LCg.Off3 I C D ns → ((@Ne Nat I C) ∧ (@Ne Nat I D) ∧ (@Ne Nat C D)) →
      wpAny (model prog w) A (eval elt (compEnvC scope cl C env)) (LCg.CompEnd h₀ L m { s with heap := h, toks := tk } I oI C oC D (LCg.lst ys) S (fun y news' => J (i + 1) (ys ++ [y]) news')) E' { s with heap := h, toks := tk })
    (fin : ∀ ys ns, J n ys ns → Fin ys ns) : LCg.CompRest prog w A h₀ L m env elt x scope cl s S P Fin n 0 [] news := by
  have key : ∀ (j i : Nat) (ys : List Value) (ns : List (Addr × Obj)), i + j = n → J i ys ns → LCg.CompRest prog w A h₀ L m env elt x scope cl s S P Fin j i ys ns := by
    intro j
    induction j with
    | zero =>
      intro i ys ns hi hj
      obtain rfl : i = n := by omega
      exact fin ys ns hj
    | succ j ih =>
      intro i ys ns hi hj
      refine LCg.CompRest.succ fun v I oI C oC D m₂ h tk E' hP hns hv F N off ne => ?_
      exact wpAny_mono (turn i v I oI C oC D m₂ ys ns h tk E' (by omega) hP hj hns hv F N off ne) (fun y s₂ r => compEnd_mono r fun news' z => ih _ _ _ (by omega) z) fun _ _ e => e
  exact key n 0 [] news (by omega) h0
end
def Mark (p : Prop) : Prop := p
theorem to_mark {p : Prop} (h : Mark p) : p := h
end Mine
end
section
open PySem PySem.W PySem.Calls PyProof.Rows PySem.Spec PySem.SeqAt
set_option maxRecDepth 100000
set_option maxHeartbeats 8000000
namespace Mine
theorem enterC_ {w mean mg mb} {A : Around} {s : Shared} {R : Result → Shared → Prop} {name qual : Str} {params : Arguments} {body : List Stmt} {scope : Scope} {dV kV doc pm cdv ct oc : Value} {an od : Option Addr} {osl : Array (Option Value)} {f : Addr} {args : Args} {binds : List (Str × Value)}
    (S : Std w mean mg mb s.heap) (hroom : A.depth < recursionLimit)
    (ho : (hd.heap_39 w.params).lookup f = some ⟨oc, od, .func (fnOf name qual params body scope dV kV doc pm an cdv ct), osl⟩) (hcd : codeIn (hd.heap_39 w.params) cdv qual = true)
    (hbind : BindsTo s (fnOf name qual params body scope dV kV doc pm an cdv ct) args binds) (hkind : (binds.all fun y => scope.names.lookup y.1 == some .local || scope.names.lookup y.1 == some .cell) = true)
    (hnd : ((cellsFrom 0 scope.names []).map (·.1)).Nodup)
    (h : ∀ h₁ tk cells, Fr s.heap s.heap.objs.size h₁ (bindL (envOfC qual scope s.heap.objs.size f cdv).kindOf binds fun _ => none) → News s.heap s.heap.objs.size h₁ cells →
      CellsAre (bindC (envOfC qual scope s.heap.objs.size f cdv).kindOf binds fun _ => none) (cellsFrom (s.heap.objs.size + 1) scope.names []) cells →
      wpAny (model PR w) (A.deeper (envOfC qual scope s.heap.objs.size f cdv)) (execs body (envOfC qual scope s.heap.objs.size f cdv))
        (fun fl s' => R (.ok (.ret (match fl with | .ret v => v | _ => .none))) s')
        (fun e s' => wpAny (model PR w) (A.deeper (envOfC qual scope s.heap.objs.size f cdv)) (leaving (envOfC qual scope s.heap.objs.size f cdv) e) (fun _ s'' => R (.error e) s'') (fun e' s'' => R (.error e') s'') s')
        { s with heap := h₁, toks := tk })
    (hco : scope.isCoroutine = false) (hgen : scope.isGenerator = false) (hk : scope.kind = .function) : codeAny (model PR w) A (.call (.ref f) args) R s := by
  refine codeAny_call_function hroom (S.X _ _ ho) rfl hco hgen rfl (codeRec_of S.X hcd) (hbind _ _ _ _ ?_)
  refine wpAny_newFunctionEnv_cells hk (kindsX hkind _) fun env' he s' x => ?_
  subst he
  refine ⟨S.T.nolimit.keeps x.toInCall.keep, codeAny_func ?_⟩
  obtain ⟨h₁, tk, rfl, _⟩ := x.done
  have hk₁ := x.toInCall.keep
  obtain ⟨cells, NC, Y⟩ := Cl.news (h₀ := s.heap) (Nat.le_refl _) fun n c hm => ⟨x.cell n c (lookup_of_mem_nodup (cellsFrom_names scope.names 0 (s.heap.objs.size + 1) [] [] rfl ▸ hnd) hm), x.above n c hm⟩
  exact h h₁ tk cells ⟨x.toInCall.ns, hk₁, Nat.le_refl _⟩ NC Y
local macro_rules | `(tactic| ktr_unf) => `(tactic| (
  (have kf : Challenge.rw_il0003_01 = Challenge.rw_il0003_01 ∧ hd.heap_39 = hd.heap_39 := by (k_fill; exact ⟨rfl, rfl⟩));
  clear kf;
  refine' enterC_ (by assumption) ?k0 ?k1 ?k2 ?k3 ?kB ?kD ?_ ?k5 ?k6 ?k7;
  (case k0 => (dsimp only; omega));
  (case k1 => k_is);
  (case k2 => k_is);
  (case k3 => first | exact BindsTo.of_eq rfl | exact binds_K (by k_in) rfl (by k_is) rfl rfl rfl);
  (case kB => exact rfl);
  (case kD => decide +kernel);
  (case k5 => rfl);
  (case k6 => rfl);
  (case k7 => rfl);
  intro h₁ tk' cells' F N Y';
  k_cells Y';
  (try simp only [List.cons_append, List.nil_append] at N);
  (try dsimp only);
  k_unmd;
  k_fold))
local macro_rules | `(tactic| walk_at "call type:type") => `(tactic| (k_here; first | (refine type_bytes ?_) | (refine type_int ?_)))
local macro_rules | `(tactic| walk_at "getMethod bytes") => `(tactic| (k_here; first | (with_reducible refine m_upper ?_) | (with_reducible refine m_lower ?_) | (with_reducible refine m_hex ?_)))
local macro_rules | `(tactic| walk_at "call builtin:bytes.upper") => `(tactic| (k_here; (refine x_upper (by simp) ?_); intro _ _; (try simp only [List.map_cons, List.map_nil])))
local macro_rules | `(tactic| walk_at "call builtin:bytes.lower") => `(tactic| (k_here; (refine x_lower (by simp) ?_); intro _ _; (try simp only [List.map_cons, List.map_nil])))

local macro_rules | `(tactic| walk_at "exec For Name Name cons nil") => `(tactic| (k_here; (rename Fr _ _ _ _ => lF'); (with_unfolding_all refine' For_invVF lF' ?k1 ?k2 ?_; (case k1 => exact rfl); (case k2 => exact rfl); k_whole)))
local macro_rules | `(tactic| walk_at "eval ListComp") => `(tactic| refine to_mark ?_)
local macro_rules | `(tactic| walk_at "CompSrcT") => `(tactic| refine to_mark ?_)
theorem uniq_any {δ : Type} [DecidableEq δ] (k : Value → δ) (c : δ) (xs : List Value) : (uniq k xs).any (fun y => decide (k y = c)) = xs.any (fun y => decide (k y = c)) := by
  have : ∀ (xs acc : List Value), (xs.foldl (fun acc v => if acc.any (fun y => decide (k y = k v)) then acc else acc ++ [v]) acc).any (fun y => decide (k y = c)) = (acc.any (fun y => decide (k y = c)) || xs.any (fun y => decide (k y = c))) := by
    intro xs
    induction xs with
    | nil => intro acc; simp
    | cons a t ih =>
      intro acc
      rw [List.foldl_cons, ih, List.any_cons, ← Bool.or_assoc]
      congr 1
      by_cases h : acc.any (fun y => decide (k y = k a)) = true
      · rw [if_pos h]
        by_cases e : k a = c
        · rw [← e, h]; rfl
        · simp [e]
      · rw [if_neg h, List.any_append]
        simp
  simpa [uniq] using this xs []
theorem small63 : ∀ n < 64, Builtin.Range.small 0 ((n : Nat) : Int) 1 = true ∧ Builtin.Range.rangeSize 0 ((n : Nat) : Int) 1 = ((n : Nat) : Int) := by decide
theorem c_firsts {w mean mg mb} {δ : Type} [DecidableEq δ] (D : KD δ) {l : Addr} {vs : List Value} (hsz : vs.length ≤ 63) {dp un : Nat} {gd : Option (List Code)} {fr : Option (List Env)} {s : Shared} {R : Result → Shared → Prop} (S : Std w mean mg mb s.heap) (hl : s.heap.IsList l vs.toArray) (hok : ∀ v ∈ vs, D.Ok s.heap v) (hdp : dp + 60 < recursionLimit) (hu : un + 200 < cLine)
    (ret : ∀ r n h' tk', Kp s.heap h' → s.heap.get? r = none → h'.get? r = some (listOf (uniq (D.key s.heap) vs).toArray n) → R (.ok (.ret (.ref r))) { s with heap := h', toks := tk' }) :
    codeAny (model PR w) { handled := none, depth := dp, frames := fr, guards := gd, units := un } (.call (.ref 157) ⟨[.ref l], []⟩) R s := by
  have KX := S.X
  have T := S.T
  ktr_unf
  k_steps
  unfold Mark
  refine LCt.ListComp_T (F₀ := by k_asm) (by with_unfolding_all rfl) (by decide) (by rfl) (by decide) (by rfl) ?_
  k_steps
  rename Fr _ _ _ _ => F₁
  rename News _ _ _ _ => N₁
  refine call_len_list (hl.at fun o e => F₁.keep l o e) (by simp; omega) ?_
  k_steps
  unfold Mark
  rename Fr _ _ _ _ => F₁
  rename News _ _ _ _ => N₁
  rename IsRange _ _ _ _ _ _ _ _ => hr
  have hz : vs.toArray.size < 64 := by simp; omega
  refine LCt.CompSrcT.range rfl F₁ N₁ hr (small63 _ hz).1 (small63 _ hz).2 (by rw [sizeLine_eq]; omega) fun g => ?_
  refine rest_T (fun i ys ns => ys = uniq (D.key s.heap) (vs.take i) ∧ ns = [(s.heap.objs.size + 1, _)]) ⟨rfl, rfl⟩ ?_ ?_
  · rintro i _ I oI C oC D' m₂ ys ns h tk E' hi ⟨tv, rfl⟩ ⟨rfl, rfl⟩ hns hx F₂ N₂ off ne
    clear F₁ N₁
    have hi' : i < vs.length := by simpa using hi
    have hvi : vs[i]? = some vs[i] := List.getElem?_eq_getElem hi'
    have hvm : vs[i] ∈ vs := List.getElem_mem hi'
    k_steps
    refine item_listR (x := vs[i]) (hl.at fun o e => F₂.keep l o e) (by omega) (by omega) (by simp [hi']) ?_
    k_steps
    rename Fr _ _ _ _ => F₃
    rename News _ _ _ _ => N₃
    have ep : (vs.toArray : Array Value) |> fun a => slicePick a none (some (0 + (i : Int))) none = (vs.take i).toArray := by
      show slicePick vs.toArray none (some (0 + (i : Int))) none = _
      rw [kms_pick_eq]
      simp only [kms_pick, kms_lo, kms_hi, List.drop_zero, List.toList_toArray, Nat.sub_zero]
      rw [if_neg (by omega)]
      congr 2
      omega
    dsimp only at ep
    rw [ep] at N₃
    refine notIn_KD D (h0 := s.heap) F₃.keep ⟨_, News.get N₃ (.head _), rfl, _, rfl⟩ (fun y hy => hok y (List.mem_of_mem_take hy)) (hok _ hvm) (by ktr_units) ?_
    have step := uniq_step (D.key s.heap) hvi
    have hany : (vs.take i).any (fun y => decide (D.key s.heap y = D.key s.heap vs[i])) = (uniq (D.key s.heap) (vs.take i)).any (fun y => decide (D.key s.heap y = D.key s.heap vs[i])) := (uniq_any _ _ _).symm
    rw [hany]
    generalize (uniq (D.key s.heap) (vs.take i)).any (fun y => decide (D.key s.heap y = D.key s.heap vs[i])) = bb at step ⊢
    cases bb
    · k_steps
      refine item_listR (x := vs[i]) (hl.at fun o e => F₃.keep l o e) (by omega) (by omega) (by simp [hi']) ?_
      exact ⟨_, _, _, rfl, F₃, fun p hp => N₃ p (.tail _ hp), off, trivial, by rw [step]; rfl, rfl⟩
    · k_steps
      exact ⟨_, _, _, rfl, F₃, fun p hp => N₃ p (.tail _ hp), off, trivial, by rw [step]; rfl, rfl⟩
  · rintro ys ns ⟨rfl, rfl⟩
    intro D₁ h₃ tk₃ F₃ N₃ off₃
    refine ret _ (uniq (D.key s.heap) vs).length _ _ F₃.keep (News.fresh N₃ (.head _)) ?_
    have z := News.get N₃ (.head _)
    have e : vs.take vs.toArray.size = vs := by simp
    rw [e] at z
    exact z
end Mine
end
section
open PySem PySem.W PySem.Calls PyProof.Rows PySem.Spec PySem.SeqAt
set_option maxRecDepth 100000
set_option maxHeartbeats 8000000
namespace Mine
/-- dict.fromkeys as it is taken from the type dict -/
def dbound : Obj := { cls := .type "builtin_function_or_method", data := .fields #[.builtin "dict.fromkeys", .type "dict"] }
theorem type_fk : typeOf (.builtin "dict.fromkeys") = pure (.type "classmethod_descriptor") := by show builtinType _ = _; rw [builtinType_eq_fast]; kernel_rfl
theorem entry_fk : entryFor table "dict.fromkeys" = some Builtin.«dict.fromkeys» := entryFor_of_tree (by kernel_rfl)
theorem entry_fkl : entryFor table "dict.fromkeys.loop" = some Builtin.«dict.fromkeys.loop» := entryFor_of_tree (by kernel_rfl)
theorem quiet_fk {as : Args} : (Code.builtin "dict.fromkeys" as).quiet = true := Code.quiet_builtin _ (by decide +kernel)
theorem quiet_fkl {as : Args} : (Code.builtin "dict.fromkeys.loop" as).quiet = true := Code.quiet_builtin _ (by decide +kernel)
theorem plain_fkl : plainId "dict.fromkeys.loop" = true := by decide +kernel
theorem type_dict : isType (.type "dict") = pure true := by first | rfl | kernel_rfl | (unfold isType; rw [isSubtype_type]; kernel_rfl)
theorem owner_fk : (kfb_private% "ownerAndName") "dict.fromkeys" = ("dict", "fromkeys") := by first | decide +kernel | kernel_rfl
theorem check_fk {v : Value} : checkBoundCall "dict.fromkeys" ⟨[.type "dict", v], []⟩ = pure () := by first | kernel_rfl | rfl
theorem typeCall_dict_0 : checkTypeCall "dict" ⟨[], []⟩ = pure () := by kernel_rfl
theorem newCall_dict_0 : checkBuiltinCall "dict.__new__" ⟨[.type "dict"], []⟩ = pure () := by kernel_rfl
theorem args_dict_init_1 (a : Value) : argsOk "dict.__init__" ⟨[a], []⟩ := F.args_dict_init_1 a
section
variable {prog : Program} {w : World} {M : Model} {A : Around} {E : Value → Shared → Prop} {s : Shared} {K : Frag} {h₀ : Heap} {L : Addr} {m : PySem.Str → Option Value} {news : List (Addr × Obj)}
theorem run_get_d {P : Fin → Shared → Prop} (h : P (.done (.ret (.ref s.heap.objs.size))) { s with heap := s.heap.push dbound }) :
    wpAny M A (Builtin.«classmethod_descriptor.__get__» ⟨[.builtin "dict.fromkeys", .none, .type "dict"], []⟩) P E s := by
  unfold Builtin.«classmethod_descriptor.__get__»
  refine wpAny_bind (wpAny_of_eq (a := (.builtin "dict.fromkeys", none, some (.type "dict"))) (by first | rfl | kernel_rfl) ?_)
  simp only [owner_fk]
  refine wpAny_bind (wpAny_of_eq (a := .type "dict") rfl ?_)
  refine wpAny_bind (wpAny_of_eq (a := true) type_dict ?_)
  refine KFB.if_not rfl ?_
  refine wpAny_bind (wpAny_of_eq (a := true) F.kt_sub_dict ?_)
  refine KFB.if_not rfl ?_
  exact wpAny_bind (wpAny_newObj_type (wpAny_pure h))
theorem getm_d {pl : Sem Bool} {Q : Value × List Value → Shared → Prop} (F : Fr h₀ L s.heap m) (N : News h₀ L s.heap news) (X₀ : K.In h₀)
    (e : findCls K (.type "dict") (.type "type") (PySem.Str.ofString "fromkeys") = some (.get (.builtin "classmethod_descriptor.__get__") (.builtin "dict.fromkeys") .none (.type "dict")))
    (h : ∀ x h', Fr h₀ L h' m → News h₀ L h' ((x, dbound) :: news) → (∀ p ∈ news, p.1 < x) → Q (.ref x, []) { s with heap := h', toks := s.toks + 1 }) :
    wpAny (model prog w) A (getMethod (.type "dict") (PySem.Str.ofString "fromkeys") pl) Q E s := by
  have X := X₀.keeps F.keep
  have hstub : opaqueClassAbove (.type "dict") = pure none := by unfold opaqueClassAbove; dsimp only; rw [show Manifest.isStub "dict" = false by decide +kernel]; rfl
  have ht : typeOf (.type "dict") = pure (.type "type") := by first | rfl | kernel_rfl
  have L0 : Looks (model prog w) s.heap (typeOf (.type "dict")) (.type "type") := Looks.of_pure ht
  have hg : findIn K (.type "type") "__getattribute__" = some (some (.builtin "type.__getattribute__")) := type_tga
  unfold getMethod specialOf
  refine wpAny_bind (wpAny_bind (L0.here ((looks_findIn X hg).here ?_)))
  dsimp only
  rw [if_pos canon_tga]
  refine wpAny_bind (wpAny_mono (Q := fun v => Q (v, [])) (E := E) ?_ (fun _ _ z => wpAny_pure z) fun _ _ z => z)
  have LO : Looks (model prog w) s.heap (opaqueClassAbove (.type "dict")) none := Looks.of_pure hstub
  refine cls_open X LO L0 hg (looks_hook X (r := none) (by rfl)) (by show subIn K _ _ = _; rfl) e ?_
  show wpAny _ _ (holding [.builtin "dict.fromkeys"] (call (.builtin "classmethod_descriptor.__get__") [.builtin "dict.fromkeys", .none, .type "dict"]) >>= fun v => ret v) _ _ _
  refine wpAny_bind (wpAny_holding (wpAny_call_entry KFB.slot_get type_fk KFB.entry_get (run_get_d ⟨_, rfl, wpAny_pure (wpAny_pure (h _ _ (F.push _) (News.push F N _) fun p hp => Heap.lt_size (N p hp).1))⟩) (KFB.args_get _ _ _)))
def StandsD (x : Addr) (h : Heap) : Prop := h.get? x = some dbound
theorem callWith_fieldsD {pos : Pos} {u : Addr} {first : List Value} {args : List (Bool × Sem Value)} {Q : Value → Shared → Prop} (hplain : args.any (·.1) = false)
    (h : wpAny M A (evalArgs (.ref u) true args []) (fun x s₁ => StandsD u s₁.heap ∧ wpAny M A (call (.ref u) (first ++ x.pos) x.kw) Q E s₁) E s) : wpAny M A (callWith pos (.ref u) first args []) Q E s := by
  unfold callWith
  refine wpAny_bind (wpAny_holding (wpAny_mono h (fun x s₁ h₁ => wpAny_bind (wpAny_standAt ?_)) fun _ _ x => x))
  obtain ⟨ho, hcall⟩ := h₁
  simp only [hplain, List.any_nil, Bool.or_false]
  refine wpAny_bind (m := keeperOf (.ref u)) ?_
  unfold keeperOf
  refine wpAny_bind (wpAny_load ho ?_)
  simp only [dbound, show (Value.type "builtin_function_or_method" != Value.type "method") = true by decide, show (Value.type "builtin_function_or_method" == Value.type "builtin_function_or_method" || Value.type "builtin_function_or_method" == Value.type "method-wrapper") = true by decide, if_true]
  refine wpAny_pure ?_
  exact wpAny_bind (wpAny_mono hcall (fun r s₂ hr => wpAny_bind (wpAny_holding (wpAny_point (wpAny_pure hr)))) fun _ _ x => x)
theorem callWith_d {pos : Pos} {u : Addr} {first : List Value} {env : Env} {e : Expr} {rest : List Expr} {Q : Value → Shared → Prop}
    (h : wpAny M A (spliced (backTo pos (starEach (e :: rest) env))) (fun vs s₁ => StandsD u s₁.heap ∧ wpAny M A (call (.ref u) (first ++ vs)) Q E s₁) E s)
    (he : starEach (e :: rest) env = (false, eval e env) :: starEach rest env := by rfl) (hplain : (backTo pos (starEach rest env)).any (·.1) = false := by rfl) :
    wpAny M A (callWith pos (.ref u) first (backTo pos (starEach (e :: rest) env)) []) Q E s := by
  rw [he] at h ⊢
  refine callWith_fieldsD (by show (false || (backTo pos (starEach rest env)).any (·.1)) = false; rw [hplain]; rfl) ?_
  exact evalArgs_plain h
theorem call_d {x : Addr} {v : Value} {Q : Value → Shared → Prop} (ho : StandsD x s.heap)
    (h : ∀ {A' : Around} {R : Result → Shared → Prop}, (∀ v s', Q v s' → R (.ok (.ret v)) s') → (∀ e s', E e s' → R (.error e) s') → wpAny (model prog w) A' (Builtin.«dict.fromkeys» ⟨[.type "dict", v], []⟩) (fun fin s' => match fin with | .done f => R (.ok f) s' | .again c' => c'.quiet = true ∧ codeAny (model prog w) A c' R s') (fun e s' => R (.error e) s') s) : wpAny (model prog w) A (call (.ref x) [v]) Q E s := by
  refine wpAny_call (codeAny_of_tree ?_)
  show wpAny _ A.in1 (callAny (.ref x) ⟨[v], []⟩) _ _ s
  simp only [callAny]
  refine wpAny_bind (wpAny_load ho ?_)
  simp only [dbound, show (Value.type "builtin_function_or_method" == Value.type "method" || Value.type "builtin_function_or_method" == Value.type "builtin_function_or_method" || Value.type "builtin_function_or_method" == Value.type "method-wrapper") = true by decide, if_true]
  refine KFB.if_so (by decide) ?_
  refine wpAny_bind (wpAny_of_eq (a := ()) check_fk ?_)
  refine wpAny_bind (wpAny_pure (wpAny_pure ?_))
  refine ⟨quiet_fk, codeAny_builtin entry_fk ?_⟩
  exact h (R := fun r s' => match r with | .ok (.ret v) => Q v s' | .ok _ => False | .error e => E e s') (fun v s' q => q) fun e s' q => q
theorem code_dict_new0 {Q₁ : Value → Shared → Prop} (h : Q₁ (.ref s.heap.objs.size) { s with heap := s.heap.push { cls := .type "dict", data := .dict #[] } }) :
    codeAny (model prog w) A (.call (.builtin "dict.__new__") ⟨[.type "dict"], []⟩) (wants Q₁ E) s := by
  refine codeAny_call_builtin F.kt_plain_dict_new F.kt_entry_dict_new (wpAny_of_eq newCall_dict_0 ?_)
  have hsub := F.kt_sub_dict
  have hmro := F.kt_mro_dict
  obtain ⟨hp, g, d, tk, os⟩ := s
  unfold Builtin.«dict.__new__»
  wp_walk
  exact h
theorem call_dict0 {Q : Value → Shared → Prop} (h : Q (.ref s.heap.objs.size) { s with heap := s.heap.push { cls := .type "dict", data := .dict #[] } }) :
    wpAny (model prog w) A (call (.type "dict") []) Q E s := by
  refine callType_codes (Q₁ := fun obj s₁ => obj = .ref s.heap.objs.size ∧ s₁ = { s with heap := s.heap.push { cls := .type "dict", data := .dict #[] } }) F.kt_called_dict typeCall_dict_0 F.entry_dict_init (code_dict_new0 ⟨rfl, rfl⟩) ?_
  rintro obj s₁ ⟨rfl, rfl⟩
  have hT : Shared.TypeIs { s with heap := s.heap.push { cls := .type "dict", data := .dict #[] } } (.ref s.heap.objs.size) "dict" := ⟨_, Heap.get?_push_size _ rfl, rfl⟩
  refine ⟨hT, args_dict_init_1 _, ?_⟩
  unfold Builtin.«dict.__init__»
  refine wpAny_bind ?_
  unfold Builtin.Dict.selfAndRest
  refine wpAny_bind (wpAny_notOrdered_dict hT ?_)
  show wpAny _ _ (pure (s.heap.objs.size, [])) _ _ _
  refine wpAny_pure ?_
  show wpAny _ _ (Builtin.Dict.addKeywords s.heap.objs.size [] >>= fun _ => ret .none) _ _ _
  refine wpAny_bind (wpAny_of_eq (a := ()) (by first | rfl | kernel_rfl) ?_)
  exact wpAny_pure ⟨rfl, h⟩
end
end Mine
end
section
open PySem PySem.W PySem.Calls PyProof.Rows PySem.Spec PySem.SeqAt
set_option maxRecDepth 100000
set_option maxHeartbeats 8000000
namespace Mine
/-- the keys of a dict, as uniq leaves them -/
def keysAre (kvs : List (List UInt8 × Value)) (us : List Value) : Prop := kvs.map (·.1) = us.map fun v => (bytesOf v).toList
theorem any_map_fst {kvs : List (List UInt8 × Value)} {us : List Value} (k : keysAre kvs us) (c : Array UInt8) : kvs.any (fun kv => decide (kv.1 = c.toList)) = us.any (fun y => decide (bytesOf y = c)) := by
  have e1 : kvs.any (fun kv => decide (kv.1 = c.toList)) = (kvs.map (·.1)).any (fun x => decide (x = c.toList)) := by rw [List.any_map]; rfl
  rw [e1, k, List.any_map]
  congr 1
  funext y
  simp only [Function.comp]
  rw [Bool.eq_iff_iff, decide_eq_true_eq, decide_eq_true_eq]
  exact ⟨fun h => by simpa using h, fun h => by rw [h]⟩
theorem keysAre_step {kvs : List (List UInt8 × Value)} {vs : List Value} {i : Nat} {v : Value} (k : keysAre kvs (uniq bytesOf (vs.take i))) (hv : vs[i]? = some v) : keysAre (stored kvs (bytesOf v).toList .none) (uniq bytesOf (vs.take (i + 1))) := by
  rw [uniq_step bytesOf hv]
  unfold stored
  rw [any_map_fst k]
  by_cases h : (uniq bytesOf (vs.take i)).any (fun y => decide (bytesOf y = bytesOf v)) = true
  · rw [if_pos h, if_pos h]
    show List.map _ _ = _
    rw [← k, List.map_map]
    congr 1
    funext kv
    simp only [Function.comp]
    split <;> rfl
  · rw [if_neg h, if_neg h]
    show List.map _ _ = _
    rw [List.map_append, List.map_append, k]
    rfl
section
variable {prog : Program} {w : World} {A A' : Around} {E : Value → Shared → Prop} {s : Shared}
theorem bytes_is {v : Value} (h : isBytes v) : (bytesKind prog w).is (bytesOf v).toList v = true := by
  cases v <;> first | exact h.elim | skip
  exact bytesKind_is prog w _ _
theorem fk_loop {l it d : Addr} {vs : List Value} (hz : vs.length ≤ 63) (hb : ∀ v ∈ vs, isBytes v) (hh : A.handled = none) (hld : l ≠ d) (hli : l ≠ it) (hid : it ≠ d) {R : Result → Shared → Prop} (n : Nat) : ∀ (i : Nat) (s : Shared) (kvs : List (List UInt8 × Value)), i + n = vs.length →
    s.heap.IsListIter it l i → s.heap.IsList l vs.toArray → s.heap.DictOf (bytesKind prog w) d kvs → keysAre kvs (uniq bytesOf (vs.take i)) → kvs.length ≤ i →
    (∀ h' tk kvs', (∀ b o, b ≠ it → b ≠ d → s.heap.get? b = some o → h'.get? b = some o) → h'.DictOf (bytesKind prog w) d kvs' → keysAre kvs' (uniq bytesOf vs) → kvs'.length ≤ 63 → R (.ok (.ret (.ref d))) { s with heap := h', toks := tk }) →
    codeAny (model prog w) A (.builtin "dict.fromkeys.loop" ⟨[.ref d, .ref it, .none], []⟩) R s := by
  induction n with
  | zero =>
    intro i s kvs hi hit hl hd hk hkl ret
    have W := Walks.list (prog := prog) (w := w) (A := A.under (.builtin "dict.fromkeys.loop" ⟨[.ref d, .ref it, .none], []⟩)) hh it l hli vs.toArray
    refine codeAny_builtin entry_fkl ?_
    unfold Builtin.«dict.fromkeys.loop»
    refine wpAny_bind (W.done _ _ _ ⟨by rw [show vs.toArray.size = i by simp; omega]; exact hit, hl⟩ fun h' tk keep => ?_)
    refine wpAny_pure ?_
    refine ret h' tk kvs (fun b o hbi _ e => keep b o (by simp [hbi]) e) (hd.at fun o e => keep d o (by simp; exact Ne.symm hid) e) ?_ (by omega)
    have e : vs.take i = vs := List.take_of_length_le (by omega)
    rw [e] at hk
    exact hk
  | succ n ih =>
    intro i s kvs hi hit hl hd hk hkl ret
    have W := Walks.list (prog := prog) (w := w) (A := A.under (.builtin "dict.fromkeys.loop" ⟨[.ref d, .ref it, .none], []⟩)) hh it l hli vs.toArray
    refine codeAny_builtin entry_fkl ?_
    unfold Builtin.«dict.fromkeys.loop»
    refine wpAny_bind (W.item i _ _ _ (by simp; omega) ⟨hit, hl⟩ fun v h' tk hv st keep => ?_)
    have hv' : vs[i]? = some v := by simpa using hv
    have hd' : h'.DictOf (bytesKind prog w) d kvs := hd.at fun o e => keep d o (by simp; exact Ne.symm hid) e
    dsimp only
    refine wpAny_bind (wpAny_typeOf (Heap.DictOf.typeIs (s := { s with heap := h', toks := tk }) hd') ?_)
    rw [if_pos (by decide)]
    refine wpAny_bind (wpAny_pure (wpAny_bind (wpAny_holding (wpAny_dictSet_pairs (bytes_is (hb v (List.mem_of_getElem? hv'))) hd' (fun h'' hd'' sb => ?_) (hsz := (by rw [sizeLine_eq]; omega : kvs.length ≤ sizeLine))))))
    refine wpAny_pure ⟨quiet_fkl, ?_⟩
    refine ih (i + 1) _ _ (by omega) (st.1.at fun o e => sb.extBut it o hid e) (st.2.at fun o e => sb.extBut l o hld e) hd'' (keysAre_step hk hv') ?_ fun h₃ tk₃ kvs₃ k₃ d₃ e₃ l₃ => ret h₃ tk₃ kvs₃ (fun b o hbi hbd e => k₃ b o hbi hbd (sb.extBut b o hbd (keep b o (by simp [hbi]) e))) d₃ e₃ l₃
    have : (stored kvs (bytesOf v).toList .none).length ≤ kvs.length + 1 := by
      unfold stored
      split <;> simp
    omega
theorem fk_tree {l : Addr} {vs : List Value} (hz : vs.length ≤ 63) (hb : ∀ v ∈ vs, isBytes v) (hh : A.handled = none) (hl : s.heap.IsList l vs.toArray) {R : Result → Shared → Prop}
    (ret : ∀ d h' tk kvs', s.heap.objs.size ≤ d → (∀ b o, s.heap.get? b = some o → h'.get? b = some o) → s.heap.get? d = none → h'.DictOf (bytesKind prog w) d kvs' → keysAre kvs' (uniq bytesOf vs) → kvs'.length ≤ 63 → R (.ok (.ret (.ref d))) { s with heap := h', toks := tk }) :
    wpAny (model prog w) A' (Builtin.«dict.fromkeys» ⟨[.type "dict", .ref l], []⟩) (fun fin s' => match fin with | .done f => R (.ok f) s' | .again c' => c'.quiet = true ∧ codeAny (model prog w) A c' R s') E s := by
  unfold Builtin.«dict.fromkeys»
  refine wpAny_bind (wpAny_of_eq (a := true) type_dict ?_)
  refine KFB.if_not rfl ?_
  refine wpAny_bind (wpAny_of_eq (a := true) F.kt_sub_dict ?_)
  refine KFB.if_not rfl ?_
  refine KFB.if_not rfl ?_
  refine wpAny_bind (wpAny_rule (wpAny_bind (wpAny_pure ?_)))
  dsimp only
  refine wpAny_bind (call_dict0 ?_)
  refine wpAny_holding ?_
  have hl1 : (s.heap.push { cls := .type "dict", data := .dict #[] }).IsList l vs.toArray := hl.push _
  have hd1 : (s.heap.push { cls := .type "dict", data := .dict #[] }).DictOf (bytesKind prog w) s.heap.objs.size [] := Heap.DictOf.new s.heap
  refine wpAny_bind (wpAny_typeOf hl1.typeIs ?_)
  refine wpAny_bind (wpAny_typeOf hd1.typeIs ?_)
  refine KFB.if_not (by decide) ?_
  refine wpAny_bind (wpAny_typeOf hd1.typeIs ?_)
  refine KFB.if_not (by decide) ?_
  refine wpAny_bind (wpAny_pyIter_list hl1 ?_)
  refine wpAny_pure ⟨quiet_fkl, ?_⟩
  obtain ⟨ol, hol, _⟩ := id hl
  have hlt := Heap.lt_size hol
  refine fk_loop hz hb hh (Nat.ne_of_lt hlt) ?_ ?_ vs.length 0 _ [] (by omega) ⟨_, Heap.get?_push_size _ rfl, rfl, rfl⟩ (hl1.push _) (hd1.push _) rfl (by simp) fun h' tk kvs keep hd hk hz' => ?_
  · rw [Heap.size_push]; exact Nat.ne_of_lt (Nat.lt_succ_of_lt hlt)
  · rw [Heap.size_push]; exact Nat.succ_ne_self _
  · refine ret _ h' tk kvs (Nat.le_refl _) (fun b o e => keep b o ?_ (Nat.ne_of_lt (Heap.lt_size e)) (Heap.get?_push_of_some _ (Heap.get?_push_of_some _ e))) ?_ hd hk hz'
    · rw [Heap.size_push]; exact Nat.ne_of_lt (Nat.lt_succ_of_lt (Heap.lt_size e))
    · cases e : s.heap.get? s.heap.objs.size with
      | none => rfl
      | some o => exact absurd (Heap.lt_size e) (Nat.lt_irrefl _)
theorem typeName_list : typeName (.type "list") = pure "list" := by unfold typeName; rw [find?_eq_fast]; kernel_rfl
theorem lookup_list_hash : typeLookup (.type "list") "__hash__" = pure (some .none) := by rw [typeLookup_type, builtinLookup_eq_fast]; kernel_rfl
theorem hash_list {a : Addr} {its : Array Value} {Q : Int → Shared → Prop} (hu : A.units < cLine) (hh : A.handled = none) (hl : s.heap.IsList a its)
    (h : ∀ h' tk e, Heap.NewExc s.heap h' e "TypeError" → E (.ref e) { s with heap := h', toks := tk }) : wpAny (model prog w) A (pyHash (.ref a)) Q E s := by
  show wpAny _ _ (pyHashByItsType (.ref a)) _ _ _
  unfold pyHashByItsType
  refine wpAny_bind (wpAny_cRoomFor hu ?_)
  refine wpAny_bind (wpAny_specialOf hl.typeIs lookup_list_hash ?_)
  refine KFB.if_so (by decide) ?_
  refine wpAny_bind (wpAny_rule (wpAny_bind ?_))
  unfold PySem.typeNameOf shownTypeOf
  refine wpAny_bind (wpAny_bind (wpAny_typeOf hl.typeIs ?_))
  simp only [show (Value.type "list" == Value.type "builtin_function_or_method") = false by decide, Bool.false_eq_true, if_false]
  refine wpAny_pure ?_
  rw [typeName_list]
  refine wpAny_pure ?_
  refine wpAny_bind (wpAny_raiseErrorMade plainExc_TypeError hh h ?_)
  rw [sizeLine_eq]
  decide +kernel
theorem fk_raise {l a : Addr} {its : Array Value} {vs : List Value} (hz : vs.length ≤ 63) (h0 : vs[0]? = some (.ref a)) (hu : A.units + 20 < cLine) (hh : A.handled = none) (hl : s.heap.IsList l vs.toArray) (ha : s.heap.IsList a its) {R : Result → Shared → Prop}
    (h : ∀ g h' tk e, (∀ b o, s.heap.get? b = some o → g.get? b = some o) → Heap.NewExc g h' e "TypeError" → R (.error (.ref e)) { s with heap := h', toks := tk }) :
    wpAny (model prog w) A' (Builtin.«dict.fromkeys» ⟨[.type "dict", .ref l], []⟩) (fun fin s' => match fin with | .done f => R (.ok f) s' | .again c' => c'.quiet = true ∧ codeAny (model prog w) A c' R s') E s := by
  unfold Builtin.«dict.fromkeys»
  refine wpAny_bind (wpAny_of_eq (a := true) type_dict ?_)
  refine KFB.if_not rfl ?_
  refine wpAny_bind (wpAny_of_eq (a := true) F.kt_sub_dict ?_)
  refine KFB.if_not rfl ?_
  refine KFB.if_not rfl ?_
  refine wpAny_bind (wpAny_rule (wpAny_bind (wpAny_pure ?_)))
  dsimp only
  refine wpAny_bind (call_dict0 ?_)
  refine wpAny_holding ?_
  have hl1 : (s.heap.push { cls := .type "dict", data := .dict #[] }).IsList l vs.toArray := hl.push _
  have hd1 : (s.heap.push { cls := .type "dict", data := .dict #[] }).DictOf (bytesKind prog w) s.heap.objs.size [] := Heap.DictOf.new s.heap
  refine wpAny_bind (wpAny_typeOf hl1.typeIs ?_)
  refine wpAny_bind (wpAny_typeOf hd1.typeIs ?_)
  refine KFB.if_not (by decide) ?_
  refine wpAny_bind (wpAny_typeOf hd1.typeIs ?_)
  refine KFB.if_not (by decide) ?_
  refine wpAny_bind (wpAny_pyIter_list hl1 ?_)
  refine wpAny_pure ⟨quiet_fkl, ?_⟩
  obtain ⟨ol, hol, _⟩ := id hl
  have hlt := Heap.lt_size hol
  have hlI : l ≠ (s.heap.push { cls := .type "dict", data := .dict #[] }).objs.size := by rw [Heap.size_push]; exact Nat.ne_of_lt (Nat.lt_succ_of_lt hlt)
  have hdI : s.heap.objs.size ≠ (s.heap.push { cls := .type "dict", data := .dict #[] }).objs.size := by rw [Heap.size_push]; exact Nat.ne_of_lt (Nat.lt_succ_self _)
  have hn : 0 < vs.toArray.size := by
    have := (List.getElem?_eq_some_iff.mp h0).1
    simpa using this
  have W := Walks.list (prog := prog) (w := w) (A := A.under (.builtin "dict.fromkeys.loop" ⟨[.ref s.heap.objs.size, .ref (s.heap.push { cls := .type "dict", data := .dict #[] }).objs.size, .none], []⟩)) hh (s.heap.push { cls := .type "dict", data := .dict #[] }).objs.size l hlI vs.toArray
  refine codeAny_builtin entry_fkl ?_
  unfold Builtin.«dict.fromkeys.loop»
  refine wpAny_bind (W.item 0 _ _ _ hn ⟨⟨_, Heap.get?_push_size _ rfl, rfl, rfl⟩, hl1.push _⟩ fun v h' tk hv st keep => ?_)
  have hv' : v = .ref a := by
    have : vs[0]? = some v := by simpa using hv
    rw [h0] at this
    exact (Option.some.inj this).symm
  subst hv'
  have keep' : ∀ b o, s.heap.get? b = some o → h'.get? b = some o := fun b o e => keep b o (by
    simp only [List.mem_singleton]
    rw [Heap.size_push]
    exact Nat.ne_of_lt (Nat.lt_succ_of_lt (Heap.lt_size e))) (Heap.get?_push_of_some _ (Heap.get?_push_of_some _ e))
  have hd' : h'.DictOf (bytesKind prog w) s.heap.objs.size [] := (hd1.push _).at fun o e => keep _ o (by simpa using hdI) e
  dsimp only
  refine wpAny_bind (wpAny_typeOf (Heap.DictOf.typeIs (s := { s with heap := h', toks := tk }) hd') ?_)
  rw [if_pos (by decide)]
  refine wpAny_bind (wpAny_pure (wpAny_bind (wpAny_holding ?_)))
  unfold dictSet
  refine wpAny_holding (wpAny_bind ?_)
  exact hash_list (by rw [Around.under_plainId plain_fkl]; show A.units + 1 < cLine; omega) hh (ha.at fun o e => keep' a o e) fun h'' tk'' e X => h h' h'' tk'' e keep' X
end
end Mine
end
section
open PySem PySem.W PySem.Calls PyProof.Rows PySem.Spec PySem.SeqAt
set_option maxRecDepth 100000
set_option maxHeartbeats 8000000
namespace Mine
local macro_rules | `(tactic| ktr_unf) => `(tactic| (
  (have kf : Challenge.rw_il0003_01 = Challenge.rw_il0003_01 ∧ hd.heap_39 = hd.heap_39 := by (k_fill; exact ⟨rfl, rfl⟩));
  clear kf;
  refine' enter_ (by assumption) ?k0 ?k1 ?k2 ?k3 ?k4 ?_ ?k5 ?k6 ?k7 ?k8;
  (case k0 => (dsimp only; omega));
  (case k1 => k_is);
  (case k2 => k_is);
  (case k3 => exact kp_binds (by k_in) (fun _ => rfl));
  (case k4 => exact locs rfl);
  (case k5 => rfl);
  (case k6 => rfl);
  (case k7 => rfl);
  (case k8 => decide);
  intro h₁ F N;
  dsimp only;
  k_unmd;
  k_fold))
local macro_rules | `(tactic| walk_at "call type:type") => `(tactic| (k_here; first | (refine type_bytes ?_) | (refine type_int ?_)))
local macro_rules | `(tactic| walk_at "getMethod bytes") => `(tactic| (k_here; first | (with_reducible refine m_upper ?_) | (with_reducible refine m_lower ?_) | (with_reducible refine m_hex ?_)))
local macro_rules | `(tactic| walk_at "call builtin:bytes.upper") => `(tactic| (k_here; (refine x_upper (by simp) ?_); intro _ _; (try simp only [List.map_cons, List.map_nil])))
local macro_rules | `(tactic| walk_at "call builtin:bytes.lower") => `(tactic| (k_here; (refine x_lower (by simp) ?_); intro _ _; (try simp only [List.map_cons, List.map_nil])))

local macro_rules | `(tactic| walk_at "exec For Name Name cons nil") => `(tactic| (k_here; (rename Fr _ _ _ _ => lF'); (with_unfolding_all refine' For_invVF lF' ?k1 ?k2 ?_; (case k1 => exact rfl); (case k2 => exact rfl); k_whole)))

local macro_rules | `(tactic| walk_at "getMethod type:dict") => `(tactic| (k_here; k_dflt (refine' getm_d ?kfbF ?kfbN ?kfbX ?kfbE ?_; (case kfbF => k_asm); (case kfbN => k_asm); (case kfbX => k_asm); (case kfbE => k_is); k_whole; intro x' h' F' N' l1; (try k_lt l1); (try k_sweep))))
local macro_rules | `(tactic| walk_at "callWith ref") => `(tactic| (k_here; (fail_if_success (with_reducible show wpAny _ _ (callWith _ (Value.ref 131) _ _ _) _ _ _)); (with_reducible show wpAny _ _ (callWith _ (Value.ref _) _ (backTo _ (starEach (_ :: _) _)) []) _ _ _); k_dflt (refine callWith_d ?_)))
local macro_rules | `(tactic| walk_at "And") => `(tactic| ((with_reducible show StandsD _ _ ∧ _); k_dflt (refine ⟨News.get (by k_asm) (by k_mem), ?_⟩); (try dsimp only [List.nil_append, List.cons_append])))
theorem c_fromkeys {w mean mg mb} {l : Addr} {vs : List Value} (hsz : vs.length ≤ 63) (hb : ∀ v ∈ vs, isBytes v) {dp un : Nat} {gd : Option (List Code)} {fr : Option (List Env)} {s : Shared} {R : Result → Shared → Prop} (S : Std w mean mg mb s.heap) (hl : s.heap.IsList l vs.toArray) (hdp : dp + 60 < recursionLimit) (hu : un + 200 < cLine)
    (ret : ∀ d h' tk kvs, s.heap.objs.size ≤ d → Kp s.heap h' → s.heap.get? d = none → h'.DictOf (bytesKind PR w) d kvs → keysAre kvs (uniq bytesOf vs) → kvs.length ≤ 63 → R (.ok (.ret (.ref d))) { s with heap := h', toks := tk }) :
    codeAny (model PR w) { handled := none, depth := dp, frames := fr, guards := gd, units := un } (.call (.ref 124) ⟨[.ref l], []⟩) R s := by
  have KX := S.X
  have T := S.T
  ktr_unf
  k_steps
  rename Fr _ _ _ _ => F₁
  rename News _ _ _ _ => N₁
  refine call_d (News.get N₁ (.head _)) fun hQ hE => ?_
  refine fk_tree hsz hb rfl (hl.at fun o e => F₁.keep l o e) ?_
  intro d h' tk' kvs' hge keep hnd hd hk hz
  refine hQ _ _ (ret _ _ _ _ (Nat.le_trans (Nat.le_trans F₁.above (Nat.le_of_lt F₁.ns.lt)) hge) (fun b o e => keep b o (F₁.keep b o e)) ?_ hd hk hz)
  cases e : s.heap.get? d with
  | none => rfl
  | some o => exact absurd (hnd.symm.trans (F₁.keep d o e)) nofun
theorem uniq_congr {δ : Type} [DecidableEq δ] {k k' : Value → δ} {vs : List Value} (h : ∀ v ∈ vs, k v = k' v) : uniq k vs = uniq k' vs := by
  have : ∀ (xs acc : List Value), (∀ v ∈ xs, k v = k' v) → (∀ v ∈ acc, k v = k' v) → xs.foldl (fun acc v => if acc.any (fun y => decide (k y = k v)) then acc else acc ++ [v]) acc = xs.foldl (fun acc v => if acc.any (fun y => decide (k' y = k' v)) then acc else acc ++ [v]) acc := by
    intro xs
    induction xs with
    | nil => intro acc _ _; rfl
    | cons a t ih =>
      intro acc hx ha
      rw [List.foldl_cons, List.foldl_cons]
      have e : acc.any (fun y => decide (k y = k a)) = acc.any (fun y => decide (k' y = k' a)) := by
        rw [Bool.eq_iff_iff, List.any_eq_true, List.any_eq_true]
        constructor
        · rintro ⟨y, hy, q⟩
          exact ⟨y, hy, by rw [← ha y hy, ← hx a (.head _)]; exact q⟩
        · rintro ⟨y, hy, q⟩
          exact ⟨y, hy, by rw [ha y hy, hx a (.head _)]; exact q⟩
      rw [e]
      refine ih _ (fun v hv => hx v (.tail _ hv)) ?_
      split
      · exact ha
      · intro v hv
        rcases List.mem_append.mp hv with hv | hv
        · exact ha v hv
        · rw [List.mem_singleton.mp hv]; exact hx a (.head _)
  exact this vs [] h (fun _ h => nomatch h)
theorem c_fallback {w mean mg mb} {l a : Addr} {its : Array Value} {vs : List Value} (hsz : vs.length ≤ 63) (h0 : vs[0]? = some (.ref a)) : DoesT w mean mg mb 124 ⟨[.ref l], [(Str.ofString "unhashable_fallback", .bool true)]⟩ 100 400
    (fun h => h.IsList l vs.toArray ∧ h.IsList a its ∧ ∀ v ∈ vs, kR.Ok h v) (fun h v h' => ∃ r n, v = .ref r ∧ h.get? r = none ∧ h'.get? r = some (listOf (uniq (kR.key h) vs).toArray n)) := by
  intro dp un gd env base L s R hL B Sb S D hP hdp hu ret
  have XB := Sb.X
  have TB := Sb.T
  have KX := S.X
  have T := S.T
  obtain ⟨hl, ha, hok⟩ := hP
  ktr_unf
  k_steps
  rename Fr _ _ _ _ => F₁
  rename News _ _ _ _ => N₁
  refine call_d (News.get N₁ (.head _)) fun hQ hE => ?_
  refine fk_raise hsz h0 (by ktr_units) rfl (hl.at fun o e => F₁.keep l o e) (ha.at fun o e => F₁.keep a o e) ?_
  intro g h' tk' e keep X
  refine hE _ _ ?_
  refine caught_own0 (T' := "TypeError") (news := []) X (F₁.keeps keep) News.nil B XB TB D KtsTurn.refl (by k_is) PyProof.Rows.Boot.«TypeError» (by decide +kernel) PySem.F.isExc_TypeError PySem.F.notTuple_TypeError (by rw [isSubtype_type]; kernel_rfl) ?_
  intro h₇ g₇ hc _ RS T₇ F₇ N₇ B₇ X₇ P₇ D₇
  clear RS
  clear F₁ N₁
  k_steps
  have hk₇ : ∀ v ∈ vs, kR.Ok h₇ v ∧ kR.key h₇ v = kR.key s.heap v := fun v hv => by
    obtain ⟨b, a', t, rfl, il⟩ := hok v hv
    have il' : h₇.IsList a' #[.bytes b t] := by
      obtain ⟨o, ho, hc', n, hd'⟩ := il
      obtain ⟨sl, z⟩ := T₇.up ho
      exact ⟨_, F₇.keep _ _ z, hc', n, hd'⟩
    have x : IsRow h₇ (.ref a') b := ⟨a', t, rfl, il'⟩
    have y : IsRow s.heap (.ref a') b := ⟨a', t, rfl, il⟩
    exact ⟨⟨b, x⟩, (rowKey_is x).trans (rowKey_is y).symm⟩
  have hl₇ : h₇.IsList l vs.toArray := by
    obtain ⟨o, ho, hc', n, hd'⟩ := hl
    obtain ⟨sl, z⟩ := T₇.up ho
    exact ⟨_, F₇.keep _ _ z, hc', n, hd'⟩
  refine use_l (c_dedup kR hsz) ⟨X₇, P₇⟩ F₇ News.nil ⟨hl₇, fun v hv => (hk₇ v hv).1⟩ (by show dp + 1 + 60 < recursionLimit; omega) (by ktr_units) (.inr ⟨e, rfl, hc⟩) ?_
  intro r n h₈ tk₈ hk₈ F₈ N₈ _
  refine ret _ _ _ _ T₇ F₈.keep ⟨r, n, rfl, turn_none T₇ (News.fresh N₈ (.head _)), ?_⟩
  rw [News.get N₈ (.head _)]
  have e : uniq (kR.key s.heap) vs = uniq (kR.key h₇) vs := by
    exact uniq_congr fun v hv => (hk₇ v hv).2.symm
  rw [e]
end Mine
end
section
open PySem PySem.W PySem.Calls PyProof.Rows PySem.Spec PySem.SeqAt
set_option maxRecDepth 100000
set_option maxHeartbeats 400000
namespace Mine
section
variable {M : Model} {A A₂ : Around} {E : Value → Shared → Prop} {s : Shared}
theorem flight_to {base : Heap} {l : List Env} {e L : Addr} {cls a0 : Value} {Q : Unit → Shared → Prop} (hh : Heap.FlyingW base l e cls a0 s.heap)
    (h : ∀ h', Heap.HeldW base l e cls a0 L h' → s.heap.UpToSlots h' → Q () { s with heap := h' }) : wpAny M A (setFlight (.ref e) (some L)) Q E s := by
  obtain ⟨hkb, hen, hl, oe, vs, T, oT, ts, he, hcls, hd, h1, hnT, hTe, hT, hdT, h3⟩ := hh
  have hsz3 : 3 < ts.size := (Array.getElem?_eq_some_iff.mp h3).1
  have other : ∀ b, b ≠ T → (s.heap.update T (Obj.mapFields (·.setIfInBounds 3 ((some L : Option Addr).elim Value.none fun f => rawInt f)))).get? b = s.heap.get? b :=
    fun b hb => Heap.get?_update_other _ _ (Ne.symm hb)
  have noRecord : ∀ b o, s.heap.get? b = some o → (∀ vs, o.data ≠ .fields vs) → b ≠ T := fun b o hb hnf q => by
    rw [q, hT] at hb; injection hb with hb; subst hb; exact hnf ts hdT
  unfold setFlight
  refine wpAny_bind (wpAny_field he hd h1 ?_)
  rw [if_pos (show (Value.ref T != Value.none) = true from by simp)]
  refine wpAny_setField hT hdT hsz3 (h _ ⟨fun b o hbo => (other b fun q => by rw [q, hnT] at hbo; cases hbo).trans (hkb b o hbo), hen,
    hl.of_keeps fun b o hb hnf => ⟨o, (other b (noRecord b o hb hnf)).trans hb, rfl⟩, ?_⟩ (fun b o hb hnf => ⟨o.slots, (other b (noRecord b o hb hnf)).trans hb⟩))
  exact ⟨oe, vs, T, _, _, (other e (Ne.symm hTe)).trans he, hcls, hd, h1, hnT, hTe, Heap.get?_update_self _ hT (Obj.isFreed_of_fields (Obj.data_mapFields hdT _)), Obj.data_mapFields hdT _, by simp [hsz3]⟩
theorem raise_bare {base : Heap} {env : Env} {l : List Env} {L e : Addr} {cls a0 : Value} {pos : Pos} {Q : Flow → Shared → Prop} (hh : A.handled = some (.ref e)) (hf : env.frame = some L) (hfl : Heap.FlyingW base l e cls a0 s.heap)
    (h : ∀ h', Heap.HeldW base l e cls a0 L h' → s.heap.UpToSlots h' → E (.ref e) { s with heap := h' }) : wpAny M A (exec (.Raise none none pos) env) Q E s := by
  rw [arm_exec_Raise]
  refine wpAny_bind (wpAny_standAt ?_)
  show wpAny _ _ (raiseStmt env none none) _ _ _
  unfold raiseStmt
  refine wpAny_bind (wpAny_handled ?_)
  rw [hh]
  refine wpAny_bind (wpAny_rule ?_)
  obtain ⟨hkb, hen, hl, oe, vs, T, oT, ts, he, hcls, hd, h1, r⟩ := id hfl
  refine wpAny_bind (wpAny_field he hd h1 ?_)
  rw [if_neg (show ¬ ((Value.ref T == Value.none) = true) from by simp)]
  refine wpAny_bind ?_
  rw [hf]
  exact flight_to hfl fun h' H U => wpAny_throw (h h' H U)
theorem leaves_held {base : Heap} {env : Env} {outer : List Env} {L e : Addr} {cls a0 : Value} {Q : Unit → Shared → Prop} (hf : env.frame = some L)
    (hh : Heap.HeldW base (env :: outer) e cls a0 L s.heap) (hQ : ∀ h', Heap.FlyingW base outer e cls a0 h' → s.heap.UpToSlots h' → Q () { s with heap := h' }) : wpAny M A (leaving env (.ref e)) Q E s := by
  unfold leaving
  refine wpAny_bind (wpAny_noteFrame_againW hf hh.2.2.2 ?_)
  refine wpAny_landsW hh fun h' hfl hu => ?_
  obtain ⟨k1, k2, ⟨_, _, k3⟩, k4⟩ := hfl
  exact hQ h' ⟨k1, k2, k3, k4⟩ hu
/-- a bare raise in a handler, through the end of the frame -/
theorem reraise {base g g₇ : Heap} {outer : List Env} {L a e : Addr} {m : Str → Option Value} {name : Str} {scope : Scope} {cd cls : Value} {pos : Pos} {Q : Flow → Shared → Prop} {Q₂ : Value → Unit → Shared → Prop} {E₂ : Value → Value → Shared → Prop}
    (hh : A.handled = some (.ref e)) (RS : RaisedSN base g₇ (envOf name scope L a cd :: outer) e cls [] s.heap) (F₇ : Fr g₇ L s.heap m) (T : KtsTurn (outer.filterMap (·.frame)) g g₇)
    (hE : ∀ v s', wpAny M A₂ (leaving (envOf name scope L a cd) v) (Q₂ v) (E₂ v) s' → E v s')
    (k : ∀ h', RaisedSN base g outer e cls [] h' → g.UpToSlots h' → Q₂ (.ref e) () { s with heap := h' }) :
    wpAny M A (exec (.Raise none none pos) (envOf name scope L a cd)) Q E s := by
  obtain ⟨B, a0, hB, hBG, hl, hfl⟩ := RS
  refine raise_bare hh rfl hfl fun h₁ H₁ U₁ => ?_
  refine hE _ _ (leaves_held rfl H₁ fun h₂ H₂ U₂ => k h₂ ⟨B, a0, hB, fun b o q nm => ?_, fun q hq => absurd hq List.not_mem_nil, H₂⟩ ?_)
  · refine hBG b o (T.other b o q nm) fun hm => ?_
    rcases kts_mem hm with z | z
    · have := kts_self F₇
      rw [z] at q
      rw [T.other L o q (z ▸ nm)] at this
      cases this
    · exact nm z
  · have U₀ : g.UpToSlots s.heap := fun b o q hn => by
      obtain ⟨sl, z⟩ := T.up q
      exact ⟨sl, F₇.keep _ _ z⟩
    exact (U₀.trans U₁).trans U₂
end
section
variable {prog : Program} {w : World} {A₀ : Around} {E : Value → Shared → Prop} {s' : Shared} {base g g₀ G : Heap} {outer : List Env} {L a e : Addr} {m : Str → Option Value} {name : Str} {scope : Scope} {cd cls : Value} {tt : Expr}
  {n : Str} {b₀ : Stmt} {suite : List Stmt} {pos : Pos} {rest : List ExceptHandler} {Q : Flow → Shared → Prop} {news : List (Addr × Obj)} {KF : Frag}
  {p : Program} {loose : List Str} {mean : ExcName → Option Value} {mg mb : Str → Option Value}
/-- the clause that takes an exception, with the exception's class kept -/
theorem hit_as (R : RaisedSN base G (envOf name scope L a cd :: outer) e cls news s'.heap) (F : Fr g L G m) (K : Below A₀ base outer g) (hsm : G.UpToSlots s'.heap) (XB : KF.In base) (TB : Top p loose mean mg mb base)
    (D : KtsDicts (outer.filterMap (·.frame)) g) (T0 : KtsTurn (outer.filterMap (·.frame)) g₀ g) (T : KtsTest prog w KF p loose mg mb name scope L a cd cls tt true)
    (k : ∀ h' g' oe tk, oe.cls = cls → KtsTurn (outer.filterMap (·.frame)) g₀ g' → Fr g' L h' (fun y => if y = n then some (.ref e) else m y) → News g' L h' ((e, oe) :: news) → Below A₀ base outer g' → KF.In g' → Top p loose mean mg mb g' → KtsDicts (outer.filterMap (·.frame)) g' →
      wpAny (model prog w) ((A₀.deeper (envOf name scope L a cd)).mark (some (.ref e))) (execs (b₀ :: suite) (envOf name scope L a cd))
        (fun f s₄ => wpAny (model prog w) (A₀.deeper (envOf name scope L a cd)) (do bindName (envOf name scope L a cd) n .none; unbindBehindTheSuite (envOf name scope L a cd) n pos) (fun _ s₅ => Q f s₅) E s₄)
        (AsSuiteRaised (model prog w) ((A₀.deeper (envOf name scope L a cd)).mark (some (.ref e))) (envOf name scope L a cd) n pos (notedBy (model prog w) ((A₀.deeper (envOf name scope L a cd)).mark (some (.ref e))) (envOf name scope L a cd) (cameBackBy (model prog w) (A₀.deeper (envOf name scope L a cd)) (envOf name scope L a cd) E)))
        { s' with heap := h', toks := tk })
    (hk : scope.kind = .function := by rfl) (hlo : (envOf name scope L a cd).kindOf n = some .local := by rfl) :
    wpAny (model prog w) (A₀.deeper (envOf name scope L a cd)) (handleBy (.ref e) (envOf name scope L a cd) (.ExceptHandler (some tt) (some n) (b₀ :: suite) pos :: rest)) Q E s' := by
  have R' := R
  obtain ⟨B₁, a1, _, hBG₁, _, hfl₁⟩ := R'
  obtain ⟨g₅, T₅, F₅, K₅⟩ := kts_ground K F hBG₁ hfl₁.1 hsm
  refine wpAny_handleBy_cons (codeAny_handlers_test (T _ _ _ _ g₅ e m F₅ (XB.keeps K₅.stays) (topRead_of (TB.keeps K₅.stays)) R.ty fun h₅ kp => ?_)) (by intro q; cases q)
  have hsm₅ : G.UpToSlots h₅ := hsm.trans (Heap.UpToSlots.of_keeps kp)
  obtain ⟨B, a0, hB, hBG, hl, hheld⟩ := R.keeps kp
  have hL : B.get? L = none := by
    obtain ⟨_, ⟨L', _, hf, hn', _⟩, _⟩ := hheld.2.2.1
    obtain rfl : L = L' := Option.some.inj hf
    exact hn'
  refine codeAny_handlers_suite_as ?_
  refine lands_againW hheld fun h₆ hfl₆ hsm₆ => ?_
  obtain ⟨g₆, T₆, F₆, K₆⟩ := kts_ground K F hBG hfl₆.1 (hsm₅.trans hsm₆)
  obtain ⟨oe, ws, hoe, hoec, hoed, hoe0⟩ := hfl₆.first
  have ne₆ : g₆.get? e = none := T₆.none_ _ (kts_fresh F hBG hfl₆.2.1 fun o ho m => by
    obtain ⟨_, o', ho', hd⟩ := K.frames.mem m
    rw [ho] at ho'
    cases ho'
    obtain ⟨sl, hs⟩ := (hsm₅.trans hsm₆) _ _ (F.keep _ _ ho) hd
    rw [hoe] at hs
    cases hs
    exact hd _ hoed)
  have Nl : News g₆ L h₆ news := fun q hq => ⟨hfl₆.1 _ _ (hl q hq).1, (fun z => by have := (hl q hq).1; rw [z, hL] at this; cases this), T₆.none_ _ (kts_none F.keep (hl q hq).2.1)⟩
  have N₆ := News.more F₆ Nl hoe (fun es n q => by rw [hoed] at q; cases q) ne₆
  have X₆ : KF.In g₆ := XB.keeps K₆.stays
  have P₆ : Top p loose mean mg mb g₆ := TB.keeps K₆.stays
  have D₆ : KtsDicts (outer.filterMap (·.frame)) g₆ := D.turn T₆
  refine stN F₆ N₆ (fun h₇ F₇ N₇ => ?_) hk hlo
  exact k h₇ g₆ oe _ hoec (T0.trans T₆) F₇ N₇ K₆ X₆ P₆ D₆
theorem isi_exact {A : Around} {s : Shared} {x : Value} {T : String} {Q : Value → Shared → Prop} (ht : s.TypeIs x T) (hty : typeOf (.type T) = pure (.type "type")) (hsub : isSubtype (.type T) (.type T) = pure true) (h : ∀ k, Q (.bool true) { s with toks := k }) :
    wpAny (model prog w) A (call (.builtin "isinstance") [x, .type T]) Q E s :=
  call_isinstance (isinstance_true hty hsub) ⟨ht, h _⟩
end
end Mine
end
section
open PySem PySem.W PySem.Calls PyProof.Rows PySem.Spec PySem.SeqAt
set_option maxRecDepth 100000
set_option maxHeartbeats 8000000
namespace Mine
local macro_rules | `(tactic| ktr_unf) => `(tactic| (
  (have kf : Challenge.rw_il0003_01 = Challenge.rw_il0003_01 ∧ hd.heap_39 = hd.heap_39 := by (k_fill; exact ⟨rfl, rfl⟩));
  clear kf;
  refine' enter_ (by assumption) ?k0 ?k1 ?k2 ?k3 ?k4 ?_ ?k5 ?k6 ?k7 ?k8;
  (case k0 => (dsimp only; omega));
  (case k1 => k_is);
  (case k2 => k_is);
  (case k3 => first | exact BindsTo.of_eq rfl | exact binds_K (by k_in) rfl (by k_is) rfl rfl rfl);
  (case k4 => exact locs rfl);
  (case k5 => rfl);
  (case k6 => rfl);
  (case k7 => rfl);
  (case k8 => decide);
  intro h₁ F N;
  dsimp only;
  k_unmd;
  k_fold))
local macro_rules | `(tactic| walk_at "call type:type") => `(tactic| (k_here; first | (refine type_bytes ?_) | (refine type_int ?_)))
local macro_rules | `(tactic| walk_at "getMethod bytes") => `(tactic| (k_here; first | (with_reducible refine m_upper ?_) | (with_reducible refine m_lower ?_) | (with_reducible refine m_hex ?_)))
local macro_rules | `(tactic| walk_at "call builtin:bytes.upper") => `(tactic| (k_here; (refine x_upper (by simp) ?_); intro _ _; (try simp only [List.map_cons, List.map_nil])))
local macro_rules | `(tactic| walk_at "call builtin:bytes.lower") => `(tactic| (k_here; (refine x_lower (by simp) ?_); intro _ _; (try simp only [List.map_cons, List.map_nil])))

local macro_rules | `(tactic| walk_at "exec For Name Name cons nil") => `(tactic| (k_here; (rename Fr _ _ _ _ => lF'); (with_unfolding_all refine' For_invVF lF' ?k1 ?k2 ?_; (case k1 => exact rfl); (case k2 => exact rfl); k_whole)))

local macro_rules | `(tactic| walk_at "getMethod type:dict") => `(tactic| (k_here; k_dflt (refine' getm_d ?kfbF ?kfbN ?kfbX ?kfbE ?_; (case kfbF => k_asm); (case kfbN => k_asm); (case kfbX => k_asm); (case kfbE => k_is); k_whole; intro x' h' F' N' l1; (try k_lt l1); (try k_sweep))))
local macro_rules | `(tactic| walk_at "callWith ref") => `(tactic| (k_here; (fail_if_success (with_reducible show wpAny _ _ (callWith _ (Value.ref 131) _ _ _) _ _ _)); (fail_if_success (with_reducible show wpAny _ _ (callWith _ (Value.ref 124) _ _ _) _ _ _)); (with_reducible show wpAny _ _ (callWith _ (Value.ref _) _ (backTo _ (starEach (_ :: _) _)) []) _ _ _); k_dflt (refine callWith_d ?_)))
local macro_rules | `(tactic| walk_at "And") => `(tactic| ((with_reducible show StandsD _ _ ∧ _); k_dflt (refine ⟨News.get (by k_asm) (by k_mem), ?_⟩); (try dsimp only [List.nil_append, List.cons_append])))
local macro_rules | `(tactic| walk_at "call ref") => `(tactic| (k_here; k_dflt ((with_reducible show wpAny _ _ (call (Value.ref 124) _ _) _ _ _); refine wpAny_call ?_; refine' code_defS ?k1 ?k2 ?k3 ?k4 ?k5 ?XB ?TB ?D ?T0 ?kA ?k6 ?k7 ?k8 ?k9 ?kB ?_ ?cK ?c2 ?c3 ?c4 ?c5; (case kA => exact rfl); (case k2 => k_asm); (case k1 => k_asm); (case XB => assumption); (case TB => assumption); (case D => assumption); (case T0 => first | assumption | exact KtsTurn.refl); (case k3 => k_asm); (case k4 => k_asm); (case k5 => k_asm); (case k6 => k_is); (case k7 => k_is); (case k8 => ktr_room); (case k9 => exact kp_binds (by k_in) (fun _ => rfl)); (case kB => exact locs rfl); (case cK => exact rfl); (case c2 => exact rfl); (case c3 => exact rfl); (case c4 => exact rfl); (case c5 => decide); k_whole; intro g' L' h' FG' F' N' B' X' T' D'; (try dsimp only); (try k_lift B'); (try k_fold))))

local macro_rules | `(tactic| walk_at "handleBy ref") => `(tactic| (k_here; (with_reducible rename KtsDicts _ _ => kdX); (k_dflt (refine' hit_as ?R ?F ?K ?U ?XB ?TB ?D ?T0 ?T ?_; (case R => assumption); (case F => assumption); (case K => assumption); (case U => assumption); (case XB => assumption); (case TB => assumption); (case D => assumption); (case T0 => first | assumption | exact KtsTurn.refl); (case T => kts_test); k_whole); intro h' g' oe' tk' hoe' T' F' N' K' X' P' D'; (try k_lift K'); (try k_sweep))))
theorem c_refused {w mean mg mb} {l a : Addr} {its : Array Value} {vs : List Value} (hsz : vs.length ≤ 63) (h0 : vs[0]? = some (.ref a)) : DoesT w mean mg mb 164 ⟨[.ref 124, .ref l], []⟩ 100 400
    (fun h => h.IsList l vs.toArray ∧ h.IsList a its) (fun h v h' => ∃ r n, v = .ref r ∧ h.get? r = none ∧ h'.get? r = some { cls := .type "tuple", data := .seq #[.bool true, .bool true] n }) := by
  intro dp un gd env base L s R hL B Sb S D hP hdp hu ret
  have XB := Sb.X
  have TB := Sb.T
  have KX := S.X
  have T := S.T
  obtain ⟨hl, ha⟩ := hP
  ktr_unf
  k_steps
  rename Fr _ _ _ _ => F₂
  rename News _ _ _ _ => N₁
  rename Below _ _ _ _ => B₁
  rename KtsDicts _ _ => D₁
  refine call_d (News.get N₁ (.head _)) fun hQ hE => ?_
  refine fk_raise hsz h0 (by ktr_units) rfl (hl.at fun o e => F₂.keep l o (Fr.keep (by assumption) l o e)) (ha.at fun o e => F₂.keep a o (Fr.keep (by assumption) a o e)) ?_
  intro g h' tk' e keep X
  refine hE _ _ ?_
  refine caught_own0 (T' := "TypeError") (news := []) X (F₂.keeps keep) News.nil B₁ XB TB D₁ KtsTurn.refl (by k_is) PyProof.Rows.Boot.«TypeError» (by decide +kernel) PySem.F.isExc_TypeError PySem.F.notTuple_TypeError (by rw [isSubtype_type]; kernel_rfl) ?_
  intro h₇ g₇ hc _ RS T₇ F₇ N₇ B₇ X₇ P₇ D₇
  have U₇ : g₇.UpToSlots h₇ := Heap.UpToSlots.of_keeps F₇.keep
  clear F₂ N₁ B₁ D₁
  k_steps
  refine' reraise ?a ?b ?c ?d ?e ?_
  case a => rfl
  case b => exact RS
  case c => exact F₇
  case d => exact T₇
  case e => (intro v s' h; dsimp only [ek]; exact h)
  intro h₈ RS₈ U₈
  clear RS T₇ F₇ N₇ B₇ X₇ P₇ D₇ U₇ hc X
  dsimp only
  k_steps
  rename News _ _ _ _ => N₉
  refine isi_exact ⟨_, News.get N₉ (.head _), by assumption⟩ (by first | rfl | kernel_rfl) (by rw [isSubtype_type]; kernel_rfl) fun k => ?_
  k_steps
  exact ret _ _ _ _ (by assumption) (Fr.keep (by assumption)) ⟨_, _, rfl, turn_none (fs := [env].filterMap (·.frame)) (by assumption) (News.fresh (by assumption) (List.Mem.head _)), News.get (by assumption) (List.Mem.head _)⟩
end Mine
end
section
open PySem PySem.W PySem.Calls PyProof.Rows PySem.Spec PySem.SeqAt
set_option maxRecDepth 100000
set_option maxHeartbeats 4000000
namespace Mine
/-- values that are these bytes -/
def BytesAre (ys : List Value) (bs : List (Array UInt8)) : Prop := ys.map bytesOf = bs ∧ ∀ y ∈ ys, isBytes y
theorem BytesAre.nil : BytesAre [] [] := ⟨rfl, fun _ h => nomatch h⟩
theorem BytesAre.snoc {ys : List Value} {bs : List (Array UInt8)} {b : Array UInt8} {t : Tok} (h : BytesAre ys bs) : BytesAre (ys ++ [.bytes b t]) (bs ++ [b]) := by
  refine ⟨by rw [List.map_append, h.1]; rfl, fun y hy => ?_⟩
  rcases List.mem_append.mp hy with hy | hy
  · exact h.2 y hy
  · rw [List.mem_singleton.mp hy]; trivial
theorem BytesAre.length {ys : List Value} {bs : List (Array UInt8)} (h : BytesAre ys bs) : ys.length = bs.length := by rw [← h.1, List.length_map]
theorem BytesAre.at {ys : List Value} {bs : List (Array UInt8)} (h : BytesAre ys bs) {i : Nat} {v : Value} (hv : ys[i]? = some v) : ∃ b t, v = .bytes b t ∧ bs[i]? = some b := by
  have hb := h.2 v (List.mem_of_getElem? hv)
  cases v <;> first | exact hb.elim | skip
  refine ⟨_, _, rfl, ?_⟩
  rw [← h.1, List.getElem?_map, hv]
  rfl
theorem take_snoc {α : Type} {l : List α} {i : Nat} {a : α} (h : l[i]? = some a) : l.take (i + 1) = l.take i ++ [a] := by rw [List.take_add_one, h]; rfl
theorem intsAre_at {vs : List Value} {ns : List Int} (h : IntsAre vs ns) {i : Nat} {v : Value} (hv : vs[i]? = some v) : ∃ k t, v = .int k t ∧ ns[i]? = some k := by
  induction h generalizing i with
  | nil => cases hv
  | cons n t _ ih =>
    cases i with
    | zero =>
      simp only [List.getElem?_cons_zero, Option.some.injEq] at hv ⊢
      exact ⟨n, t, hv.symm, rfl⟩
    | succ i =>
      simp only [List.getElem?_cons_succ] at hv ⊢
      exact ih hv
theorem sameKeys {δ : Type} [DecidableEq δ] {k : Value → δ} {ys zs : List Value} (hl : ys.length = zs.length) : ((List.range ys.length).all fun j => decide ((ys[j]?).map k = (zs[j]?).map k)) = decide (ys.map k = zs.map k) := by
  rw [Bool.eq_iff_iff, List.all_eq_true, decide_eq_true_eq]
  constructor
  · intro h
    apply List.ext_getElem?
    intro j
    rw [List.getElem?_map, List.getElem?_map]
    by_cases hj : j < ys.length
    · exact of_decide_eq_true (h j (List.mem_range.mpr hj))
    · rw [List.getElem?_eq_none (by omega), List.getElem?_eq_none (by omega)]
  · intro h j _
    rw [decide_eq_true_eq, ← List.getElem?_map, ← List.getElem?_map, h]
section
variable {prog : Program} {w : World} {A : Around} {E : Value → Shared → Prop} {s : Shared}
theorem eq_KD {δ : Type} [DecidableEq δ] (D : KD δ) {h0 : Heap} {l b : Addr} {ys zs : List Value} {Q : Value → Shared → Prop} (k : ∀ b o, h0.get? b = some o → s.heap.get? b = some o) (hl : s.heap.IsList l ys.toArray) (hb : s.heap.IsList b zs.toArray) (hsz : ys.length = zs.length)
    (hy : ∀ y ∈ ys, D.Ok h0 y) (hz : ∀ y ∈ zs, D.Ok h0 y) (hu : A.units + 5 < cLine) (h : Q (.bool (decide (ys.map (D.key h0) = zs.map (D.key h0)))) s) : wpAny (model prog w) A (compareOp .Eq (.ref l) (.ref b)) Q E s := by
  refine eq_listAt (e := fun j => decide ((ys[j]?).map (D.key h0) = (zs[j]?).map (D.key h0))) hl hb (by simpa using hsz) (by omega) (fun j h1 h2 => ?_) ?_
  · have h1' : j < ys.length := by simpa using h1
    have h2' : j < zs.length := by simpa using h2
    have oy := D.mono k (hy ys[j] (List.getElem_mem h1'))
    have oz := D.mono k (hz zs[j] (List.getElem_mem h2'))
    have z := D.eq (A := A.in1) (s := s) (by show A.units + 1 + 4 < cLine; omega) oy.1 oz.1
    rw [oy.2, oz.2] at z
    simpa [h1', h2'] using z
  · have e := sameKeys (k := D.key h0) hsz
    rw [List.size_toArray, e]
    exact h
theorem ne_KD {δ : Type} [DecidableEq δ] (D : KD δ) {h0 : Heap} {l b : Addr} {ys zs : List Value} {Q : Value → Shared → Prop} (k : ∀ b o, h0.get? b = some o → s.heap.get? b = some o) (hl : s.heap.IsList l ys.toArray) (hb : s.heap.IsList b zs.toArray) (hsz : ys.length = zs.length)
    (hy : ∀ y ∈ ys, D.Ok h0 y) (hz : ∀ y ∈ zs, D.Ok h0 y) (hu : A.units + 5 < cLine) (h : Q (.bool (!decide (ys.map (D.key h0) = zs.map (D.key h0)))) s) : wpAny (model prog w) A (compareOp .NotEq (.ref l) (.ref b)) Q E s := by
  have z := RcNeAt.lists (A := A) (s := s) (e := fun j => decide ((ys[j]?).map (D.key h0) = (zs[j]?).map (D.key h0))) hl hb (by simpa using hsz) (by omega) (fun j h1 h2 => by
    have h1' : j < ys.length := by simpa using h1
    have h2' : j < zs.length := by simpa using h2
    have oy := D.mono k (hy ys[j] (List.getElem_mem h1'))
    have oz := D.mono k (hz zs[j] (List.getElem_mem h2'))
    have z := D.eq (A := A.in1) (s := s) (by show A.units + 1 + 4 < cLine; omega) oy.1 oz.1
    rw [oy.2, oz.2] at z
    simpa [h1', h2'] using z)
  have e := sameKeys (k := D.key h0) hsz
  rw [List.size_toArray, e] at z
  exact z prog w E Q h
end
/-- pairs of two truth values -/
def IsTT (h : Heap) (v : Value) (p : Bool × Bool) : Prop := ∃ a n, v = .ref a ∧ h.get? a = some { cls := .type "tuple", data := .seq #[.bool p.1, .bool p.2] n }
def ttKey (h : Heap) (v : Value) : Bool × Bool := match v with
  | .ref a => (match h.get? a with
    | some ⟨_, _, .seq vs _, _⟩ => (vs.getD 0 .none == .bool true, vs.getD 1 .none == .bool true)
    | _ => (false, false))
  | _ => (false, false)
theorem ttKey_is {h : Heap} {v : Value} {p : Bool × Bool} (x : IsTT h v p) : ttKey h v = p := by
  obtain ⟨a, n, rfl, ho⟩ := x
  obtain ⟨p, q⟩ := p
  unfold ttKey
  simp only [ho]
  cases p <;> cases q <;> rfl
theorem IsTT.keeps {h h' : Heap} {v : Value} {p : Bool × Bool} (k : ∀ b o, h.get? b = some o → h'.get? b = some o) (x : IsTT h v p) : IsTT h' v p := by
  obtain ⟨a, n, rfl, ho⟩ := x
  exact ⟨a, n, rfl, k _ _ ho⟩
theorem eqAt_bool {A : Around} {s : Shared} (b c : Bool) : EqAt A s (.bool b) (.bool c) (b == c) := EqAt.bool_bool b c
def kT : KD (Bool × Bool) where
  Ok := fun h v => ∃ p, IsTT h v p
  key := ttKey
  mono := fun k ⟨p, x⟩ => ⟨⟨p, x.keeps k⟩, by rw [ttKey_is (x.keeps k), ttKey_is x]⟩
  eq := fun {A s y x} hu ⟨p, hy⟩ ⟨q, hx⟩ => by
    rw [ttKey_is hy, ttKey_is hx]
    obtain ⟨a, n, rfl, hy⟩ := hy
    obtain ⟨a', n', rfl, hx⟩ := hx
    by_cases e : a = a'
    · subst e
      rw [hy] at hx
      have : p = q := by
        obtain ⟨p1, p2⟩ := p
        obtain ⟨q1, q2⟩ := q
        simp only [Option.some.injEq, Obj.mk.injEq, Data.seq.injEq] at hx
        have := hx.2.2.1.1
        simpa using this
      rw [decide_eq_true this]
      exact EqAt.same _
    · have z := RcAt.tuples (A := A) (e := fun j => if j = 0 then p.1 == q.1 else p.2 == q.2) ⟨_, hy, rfl, n, rfl⟩ ⟨_, hx, rfl, n', rfl⟩ (show A.units < cLine by omega) (fun j h1 h2 => by
        have : j = 0 ∨ j = 1 := by
          have : j < 2 := h1
          omega
        rcases this with rfl | rfl
        · exact eqAt_bool _ _
        · exact eqAt_bool _ _)
      have e2 : ((List.range (min (#[Value.bool p.1, .bool p.2]).size (#[Value.bool q.1, .bool q.2]).size)).all (fun j => if j = 0 then p.1 == q.1 else p.2 == q.2) && (#[Value.bool p.1, .bool p.2]).size == (#[Value.bool q.1, .bool q.2]).size) = decide (p = q) := by
        obtain ⟨p1, p2⟩ := p
        obtain ⟨q1, q2⟩ := q
        cases p1 <;> cases p2 <;> cases q1 <;> cases q2 <;> rfl
      rw [e2] at z
      exact EqAt.of_refs e z
end Mine
end
section
open PySem PySem.W PySem.Calls PyProof.Rows PySem.Spec PySem.SeqAt
set_option maxRecDepth 100000
set_option maxHeartbeats 4000000
namespace Mine
def octB (x : Int) : Array UInt8 := #[(Int.fmod x 256).toNat.toUInt8]
def spB2 (x : Int) : Array UInt8 := spell (sp x) (oc x)
def grB (x : Int) : Array UInt8 := great (oc x)
theorem figHi (x : Int) : figN ((Int.fmod x 256).toNat / 16) ∈ hexCh := figN_mem _ (by have := oc_lt x; unfold oc at this; omega)
theorem figLo (x : Int) : figN ((Int.fmod x 256).toNat % 16) ∈ hexCh := figN_mem _ (by omega)
theorem sp_lt (x : Int) : sp x < 4 := by
  have h0 := Int.fmod_nonneg_of_pos (Int.fdiv x 256) (show (0 : Int) < 4 by decide)
  have h1 := Int.fmod_lt_of_pos (Int.fdiv x 256) (show (0 : Int) < 4 by decide)
  unfold sp
  omega
theorem at_map {ys : List Value} {nums : List Int} {f : Int → Array UInt8} (h : BytesAre ys (nums.map f)) {i : Nat} {v : Value} (hv : ys[i]? = some v) : ∃ x t, v = .bytes (f x) t ∧ nums[i]? = some x := by
  obtain ⟨b, t, rfl, hb⟩ := h.at hv
  rw [List.getElem?_map] at hb
  cases hx : nums[i]? with
  | none => rw [hx] at hb; cases hb
  | some x =>
    rw [hx] at hb
    obtain rfl : f x = b := Option.some.inj hb
    exact ⟨x, t, rfl, rfl⟩
theorem snoc_map {ys : List Value} {nums : List Int} {f : Int → Array UInt8} {i : Nat} {x : Int} {b : Array UInt8} {t : Tok} (h : BytesAre ys ((nums.take i).map f)) (hx : nums[i]? = some x) (hb : b = f x) : BytesAre (ys ++ [.bytes b t]) ((nums.take (i + 1)).map f) := by
  subst hb
  rw [take_snoc hx, List.map_append]
  exact h.snoc
theorem enc_gr (x : Int) : (#[fig ((Int.fmod x 256).toNat.toUInt8.toNat / 16), fig ((Int.fmod x 256).toNat.toUInt8.toNat % 16)] : Array UInt8) = grB x := by
  rw [oc_u8]
  rfl
open Builtin.Bytes in
theorem up_fin : ∀ k < 4, ∀ o < 256, toUpper (spA k o) = fig (o / 16) ∧ toUpper (spB k o) = fig (o % 16) := by decide +kernel
theorem up_gr (x : Int) : [Builtin.Bytes.toUpper (spA (sp x) (oc x)), Builtin.Bytes.toUpper (spB (sp x) (oc x))].toArray = grB x := by
  have h := up_fin (sp x) (sp_lt x) (oc x) (oc_lt x)
  rw [h.1, h.2]
  rfl
theorem fig_hex : ∀ n < 16, (fig n).toNat ∈ hexCh := by decide +kernel
theorem fig_says : ∀ p < 16, ∀ q < 16, says reCode (fig p).toNat (fig q).toNat = some false := by
  intro p hp q hq
  rw [says_hex _ (fig_hex p hp) _ (fig_hex q hq)]
  have h : ∀ n < 16, ¬ 97 ≤ (fig n).toNat := by decide +kernel
  simp [h p hp, h q hq]
theorem hv_fin : ∀ o < 256, (hv ((fig (o / 16)).toNat : Int) * 16 + hv ((fig (o % 16)).toNat : Int)).toNat.toUInt8 = o.toUInt8 := by decide +kernel
theorem sp_hex : ∀ k < 4, ∀ o < 256, (spA k o).toNat ∈ hexCh ∧ (spB k o).toNat ∈ hexCh := by decide +kernel
theorem sp_low : ∀ k < 4, ∀ o < 256, (decide (97 ≤ (spA k o).toNat) || decide (97 ≤ (spB k o).toNat)) = !decide (spell k o = great o) := by decide +kernel
/-- has it a small letter -/
def lo (x : Int) : Bool := !decide (spB2 x = grB x)
theorem sp_says (x : Int) : says reCode (spA (sp x) (oc x)).toNat (spB (sp x) (oc x)).toNat = some (lo x) := by
  have h := sp_hex (sp x) (sp_lt x) (oc x) (oc_lt x)
  rw [says_hex _ h.1 _ h.2]
  congr 1
  exact sp_low (sp x) (sp_lt x) (oc x) (oc_lt x)
open Builtin.Bytes in
theorem dec_oct (x : Int) : (#[(hv (toUpper (spA (sp x) (oc x))).toNat * 16 + hv (toUpper (spB (sp x) (oc x))).toNat).toNat.toUInt8] : Array UInt8) = octB x := by
  have h := up_fin (sp x) (sp_lt x) (oc x) (oc_lt x)
  rw [h.1, h.2, hv_fin _ (oc_lt x)]
  rfl
end Mine
end
section
open PySem PySem.W PySem.Calls PyProof.Rows PySem.Spec PySem.SeqAt
set_option maxRecDepth 100000
set_option maxHeartbeats 4000000
namespace Mine
theorem use_T {w mean mg mb} {f : Addr} {pos : List Value} {kw : List (Str × Value)} {d u : Nat} {Pre : Heap → Prop} {Out : Heap → Value → Heap → Prop} {A₀ : Around} {env : Env} {s : Shared} {Q E : Value → Shared → Prop} {h₀ : Heap} {L : Addr} {m : Str → Option Value} {news : List (Addr × Obj)}
    (C : DoesT w mean mg mb f ⟨pos, kw⟩ d u Pre Out) (S : Std w mean mg mb h₀) (K0 : Below A₀ h₀ [] h₀) (hh : A₀.handled = none) (hf : env.frame = some L) (hk : env.scope.kind = .function) (F : Fr h₀ L s.heap m) (N : News h₀ L s.heap news) (hpre : Pre s.heap)
    (hd : A₀.depth + 1 + d < recursionLimit) (hu : A₀.units + 3 + u < cLine)
    (h : ∀ v h' tk', Out s.heap v h' → Fr h₀ L h' m → News h₀ L h' news → Q v { s with heap := h', toks := tk' }) : wpAny (model PR w) (A₀.deeper env) (call (.ref f) pos kw) Q E s := by
  have B := pushX K0 F hf hk
  have st := K0.stack
  obtain ⟨ah, dp, fr, gd, un⟩ := A₀
  dsimp only at hh st hd hu
  subst hh st
  have hfs : ([env].filterMap (·.frame)) = [L] := by simp [hf]
  have D : KtsDicts ([env].filterMap (·.frame)) s.heap := by
    rw [hfs]
    intro b hb
    obtain rfl : b = L := List.mem_singleton.mp hb
    obtain ⟨o, es, ep, ho, hd', _⟩ := F.ns
    exact ⟨o, es, ep, ho, hd'⟩
  refine wpAny_call (C (dp + 1) (un + 3) gd env h₀ L s _ hf B S (S.keeps F.keep) D hpre hd hu fun v h' tk' g' T k o => ?_)
  rw [hfs] at T
  have keep : ∀ b o, b ≠ L → s.heap.get? b = some o → h'.get? b = some o := fun b o hb e => k _ _ (T.other b o e (by simpa using hb))
  have U : s.heap.UpToSlots h' := fun b o e _ => by
    obtain ⟨sl, z⟩ := T.up e
    exact ⟨sl, k _ _ z⟩
  refine h v h' tk' o ⟨U.ns F.ns, fun b o e => keep b o ?_ (F.keep b o e), F.above⟩ fun p hp => ⟨keep _ _ (N p hp).2.1 (N p hp).1, (N p hp).2⟩
  intro q
  have := kts_self F
  rw [← q, e] at this
  cases this
theorem news_add {h₀ : Heap} {L : Addr} {s h' : Heap} {m m' : Str → Option Value} {news : List (Addr × Obj)} {r : Addr} {o : Obj} (F₀ : Fr h₀ L s m) (N₀ : News h₀ L s news) (F : Fr h₀ L h' m') (N : News h₀ L h' news) (hn : s.get? r = none) (ho : h'.get? r = some o) (hnd : ∀ es n, o.data ≠ .dict es n) :
    News h₀ L h' ((r, o) :: news) ∧ ∀ p ∈ news, p.1 ≠ r := by
  refine ⟨News.more F N ho hnd ?_, fun p hp q => ?_⟩
  · cases e : h₀.get? r with
    | none => rfl
    | some o' => have := F₀.keep r o' e; rw [hn] at this; cases this
  · have := (N₀ p hp).1
    rw [q, hn] at this
    cases this
theorem use_ft {w mean mg mb} {f : Addr} {pos : List Value} {kw : List (Str × Value)} {d u : Nat} {Pre : Heap → Prop} {o : Nat → Obj} {A₀ : Around} {env : Env} {s : Shared} {Q E : Value → Shared → Prop} {h₀ : Heap} {L : Addr} {m : Str → Option Value} {news : List (Addr × Obj)}
    (C : DoesT w mean mg mb f ⟨pos, kw⟩ d u Pre (fun h v h' => ∃ r n, v = .ref r ∧ h.get? r = none ∧ h'.get? r = some (o n))) (S : Std w mean mg mb h₀) (K0 : Below A₀ h₀ [] h₀) (hh : A₀.handled = none) (hf : env.frame = some L) (hk : env.scope.kind = .function) (F : Fr h₀ L s.heap m) (N : News h₀ L s.heap news) (hpre : Pre s.heap)
    (hd : A₀.depth + 1 + d < recursionLimit) (hu : A₀.units + 3 + u < cLine) (hnd : ∀ n es k, (o n).data ≠ .dict es k)
    (h : ∀ r n h' tk', Fr h₀ L h' m → News h₀ L h' ((r, o n) :: news) → (∀ p ∈ news, p.1 ≠ r) → Q (.ref r) { s with heap := h', toks := tk' }) : wpAny (model PR w) (A₀.deeper env) (call (.ref f) pos kw) Q E s :=
  use_T C S K0 hh hf hk F N hpre hd hu fun v h' tk' ⟨r, n, e, hn, ho⟩ F' N' => by
    subst e
    obtain ⟨N₂, ha⟩ := news_add F N F' N' hn ho (hnd n)
    exact h r n h' tk' F' N₂ ha
end Mine
end
section
open PySem PySem.W PySem.Calls PyProof.Rows PySem.Spec PySem.SeqAt
set_option maxRecDepth 100000
set_option maxHeartbeats 4000000
namespace Mine
section
variable {prog : Program} {w : World} {A : Around} {h₀ : Heap} {L : Addr} {m : Str → Option Value} {env : Env} {elt ct : Expr} {x : Str} {scope : Scope} {cl : List (Str × Addr)} {s : Shared} {S : List (Addr × Obj) → Prop} {P : Nat → Value → Prop} {Fin : List Value → List (Addr × Obj) → Prop} {news : List (Addr × Obj)}
/-- a comprehension whose items are objects of their own: they stand behind what stood -/
theorem rest_UX {n : Nat} (J : Nat → List Value → List (Addr × Obj) → Prop) (h0 : J 0 [] [])
    (turn : ∀ i v I oI C oC D m₂ ys ex h tk (E' : Value → Shared → Prop), i < n → P i v → J i ys ex → LCg.NsObj oC m₂ → m₂ x = some v → Fr h₀ L h m → News h₀ L h ((I, oI) :: (C, oC) :: (D, LCg.lst ys) :: (news ++ ex)) → LCg.Off3 I C D (news ++ ex) → ((@Ne Nat I C) ∧ (@Ne Nat I D) ∧ (@Ne Nat C D)) →
      wpAny (model prog w) A (eval elt (compEnvC scope cl C env)) (LCg.CompEnd h₀ L m { s with heap := h, toks := tk } I oI C oC D (LCg.lst ys) S (fun y news' => ∃ ex', news' = news ++ ex' ∧ J (i + 1) (ys ++ [y]) ex')) E' { s with heap := h, toks := tk })
    (fin : ∀ ys ex, J n ys ex → Fin ys (news ++ ex)) : LCg.CompRest prog w A h₀ L m env elt x scope cl s S P Fin n 0 [] news := by
  refine rest_U (fun i ys ns => ∃ ex, ns = news ++ ex ∧ J i ys ex) ⟨[], by simp, h0⟩ ?_ ?_
  · rintro i v I oI C oC D m₂ ys ns h tk E' hi hP ⟨ex, rfl, hJ⟩ hns hv F N off ne
    exact turn i v I oI C oC D m₂ ys ex h tk E' hi hP hJ hns hv F N off ne
  · rintro ys ns ⟨ex, rfl, hJ⟩
    exact fin ys ex hJ
end
theorem off3_add {I C D : Addr} {N X : List (Addr × Obj)} {r : Addr} {o : Obj} (off : LCg.Off3 I C D (N ++ X)) (h1 : I ≠ r) (h2 : C ≠ r) (h3 : D ≠ r) : LCg.Off3 I C D (N ++ (r, o) :: X) := LCg.Off3.of fun p hp => by
  rcases List.mem_append.mp hp with hp | hp
  · exact off.mem p (List.mem_append_left _ hp)
  · rcases List.mem_cons.mp hp with rfl | hp
    · exact ⟨Ne.symm h1, Ne.symm h2, Ne.symm h3⟩
    · exact off.mem p (List.mem_append_right _ hp)
theorem sub_add {a b c e : Addr × Obj} {N X : List (Addr × Obj)} : ∀ p ∈ a :: b :: c :: (N ++ e :: X), p ∈ e :: a :: b :: c :: (N ++ X) := by
  intro p hp
  simp only [List.mem_cons, List.mem_append] at hp ⊢
  rcases hp with h | h | h | h | h | h
  · exact .inr (.inl h)
  · exact .inr (.inr (.inl h))
  · exact .inr (.inr (.inr (.inl h)))
  · exact .inr (.inr (.inr (.inr (.inl h))))
  · exact .inl h
  · exact .inr (.inr (.inr (.inr (.inr h))))
abbrev tupO (p q : Bool) (n : Nat) : Obj := { cls := .type "tuple", data := .seq #[.bool p, .bool q] n }
/-- the tuples made of the first i numbers -/
def TTs (nums : List Int) (i : Nat) (ys : List Value) (ex : List (Addr × Obj)) : Prop := ys.length = i ∧ ∀ j x, j < i → nums[j]? = some x → ∃ r n, ys[j]? = some (.ref r) ∧ (r, tupO false (lo x) n) ∈ ex
theorem TTs.nil {nums : List Int} : TTs nums 0 [] [] := ⟨rfl, fun j x h => absurd h (Nat.not_lt_zero _)⟩
theorem TTs.snoc {nums : List Int} {i : Nat} {ys : List Value} {ex : List (Addr × Obj)} {x : Int} {r : Addr} {n : Nat} {b : Bool} (h : TTs nums i ys ex) (hx : nums[i]? = some x) (hb : b = lo x) : TTs nums (i + 1) (ys ++ [.ref r]) ((r, tupO false b n) :: ex) := by
  obtain ⟨hl, h⟩ := h
  subst hb
  refine ⟨by simp [hl], fun j y hj hy => ?_⟩
  by_cases e : j < i
  · obtain ⟨r', n', h1, h2⟩ := h j y e hy
    exact ⟨r', n', by rw [List.getElem?_append_left (by omega)]; exact h1, .tail _ h2⟩
  · obtain rfl : j = i := by omega
    rw [hx] at hy
    cases hy
    exact ⟨r, n, by rw [List.getElem?_append_right (by omega), hl]; simp, .head _⟩
theorem TTs.keys {nums : List Int} {ys : List Value} {ex news : List (Addr × Obj)} {h₀ h : Heap} {L : Addr} (t : TTs nums nums.length ys ex) (N : News h₀ L h news) (sub : ∀ p ∈ ex, p ∈ news) : (∀ y ∈ ys, kT.Ok h y) ∧ ys.map (kT.key h) = nums.map fun x => (false, lo x) := by
  obtain ⟨hl, t⟩ := t
  have at' : ∀ j (hj : j < ys.length) (hj' : j < nums.length), IsTT h ys[j] (false, lo nums[j]) := fun j hj hj' => by
    obtain ⟨r, n, h1, h2⟩ := t j nums[j] hj' (List.getElem?_eq_getElem hj')
    rw [List.getElem?_eq_getElem hj] at h1
    rw [Option.some.inj h1]
    exact ⟨r, n, rfl, (N _ (sub _ h2)).1⟩
  refine ⟨fun y hy => ?_, ?_⟩
  · obtain ⟨j, hj, rfl⟩ := List.getElem_of_mem hy
    exact ⟨_, at' j hj (hl ▸ hj)⟩
  · apply List.ext_getElem
    · simp [hl]
    · intro j h1 h2
      rw [List.getElem_map, List.getElem_map]
      exact ttKey_is (at' j (by simpa using h1) (by simpa using h2))
theorem ne_lo (x : Int) : ((#[spA (sp x) (oc x), spB (sp x) (oc x)] : Array UInt8).toList != ([Builtin.Bytes.toUpper (spA (sp x) (oc x)), Builtin.Bytes.toUpper (spB (sp x) (oc x))].toArray : Array UInt8).toList) = lo x := by
  rw [up_gr]
  show (!((spB2 x).toList == (grB x).toList)) = !decide (spB2 x = grB x)
  congr 1
  rw [Bool.eq_iff_iff, beq_iff_eq, decide_eq_true_eq]
  exact ⟨fun h => by simpa using h, fun h => by rw [h]⟩
end Mine
end
section
open PySem PySem.W PySem.Calls PyProof.Rows PySem.Spec PySem.SeqAt
set_option maxRecDepth 100000
set_option maxHeartbeats 4000000
namespace Mine
theorem std_big {w : World} {mean : ExcName → Option Value} {mg mb : Str → Option Value} {h : Heap} (S : Std w mean mg mb h) : 169 < h.objs.size := by
  have X := S.X
  have kf : Challenge.rw_il0003_01 = Challenge.rw_il0003_01 ∧ hd.heap_39 = hd.heap_39 := by (k_fill; exact ⟨rfl, rfl⟩)
  exact Heap.lt_size (X 169 _ (by k_is))
section
variable {w : World} {mean : ExcName → Option Value} {mg mb : Str → Option Value} {A : Around} {s : Shared} {Q E : Value → Shared → Prop} {h₀ : Heap} {L : Addr} {m : Str → Option Value} {news : List (Addr × Obj)}
theorem fresh_add {h' : Heap} {r : Addr} {o : Obj} (F : Fr h₀ L s.heap m) (N : News h₀ L s.heap news) (hk : Kp s.heap h') (hf : s.heap.get? r = none) (ho : h'.get? r = some o) (hnd : ∀ es n, o.data ≠ .dict es n) :
    Fr h₀ L h' m ∧ News h₀ L h' ((r, o) :: news) ∧ ∀ p ∈ news, p.1 ≠ r := by
  have z := news_add F N (F.keeps hk) (N.grown hk) hf ho hnd
  exact ⟨F.keeps hk, z.1, z.2⟩
theorem use_firsts {δ : Type} [DecidableEq δ] (D : KD δ) {l : Addr} {vs : List Value} (hsz : vs.length ≤ 63) (S : Std w mean mg mb h₀) (F : Fr h₀ L s.heap m) (N : News h₀ L s.heap news) (hl : s.heap.IsList l vs.toArray) (hok : ∀ v ∈ vs, D.Ok s.heap v) (hh : A.handled = none) (hd : A.depth + 60 < recursionLimit) (hu : A.units + 200 < cLine)
    (h : ∀ r n h' tk', Kp s.heap h' → Fr h₀ L h' m → News h₀ L h' ((r, listOf (uniq (D.key s.heap) vs).toArray n) :: news) → (∀ p ∈ news, p.1 ≠ r) → Q (.ref r) { s with heap := h', toks := tk' }) : wpAny (model PR w) A (call (.ref 157) [.ref l]) Q E s := by
  obtain ⟨ah, dp, fr, gd, un⟩ := A
  dsimp only at hh hd hu
  subst hh
  refine wpAny_call (c_firsts D hsz (S.keeps F.keep) hl hok hd hu fun r n h' tk' hk hf ho => ?_)
  obtain ⟨F', N', ha⟩ := fresh_add F N hk hf ho nofun
  exact h r n h' tk' hk F' N' ha
theorem use_fromkeys {l : Addr} {vs : List Value} (hsz : vs.length ≤ 63) (hb : ∀ v ∈ vs, isBytes v) (S : Std w mean mg mb h₀) (F : Fr h₀ L s.heap m) (N : News h₀ L s.heap news) (hl : s.heap.IsList l vs.toArray) (hh : A.handled = none) (hd : A.depth + 60 < recursionLimit) (hu : A.units + 200 < cLine)
    (h : ∀ d h' tk' kvs, Fr h₀ L h' m → News h₀ L h' news → (d == sysModules) = false → h'.DictOf (bytesKind PR w) d kvs → keysAre kvs (uniq bytesOf vs) → kvs.length ≤ 63 → Q (.ref d) { s with heap := h', toks := tk' }) : wpAny (model PR w) A (call (.ref 124) [.ref l]) Q E s := by
  obtain ⟨ah, dp, fr, gd, un⟩ := A
  dsimp only at hh hd hu
  subst hh
  have S' := S.keeps F.keep
  refine wpAny_call (c_fromkeys hsz hb S' hl hd hu fun d h' tk' kvs hge hk hf hd' hks hz => h d h' tk' kvs (F.keeps hk) (N.grown hk) ?_ hd' hks hz)
  have := std_big S'
  have hne : d ≠ sysModules := by
    show d ≠ 1
    intro q
    subst q
    exact absurd (Nat.lt_of_lt_of_le this hge) (by decide)
  simpa using hne
theorem list_dict {d : Addr} {kvs : List (List UInt8 × Value)} {us : List Value} (hh : A.handled = none) (F : Fr h₀ L s.heap m) (N : News h₀ L s.heap news) (lo : (d == sysModules) = false) (hd : s.heap.DictOf (bytesKind PR w) d kvs) (hk : keysAre kvs us) (hz : kvs.length ≤ 63)
    (h : ∀ B c h' tk vs, Fr h₀ L h' m → News h₀ L h' ((B, listOf vs.toArray c) :: news) → (∀ q ∈ news, q.1 < B) → vs.length = us.length → BytesAre vs (us.map bytesOf) → Q (.ref B) { s with heap := h', toks := tk }) : wpAny (model PR w) A (call (.type "list") [.ref d]) Q E s := by
  obtain ⟨ep, hat⟩ := hd.dictAt
  refine kdl_N (kdl_dict (knd := bytesKind PR w) (kvs := kvs) (ep := ep) lo) hh F N hat (by rw [sizeLine_eq]; omega) fun B c h' tk vs F' N' l1 hl hv => ?_
  have hlen : kvs.length = us.length := by
    have := congrArg List.length hk
    simpa using this
  refine h B c h' tk vs F' N' l1 (hl.trans hlen) ⟨?_, fun y hy => ?_⟩
  · apply List.ext_getElem
    · simp [hl, hlen]
    · intro j h1 h2
      have hj : j < vs.length := by simpa using h1
      have hj' : j < kvs.length := hl ▸ hj
      have hj2 : j < us.length := by simpa using h2
      rw [List.getElem_map, List.getElem_map]
      obtain ⟨k, x, hx, hki⟩ := hv j _ (List.getElem?_eq_getElem hj)
      obtain ⟨t, e⟩ := isBytes_shape hki
      rw [e]
      show k.toArray = _
      have hk' : (kvs.map (·.1))[j]? = (us.map fun v => (bytesOf v).toList)[j]? := by rw [show kvs.map (·.1) = _ from hk]
      rw [List.getElem?_map, List.getElem?_map, hx, List.getElem?_eq_getElem hj2] at hk'
      have e2 : k = (bytesOf us[j]).toList := Option.some.inj hk'
      rw [e2]
  · obtain ⟨j, hj, rfl⟩ := List.getElem_of_mem hy
    obtain ⟨k, x, hx, hki⟩ := hv j _ (List.getElem?_eq_getElem hj)
    obtain ⟨t, e⟩ := isBytes_shape hki
    rw [e]
    trivial
end
end Mine
end
section
open PySem PySem.W PySem.Calls PyProof.Rows PySem.Spec PySem.SeqAt
set_option maxRecDepth 100000
set_option maxHeartbeats 4000000
namespace Mine
section
variable {δ : Type} [DecidableEq δ] (k : Value → δ)
theorem uniq_nodup (xs : List Value) : ((uniq k xs).map k).Nodup := by
  have : ∀ (xs acc : List Value), (acc.map k).Nodup → ((xs.foldl (fun acc v => if acc.any (fun y => decide (k y = k v)) then acc else acc ++ [v]) acc).map k).Nodup := by
    intro xs
    induction xs with
    | nil => intro acc h; exact h
    | cons a t ih =>
      intro acc h
      rw [List.foldl_cons]
      refine ih _ ?_
      split
      · exact h
      · next hn =>
        rw [List.map_append, List.nodup_append]
        refine ⟨h, by simp, fun x hx y hy e => ?_⟩
        have hy' : y = k a := by simpa using hy
        obtain ⟨z, hz, hzx⟩ := List.mem_map.mp hx
        refine hn (List.any_eq_true.mpr ⟨z, hz, ?_⟩)
        rw [decide_eq_true_eq, hzx, e, hy']
  exact this xs [] List.nodup_nil
theorem uniq_has {xs : List Value} {x : Value} (h : x ∈ xs) : ∃ y ∈ uniq k xs, k y = k x := by
  have e := uniq_any k (k x) xs
  have : xs.any (fun y => decide (k y = k x)) = true := List.any_eq_true.mpr ⟨x, h, by simp⟩
  rw [this] at e
  obtain ⟨y, hy, q⟩ := List.any_eq_true.mp e
  exact ⟨y, hy, of_decide_eq_true q⟩
theorem eraseP_nodup {cur : List Value} {v : Value} (h : (cur.map k).Nodup) : cur.eraseP (fun y => decide (k y = k v)) = cur.filter (fun y => !decide (k y = k v)) := by
  induction cur with
  | nil => rfl
  | cons a t ih =>
    rw [List.map_cons, List.nodup_cons] at h
    by_cases e : k a = k v
    · rw [List.eraseP_cons_of_pos (by simp [e]), List.filter_cons_of_neg (by simp [e])]
      symm
      rw [List.filter_eq_self]
      intro y hy
      have : k y ≠ k v := fun q => h.1 (by rw [e, ← q]; exact List.mem_map_of_mem hy)
      simp [this]
    · rw [List.eraseP_cons_of_neg (by simp [e]), List.filter_cons_of_pos (by simp [e]), ih h.2]
theorem filter_nodup {cur : List Value} {p : Value → Bool} (h : (cur.map k).Nodup) : ((cur.filter p).map k).Nodup := h.sublist (List.filter_sublist.map k)
theorem remAll_is {xs cur : List Value} (hx : (xs.map k).Nodup) (hc : (cur.map k).Nodup) : remAll k cur xs = if xs.all (fun x => cur.any fun y => decide (k y = k x)) then some (cur.filter fun y => !xs.any fun x => decide (k y = k x)) else none := by
  induction xs generalizing cur with
  | nil =>
    simp only [remAll, List.all_nil, if_true, List.any_nil, Bool.not_false]
    rw [List.filter_eq_self.mpr (fun _ _ => rfl)]
  | cons v vs ih =>
    rw [List.map_cons, List.nodup_cons] at hx
    unfold remAll remd
    by_cases ha : cur.any (fun y => decide (k y = k v)) = true
    · rw [if_pos ha]
      dsimp only
      rw [eraseP_nodup k hc, ih hx.2 (filter_nodup k hc)]
      have e1 : (vs.all fun x => (cur.filter fun y => !decide (k y = k v)).any fun y => decide (k y = k x)) = vs.all fun x => cur.any fun y => decide (k y = k x) := by
        rw [Bool.eq_iff_iff, List.all_eq_true, List.all_eq_true]
        refine forall_congr' fun x => forall_congr' fun hxm => ?_
        rw [List.any_eq_true, List.any_eq_true]
        constructor
        · rintro ⟨y, hy, q⟩
          exact ⟨y, (List.mem_filter.mp hy).1, q⟩
        · rintro ⟨y, hy, q⟩
          refine ⟨y, List.mem_filter.mpr ⟨hy, ?_⟩, q⟩
          have : k y ≠ k v := fun z => hx.1 (by rw [← z, of_decide_eq_true q]; exact List.mem_map_of_mem hxm)
          simp [this]
      rw [e1, List.all_cons, ha, Bool.true_and]
      split
      · congr 1
        rw [List.filter_filter]
        congr 1
        funext y
        rw [List.any_cons, Bool.not_or]
        exact Bool.and_comm _ _
      · rfl
    · rw [if_neg ha, List.all_cons]
      simp only [Bool.not_eq_true] at ha
      rw [ha]
      rfl
/-- whether each of the one is in the other, either way round -/
def both (xs ys : List Value) : Bool := (xs.all fun x => ys.any fun y => decide (k y = k x)) && ys.all fun y => xs.any fun x => decide (k x = k y)
theorem both_comm (xs ys : List Value) : both k xs ys = both k ys xs := Bool.and_comm _ _
theorem cmpB_is (xs ys : List Value) : cmpB k xs ys = both k xs ys := by
  unfold cmpB
  rw [remAll_is k (uniq_nodup k xs) (uniq_nodup k ys)]
  have e1 : ((uniq k xs).all fun x => (uniq k ys).any fun y => decide (k y = k x)) = xs.all fun x => ys.any fun y => decide (k y = k x) := by
    rw [Bool.eq_iff_iff, List.all_eq_true, List.all_eq_true]
    constructor
    · intro h x hx
      obtain ⟨z, hz, q⟩ := uniq_has k hx
      have := h z hz
      rw [uniq_any, q] at this
      exact this
    · intro h x hx
      rw [uniq_any]
      exact h x (uniq_sub k x hx)
  rw [e1]
  unfold both
  cases h1 : xs.all fun x => ys.any fun y => decide (k y = k x) with
  | false => rfl
  | true =>
    rw [if_pos rfl, Bool.true_and]
    have e2 : ((uniq k ys).filter fun y => !(uniq k xs).any fun x => decide (k y = k x)) = [] ↔ (ys.all fun y => xs.any fun x => decide (k x = k y)) = true := by
      rw [List.filter_eq_nil_iff, List.all_eq_true]
      have sy : ∀ y, ((uniq k xs).any fun x => decide (k y = k x)) = xs.any fun x => decide (k x = k y) := fun y => by
        rw [← uniq_any k (k y) xs]
        congr 1
        funext x
        rw [Bool.eq_iff_iff, decide_eq_true_eq, decide_eq_true_eq]
        exact eq_comm
      constructor
      · intro h y hy
        obtain ⟨z, hz, q⟩ := uniq_has k hy
        have := h z hz
        rw [sy, q] at this
        simpa using this
      · intro h y hy
        rw [sy, h y (uniq_sub k y hy)]
        simp
    cases h2 : (uniq k ys).filter fun y => !(uniq k xs).any fun x => decide (k y = k x) with
    | nil => exact (e2.mp h2).symm
    | cons a t =>
      have : ¬ (ys.all fun y => xs.any fun x => decide (k x = k y)) = true := fun q => by
        rw [e2.mpr q] at h2
        cases h2
      simp only [Bool.not_eq_true] at this
      rw [this]
theorem both_same {xs ys : List Value} (h : ∀ b, b ∈ xs.map k ↔ b ∈ ys.map k) : both k xs ys = true := by
  unfold both
  rw [Bool.and_eq_true, List.all_eq_true, List.all_eq_true]
  refine ⟨fun x hx => ?_, fun y hy => ?_⟩
  · obtain ⟨y, hy, q⟩ := List.mem_map.mp ((h (k x)).mp (List.mem_map_of_mem hx))
    exact List.any_eq_true.mpr ⟨y, hy, by simp [q]⟩
  · obtain ⟨x, hx, q⟩ := List.mem_map.mp ((h (k y)).mpr (List.mem_map_of_mem hy))
    exact List.any_eq_true.mpr ⟨x, hx, by simp [q]⟩
end
end Mine
namespace Mine
section
variable {prog : Program} {w : World} {M : Model} {A : Around} {E : Value → Shared → Prop} {s : Shared}
theorem isnot_self {b c : Bool} {Q : Value → Shared → Prop} (e : b = c) (h : Q (.bool false) s) : wpAny M A (compareOp .IsNot (.bool b) (.bool c)) Q E s := by
  subst e
  have e : (!(Value.bool b == Value.bool b)) = false := by simp
  exact wpAny_pure (a := Value.bool (!(Value.bool b == Value.bool b))) (by rw [e]; exact h)
theorem eq_nil {l b : Addr} {ys : List Value} {Q : Value → Shared → Prop} (hl : s.heap.IsList l ys.toArray) (hb : s.heap.IsList b #[]) (hu : A.units < cLine) (h : Q (.bool ys.isEmpty) s) : wpAny (model prog w) A (compareOp .Eq (.ref l) (.ref b)) Q E s := by
  cases ys with
  | nil => exact eq_listAt (e := fun _ => true) hl hb rfl hu (fun j h1 _ => absurd h1 (Nat.not_lt_zero _)) h
  | cons a t => exact eq_list_lengthsAt hl hb (by simp) hu h
theorem both_nil {δ : Type} [DecidableEq δ] (k : Value → δ) (xs ys : List Value) : ((xs.filter fun v => !ys.any fun y => decide (k y = k v)) ++ (ys.filter fun v => !xs.any fun y => decide (k y = k v))).isEmpty = both k xs ys := by
  unfold both
  rw [Bool.eq_iff_iff, List.isEmpty_iff, List.append_eq_nil_iff, List.filter_eq_nil_iff, List.filter_eq_nil_iff, Bool.and_eq_true, List.all_eq_true, List.all_eq_true]
  simp
theorem take_filter {p : Value → Bool} {ys : List Value} {i : Nat} {v : Value} (hv : ys[i]? = some v) : (ys.take (i + 1)).filter p = if p v then (ys.take i).filter p ++ [v] else (ys.take i).filter p := by
  rw [take_snoc hv, List.filter_append]
  cases h : p v <;> simp [h]
end
end Mine
namespace Mine
theorem add_K {prog : Program} {w : World} {A : Around} {E : Value → Shared → Prop} {s : Shared} {h₀ : Heap} {L l b : Addr} {m : Str → Option Value} {news : List (Addr × Obj)} {xs ys : List Value} {n n2 : Nat} {Q : Value → Shared → Prop} (F : Fr h₀ L s.heap m) (N : News h₀ L s.heap news) (hl : (l, W.listOf xs.toArray n) ∈ news) (hb : (b, W.listOf ys.toArray n2) ∈ news) (hsz : xs.length + ys.length ≤ 1000)
    (h : ∀ D h', Fr h₀ L h' m → News h₀ L h' ((D, W.listOf (xs ++ ys).toArray 0) :: news) → (∀ p ∈ news, p.1 < D) → Q (.ref D) { s with heap := h' }) : wpAny (model prog w) A (binaryOp .Add (.ref l) (.ref b)) Q E s := by
  refine PySem.P.add_list (N.get hl) (N.get hb) ?_ (by rw [sizeLine_eq]; simp; omega)
  have e : xs.toArray ++ ys.toArray = (xs ++ ys).toArray := by simp
  rw [e]
  exact h _ _ (F.push _) (News.push F N _) fun p hp => Heap.lt_size (N p hp).1
end Mine
end
section
open PySem PySem.W PySem.Calls PyProof.Rows PySem.Spec PySem.SeqAt
set_option maxRecDepth 100000
set_option maxHeartbeats 4000000
namespace Mine
/-- the rows made of the first i numbers -/
def Rws (nums : List Int) (i : Nat) (ys : List Value) (ex : List (Addr × Obj)) : Prop := ys.length = i ∧ ∀ j x, j < i → nums[j]? = some x → ∃ r n t, ys[j]? = some (.ref r) ∧ (r, W.listOf #[.bytes (spB2 x) t] n) ∈ ex
theorem Rws.nil {nums : List Int} : Rws nums 0 [] [] := ⟨rfl, fun _ _ h => absurd h (Nat.not_lt_zero _)⟩
theorem Rws.snoc {nums : List Int} {i : Nat} {ys : List Value} {ex : List (Addr × Obj)} {x : Int} {r : Addr} {n : Nat} {t : Tok} (h : Rws nums i ys ex) (hx : nums[i]? = some x) : Rws nums (i + 1) (ys ++ [.ref r]) ((r, W.listOf #[.bytes (spB2 x) t] n) :: ex) := by
  obtain ⟨hl, h⟩ := h
  refine ⟨by simp [hl], fun j y hj hy => ?_⟩
  by_cases e : j < i
  · obtain ⟨r', n', t', h1, h2⟩ := h j y e hy
    exact ⟨r', n', t', by rw [List.getElem?_append_left (by omega)]; exact h1, .tail _ h2⟩
  · obtain rfl : j = i := by omega
    rw [hx] at hy
    cases hy
    exact ⟨r, n, t, by rw [List.getElem?_append_right (by omega), hl]; simp, .head _⟩
theorem Rws.keys {nums : List Int} {ys : List Value} {ex news : List (Addr × Obj)} {h₀ h : Heap} {L : Addr} (t : Rws nums nums.length ys ex) (N : News h₀ L h news) (sub : ∀ p ∈ ex, p ∈ news) : (∀ y ∈ ys, kR.Ok h y) ∧ ys.map (kR.key h) = nums.map spB2 := by
  obtain ⟨hl, t⟩ := t
  have at' : ∀ j (hj : j < ys.length) (hj' : j < nums.length), IsRow h ys[j] (spB2 nums[j]) := fun j hj hj' => by
    obtain ⟨r, n, tk, h1, h2⟩ := t j nums[j] hj' (List.getElem?_eq_getElem hj')
    rw [List.getElem?_eq_getElem hj] at h1
    rw [Option.some.inj h1]
    exact ⟨r, tk, rfl, _, (N _ (sub _ h2)).1, rfl, n, rfl⟩
  refine ⟨fun y hy => ?_, ?_⟩
  · obtain ⟨j, hj, rfl⟩ := List.getElem_of_mem hy
    exact ⟨_, at' j hj (hl ▸ hj)⟩
  · apply List.ext_getElem
    · simp [hl]
    · intro j h1 h2
      rw [List.getElem_map, List.getElem_map]
      exact rowKey_is (at' j (by simpa using h1) (by simpa using h2))
theorem Rws.first {nums : List Int} {ys : List Value} {ex news : List (Addr × Obj)} {h₀ h : Heap} {L : Addr} (t : Rws nums nums.length ys ex) (h1 : 1 ≤ nums.length) (N : News h₀ L h news) (sub : ∀ p ∈ ex, p ∈ news) : ∃ a its, ys[0]? = some (.ref a) ∧ h.IsList a its := by
  obtain ⟨r, n, tk, e1, e2⟩ := t.2 0 nums[0] h1 (List.getElem?_eq_getElem h1)
  exact ⟨r, _, e1, _, (N _ (sub _ e2)).1, rfl, n, rfl⟩
theorem map_eq_all {α β : Type} {f g : α → β} {l : List α} (h : l.map f = l.map g) : ∀ v ∈ l, f v = g v := List.map_inj_left.mp h
section
variable {prog : Program} {w : World} {A : Around} {E : Value → Shared → Prop} {s : Shared}
theorem eq_TT {a b : Addr} {n n' : Nat} {Q : Value → Shared → Prop} (ha : s.heap.get? a = some (tupO true true n)) (hb : s.heap.get? b = some (tupO true true n')) (hu : A.units < cLine) (h : Q (.bool true) s) : wpAny (model prog w) A (compareOp .Eq (.ref a) (.ref b)) Q E s := by
  refine eq_tupleAt (e := fun _ => true) ⟨_, ha, rfl, n, rfl⟩ ⟨_, hb, rfl, n', rfl⟩ hu (fun j h1 h2 => ?_) h
  have : j = 0 ∨ j = 1 := by
    have : j < 2 := h1
    omega
  rcases this with rfl | rfl <;> exact eqAt_bool true true
end
end Mine
end
section
open PySem PySem.W PySem.Calls PyProof.Rows PySem.Spec PySem.SeqAt
set_option maxRecDepth 100000
set_option maxHeartbeats 8000000
namespace Mine
local macro_rules | `(tactic| walk_at "exec Assign cons ListComp") => `(tactic| refine to_mark ?_)
local macro_rules | `(tactic| walk_at "eval ListComp") => `(tactic| refine to_mark ?_)
local macro_rules | `(tactic| walk_at "CompSrc") => `(tactic| refine to_mark ?_)
local macro_rules | `(tactic| walk_at "compareOp NotEq ref ref") => `(tactic| refine to_mark ?_)
local macro_rules | `(tactic| walk_at "compareOp Eq ref ref") => `(tactic| refine to_mark ?_)
local macro_rules | `(tactic| walk_at "compareOp NotEq bytes bytes") => `(tactic| refine to_mark ?_)
local macro_rules | `(tactic| walk_at "call type:list") => `(tactic| refine to_mark ?_)
local macro_rules | `(tactic| walk_at "compareOp NotIn bytes ref") => `(tactic| refine to_mark ?_)
local macro_rules | `(tactic| walk_at "compareOp NotIn") => `(tactic| ((with_reducible show wpAny _ _ (compareOp CmpOp.NotIn _ (Value.ref _)) _ _ _); refine to_mark ?_))
local macro_rules | `(tactic| walk_at "compareOp IsNot bool bool") => `(tactic| refine to_mark ?_)
local macro_rules | `(tactic| walk_at "CompSrcT") => `(tactic| refine to_mark ?_)
local macro_rules | `(tactic| walk_at "getMethod bytes") => `(tactic| (k_here; first | (with_reducible refine m_upper ?_) | (with_reducible refine m_lower ?_) | (with_reducible refine m_hex ?_)))
local macro_rules | `(tactic| walk_at "call builtin:bytes.upper") => `(tactic| (k_here; (refine x_upper (by simp) ?_); intro _ _; (try simp only [List.map_cons, List.map_nil])))
local macro_rules | `(tactic| walk_at "call builtin:str.encode") => `(tactic| (k_here; (refine x_encode (figHi _) (figLo _) ?_); intro _ _))
local macro_rules | `(tactic| walk_at "getMethod str") => `(tactic| (k_here; (with_reducible refine m_encode ?_)))
local macro_rules | `(tactic| walk_at "call ref") => `(tactic| (k_here; k_dflt (refine' use_ c_spelled ?kS ?kF ?kN ?kp ?kd ?ku ?kh ?_; (case kF => k_asm); (case kN => k_asm); (case kS => first | assumption | exact ⟨by assumption, by assumption⟩); (case kp => trivial); (case kd => ktr_room); (case ku => ktr_units); (case kh => rfl); k_whole); intro v' h' tk' hk' ho' F' N'; obtain ⟨t', ho'⟩ := ho'; subst ho'; (try k_sweep)))
local macro_rules | `(tactic| walk_at "call ref") => `(tactic| (k_here; k_dflt (refine' use_ (c_figures (Int.fmod_nonneg_of_pos _ (by decide)) (Int.fmod_lt_of_pos _ (by decide))) ?kS ?kF ?kN ?kp ?kd ?ku ?kh ?_; (case kF => k_asm); (case kN => k_asm); (case kS => first | assumption | exact ⟨by assumption, by assumption⟩); (case kp => trivial); (case kd => ktr_room); (case ku => ktr_units); (case kh => rfl); k_whole); intro v' h' tk' hk' ho' F' N'; obtain ⟨t', ho'⟩ := ho'; subst ho'; (try k_sweep)))
local macro_rules | `(tactic| walk_at "call ref") => `(tactic| (k_here; k_dflt (refine' use_ c_encode ?kS ?kF ?kN ?kp ?kd ?ku ?kh ?_; (case kF => k_asm); (case kN => k_asm); (case kS => first | assumption | exact ⟨by assumption, by assumption⟩); (case kp => trivial); (case kd => ktr_room); (case ku => ktr_units); (case kh => rfl); k_whole); intro v' h' tk' hk' ho' F' N'; obtain ⟨t', ho'⟩ := ho'; subst ho'; (try k_sweep)))
local macro_rules | `(tactic| walk_at "call ref") => `(tactic| (k_here; k_dflt (refine' use_ (c_dec_pos (by assumption) (by assumption) (by assumption)) ?kS ?kF ?kN ?kp ?kd ?ku ?kh ?_; (case kF => k_asm); (case kN => k_asm); (case kS => first | assumption | exact ⟨by assumption, by assumption⟩); (case kp => trivial); (case kd => ktr_room); (case ku => ktr_units); (case kh => rfl); k_whole); intro v' h' tk' hk' ho' F' N'; obtain ⟨t', ho'⟩ := ho'; subst ho'; (try k_sweep)))
local macro_rules | `(tactic| walk_at "call ref") => `(tactic| (k_here; k_dflt (refine' use_ (c_dec_kw (by assumption) (by assumption) (by assumption)) ?kS ?kF ?kN ?kp ?kd ?ku ?kh ?_; (case kF => k_asm); (case kN => k_asm); (case kS => first | assumption | exact ⟨by assumption, by assumption⟩); (case kp => trivial); (case kd => ktr_room); (case ku => ktr_units); (case kh => rfl); k_whole); intro v' h' tk' hk' ho' F' N'; obtain ⟨t', ho'⟩ := ho'; subst ho'; (try k_sweep)))
local macro_rules | `(tactic| walk_at "my comp") => `(tactic| (
  unfold Mark;
  refine LCg.ListComp_U (F₀ := by k_asm) (by with_unfolding_all rfl) (by decide) (by rfl) (by decide) (by rfl) ?_;
  k_steps;
  unfold Mark))
local macro_rules | `(tactic| walk_at "call ref") => `(tactic| ((with_reducible show wpAny _ _ (call (Value.ref 164) _ _) _ _ _); refine to_mark ?_))
local macro_rules | `(tactic| walk_at "call ref") => `(tactic| ((with_reducible show wpAny _ _ (call (Value.ref 131) _ _) _ _ _); refine to_mark ?_))
local macro_rules | `(tactic| walk_at "call ref") => `(tactic| ((with_reducible show wpAny _ _ (call (Value.ref 138) _ _) _ _ _); refine to_mark ?_))
local macro_rules | `(tactic| walk_at "call ref") => `(tactic| ((with_reducible show wpAny _ _ (call (Value.ref 157) _ _) _ _ _); refine to_mark ?_))
local macro_rules | `(tactic| walk_at "call ref") => `(tactic| ((with_reducible show wpAny _ _ (call (Value.ref 124) _ _) _ _ _); refine to_mark ?_))
theorem pack {ws : List Value} {l : List Int} (h : IntsAre ws (List.take 8 l ++ [10, 26, 522, 255, 10, 511])) : ∃ nums, IntsAre ws nums ∧ nums.length ≤ 14 ∧ 1 ≤ nums.length ∧ ws.length = nums.length := ⟨_, h, by simp; omega, by simp, IntsAre.length h⟩
theorem wt : PySem.Challenge.rw_il0003_01.Holds := hd (by w_strict (
  k_go0
  all_goals try k_fold
  k_steps
  unfold Mark
  rename IntsAre _ (List.take 8 _ ++ _) => hI
  obtain ⟨nums, hI, hz, hz1, hzw⟩ := pack hI
  have S := Std.mk ‹(hd.heap_39 _).In _› ‹Top _ _ _ _ _ _›
  refine LCg.Assign_ListComp_U (F₀ := by k_asm) (by rfl) (by with_unfolding_all rfl) (by with_unfolding_all rfl) (by decide) (by rfl) (by decide) (by rfl) (by rfl) (by rfl) ?_
  k_steps
  unfold Mark
  rename Fr _ _ _ _ => F₁
  rename News _ _ _ _ => N₁
  refine LCg.CompSrc.ledger rfl F₁ N₁ (.head _) (by rw [sizeLine_eq, List.size_toArray]; omega) fun g => ?_
  refine rest_U (fun i ys ns => ns = _ ∧ BytesAre ys ((nums.take i).map octB)) ⟨rfl, .nil⟩ ?_ ?_
  · rintro i v I oI C oC D m₂ ys ns h tk E' hi hv ⟨rfl, hJ⟩ hns hx F₂ N₂ off ne
    obtain ⟨x, tx, rfl, hx'⟩ := intsAre_at hI (by simpa using hv)
    clear F₁ N₁
    k_steps
    rename Fr _ _ _ _ => F₃
    rename News _ _ _ _ => N₃
    refine LCg.CompEnd.intro F₃ N₃ _ (fun p hp => by first | exact hp | exact .tail _ hp | exact .tail _ (.tail _ hp)) off (.inr ⟨_, .head _, rfl, _, rfl⟩) ⟨rfl, ?_⟩
    exact snoc_map hJ hx' rfl
  rintro ysO ns ⟨rfl, hJO⟩
  rw [List.size_toArray, hzw, List.take_length] at hJO
  clear F₁ N₁
  intro D₂ h₂ tk₂ F₂ N₂ off₂
  simp only [LCg.Off1, and_true] at off₂
  try dsimp only
  k_steps
  unfold Mark
  refine wpAny_Assign_Name ?_
  k_steps
  walk_at "my comp"
  rename Fr _ _ _ _ => F₁
  rename News _ _ _ _ => N₁
  refine LCg.CompSrc.ledger rfl F₁ N₁ (by k_mem) (by rw [sizeLine_eq, List.size_toArray]; omega) fun g => ?_
  refine rest_U (fun i ys ns => ns = _ ∧ BytesAre ys ((nums.take i).map spB2)) ⟨rfl, .nil⟩ ?_ ?_
  · rintro i v I oI C oC D m₂ ys ns h tk E' hi hv ⟨rfl, hJ⟩ hns hx F₂ N₂ off ne
    obtain ⟨x, tx, rfl, hx'⟩ := intsAre_at hI (by simpa using hv)
    clear F₁ N₁
    k_steps
    rename Fr _ _ _ _ => F₃
    rename News _ _ _ _ => N₃
    refine LCg.CompEnd.intro F₃ N₃ _ (fun p hp => by first | exact hp | exact .tail _ hp | exact .tail _ (.tail _ hp)) off (.inr ⟨_, by k_mem, rfl, _, rfl⟩) ⟨rfl, ?_⟩
    exact snoc_map hJ hx' rfl
  rintro ysS ns ⟨rfl, hJS⟩
  rw [List.size_toArray, hzw, List.take_length] at hJS
  clear F₁ N₁
  intro D₃ h₃ tk₃ F₃ N₃ off₃
  simp only [LCg.Off1, and_true] at off₃
  try dsimp only
  k_steps
  unfold Mark
  refine wpAny_Assign_Name ?_
  k_steps
  walk_at "my comp"
  rename Fr _ _ _ _ => F₁
  rename News _ _ _ _ => N₁
  refine LCg.CompSrc.ledger rfl F₁ N₁ (by k_mem) (by rw [sizeLine_eq, List.size_toArray]; omega) fun g => ?_
  refine rest_U (fun i ys ns => ns = _ ∧ BytesAre ys ((nums.take i).map grB)) ⟨rfl, .nil⟩ ?_ ?_
  · rintro i v I oI C oC D m₂ ys ns h tk E' hi hv ⟨rfl, hJ⟩ hns hx F₂ N₂ off ne
    obtain ⟨x, tx, rfl, hx'⟩ := intsAre_at hI (by simpa using hv)
    clear F₁ N₁
    k_steps
    rename Fr _ _ _ _ => F₃
    rename News _ _ _ _ => N₃
    refine LCg.CompEnd.intro F₃ N₃ _ (fun p hp => by first | exact hp | exact .tail _ hp | exact .tail _ (.tail _ hp)) off (.inr ⟨_, by k_mem, rfl, _, rfl⟩) ⟨rfl, ?_⟩
    exact snoc_map hJ hx' rfl
  rintro ysG ns ⟨rfl, hJG⟩
  rw [List.size_toArray, hzw, List.take_length] at hJG
  clear F₁ N₁
  intro D₄ h₄ tk₄ F₄ N₄ off₄
  simp only [LCg.Off1, and_true] at off₄
  try dsimp only
  have lO : ysO.length = nums.length := by rw [hJO.length, List.length_map]
  have lS : ysS.length = nums.length := by rw [hJS.length, List.length_map]
  have lG : ysG.length = nums.length := by rw [hJG.length, List.length_map]
  k_steps
  walk_at "my comp"
  rename Fr _ _ _ _ => F₁
  rename News _ _ _ _ => N₁
  refine LCg.CompSrc.ledger rfl F₁ N₁ (by k_mem) (by rw [sizeLine_eq, List.size_toArray]; omega) fun g => ?_
  refine rest_U (fun i ys ns => ns = _ ∧ BytesAre ys ((nums.take i).map grB)) ⟨rfl, .nil⟩ ?_ ?_
  · rintro i v I oI C oC D m₂ ys ns h tk E' hi hv ⟨rfl, hJ⟩ hns hx F₂ N₂ off ne
    obtain ⟨x, tx, rfl, hx'⟩ := at_map hJO (by simpa using hv)
    dsimp only [octB] at hx hv
    clear F₁ N₁
    k_steps
    rename Fr _ _ _ _ => F₃
    rename News _ _ _ _ => N₃
    refine LCg.CompEnd.intro F₃ N₃ _ (fun p hp => by first | exact hp | exact .tail _ hp | exact .tail _ (.tail _ hp)) off (.inr ⟨_, by k_mem, rfl, _, rfl⟩) ⟨rfl, ?_⟩
    exact snoc_map hJ hx' (enc_gr x)
  rintro ysE ns ⟨rfl, hJE⟩
  rw [List.size_toArray, lO, List.take_length] at hJE
  clear F₁ N₁
  intro D₅ h₅ tk₅ F₅ N₅ off₅
  simp only [LCg.Off1, and_true] at off₅
  try dsimp only
  have lE : ysE.length = nums.length := by rw [hJE.length, List.length_map]
  k_steps
  unfold Mark
  rename Fr _ _ _ _ => F₁
  rename News _ _ _ _ => N₁
  refine ne_KD kB (fun _ _ e => e) (N₁.isList (by k_mem)) (N₁.isList (by k_mem)) (lE.trans lG.symm) hJE.2 hJG.2 (by ktr_units) ?_
  rw [show List.map (kB.key _) ysE = List.map (kB.key _) ysG from hJE.1.trans hJG.1.symm, decide_eq_true rfl]
  k_steps
  walk_at "my comp"
  rename Fr _ _ _ _ => F₁
  rename News _ _ _ _ => N₁
  refine LCg.CompSrc.ledger rfl F₁ N₁ (by k_mem) (by rw [sizeLine_eq, List.size_toArray]; omega) fun g => ?_
  refine rest_U (fun i ys ns => ns = _ ∧ BytesAre ys ((nums.take i).map grB)) ⟨rfl, .nil⟩ ?_ ?_
  · rintro i v I oI C oC D m₂ ys ns h tk E' hi hv ⟨rfl, hJ⟩ hns hx F₂ N₂ off ne
    obtain ⟨x, tx, rfl, hx'⟩ := at_map hJS (by simpa using hv)
    dsimp only [spB2] at hx hv
    clear F₁ N₁
    k_steps
    rename Fr _ _ _ _ => F₃
    rename News _ _ _ _ => N₃
    refine LCg.CompEnd.intro F₃ N₃ _ (fun p hp => by first | exact hp | exact .tail _ hp | exact .tail _ (.tail _ hp)) off (.inr ⟨_, by k_mem, rfl, _, rfl⟩) ⟨rfl, ?_⟩
    exact snoc_map hJ hx' (up_gr x)
  rintro ysU ns ⟨rfl, hJU⟩
  rw [List.size_toArray, lS, List.take_length] at hJU
  clear F₁ N₁
  intro D₆ h₆ tk₆ F₆ N₆ off₆
  simp only [LCg.Off1, and_true] at off₆
  try dsimp only
  have lU : ysU.length = nums.length := by rw [hJU.length, List.length_map]
  k_steps
  unfold Mark
  rename Fr _ _ _ _ => F₁
  rename News _ _ _ _ => N₁
  refine ne_KD kB (fun _ _ e => e) (N₁.isList (by k_mem)) (N₁.isList (by k_mem)) (lU.trans lG.symm) hJU.2 hJG.2 (by ktr_units) ?_
  rw [show List.map (kB.key _) ysU = List.map (kB.key _) ysG from hJU.1.trans hJG.1.symm, decide_eq_true rfl]
  k_steps
  walk_at "my comp"
  rename Fr _ _ _ _ => F₁
  rename News _ _ _ _ => N₁
  refine LCg.CompSrc.ledger rfl F₁ N₁ (by k_mem) (by rw [sizeLine_eq, List.size_toArray]; omega) fun g => ?_
  refine rest_U (fun i ys ns => ns = _ ∧ BytesAre ys ((nums.take i).map octB)) ⟨rfl, .nil⟩ ?_ ?_
  · rintro i v I oI C oC D m₂ ys ns h tk E' hi hv ⟨rfl, hJ⟩ hns hx F₂ N₂ off ne
    obtain ⟨x, tx, rfl, hx'⟩ := at_map hJS (by simpa using hv)
    dsimp only [spB2] at hx hv
    have hfu := up_fin (sp x) (sp_lt x) (oc x) (oc_lt x)
    have ho1 : oc x / 16 < 16 := by (have := oc_lt x; omega)
    have ho2 : oc x % 16 < 16 := by omega
    have hs1 := fig_says _ ho1 _ ho2
    have hs2 := fig_hex _ ho1
    have hs3 := fig_hex _ ho2
    rw [← hfu.1, ← hfu.2] at hs1
    rw [← hfu.1] at hs2
    rw [← hfu.2] at hs3
    clear F₁ N₁
    k_steps
    rename Fr _ _ _ _ => F₃
    rename News _ _ _ _ => N₃
    refine LCg.CompEnd.intro F₃ N₃ _ (fun p hp => by first | exact hp | exact .tail _ hp | exact .tail _ (.tail _ hp)) off (.inr ⟨_, by k_mem, rfl, _, rfl⟩) ⟨rfl, ?_⟩
    exact snoc_map hJ hx' (dec_oct x)
  rintro ysR ns ⟨rfl, hJR⟩
  rw [List.size_toArray, lS, List.take_length] at hJR
  clear F₁ N₁
  intro D₇ h₇ tk₇ F₇ N₇ off₇
  simp only [LCg.Off1, and_true] at off₇
  try dsimp only
  have lR : ysR.length = nums.length := by rw [hJR.length, List.length_map]
  k_steps
  unfold Mark
  rename Fr _ _ _ _ => F₁
  rename News _ _ _ _ => N₁
  refine ne_KD kB (fun _ _ e => e) (N₁.isList (by k_mem)) (N₁.isList (by k_mem)) (lR.trans lO.symm) hJR.2 hJO.2 (by ktr_units) ?_
  rw [show List.map (kB.key _) ysR = List.map (kB.key _) ysO from hJR.1.trans hJO.1.symm, decide_eq_true rfl]
  k_steps
  walk_at "my comp"
  rename Fr _ _ _ _ => F₁
  rename News _ _ _ _ => N₁
  rename Below callerA _ [] _ => K0
  refine LCg.CompSrc.ledger rfl F₁ N₁ (by k_mem) (by rw [sizeLine_eq, List.size_toArray]; omega) fun g => ?_
  refine rest_UX (TTs nums) .nil ?_ ?_
  · rintro i v I oI C oC D m₂ ys ex h tk E' hi hv hJ hns hx F₂ N₂ off ne
    obtain ⟨x, tx, rfl, hx'⟩ := at_map hJS (by simpa using hv)
    dsimp only [spB2] at hx hv
    clear F₁ N₁
    simp only [List.cons_append, List.nil_append] at N₂
    k_steps
    unfold Mark
    rename Fr _ _ _ _ => F₃
    rename News _ _ _ _ => N₃
    have hsy := sp_says x
    have hhx := sp_hex (sp x) (sp_lt x) (oc x) (oc_lt x)
    cases hlo : lo x with
    | true =>
      rw [hlo] at hsy
      refine use_ft (o := tupO false true) (c_ref_no hsy) S K0 rfl rfl rfl F₃ N₃ trivial (by decide +kernel) (by decide +kernel) nofun ?_
      intro r n h' tk' F₄ N₄ ha
      exact LCg.CompEnd.intro F₄ N₄ _ sub_add (off3_add off (ha _ (.head _)) (ha _ (.tail _ (.head _))) (ha _ (.tail _ (.tail _ (.head _))))) (.inr ⟨_, by k_mem, rfl, _, rfl⟩) ⟨_, rfl, hJ.snoc hx' hlo.symm⟩
    | false =>
      rw [hlo] at hsy
      refine use_ft (o := tupO false false) (c_ref_ok hsy hhx.1 hhx.2) S K0 rfl rfl rfl F₃ N₃ trivial (by decide +kernel) (by decide +kernel) nofun ?_
      intro r n h' tk' F₄ N₄ ha
      exact LCg.CompEnd.intro F₄ N₄ _ sub_add (off3_add off (ha _ (.head _)) (ha _ (.tail _ (.head _))) (ha _ (.tail _ (.tail _ (.head _))))) (.inr ⟨_, by k_mem, rfl, _, rfl⟩) ⟨_, rfl, hJ.snoc hx' hlo.symm⟩
  intro ysA exA hJA
  clear F₁ N₁
  intro D₈ h₈ tk₈ F₈ N₈ off₈
  simp only [List.size_toArray, lS] at hJA
  simp only [List.cons_append, List.nil_append] at N₈
  try dsimp only
  k_steps
  walk_at "my comp"
  rename Fr _ _ _ _ => F₁
  rename News _ _ _ _ => N₁
  refine LCg.CompSrc.ledger rfl F₁ N₁ (by k_mem) (by rw [sizeLine_eq, List.size_toArray]; omega) fun g => ?_
  refine rest_UX (TTs nums) .nil ?_ ?_
  · rintro i v I oI C oC D m₂ ys ex h tk E' hi hv hJ hns hx F₂ N₂ off ne
    obtain ⟨x, tx, rfl, hx'⟩ := at_map hJS (by simpa using hv)
    dsimp only [spB2] at hx hv
    clear F₁ N₁
    simp only [List.cons_append, List.nil_append] at N₂
    k_steps
    unfold Mark
    refine ne_bytes ?_
    rw [ne_lo]
    k_steps
    rename Fr _ _ _ _ => F₄
    rename News _ _ _ _ => N₄
    rename I < _ ∧ C < _ ∧ _ => hlt
    exact LCg.CompEnd.intro F₄ N₄ _ sub_add (off3_add off (Nat.ne_of_lt hlt.1) (Nat.ne_of_lt hlt.2.1) (Nat.ne_of_lt hlt.2.2.1)) (.inr ⟨_, by k_mem, rfl, _, rfl⟩) ⟨_, rfl, hJ.snoc hx' rfl⟩
  intro ysB exB hJB
  clear F₁ N₁
  intro D₉ h₉ tk₉ F₉ N₉ off₉
  simp only [List.size_toArray, lS] at hJB
  simp only [List.cons_append, List.nil_append] at N₉
  try dsimp only
  have hkA := hJA.keys N₉ (fun p hp => by simp [hp])
  have hkB := hJB.keys N₉ (fun p hp => by simp [hp])
  refine ne_KD kT (fun _ _ e => e) (N₉.isList (by k_mem)) (N₉.isList (by k_mem)) (hJA.1.trans hJB.1.symm) hkA.1 hkB.1 (by ktr_units) ?_
  rw [hkA.2, hkB.2, decide_eq_true rfl]
  clear hkA hkB

  k_steps
  unfold Mark
  refine LCg.Assign_ListComp_U (F₀ := by k_asm) (by rfl) (by with_unfolding_all rfl) (by with_unfolding_all rfl) (by decide) (by rfl) (by decide) (by rfl) (by rfl) (by rfl) ?_
  k_steps
  unfold Mark
  rename Fr _ _ _ _ => F₁
  rename News _ _ _ _ => N₁
  refine LCg.CompSrc.ledger rfl F₁ N₁ (by k_mem) (by rw [sizeLine_eq, List.size_toArray]; omega) fun g => ?_
  refine rest_U (fun i ys ns => ns = _ ∧ BytesAre ys ((nums.take i).map octB)) ⟨rfl, .nil⟩ ?_ ?_
  · rintro i v I oI C oC D m₂ ys ns h tk E' hi hv ⟨rfl, hJ⟩ hns hx F₂ N₂ off ne
    obtain ⟨x, tx, rfl, hx'⟩ := at_map hJS (by simpa using hv)
    dsimp only [spB2] at hx hv
    have hfu := up_fin (sp x) (sp_lt x) (oc x) (oc_lt x)
    have ho1 : oc x / 16 < 16 := by (have := oc_lt x; omega)
    have ho2 : oc x % 16 < 16 := by omega
    have hs1 := fig_says _ ho1 _ ho2
    have hs2 := fig_hex _ ho1
    have hs3 := fig_hex _ ho2
    rw [← hfu.1, ← hfu.2] at hs1
    rw [← hfu.1] at hs2
    rw [← hfu.2] at hs3
    clear F₁ N₁
    k_steps
    rename Fr _ _ _ _ => F₃
    rename News _ _ _ _ => N₃
    refine LCg.CompEnd.intro F₃ N₃ _ (fun p hp => by first | exact hp | exact .tail _ hp | exact .tail _ (.tail _ hp)) off (.inr ⟨_, by k_mem, rfl, _, rfl⟩) ⟨rfl, ?_⟩
    exact snoc_map hJ hx' (dec_oct x)
  rintro ysD ns ⟨rfl, hJD⟩
  rw [List.size_toArray, lS, List.take_length] at hJD
  clear F₁ N₁
  intro Dd hd' tkd Fd Nd offd
  try dsimp only
  have lD : ysD.length = nums.length := by rw [hJD.length, List.length_map]
  k_steps
  rename Fr _ _ _ _ => F₁
  rename News _ _ _ _ => N₁
  refine iterV (fun _ nx => nx = _) (.inl rfl) nofun (N₁.isList (by k_mem)) (.inr ⟨_, fun i n₁ g => by subst g; k_mem⟩) F₁ N₁ rfl ?_ ?_
  · rintro i v _ h tk I oI hv rfl hap F₂ N₂
    have hi : i = 0 ∨ i = 1 := by
      have := (Array.getElem?_eq_some_iff.mp hv).1
      simp only [List.size_toArray, List.length_cons, List.length_nil] at this
      omega
    clear F₁ N₁
    rcases hi with rfl | rfl
    · obtain rfl : v = .ref D₃ := by simpa using hv.symm
      have hbr := hJS.2
      have hlr : ysS.length ≤ 63 := by omega
      k_steps
      unfold Mark
      rename Fr _ _ _ _ => F₃
      rename News _ _ _ _ => N₃
      refine use_fromkeys hlr hbr S F₃ N₃ (N₃.isList (by k_mem)) rfl (by ktr_room) (by ktr_units) ?_
      intro d h' tk' kvs F₄ N₄ lo hdo hks hz'
      clear F₃ N₃
      k_steps
      unfold Mark
      rename Fr _ _ _ _ => F₃
      rename News _ _ _ _ => N₃
      refine list_dict rfl F₃ N₃ lo hdo hks hz' ?_
      intro B c h'' tk'' us F₅ N₅ l1 hul hus
      clear F₃ N₃ hdo hks
      k_steps
      unfold Mark
      rename Fr _ _ _ _ => F₃
      rename News _ _ _ _ => N₃
      refine use_firsts kB hlr S F₃ N₃ (N₃.isList (by k_mem)) hbr rfl (by ktr_room) (by ktr_units) ?_
      intro r₆ n₆ h₆ tk₆ _ F₆ N₆ _
      replace N₆ : News _ _ _ ((r₆, W.listOf (uniq bytesOf ysS).toArray n₆) :: _) := N₆
      clear F₃ N₃
      k_steps
      unfold Mark
      rename Fr _ _ _ _ => F₃
      rename News _ _ _ _ => N₃
      refine ne_KD kB (fun _ _ e => e) (N₃.isList (by k_mem)) (N₃.isList (by k_mem)) hul hus.2 (fun y hy => hbr y (uniq_sub _ y hy)) (by ktr_units) ?_
      rw [show List.map (kB.key _) us = List.map (kB.key _) (uniq bytesOf ysS) from hus.1, decide_eq_true rfl]
      k_steps
      unfold Mark
      rename Fr _ _ _ _ => F₃
      rename News _ _ _ _ => N₃
      refine use_l (c_dedup kB hlr) S F₃ N₃ ⟨N₃.isList (by k_mem), hbr⟩ (by ktr_room) (by ktr_units) (.inl rfl) ?_
      intro r₇ n₇ h₇ tk₇ _ F₇ N₇ _
      replace N₇ : News _ _ _ ((r₇, W.listOf (uniq bytesOf ysS).toArray n₇) :: _) := N₇
      clear F₃ N₃
      k_steps
      unfold Mark
      rename Fr _ _ _ _ => F₃
      rename News _ _ _ _ => N₃
      refine use_firsts kB hlr S F₃ N₃ (N₃.isList (by k_mem)) hbr rfl (by ktr_room) (by ktr_units) ?_
      intro r₈ n₈ h₈ tk₈ _ F₈ N₈ _
      replace N₈ : News _ _ _ ((r₈, W.listOf (uniq bytesOf ysS).toArray n₈) :: _) := N₈
      clear F₃ N₃
      k_steps
      unfold Mark
      rename Fr _ _ _ _ => F₃
      rename News _ _ _ _ => N₃
      refine ne_KD kB (fun _ _ e => e) (N₃.isList (by k_mem)) (N₃.isList (by k_mem)) rfl (fun y hy => hbr y (uniq_sub _ y hy)) (fun y hy => hbr y (uniq_sub _ y hy)) (by ktr_units) ?_
      rw [decide_eq_true rfl]
      k_steps
      rename Fr _ _ _ _ => F₃
      rename News _ _ _ _ => N₃
      exact ⟨_, _, _, rfl, F₃, (fun p hp => N₃ p (by first | exact .tail _ (.tail _ (.tail _ (.tail _ hp))) | exact .tail _ (.tail _ (.tail _ (.tail _ (.tail _ hp)))) | exact .tail _ (.tail _ (.tail _ hp)))), hap, rfl⟩
    · obtain rfl : v = .ref Dd := by simpa using hv.symm
      have hbr := hJD.2
      have hlr : ysD.length ≤ 63 := by omega
      k_steps
      unfold Mark
      rename Fr _ _ _ _ => F₃
      rename News _ _ _ _ => N₃
      refine use_fromkeys hlr hbr S F₃ N₃ (N₃.isList (by k_mem)) rfl (by ktr_room) (by ktr_units) ?_
      intro d h' tk' kvs F₄ N₄ lo hdo hks hz'
      clear F₃ N₃
      k_steps
      unfold Mark
      rename Fr _ _ _ _ => F₃
      rename News _ _ _ _ => N₃
      refine list_dict rfl F₃ N₃ lo hdo hks hz' ?_
      intro B c h'' tk'' us F₅ N₅ l1 hul hus
      clear F₃ N₃ hdo hks
      k_steps
      unfold Mark
      rename Fr _ _ _ _ => F₃
      rename News _ _ _ _ => N₃
      refine use_firsts kB hlr S F₃ N₃ (N₃.isList (by k_mem)) hbr rfl (by ktr_room) (by ktr_units) ?_
      intro r₆ n₆ h₆ tk₆ _ F₆ N₆ _
      replace N₆ : News _ _ _ ((r₆, W.listOf (uniq bytesOf ysD).toArray n₆) :: _) := N₆
      clear F₃ N₃
      k_steps
      unfold Mark
      rename Fr _ _ _ _ => F₃
      rename News _ _ _ _ => N₃
      refine ne_KD kB (fun _ _ e => e) (N₃.isList (by k_mem)) (N₃.isList (by k_mem)) hul hus.2 (fun y hy => hbr y (uniq_sub _ y hy)) (by ktr_units) ?_
      rw [show List.map (kB.key _) us = List.map (kB.key _) (uniq bytesOf ysD) from hus.1, decide_eq_true rfl]
      k_steps
      unfold Mark
      rename Fr _ _ _ _ => F₃
      rename News _ _ _ _ => N₃
      refine use_l (c_dedup kB hlr) S F₃ N₃ ⟨N₃.isList (by k_mem), hbr⟩ (by ktr_room) (by ktr_units) (.inl rfl) ?_
      intro r₇ n₇ h₇ tk₇ _ F₇ N₇ _
      replace N₇ : News _ _ _ ((r₇, W.listOf (uniq bytesOf ysD).toArray n₇) :: _) := N₇
      clear F₃ N₃
      k_steps
      unfold Mark
      rename Fr _ _ _ _ => F₃
      rename News _ _ _ _ => N₃
      refine use_firsts kB hlr S F₃ N₃ (N₃.isList (by k_mem)) hbr rfl (by ktr_room) (by ktr_units) ?_
      intro r₈ n₈ h₈ tk₈ _ F₈ N₈ _
      replace N₈ : News _ _ _ ((r₈, W.listOf (uniq bytesOf ysD).toArray n₈) :: _) := N₈
      clear F₃ N₃
      k_steps
      unfold Mark
      rename Fr _ _ _ _ => F₃
      rename News _ _ _ _ => N₃
      refine ne_KD kB (fun _ _ e => e) (N₃.isList (by k_mem)) (N₃.isList (by k_mem)) rfl (fun y hy => hbr y (uniq_sub _ y hy)) (fun y hy => hbr y (uniq_sub _ y hy)) (by ktr_units) ?_
      rw [decide_eq_true rfl]
      k_steps
      rename Fr _ _ _ _ => F₃
      rename News _ _ _ _ => N₃
      exact ⟨_, _, _, rfl, F₃, (fun p hp => N₃ p (by first | exact .tail _ (.tail _ (.tail _ (.tail _ hp))) | exact .tail _ (.tail _ (.tail _ (.tail _ (.tail _ hp)))) | exact .tail _ (.tail _ (.tail _ hp)))), hap, rfl⟩
  rintro tv _ h tk rfl F₂ N₂
  clear F₁ N₁
  k_steps
  unfold Mark
  rename Fr _ _ _ _ => F₃
  rename News _ _ _ _ => N₃
  rw [krv_pick, List.toList_toArray] at N₃
  refine use_T (c_compare (vs₁ := ysD) (vs₂ := ysO.reverse) (by first | omega | (rw [List.length_reverse]; omega)) (by first | omega | (rw [List.length_reverse]; omega)) hJD.2 (fun y hy => hJO.2 y (List.mem_reverse.mp hy))) S K0 rfl rfl rfl F₃ N₃ ⟨N₃.isList (by k_mem), N₃.isList (by k_mem)⟩ (by decide +kernel) (by decide +kernel) ?_
  intro vx hx tkx hvx Fx Nx
  obtain rfl := hvx
  clear F₃ N₃
  rw [show cmpB bytesOf ysD ysO.reverse = true from (cmpB_is _ _ _).trans (both_same _ fun b => by rw [List.map_reverse, List.mem_reverse, hJD.1, hJO.1])]
  k_steps
  walk_at "my comp"
  rename Fr _ _ _ _ => F₁
  rename News _ _ _ _ => N₁
  refine LCg.CompSrc.ledger rfl F₁ N₁ (by k_mem) (by rw [sizeLine_eq, List.size_toArray]; omega) fun g => ?_
  refine rest_U (fun i ys ns => ns = _ ∧ BytesAre ys ((nums.take i).map grB)) ⟨rfl, .nil⟩ ?_ ?_
  · rintro i v I oI C oC D m₂ ys ns h tk E' hi hv ⟨rfl, hJ⟩ hns hx F₂ N₂ off ne
    obtain ⟨x, tx, rfl, hx'⟩ := at_map hJS (by simpa using hv)
    dsimp only [spB2] at hx hv
    clear F₁ N₁
    k_steps
    rename Fr _ _ _ _ => F₃
    rename News _ _ _ _ => N₃
    refine LCg.CompEnd.intro F₃ N₃ _ (fun p hp => by first | exact hp | exact .tail _ hp | exact .tail _ (.tail _ hp)) off (.inr ⟨_, by k_mem, rfl, _, rfl⟩) ⟨rfl, ?_⟩
    exact snoc_map hJ hx' (up_gr x)
  rintro ysV ns ⟨rfl, hJV⟩
  rw [List.size_toArray, lS, List.take_length] at hJV
  clear F₁ N₁
  intro Dq hq tkq Fq Nq offq
  simp only [LCg.Off1, and_true] at offq
  try dsimp only
  have lV : ysV.length = nums.length := by rw [hJV.length, List.length_map]
  k_steps
  unfold Mark
  rename Fr _ _ _ _ => F₃
  rename News _ _ _ _ => N₃
  refine use_T (c_compare (vs₁ := ysV) (vs₂ := ysG) (by first | omega | (rw [List.length_reverse]; omega)) (by first | omega | (rw [List.length_reverse]; omega)) hJV.2 hJG.2) S K0 rfl rfl rfl F₃ N₃ ⟨N₃.isList (by k_mem), N₃.isList (by k_mem)⟩ (by decide +kernel) (by decide +kernel) ?_
  intro vz hz tkz hvz Fz Nz
  obtain rfl := hvz
  clear F₃ N₃
  rw [show cmpB bytesOf ysV ysG = true from (cmpB_is _ _ _).trans (both_same _ fun b => by rw [hJV.1, hJG.1])]
  k_steps
  unfold Mark
  refine LCt.ListComp_T (F₀ := by k_asm) (by with_unfolding_all rfl) (by decide) (by rfl) (by decide) (by rfl) ?_
  k_steps
  unfold Mark
  rename Fr _ _ _ _ => F₁
  rename News _ _ _ _ => N₁
  refine LCt.CompSrcT.ledger rfl F₁ N₁ (by k_mem) (by rw [sizeLine_eq, List.size_toArray]; omega) fun g => ?_
  refine rest_T (fun i ys ns => ns = _ ∧ ys = (ysS.take i).filter fun v => !ysG.any fun y => decide (bytesOf y = bytesOf v)) ⟨rfl, rfl⟩ ?_ ?_
  · rintro i v I oI C oC D m₂ ys ns h tk E' hi hv ⟨rfl, rfl⟩ hns hx F₂ N₂ off ne
    have hv' : ysS[i]? = some v := by simpa using hv
    have hbv := hJS.2 v (List.mem_of_getElem? hv')
    have tf := take_filter (p := fun v => !ysG.any fun y => decide (bytesOf y = bytesOf v)) hv'
    clear F₁ N₁
    k_steps
    unfold Mark
    rename Fr _ _ _ _ => F₃
    rename News _ _ _ _ => N₃
    refine notIn_KD kB (fun _ _ e => e) (N₃.isList (by k_mem)) hJG.2 hbv (by ktr_units) ?_
    cases ht : ysG.any fun y => decide (bytesOf y = bytesOf v) with
    | true =>
      rw [show (ysG.any fun y => decide (kB.key _ y = kB.key _ v)) = true from ht]
      rw [ht] at tf
      k_steps
      refine LCg.CompEnd.intro F₃ N₃ _ (fun p hp => by first | exact hp | exact .tail _ hp | exact .tail _ (.tail _ hp)) off (.inr ⟨_, by k_mem, rfl, _, rfl⟩) ⟨rfl, ?_⟩
      rw [tf]
      rfl
    | false =>
      rw [show (ysG.any fun y => decide (kB.key _ y = kB.key _ v)) = false from ht]
      rw [ht] at tf
      k_steps
      refine LCg.CompEnd.intro F₃ N₃ _ (fun p hp => by first | exact hp | exact .tail _ hp | exact .tail _ (.tail _ hp)) off (.inr ⟨_, by k_mem, rfl, _, rfl⟩) ⟨rfl, ?_⟩
      rw [tf]
      rfl
  rintro ysP ns ⟨rfl, hJP⟩
  rw [List.size_toArray, List.take_length] at hJP
  clear F₁ N₁
  intro DP hP tkP FP NP offP
  try dsimp only
  k_steps
  unfold Mark
  refine LCt.ListComp_T (F₀ := by k_asm) (by with_unfolding_all rfl) (by decide) (by rfl) (by decide) (by rfl) ?_
  k_steps
  unfold Mark
  rename Fr _ _ _ _ => F₁
  rename News _ _ _ _ => N₁
  refine LCt.CompSrcT.ledger rfl F₁ N₁ (by k_mem) (by rw [sizeLine_eq, List.size_toArray]; omega) fun g => ?_
  refine rest_T (fun i ys ns => ns = _ ∧ ys = (ysG.take i).filter fun v => !ysS.any fun y => decide (bytesOf y = bytesOf v)) ⟨rfl, rfl⟩ ?_ ?_
  · rintro i v I oI C oC D m₂ ys ns h tk E' hi hv ⟨rfl, rfl⟩ hns hx F₂ N₂ off ne
    have hv' : ysG[i]? = some v := by simpa using hv
    have hbv := hJG.2 v (List.mem_of_getElem? hv')
    have tf := take_filter (p := fun v => !ysS.any fun y => decide (bytesOf y = bytesOf v)) hv'
    clear F₁ N₁
    k_steps
    unfold Mark
    rename Fr _ _ _ _ => F₃
    rename News _ _ _ _ => N₃
    refine notIn_KD kB (fun _ _ e => e) (N₃.isList (by k_mem)) hJS.2 hbv (by ktr_units) ?_
    cases ht : ysS.any fun y => decide (bytesOf y = bytesOf v) with
    | true =>
      rw [show (ysS.any fun y => decide (kB.key _ y = kB.key _ v)) = true from ht]
      rw [ht] at tf
      k_steps
      refine LCg.CompEnd.intro F₃ N₃ _ (fun p hp => by first | exact hp | exact .tail _ hp | exact .tail _ (.tail _ hp)) off (.inr ⟨_, by k_mem, rfl, _, rfl⟩) ⟨rfl, ?_⟩
      rw [tf]
      rfl
    | false =>
      rw [show (ysS.any fun y => decide (kB.key _ y = kB.key _ v)) = false from ht]
      rw [ht] at tf
      k_steps
      refine LCg.CompEnd.intro F₃ N₃ _ (fun p hp => by first | exact hp | exact .tail _ hp | exact .tail _ (.tail _ hp)) off (.inr ⟨_, by k_mem, rfl, _, rfl⟩) ⟨rfl, ?_⟩
      rw [tf]
      rfl
  rintro ysW ns ⟨rfl, hJW⟩
  rw [List.size_toArray, List.take_length] at hJW
  clear F₁ N₁
  intro DW hW tkW FW NW offW
  try dsimp only
  k_steps
  have lP : ysP.length ≤ 63 := by (rw [hJP]; exact Nat.le_trans (List.length_filter_le _ _) (by omega))
  have lW : ysW.length ≤ 63 := by (rw [hJW]; exact Nat.le_trans (List.length_filter_le _ _) (by omega))
  rename Fr _ _ _ _ => F₃
  rename News _ _ _ _ => N₃
  refine add_K F₃ N₃ (by k_mem) (by k_mem) (by omega) ?_
  clear F₃ N₃
  intro Da ha' Fa Na la
  k_steps
  unfold Mark
  rename Fr _ _ _ _ => F₃
  rename News _ _ _ _ => N₃
  refine eq_nil (N₃.isList (by k_mem)) (N₃.isList (by k_mem)) (by ktr_units) ?_
  rw [hJP, hJW, both_nil]
  k_steps
  unfold Mark
  rename Fr _ _ _ _ => F₃
  rename News _ _ _ _ => N₃
  refine use_T (c_compare (vs₁ := ysS) (vs₂ := ysG) (by omega) (by omega) hJS.2 hJG.2) S K0 rfl rfl rfl F₃ N₃ ⟨N₃.isList (by k_mem), N₃.isList (by k_mem)⟩ (by decide +kernel) (by decide +kernel) ?_
  intro vs1 hs1 tks1 hvs1 Fs1 Ns1
  obtain rfl := hvs1
  clear F₃ N₃
  k_steps
  unfold Mark
  refine isnot_self (cmpB_is _ _ _) ?_
  k_steps
  unfold Mark
  rename Fr _ _ _ _ => F₃
  rename News _ _ _ _ => N₃
  refine use_T (c_compare (vs₁ := ysG) (vs₂ := ysS) (by omega) (by omega) hJG.2 hJS.2) S K0 rfl rfl rfl F₃ N₃ ⟨N₃.isList (by k_mem), N₃.isList (by k_mem)⟩ (by decide +kernel) (by decide +kernel) ?_
  intro vs2 hs2 tks2 hvs2 Fs2 Ns2
  obtain rfl := hvs2
  clear F₃ N₃
  k_steps
  unfold Mark
  refine isnot_self ((cmpB_is _ _ _).trans (both_comm _ _ _)) ?_
  k_steps
  unfold Mark
  refine LCg.Assign_ListComp_U (F₀ := by k_asm) (by rfl) (by with_unfolding_all rfl) (by with_unfolding_all rfl) (by decide) (by rfl) (by decide) (by rfl) (by rfl) (by rfl) ?_
  k_steps
  unfold Mark
  rename Fr _ _ _ _ => F₁
  rename News _ _ _ _ => N₁
  refine LCg.CompSrc.ledger rfl F₁ N₁ (by k_mem) (by rw [sizeLine_eq, List.size_toArray]; omega) fun g => ?_
  refine rest_UX (Rws nums) .nil ?_ ?_
  · rintro i v I oI C oC D m₂ ys ex h tk E' hi hv hJ hns hx F₂ N₂ off ne
    obtain ⟨x, tx, rfl, hx'⟩ := at_map hJS (by simpa using hv)
    clear F₁ N₁
    simp only [List.cons_append, List.nil_append] at N₂
    k_steps
    rename Fr _ _ _ _ => F₄
    rename News _ _ _ _ => N₄
    rename I < _ ∧ C < _ ∧ _ => hlt
    exact LCg.CompEnd.intro F₄ N₄ _ sub_add (off3_add off (Nat.ne_of_lt hlt.1) (Nat.ne_of_lt hlt.2.1) (Nat.ne_of_lt hlt.2.2.1)) (.inr ⟨_, by k_mem, rfl, _, rfl⟩) ⟨_, rfl, hJ.snoc hx'⟩
  intro ysZ exZ hJZ
  clear F₁ N₁
  intro DZ hZ tkZ FZ NZ offZ
  simp only [List.size_toArray, lS] at hJZ
  simp only [List.cons_append, List.nil_append] at NZ
  try dsimp only
  have lZ : ysZ.length ≤ 63 := by (rw [hJZ.1]; omega)
  k_steps
  unfold Mark
  rename Fr _ _ _ _ => F₃
  rename News _ _ _ _ => N₃
  obtain ⟨a0, its0, hz0, hl0⟩ := hJZ.first hz1 N₃ (fun p hp => by simp [hp])
  refine use_ft (o := tupO true true) (c_refused (its := its0) lZ hz0) S K0 rfl rfl rfl F₃ N₃ ⟨N₃.isList (by k_mem), hl0⟩ (by decide +kernel) (by decide +kernel) nofun ?_
  intro rT nT hT tkT FT NT _
  clear F₃ N₃ hl0
  k_steps
  unfold Mark
  rename Fr _ _ _ _ => F₃
  rename News _ _ _ _ => N₃
  refine eq_TT (N₃.get (by k_mem)) (N₃.get (by k_mem)) (by ktr_units) ?_
  k_steps
  unfold Mark
  rename Fr _ _ _ _ => F₃
  rename News _ _ _ _ => N₃
  have hK1 := hJZ.keys N₃ (fun p hp => by simp [hp])
  obtain ⟨a1, its1, hz1', hl1⟩ := hJZ.first hz1 N₃ (fun p hp => by simp [hp])
  change wpAny _ _ (call (.ref 124) [.ref DZ] [(Str.ofString "unhashable_fallback", .bool true)]) _ _ _
  refine use_T (c_fallback (its := its1) lZ hz1') S K0 rfl rfl rfl F₃ N₃ ⟨N₃.isList (by k_mem), hl1, hK1.1⟩ (by decide +kernel) (by decide +kernel) ?_
  rintro vV hV tkV ⟨rV, nV, rfl, hfV, hoV⟩ FV NV
  have NV2 := (news_add F₃ N₃ FV NV hfV hoV nofun).1
  clear F₃ N₃ NV hl1 hoV
  k_steps
  unfold Mark
  rename Fr _ _ _ _ => F₃
  rename News _ _ _ _ => N₃
  have hK2 := hJZ.keys N₃ (fun p hp => by simp [hp])
  refine use_firsts kR lZ S F₃ N₃ (N₃.isList (by k_mem)) hK2.1 rfl (by ktr_room) (by ktr_units) ?_
  intro rU nU hU tkU _ FU NU _
  clear F₃ N₃
  k_steps
  unfold Mark
  rename Fr _ _ _ _ => F₃
  rename News _ _ _ _ => N₃
  have hK3 := hJZ.keys N₃ (fun p hp => by simp [hp])
  have e13 := uniq_congr (map_eq_all (hK1.2.trans hK2.2.symm))
  refine eq_KD kR (fun _ _ e => e) (N₃.isList (by k_mem)) (N₃.isList (by k_mem)) (by rw [e13]) (fun y hy => hK3.1 y (uniq_sub _ y hy)) (fun y hy => hK3.1 y (uniq_sub _ y hy)) (by ktr_units) ?_
  rw [e13, decide_eq_true rfl]
  k_steps
)
)
end Mine
end
theorem PySem.Challenge.cw_il0003_01_holds : PySem.Challenge.rw_il0003_01.Holds :=
  Mine.wt
