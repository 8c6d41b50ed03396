import PyProof.Rows.All
import Wide.All
import OpenK.AllK
import Wide.FinOn
import PySem.Challenge.RW_pe0235_01

set_option Elab.async false
set_option maxRecDepth 100000
set_option maxHeartbeats 0

section
open PySem PySem.W PyProof.Rows
set_option Elab.async false
set_option maxRecDepth 100000
set_option maxHeartbeats 0
namespace Mine
open_top hd for PySem.Challenge.rw_pe0235_01

end Mine
end

section
open PySem PySem.W PyProof.Rows PySem.Calls
set_option Elab.async false
set_option maxRecDepth 100000
set_option maxHeartbeats 0
namespace Mine
theorem raw_call {prog : Program} {K : Frag} {p : Program} {loose : List Str} {mean : ExcName → Option Value} {mg mb : Str → Option Value} {hT : Heap} {w : World} {A : Around} {s : Shared} {R : Result → Shared → Prop} {name qual : Str} {params : Arguments} {body : List Stmt} {scope : Scope} {dV kV doc pm cdv ct oc : Value} {an od : Option Addr} {osl : Array (Option Value)} {f : Addr} {args : Args} {binds : List (Str × Value)}
    (W : List (Addr × Obj)) (X : K.In hT) (T : Top p loose mean mg mb hT) (st : ∀ b o, hT.get? b = some o → s.heap.get? b = some o) (hW : ∀ p ∈ W, s.heap.get? p.1 = some p.2 ∧ hT.get? p.1 = none)
    (ho : K.lookup f = some ⟨oc, od, .func (fnOf name qual params body scope dV kV doc pm an cdv ct), osl⟩) (hcd : codeIn K cdv qual = true) (hroom : A.depth < recursionLimit)
    (hbind : BindsTo s (fnOf name qual params body scope dV kV doc pm an cdv ct) args binds) (hloc : ∀ y ∈ binds, scope.names.lookup y.1 = some .local)
    (h : ∀ g L' h₁, (∀ b o, s.heap.get? b = some o → b ∉ W.map (·.1) → g.get? b = some o) → Fr g L' h₁ (fun y => binds.reverse.lookup y) → News g L' h₁ W → K.In g → Top p loose mean mg mb g → (∀ b o, hT.get? b = some o → g.get? b = some o) → (∀ p ∈ W, p.1 < L') →
      wpAny (model prog w) (A.deeper (envOf qual scope L' f cdv)) (execs body (envOf qual scope L' f cdv))
        (fun fl s' => R (.ok (.ret (match fl with | .ret v => v | _ => .none))) s')
        (fun e s' => wpAny (model prog w) (A.deeper (envOf qual scope L' f cdv)) (leaving (envOf qual scope L' f cdv) e) (fun _ s'' => R (.error e) s'') (fun e' s'' => R (.error e') s'') s')
        { s with heap := h₁, toks := s.toks + binds.length })
    (hcell : ∀ x ∈ scope.names, x.2 ≠ .cell) (hco : scope.isCoroutine = false := by rfl) (hgen : scope.isGenerator = false := by rfl) (hk : scope.kind = .function := by rfl) :
    codeAny (model prog w) A (.call (.ref f) args) R s := by
  have XS : K.In s.heap := X.keeps st
  refine codeAny_call_def (fd := fnOf name qual params body scope dV kV doc pm an cdv ct) (body := body) (binds := binds) hroom (XS _ _ ho) rfl (T.nolimit.keeps st) (codeRec_of XS hcd) rfl hbind hcell hloc (fun h₁ hns hk₁ => ?_) hco hgen hk
  have sg : ∀ b o, hT.get? b = some o → (hideAll s.heap (W.map (·.1))).get? b = some o := fun b o e => hideAll_get _ (st b o e) fun q => by
    obtain ⟨p, hp, rfl⟩ := List.mem_map.mp q
    rw [(hW p hp).2] at e; cases e
  exact h (hideAll s.heap (W.map (·.1))) s.heap.objs.size h₁ (fun b o e n => hideAll_get _ e n) ⟨hns, fun b o e => hk₁ b o (of_hideAll _ e), Nat.le_of_eq (hideAll_size _ _)⟩ (fun p hp => ⟨hk₁ _ _ (hW p hp).1, Nat.ne_of_lt (Heap.lt_size (hW p hp).1), hideAll_none _ (List.mem_map_of_mem hp)⟩)
    (X.keeps sg) (T.keeps sg) sg (fun p hp => Heap.lt_size (hW p hp).1)
end Mine
end

section
open PySem PySem.W PyProof.Rows PySem.Calls PySem.Builtin PySem.Builtin.Re
set_option Elab.async false
set_option maxRecDepth 100000
set_option maxHeartbeats 0
namespace Mine
theorem plainAttrs_pat : PlainAttrs "re.Pattern" :=
  ⟨⟨"object.__getattribute__", by rw [typeLookup_type, builtinLookup_eq_fast]; kernel_rfl, by decide +kernel⟩, by rw [typeLookup_type, builtinLookup_eq_fast]; kernel_rfl⟩
theorem slot_pat_search : Slot "re.Pattern" "search" "re.Pattern.search" :=
  .of (owner := "re.Pattern") (n := "search") (by rw [typeLookup_type, builtinLookup_eq_fast]; kernel_rfl) (by decide +kernel) (by decide +kernel) (by decide +kernel)
    (by first | exact .inl (by decide +kernel) | exact .inr (by decide +kernel)) (by rw [isSubtype_type]; kernel_rfl)
theorem type_pat_search : typeOf (.builtin "re.Pattern.search") = pure (.type "method_descriptor") := by show builtinType _ = _; rw [builtinType_eq_fast]; kernel_rfl
theorem entry_pat_search : entryFor table "re.Pattern.search" = some Builtin.«re.Pattern.search» := entryFor_of_tree (by kernel_rfl)
theorem args_pat_search (a b : Value) : argsOk "re.Pattern.search" ⟨[a, b], []⟩ := by
  unfold argsOk
  rw [show Manifest.signature? "re.Pattern.search" = some ⟨.keywords, "Pattern.search", "search", .self, [⟨"string", .posOrKw, true⟩, ⟨"pos", .posOrKw, false⟩, ⟨"endpos", .posOrKw, false⟩]⟩ from by kernel_rfl]
  rfl

theorem named_search (v : Value) : reNamed "re.Pattern.search" "search" ["string", "pos", "endpos"] 1 [v] [] = pure [some v, none, none] := by
  rfl
theorem wp_rules {M : Model} {A : Around} {E : Value → Shared → Prop} {s : Shared} (c : Nat → Bool) (nm : Nat → String) : ∀ (l : List Nat) {Q : PUnit → Shared → Prop}, Q ⟨⟩ s →
    wpAny M A (forIn l PUnit.unit fun i _ => if c i = true then (do rule (nm i); pure (ForInStep.yield PUnit.unit)) else pure (ForInStep.yield PUnit.unit)) Q E s
  | [], _, h => wpAny_pure h
  | i :: l, Q, h => by
    rw [List.forIn_cons]
    refine wpAny_bind ?_
    cases hc : c i with
    | true =>
      rw [if_pos rfl]
      exact wpAny_bind (wpAny_rule (wpAny_pure (wp_rules c nm l h)))
    | false =>
      rw [if_neg Bool.false_ne_true]
      exact wpAny_pure (wp_rules c nm l h)
theorem wp_drive {M : Model} {A : Around} {E : Value → Shared → Prop} {s : Shared} {m : Sre.M} {Q : Sre.M → Shared → Prop} {n : Nat} (hm : (m.runFor 4).outcome = some .failed) (h : Q (m.runFor 4) s) : wpAny M A (reDrive (n + 1) m) Q E s := by
  unfold reDrive
  show wpAny M A (if (m.runFor 4).outcome.isSome = true then pure (m.runFor 4) else _) Q E s
  rw [if_pos (by rw [hm]; rfl)]
  exact wpAny_pure h
theorem wp_end {M : Model} {A : Around} {E : Value → Shared → Prop} {s : Shared} {m : Sre.M} {Q : Option Sre.M → Shared → Prop} (hm : (m.runFor 4).outcome = some .failed) (h : Q none s) : wpAny M A (reRunToEnd m) Q E s := by
  unfold reRunToEnd
  refine wpAny_bind ?_
  rw [show (2 ^ 64 : Nat) = 18446744073709551615 + 1 from rfl]
  refine wp_drive hm ?_
  refine wpAny_bind (wp_rules (fun i => (m.runFor 4).seen.has i) (fun i => Sre.names.getD i "") _ ?_)
  rw [hm]
  exact wpAny_pure h
theorem wp_search {M : Model} {A : Around} {E : Value → Shared → Prop} {s : Shared} {P c : Addr} {x : Str} {t : Tok} {fs items : Array Value} {n : Nat} {oP oc : Obj} {Q : Fin → Shared → Prop}
    (hP : s.heap.get? P = some oP) (hPd : oP.data = .fields fs) (h5 : fs.getD 5 .none = .ref c) (h6 : reRawNat (fs.getD 6 .none) = 0) (hc : s.heap.get? c = some oc) (hcd : oc.data = .seq items n)
    (hm : ((Sre.forSearch ((items.map reRawOf).map (·.toNat)) x.cps (reRawNat (fs.getD 2 .none)) 0 (min ((2 ^ 63 - 1 : Int).toNat) x.cps.size) false).runFor 4).outcome = some .failed)
    (h : Q (.done (.ret .none)) s) : wpAny M A (Builtin.«re.Pattern.search» ⟨[.ref P, .str x t], []⟩) Q E s := by
  unfold Builtin.«re.Pattern.search» reTarget
  refine wpAny_bind ?_
  dsimp only
  refine wpAny_bind (wpAny_of_eq (named_search _) ?_)
  dsimp only
  refine wpAny_bind (wpAny_pure (wpAny_bind (wpAny_pure (wpAny_bind ?_))))
  unfold fieldsOf
  dsimp only
  refine wpAny_bind (wpAny_load hP ?_)
  rw [hPd]
  refine wpAny_pure ?_
  unfold reTextOf asStr?
  dsimp only
  refine wpAny_bind (wpAny_bind (wpAny_pure (wpAny_pure ?_)))
  dsimp only
  rw [h6, if_neg (by decide), if_neg (by decide)]
  refine wpAny_bind ?_
  unfold reNoCollectionInside
  rw [if_neg (by decide)]
  refine wpAny_pure (wpAny_bind ?_)
  unfold reRawItems
  rw [h5]
  unfold seqItems?
  dsimp only
  refine wpAny_bind (wpAny_bind (wpAny_load hc ?_))
  rw [hcd]
  refine wpAny_pure (wpAny_pure (wpAny_pure ?_))
  dsimp only
  unfold reAnswer
  have e0 : Min.min (Int.toNat 0) x.cps.size = 0 := Nat.zero_min _
  rw [e0]
  refine wpAny_bind (wp_end hm ?_)
  exact wpAny_pure h
theorem call_search {prog : Program} {w : World} {A : Around} {E : Value → Shared → Prop} {s : Shared} {P c : Addr} {x : Str} {t : Tok} {fs items : Array Value} {n : Nat} {oP oc : Obj} {Q : Value → Shared → Prop}
    (hP : s.heap.get? P = some oP) (hPc : oP.cls = .type "re.Pattern") (hPd : oP.data = .fields fs) (h5 : fs.getD 5 .none = .ref c) (h6 : reRawNat (fs.getD 6 .none) = 0) (hc : s.heap.get? c = some oc) (hcd : oc.data = .seq items n)
    {code : Array Nat} (hcode : (items.map reRawOf).map (·.toNat) = code) (hm : ((Sre.forSearch code x.cps (reRawNat (fs.getD 2 .none)) 0 (min ((2 ^ 63 - 1 : Int).toNat) x.cps.size) false).runFor 4).outcome = some .failed)
    (h : Q .none s) : wpAny (model prog w) A (call (.builtin "re.Pattern.search") [.ref P, .str x t]) Q E s := by
  refine wpAny_call (codeAny_call_builtin slot_pat_search.plain entry_pat_search (slot_pat_search.check _ _ _ _ _ _ _ _ ⟨oP, hP, hPc⟩ (args_pat_search _ _) ?_))
  subst hcode
  exact wp_search hP hPd h5 h6 hc hcd hm h
theorem getm_search {M : Model} {A : Around} {E : Value → Shared → Prop} {s : Shared} {P : Addr} {oP : Obj} {pl : Sem Bool} {Q : Value × List Value → Shared → Prop} (hP : s.heap.get? P = some oP) (hPc : oP.cls = .type "re.Pattern") (hPd : oP.dict = none)
    (h : Q (.builtin "re.Pattern.search", [.ref P]) s) : wpAny M A (getMethod (.ref P) "search" pl) Q E s :=
  getMethod_builtin ⟨oP, hP, hPc⟩ plainAttrs_pat slot_pat_search type_pat_search (fun a e => by cases e; exact ⟨oP, hP, hPd⟩) h
end Mine
end

section
theorem Mine.reset1 : True := by
  w_top off
  exact True.intro
local macro_rules | `(tactic| walk_at "no such place") => `(tactic| skip)
local macro_rules | `(tactic| walk_at "no such place") => `(tactic| skip)
local macro_rules | `(tactic| walk_at "no such place") => `(tactic| skip)
local macro_rules | `(tactic| walk_at "no such place") => `(tactic| skip)
local macro_rules | `(tactic| walk_at "no such place") => `(tactic| skip)
local macro_rules | `(tactic| walk_at "no such place") => `(tactic| skip)
local macro_rules | `(tactic| walk_at "no such place") => `(tactic| skip)
local macro_rules | `(tactic| walk_at "no such place") => `(tactic| skip)
open PySem PySem.W PyProof.Rows PySem.Calls PySem.Builtin PySem.Builtin.Re
set_option Elab.async false
set_option maxRecDepth 100000
set_option maxHeartbeats 0
namespace Mine
def codeN : List Nat := [14, 10, 4, 1, 1, 22, 0, 31, 16, 127, 0, 13, 7, 22, 0, 31, 16, 127, 0, 1]
def codeV : List Nat := [14, 14, 4, 1, 1, 9, 4294966783, 0, 0, 2147483648, 0, 0, 0, 0, 0, 13, 11, 9, 4294966783, 0, 0, 2147483648, 0, 0, 0, 0, 0, 1]
def okText (code : List Nat) (x : Str) : Bool :=
  match ((Sre.forSearch code.toArray x.cps 0 0 (min ((2 ^ 63 - 1 : Int).toNat) x.cps.size) false).runFor 4).outcome with
  | some .failed => true
  | _ => false
theorem okText_is {code : List Nat} {x : Str} (h : okText code x = true) : ((Sre.forSearch code.toArray x.cps 0 0 (min ((2 ^ 63 - 1 : Int).toNat) x.cps.size) false).runFor 4).outcome = some .failed := by
  unfold okText at h
  split at h
  · assumption
  · cases h
example : okText codeN (Str.ofString "gr") = true := by decide +kernel
example : okText codeV (Str.ofString "a") = true := by decide +kernel
theorem searchN {prog : Program} {w : World} {A : Around} {E : Value → Shared → Prop} {s : Shared} {x : Str} {t : Tok} {Q : Value → Shared → Prop} (X : (hd.heap_39 w.params).In s.heap) (hm : okText codeN x = true) (h : Q .none s) :
    wpAny (model prog w) A (call (.builtin "re.Pattern.search") [.ref 90, .str x t]) Q E s :=
  call_search (X 90 _ rfl) rfl rfl rfl rfl (X 89 _ rfl) rfl (by decide +kernel) (okText_is hm) h
theorem searchV {prog : Program} {w : World} {A : Around} {E : Value → Shared → Prop} {s : Shared} {x : Str} {t : Tok} {Q : Value → Shared → Prop} (X : (hd.heap_39 w.params).In s.heap) (hm : okText codeV x = true) (h : Q .none s) :
    wpAny (model prog w) A (call (.builtin "re.Pattern.search") [.ref 95, .str x t]) Q E s :=
  call_search (X 95 _ rfl) rfl rfl rfl rfl (X 94 _ rfl) rfl (by decide +kernel) (okText_is hm) h
local macro_rules | `(tactic| walk_at "mine enter") => `(tactic| ((case ho => k_is); (case hcd => k_is); (case hbind => exact BindsTo.of_eq rfl); (case hloc => exact locs rfl); (case hcell => decide); (case c2 => exact rfl); (case c3 => exact rfl); (case c4 => exact rfl)))
local macro_rules | `(tactic| walk_at "getMethod ref") => `(tactic| (k_here; (with_reducible show wpAny _ _ (getMethod (Value.ref 90) _ _) _ _ _); refine getm_search (Fr.keep ‹Fr _ _ _ _› _ _ (‹Frag.In _ _› 90 _ (by k_is))) rfl rfl ?_))
local macro_rules | `(tactic| walk_at "getMethod ref") => `(tactic| (k_here; (with_reducible show wpAny _ _ (getMethod (Value.ref 95) _ _) _ _ _); refine getm_search (Fr.keep ‹Fr _ _ _ _› _ _ (‹Frag.In _ _› 95 _ (by k_is))) rfl rfl ?_))
local macro_rules | `(tactic| walk_at "call builtin:re.Pattern.search") => `(tactic| (first | refine searchN (Frag.In.keeps ‹Frag.In _ _› (Fr.keep ‹Fr _ _ _ _›)) (by exact (‹_ = true → okText codeN _ = true› (by assumption))) ?_ | refine searchV (Frag.In.keeps ‹Frag.In _ _› (Fr.keep ‹Fr _ _ _ _›)) (by exact (‹_ = false → okText codeV _ = true› (by assumption))) ?_))
theorem conv {loose : List Str} {mean : ExcName → Option Value} {mg mb : Str → Option Value} {hT : Heap} {w : World} {A : Around} {s : Shared} {Q E : Value → Shared → Prop} {self : Value} {x : Str} {t : Tok} {b : Bool}
    (X : (hd.heap_39 w.params).In hT) (T : Top hd.view_39 loose mean mg mb hT) (st : ∀ b o, hT.get? b = some o → s.heap.get? b = some o) (hroom : A.depth < recursionLimit) (hokN : b = true → okText codeN x = true) (hokV : b = false → okText codeV x = true)
    (hret : ∀ h' tk', (∀ b o, s.heap.get? b = some o → h'.get? b = some o) → Q (.str x t) { s with heap := h', toks := tk' }) :
    wpAny (model PySem.Challenge.rw_pe0235_01.row.prog w) A (call (.ref 117) [self, .str x t] [(Str.ofString "name", .bool b)]) Q E s := by
  revert X
  k_fill
  intro X
  refine wpAny_call ?_
  refine' raw_call (binds := [(Str.ofString "self", self), (Str.ofString "value", .str x t), (Str.ofString "name", .bool b)]) [] X T st (fun _ h => nomatch h) ?ho ?hcd hroom ?hbind ?hloc ?_ ?hcell ?c2 ?c3 ?c4
  walk_at "mine enter"
  intro g L' h' hg F' N' X' T' tg hlt
  clear X T
  k_steps
  all_goals exact hret _ _ (fun b o e => Fr.keep ‹Fr _ _ _ _› b o (hg b o e (by simp)))
end Mine
end

section
open PySem PySem.W PyProof.Rows PySem.Calls
set_option Elab.async false
set_option maxRecDepth 100000
set_option maxHeartbeats 0
namespace Mine
section
variable {prog : Program} {w : World} {A : Around} {E : Value → Shared → Prop} {s : Shared} {env : Env} {g : Heap} {R : Result → Shared → Prop} {target : Expr} {body orelse : List Stmt}

theorem go_listiter {I l : Addr} {i : Nat} {v : Value} {Q : Unit → Shared → Prop} (hit : s.heap.IsListIter I l i) (hQ : Q () s) : wpAny (model prog w) A (letOwnedTupleGo target (.ref I) v) Q E s := by
  obtain ⟨o, ho, hc, hd⟩ := hit
  unfold letOwnedTupleGo
  split
  · cases v with
    | ref T =>
      refine wpAny_bind (wpAny_load ho ?_)
      rw [hc, hd]
      show wpAny _ A (if (["enumerate", "zip", "dict_itemiterator", "dict_reverseitemiterator", "odict_iterator", "itertools.zip_longest", "itertools.pairwise"].contains "list_iterator" && (#[.ref l, .int i 0] : Array Value)[0]? == some (rawInt T)) = true then _ else _) Q E s
      rw [if_neg (by rw [show (["enumerate", "zip", "dict_itemiterator", "dict_reverseitemiterator", "odict_iterator", "itertools.zip_longest", "itertools.pairwise"].contains "list_iterator") = false from by decide, Bool.false_and]; exact Bool.false_ne_true)]
      exact wpAny_pure hQ
    | _ => exact wpAny_pure hQ
  · cases v with
    | ref T =>
      refine wpAny_bind (wpAny_load ho ?_)
      rw [hc, hd]
      show wpAny _ A (if (["enumerate", "zip", "dict_itemiterator", "dict_reverseitemiterator", "odict_iterator", "itertools.zip_longest", "itertools.pairwise"].contains "list_iterator" && (#[.ref l, .int i 0] : Array Value)[0]? == some (rawInt T)) = true then _ else _) Q E s
      rw [if_neg (by rw [show (["enumerate", "zip", "dict_itemiterator", "dict_reverseitemiterator", "odict_iterator", "itertools.zip_longest", "itertools.pairwise"].contains "list_iterator") = false from by decide, Bool.false_and]; exact Bool.false_ne_true)]
      exact wpAny_pure hQ
    | _ => exact wpAny_pure hQ
  · exact wpAny_pure hQ

theorem for_raw {I : Addr} {fp wr : List Addr} {n : Nat} {P Md : Nat → Value → Heap → Prop} {St : Nat → Heap → Prop} (Wk : KTurns prog w A target I fp wr n P Md St) (J : Nat → Shared → Prop) (hst : St 0 s.heap) (hJ : J 0 s)
    (turn : ∀ i v s₀ h₁ tk₁, i < n → P i v h₁ → J i s₀ → St i s₀.heap → St (i + 1) h₁ → (∀ b o, b ∉ wr → s₀.heap.get? b = some o → h₁.get? b = some o) →
      wpAny (model prog w) A (assign target env v) (fun _ s₂ => wpAny (model prog w) A (execs body env) (fun f s₃ => match f with
          | .next | .cont => J (i + 1) s₃ ∧ St (i + 1) s₃.heap
          | .brk => R (.ok .next) s₃
          | .ret v => R (.ok (.ret v)) s₃) (notedBy (model prog w) A env fun e s' => R (.error e) s') s₂) (notedBy (model prog w) A env fun e s' => R (.error e) s') { s₀ with heap := h₁, toks := tk₁ })
    (done : ∀ s₀ h₁ tk₁, J n s₀ → (∀ b o, b ∉ wr → s₀.heap.get? b = some o → h₁.get? b = some o) →
      wpAny (model prog w) A (execs orelse env) (fun f s₃ => R (.ok f) s₃) (notedBy (model prog w) A env fun e s' => R (.error e) s') { s₀ with heap := h₁, toks := tk₁ }) :
    codeAny (model prog w) A (.forLoop target (.ref I) body orelse env) R s := by
  refine codeAny_forLoop_any (fun k s' => ∃ i, i ≤ n ∧ k = n + 1 - i ∧ J i s' ∧ St i s'.heap) ?_ (n + 1) ⟨0, Nat.zero_le _, rfl, hJ, hst⟩
  rintro k s' ⟨i, hi, rfl, hJ', hst'⟩
  by_cases hlt : i < n
  · refine Wk.item i _ _ _ hlt hst' fun v h₁ tk₁ hMd hk₁ => ?_
    refine Wk.go i v _ _ _ hMd fun h₂ hP hst₂ hk₂ => ?_
    refine wpAny_mono (turn i v s' h₂ tk₁ hlt hP hJ' hst' hst₂ fun b o hb x => hk₂ b o hb (hk₁ b o hb x)) (fun _ s₂ h₂ => wpAny_mono h₂ (fun f s₃ h₃ => ?_) fun _ _ e => e) fun _ _ e => e
    cases f with
    | next => exact ⟨n + 1 - (i + 1), by omega, i + 1, hlt, rfl, h₃⟩
    | cont => exact ⟨n + 1 - (i + 1), by omega, i + 1, hlt, rfl, h₃⟩
    | brk => exact h₃
    | ret v => exact h₃
  · have hin : i = n := by omega
    subst hin
    exact Wk.done _ _ _ hst' fun h₁ tk₁ hk₁ => done s' h₁ tk₁ hJ' hk₁

/-- what a turn leaves -/
def LeftU (g : Heap) (L : Addr) (J : (Str → Option Value) → List (Addr × Obj) → Prop) (own : Addr × Obj) (s s₃ : Shared) : Prop :=
  ∃ h' tk' m₂ news₂, s₃ = { s with heap := h', toks := tk' } ∧ Fr g L h' m₂ ∧ News g L h' (own :: news₂) ∧ (∀ p ∈ news₂, p.1 ≠ own.1) ∧ J m₂ news₂

theorem news_keep {g h h' : Heap} {L : Addr} {wr : List Addr} {news : List (Addr × Obj)} (N : News g L h news) (hn : ∀ p ∈ news, p.1 ∉ wr) (hk : ∀ b o, b ∉ wr → h.get? b = some o → h'.get? b = some o) : News g L h' news :=
  fun p hp => ⟨hk _ _ (hn p hp) (N p hp).1, (N p hp).2⟩
theorem fr_keep {g h h' : Heap} {L : Addr} {wr : List Addr} {m : Str → Option Value} (F : Fr g L h m) (hL : L ∉ wr) (hg : ∀ b ∈ wr, g.get? b = none) (hk : ∀ b o, b ∉ wr → h.get? b = some o → h'.get? b = some o) : Fr g L h' m :=
  ⟨F.ns.at' fun o e => hk _ o hL e, fun b o e => hk b o (fun hb => by rw [hg b hb] at e; cases e) (F.keep b o e), F.above⟩
theorem fr_lt {g h : Heap} {L : Addr} {m : Str → Option Value} (F : Fr g L h m) : L < h.objs.size := F.ns.lt
theorem fr_new {g h : Heap} {L : Addr} {m : Str → Option Value} (F : Fr g L h m) : g.get? h.objs.size = none := by
  cases q : g.get? h.objs.size with
  | none => rfl
  | some o => exact absurd (Heap.lt_size (F.keep _ _ q)) (Nat.lt_irrefl _)

theorem for_list {l : Addr} {items : List Value} {m : Str → Option Value} {news : List (Addr × Obj)} (J : Nat → (Str → Option Value) → List (Addr × Obj) → Prop)
    (hh : A.handled = none) (F : Fr g env.locals s.heap m) (N : News g env.locals s.heap news) (hl : s.heap.IsList l items.toArray)
    (hin : ∀ i m₁ news₁ h, J i m₁ news₁ → Fr g env.locals h m₁ → News g env.locals h news₁ → h.IsList l items.toArray) (hj : J 0 m news)
    (turn : ∀ i v m₁ news₁ h tk own, items[i]? = some v → J i m₁ news₁ → Fr g env.locals h m₁ → News g env.locals h (own :: news₁) → (∀ p ∈ news₁, p.1 ≠ own.1) →
      wpAny (model prog w) A (assign target env v) (fun _ s₂ => wpAny (model prog w) A (execs body env) (fun f s₃ => match f with
          | .next | .cont => LeftU g env.locals (J (i + 1)) own s s₃
          | .brk => R (.ok .next) s₃
          | .ret v => R (.ok (.ret v)) s₃) (notedBy (model prog w) A env fun e s' => R (.error e) s') s₂) (notedBy (model prog w) A env fun e s' => R (.error e) s') { s with heap := h, toks := tk })
    (done : ∀ m₁ news₁ h tk, J items.length m₁ news₁ → Fr g env.locals h m₁ → News g env.locals h news₁ →
      wpAny (model prog w) A (execs orelse env) (fun f s₃ => R (.ok f) s₃) (notedBy (model prog w) A env fun e s' => R (.error e) s') { s with heap := h, toks := tk }) :
    wpAny (model prog w) A (pyIter (.ref l)) (fun it s₂ => codeAny (model prog w) A (.forLoop target it body orelse env) R s₂) E s := by
  obtain ⟨ol, hol, _⟩ := id hl
  have hne : l ≠ s.heap.objs.size := Nat.ne_of_lt (Heap.lt_size hol)
  refine wpAny_pyIter_list hl ?_
  have Wk := KTurns.ofWalks (target := target) (Walks.list (prog := prog) (w := w) hh s.heap.objs.size l hne items.toArray) (fun i v s Q E st hQ => go_listiter st.1 hQ)
  have gn := fr_new F
  have LI : env.locals ≠ s.heap.objs.size := Nat.ne_of_lt (fr_lt F)
  refine for_raw Wk (fun i s' => ∃ h' tk' m₁ news₁, s' = { s with heap := h', toks := tk' } ∧ Fr g env.locals h' m₁ ∧ News g env.locals h' news₁ ∧ (∀ p ∈ news₁, p.1 ≠ s.heap.objs.size) ∧ J i m₁ news₁)
    ⟨⟨_, Heap.get?_push_size _ rfl, rfl, rfl⟩, hl.at fun o e => Heap.get?_push_of_some _ e⟩ ⟨_, s.toks, m, news, rfl, F.push _, (fun p hp => ⟨Heap.get?_push_of_some _ (N p hp).1, (N p hp).2⟩), (fun p hp e => absurd (Heap.lt_size (N p hp).1) (by rw [e]; exact Nat.lt_irrefl _)), hj⟩ ?_ ?_
  · rintro i v s₀ h₁ tk₁ hi hP ⟨h', tk', m₁, news₁, rfl, F₁, N₁, hn₁, hJ₁⟩ _ hst₁ hk₁
    have F₂ := fr_keep F₁ (wr := [s.heap.objs.size]) (by simpa using LI) (fun b hb => by rw [List.mem_singleton.mp hb]; exact gn) hk₁
    have N₂ := news_keep N₁ (wr := [s.heap.objs.size]) (fun p hp => by simpa using hn₁ p hp) hk₁
    obtain ⟨io, hio, hic, hid⟩ := hst₁.1
    have N₃ : News g env.locals h₁ ((s.heap.objs.size, io) :: news₁) := fun p hp => by
      rcases List.mem_cons.mp hp with rfl | hp
      · exact ⟨hio, Ne.symm LI, gn⟩
      · exact N₂ p hp
    refine wpAny_mono (turn i v m₁ news₁ h₁ tk₁ (s.heap.objs.size, io) (by simpa using hP) hJ₁ F₂ N₃ hn₁) (fun _ s₂ h₂ => wpAny_mono h₂ (fun f s₃ h₃ => ?_) fun _ _ e => e) fun _ _ e => e
    have fin : LeftU g env.locals (J (i + 1)) (s.heap.objs.size, io) s s₃ → (∃ h' tk' m₁ news₁, s₃ = { s with heap := h', toks := tk' } ∧ Fr g env.locals h' m₁ ∧ News g env.locals h' news₁ ∧ (∀ p ∈ news₁, p.1 ≠ s.heap.objs.size) ∧ J (i + 1) m₁ news₁) ∧ s₃.heap.IsListIter s.heap.objs.size l (i + 1) ∧ s₃.heap.IsList l items.toArray := by
      rintro ⟨h', tk', m₂, news₂, rfl, F₃, N₃, hn₃, hJ₃⟩
      have N₄ : News g env.locals h' news₂ := fun p hp => N₃ p (.tail _ hp)
      exact ⟨⟨h', tk', m₂, news₂, rfl, F₃, N₄, hn₃, hJ₃⟩, ⟨io, (N₃ _ (.head _)).1, hic, hid⟩, hin _ _ _ _ hJ₃ F₃ N₄⟩
    cases f with
    | next => exact fin h₃
    | cont => exact fin h₃
    | brk => exact h₃
    | ret v => exact h₃
  · rintro s₀ h₁ tk₁ ⟨h', tk', m₁, news₁, rfl, F₁, N₁, hn₁, hJ₁⟩ hk₁
    have F₂ := fr_keep F₁ (wr := [s.heap.objs.size]) (by simpa using LI) (fun b hb => by rw [List.mem_singleton.mp hb]; exact gn) hk₁
    have N₂ := news_keep N₁ (wr := [s.heap.objs.size]) (fun p hp => by simpa using hn₁ p hp) hk₁
    exact done m₁ news₁ h₁ tk₁ (by simpa using hJ₁) F₂ N₂
theorem go_rangeiter {I : Addr} {a c n : Int} {v : Value} {Q : Unit → Shared → Prop} (hit : IsRangeIter s.heap I a n c) (hv : ∃ i t, v = .int i t) (hQ : Q () s) : wpAny (model prog w) A (letOwnedTupleGo target (.ref I) v) Q E s := by
  obtain ⟨i, t, rfl⟩ := hv
  unfold letOwnedTupleGo
  split <;> exact wpAny_pure hQ

theorem for_range {r : Addr} {a b : Int} {t u v : Tok} {n : Nat} {m : Str → Option Value} {news : List (Addr × Obj)} (J : Nat → (Str → Option Value) → List (Addr × Obj) → Prop)
    (hh : A.handled = none) (F : Fr g env.locals s.heap m) (N : News g env.locals s.heap news) (hr : IsRange s.heap r a b 1 t u v) (hsm : Builtin.Range.small a b 1 = true) (hn : Builtin.Range.rangeSize a b 1 = ((n : Nat) : Int)) (hj : J 0 m news)
    (turn : ∀ i tv m₁ news₁ h tk own, i < n → J i m₁ news₁ → Fr g env.locals h m₁ → News g env.locals h (own :: news₁) → (∀ p ∈ news₁, p.1 ≠ own.1) →
      wpAny (model prog w) A (assign target env (.int (a + (i : Int)) tv)) (fun _ s₂ => wpAny (model prog w) A (execs body env) (fun f s₃ => match f with
          | .next | .cont => LeftU g env.locals (J (i + 1)) own s s₃
          | .brk => R (.ok .next) s₃
          | .ret v => R (.ok (.ret v)) s₃) (notedBy (model prog w) A env fun e s' => R (.error e) s') s₂) (notedBy (model prog w) A env fun e s' => R (.error e) s') { s with heap := h, toks := tk })
    (done : ∀ m₁ news₁ h tk, J n m₁ news₁ → Fr g env.locals h m₁ → News g env.locals h news₁ →
      wpAny (model prog w) A (execs orelse env) (fun f s₃ => R (.ok f) s₃) (notedBy (model prog w) A env fun e s' => R (.error e) s') { s with heap := h, toks := tk }) :
    wpAny (model prog w) A (pyIter (.ref r)) (fun it s₂ => codeAny (model prog w) A (.forLoop target it body orelse env) R s₂) E s := by
  refine wpAny_pyIter_range hr hsm ?_
  have W₁ := LCg.range_walks (prog := prog) (w := w) (I := s.heap.objs.size) hh a n
  have gn := fr_new F
  have LI : env.locals ≠ s.heap.objs.size := Nat.ne_of_lt (fr_lt F)
  have Wk : KTurns prog w A target s.heap.objs.size [s.heap.objs.size] [s.heap.objs.size] n (fun i v _ => ∃ t, v = .int (a + (i : Int)) t) (fun i v h => (∃ t, v = .int (a + (i : Int)) t) ∧ IsRangeIter h s.heap.objs.size (a + ((i + 1 : Nat) : Int) * 1) ((n : Int) - ((i + 1 : Nat) : Int)) 1) (fun i h => IsRangeIter h s.heap.objs.size (a + (i : Nat) * 1) ((n : Int) - (i : Nat)) 1) :=
    { sub := W₁.sub, frame := W₁.frame, done := W₁.done
      item := fun i s Q E hi st hQ => W₁.item i s Q E hi st fun v h' tk hP st' hk => hQ v h' tk ⟨hP, st'⟩ hk
      go := fun i v s Q E hm hQ => go_rangeiter hm.2 (by obtain ⟨t, rfl⟩ := hm.1; exact ⟨_, _, rfl⟩) (hQ s.heap hm.1 hm.2 fun _ _ _ e => e) }
  refine for_raw Wk (fun i s' => ∃ h' tk' m₁ news₁, s' = { s with heap := h', toks := tk' } ∧ Fr g env.locals h' m₁ ∧ News g env.locals h' news₁ ∧ (∀ p ∈ news₁, p.1 ≠ s.heap.objs.size) ∧ J i m₁ news₁)
    (by show IsRangeIter _ _ _ _ _; rw [hn]; simpa using Heap.get?_push_size _ rfl) ⟨_, s.toks, m, news, rfl, F.push _, (fun p hp => ⟨Heap.get?_push_of_some _ (N p hp).1, (N p hp).2⟩), (fun p hp e => absurd (Heap.lt_size (N p hp).1) (by rw [e]; exact Nat.lt_irrefl _)), hj⟩ ?_ ?_
  · rintro i v s₀ h₁ tk₁ hi ⟨tv, rfl⟩ ⟨h', tk', m₁, news₁, rfl, F₁, N₁, hn₁, hJ₁⟩ _ hst₁ hk₁
    have F₂ := fr_keep F₁ (wr := [s.heap.objs.size]) (by simpa using LI) (fun b hb => by rw [List.mem_singleton.mp hb]; exact gn) hk₁
    have N₂ := news_keep N₁ (wr := [s.heap.objs.size]) (fun p hp => by simpa using hn₁ p hp) hk₁
    have hio : h₁.get? s.heap.objs.size = some _ := hst₁
    have N₃ : News g env.locals h₁ ((s.heap.objs.size, _) :: news₁) := fun p hp => by
      rcases List.mem_cons.mp hp with rfl | hp
      · exact ⟨hio, Ne.symm LI, gn⟩
      · exact N₂ p hp
    refine wpAny_mono (turn i tv m₁ news₁ h₁ tk₁ (s.heap.objs.size, _) hi hJ₁ F₂ N₃ hn₁) (fun _ s₂ h₂ => wpAny_mono h₂ (fun f s₃ h₃ => ?_) fun _ _ e => e) fun _ _ e => e
    cases f with
    | brk => exact h₃
    | ret v => exact h₃
    | next =>
      obtain ⟨h', tk', m₂, news₂, rfl, F₃, N₃, hn₃, hJ₃⟩ := h₃
      exact ⟨⟨h', tk', m₂, news₂, rfl, F₃, fun p hp => N₃ p (.tail _ hp), hn₃, hJ₃⟩, (N₃ _ (.head _)).1⟩
    | cont =>
      obtain ⟨h', tk', m₂, news₂, rfl, F₃, N₃, hn₃, hJ₃⟩ := h₃
      exact ⟨⟨h', tk', m₂, news₂, rfl, F₃, fun p hp => N₃ p (.tail _ hp), hn₃, hJ₃⟩, (N₃ _ (.head _)).1⟩
  · rintro s₀ h₁ tk₁ ⟨h', tk', m₁, news₁, rfl, F₁, N₁, hn₁, hJ₁⟩ hk₁
    have F₂ := fr_keep F₁ (wr := [s.heap.objs.size]) (by simpa using LI) (fun b hb => by rw [List.mem_singleton.mp hb]; exact gn) hk₁
    have N₂ := news_keep N₁ (wr := [s.heap.objs.size]) (fun p hp => by simpa using hn₁ p hp) hk₁
    exact done m₁ news₁ h₁ tk₁ hJ₁ F₂ N₂
end
end Mine
end

section
open PySem PySem.W PyProof.Rows PySem.Calls PySem.Builtin.Str
set_option Elab.async false
set_option maxRecDepth 100000
set_option maxHeartbeats 0
namespace Mine
def nm : Nat → Str
  | 0 => Str.ofString "gr"
  | 1 => Str.ofString "gw"
  | 2 => Str.ofString "gx"
  | 3 => Str.ofString "or"
  | 4 => Str.ofString "ow"
  | _ => Str.ofString "ox"
def lt : Nat → Str
  | 0 => Str.ofString "a"
  | 1 => Str.ofString "b"
  | 2 => Str.ofString "c"
  | 3 => Str.ofString "d"
  | 4 => Str.ofString "e"
  | _ => Str.ofString "f"
theorem six {P : Nat → Prop} (h0 : P 0) (h1 : P 1) (h2 : P 2) (h3 : P 3) (h4 : P 4) (h5 : P 5) : ∀ n, n < 6 → P n := by
  intro n hn
  match n, hn with
  | 0, _ => exact h0
  | 1, _ => exact h1
  | 2, _ => exact h2
  | 3, _ => exact h3
  | 4, _ => exact h4
  | 5, _ => exact h5
theorem nm_lower : ∀ n, n < 6 → Txt.lower (nm n) = nm n := six (by decide +kernel) (by decide +kernel) (by decide +kernel) (by decide +kernel) (by decide +kernel) (by decide +kernel)
theorem nm_upper_lower : ∀ n, n < 6 → Txt.lower (Txt.upper (nm n)) = nm n := six (by decide +kernel) (by decide +kernel) (by decide +kernel) (by decide +kernel) (by decide +kernel) (by decide +kernel)
theorem nm_ok : ∀ n, n < 6 → okText codeN (nm n) = true := six (by decide +kernel) (by decide +kernel) (by decide +kernel) (by decide +kernel) (by decide +kernel) (by decide +kernel)
theorem lt_ok : ∀ n, n < 6 → okText codeV (lt n) = true := six (by decide +kernel) (by decide +kernel) (by decide +kernel) (by decide +kernel) (by decide +kernel) (by decide +kernel)
theorem nm_len : ∀ n, n < 6 → (nm n).length = 2 := six (by decide +kernel) (by decide +kernel) (by decide +kernel) (by decide +kernel) (by decide +kernel) (by decide +kernel)
theorem nm_inj : ∀ n, n < 6 → ∀ k, k < 6 → nm n = nm k → n = k := by
  refine six ?_ ?_ ?_ ?_ ?_ ?_
  all_goals (refine six ?_ ?_ ?_ ?_ ?_ ?_ <;> first | (intro _; rfl) | (intro h; exact absurd h (by decide +kernel)))
/-- an entry of the table: the pair's address, place, file, and the two texts' tokens -/
structure Ent where
  a : Addr
  p : Nat
  f : Nat
  tp : Tok
  tf : Tok
abbrev pairObj (x y : Value) : Obj := { cls := .type "tuple", data := .seq #[x, y] }
abbrev Ent.obj (e : Ent) : Obj := pairObj (.str (nm e.p) e.tp) (.str (lt e.f) e.tf)
def refs (tbl : List Ent) : List Value := tbl.map fun e => .ref e.a
structure TabAt (h : Heap) (tb td hl : Addr) (tbl : List Ent) : Prop where
  inst : h.get? tb = some (instObj 218 td)
  dict : ∃ kh tk nd, h.get? td = some (dictOf [⟨kh, .str (Str.ofString "_headers") tk, .ref hl⟩] nd)
  list : ∃ nl, h.get? hl = some (listOf (refs tbl).toArray nl)
  ents : ∀ e ∈ tbl, h.get? e.a = some e.obj ∧ e.p < 6 ∧ e.f < 6
def ents (tbl : List Ent) : List (Addr × Obj) := tbl.map fun e => (e.a, e.obj)
abbrev tabW (tb td hl : Addr) (kh : Int) (tk0 : Tok) (nd nl : Nat) (tbl : List Ent) : List (Addr × Obj) :=
  (tb, instObj 218 td) :: (td, dictOf [⟨kh, .str (Str.ofString "_headers") tk0, .ref hl⟩] nd) :: (hl, listOf (refs tbl).toArray nl) :: ents tbl
structure TabNew (hT : Heap) (tb td hl : Addr) (tbl : List Ent) : Prop where
  inst : hT.get? tb = none
  dict : hT.get? td = none
  list : hT.get? hl = none
  ents : ∀ e ∈ tbl, hT.get? e.a = none
theorem TabAt.all {h hT : Heap} {tb td hl : Addr} {tbl : List Ent} (x : TabAt h tb td hl tbl) (n : TabNew hT tb td hl tbl) : ∃ kh tk0 nd nl, ∀ p ∈ tabW tb td hl kh tk0 nd nl tbl, h.get? p.1 = some p.2 ∧ hT.get? p.1 = none := by
  obtain ⟨hI, ⟨kh, tk0, nd, hD⟩, ⟨nl, hL⟩, hE⟩ := x
  refine ⟨kh, tk0, nd, nl, fun p hp => ?_⟩
  simp only [tabW, Mine.ents, List.mem_cons, List.mem_map] at hp
  rcases hp with rfl | rfl | rfl | ⟨e, he, rfl⟩
  · exact ⟨hI, n.inst⟩
  · exact ⟨hD, n.dict⟩
  · exact ⟨hL, n.list⟩
  · exact ⟨(hE e he).1, n.ents e he⟩
theorem ents_mem {tbl : List Ent} {e : Ent} (h : e ∈ tbl) : (e.a, e.obj) ∈ ents tbl := List.mem_map.mpr ⟨e, h, rfl⟩
theorem refs_get {tbl : List Ent} {i : Nat} {v : Value} (h : (refs tbl)[i]? = some v) : ∃ e, tbl[i]? = some e ∧ e ∈ tbl ∧ v = .ref e.a := by
  simp only [refs, List.getElem?_map, Option.map_eq_some_iff] at h
  obtain ⟨e, he, rfl⟩ := h
  exact ⟨e, he, List.mem_of_getElem? he, rfl⟩
theorem TabAt.keeps {h h' : Heap} {tb td hl : Addr} {tbl : List Ent} (x : TabAt h tb td hl tbl) (hk : ∀ b o, h.get? b = some o → h'.get? b = some o) : TabAt h' tb td hl tbl :=
  ⟨hk _ _ x.inst, let ⟨a, b, c, d⟩ := x.dict; ⟨a, b, c, hk _ _ d⟩, let ⟨a, b⟩ := x.list; ⟨a, hk _ _ b⟩, fun e he => ⟨hk _ _ (x.ents e he).1, (x.ents e he).2⟩⟩
theorem fr_all {g h h' : Heap} {L : Addr} {m : Str → Option Value} (F : Fr g L h m) (hk : ∀ b o, h.get? b = some o → h'.get? b = some o) : Fr g L h' m :=
  ⟨F.ns.at' fun o e => hk _ o e, fun b o e => hk b o (F.keep b o e), F.above⟩
theorem news_all {g h h' : Heap} {L : Addr} {news : List (Addr × Obj)} (N : News g L h news) (hk : ∀ b o, h.get? b = some o → h'.get? b = some o) : News g L h' news :=
  fun p hp => ⟨hk _ _ (N p hp).1, (N p hp).2⟩
theorem news_sub {g h : Heap} {L : Addr} {news news' : List (Addr × Obj)} (N : News g L h news) (hs : ∀ p ∈ news', p ∈ news) : News g L h news' := fun p hp => N p (hs p hp)
/-- all of the first heap is kept, but the ledger's objects: those by the ledger -/
theorem keep_back {s₀ g h : Heap} {L : Addr} {m : Str → Option Value} {W : List (Addr × Obj)} (hg : ∀ b o, s₀.get? b = some o → b ∉ W.map (·.1) → g.get? b = some o) (hW : ∀ p ∈ W, s₀.get? p.1 = some p.2) (F : Fr g L h m) (N : News g L h W) :
    ∀ b o, s₀.get? b = some o → h.get? b = some o := by
  intro b o e
  by_cases hb : b ∈ W.map (·.1)
  · obtain ⟨p, hp, rfl⟩ := List.mem_map.mp hb
    rw [hW p hp] at e
    cases e
    exact (N p hp).1
  · exact F.keep b o (hg b o e hb)
theorem lower_nm {prog : Program} {w : World} {A : Around} {E : Value → Shared → Prop} {s : Shared} {x : Str} {t : Tok} {n : Nat} {Q : Value → Shared → Prop} (hx : Txt.lower x = nm n) (hn : n < 6) (h : Q (.str (nm n) s.toks) { s with toks := s.toks + 1 }) :
    wpAny (model prog w) A (call (.builtin "str.lower") [.str x t]) Q E s :=
  SC.lower (by rw [hx, nm_len n hn]; decide) (by rw [hx]; exact h)
theorem assign_pair {prog : Program} {w : World} {A : Around} {E : Value → Shared → Prop} {s : Shared} {env : Env} {g : Heap} {a b : Str} {pa pb tp : Pos} {kk : Nat} {T : Addr} {x y : Value} {m : Str → Option Value} {news : List (Addr × Obj)} {Q : Unit → Shared → Prop} (hh : A.handled = none) (ht : s.heap.IsTuple T #[x, y])
    (F : Fr g env.locals s.heap m) (N : News g env.locals s.heap news)
    (h : ∀ (h' : Heap) (tk : Nat), Fr g env.locals h' (fun z => if z = b then some y else if z = a then some x else m z) → News g env.locals h' news → Q () { s with heap := h', toks := tk })
    (ha : env.kindOf a = some .local) (hb : env.kindOf b = some .local) (hp : (env.scope.kind == .class || (env.scope.kind == .module && env.locals != env.globals)) = false) :
    wpAny (model prog w) A (assign (.Tuple [.Name a pa, .Name b pb] kk tp) env (.ref T)) Q E s :=
  kcp_assign hh ht ha hb hp F.ns fun h' tk hn hk => h h' tk ⟨hn, fun c o e => hk c o (Nat.ne_of_lt (Nat.lt_of_lt_of_le (Heap.lt_size e) F.above)) (F.keep c o e), F.above⟩ fun p hp => ⟨hk _ _ (N p hp).2.1 (N p hp).1, (N p hp).2⟩
theorem ex_map1 {m : Str → Option Value} {a : Str} {va : Value} (ha : m a = some va) : ∃ u : Str → Option Value, m = fun z => if z = a then some va else u z :=
  ⟨m, by funext z; by_cases h1 : z = a <;> simp [h1, ha]⟩
theorem ex_map2 {m : Str → Option Value} {a b : Str} {va vb : Value} (ha : m a = some va) (hb : m b = some vb) : ∃ u : Str → Option Value, m = fun z => if z = a then some va else if z = b then some vb else u z :=
  ⟨m, by funext z; by_cases h1 : z = a <;> by_cases h2 : z = b <;> simp_all⟩
theorem find_split {α : Type} {p : α → Bool} : ∀ {l : List α} {i : Nat} {e : α}, l[i]? = some e → p e = true → (∀ j e', j < i → l[j]? = some e' → p e' = false) → l.find? p = some e
  | [], _, _, h, _, _ => by simp at h
  | x :: l, 0, e, h, hp, _ => by
    have : x = e := by simpa using h
    subst this
    simp [List.find?, hp]
  | x :: l, i + 1, e, h, hp, hj => by
    have hx : p x = false := hj 0 x (Nat.succ_pos _) (by simp)
    rw [List.find?_cons_of_neg (by simp [hx])]
    exact find_split (i := i) (by simpa using h) hp fun j e' hlt he => hj (j + 1) e' (Nat.succ_lt_succ hlt) (by simpa using he)
theorem find_none {α : Type} {p : α → Bool} {l : List α} (h : ∀ j e', j < l.length → l[j]? = some e' → p e' = false) : l.find? p = none := by
  rw [List.find?_eq_none]
  intro x hx
  obtain ⟨j, hj⟩ := List.getElem?_of_mem hx
  have := h j x (List.getElem?_eq_some_iff.mp hj).1 hj
  simp [this]
theorem filt_step {α : Type} {f : α → Bool} {l : List α} {i : Nat} {e : α} (he : l[i]? = some e) : (l.take (i + 1)).filter f = (l.take i).filter f ++ (if f e then [e] else []) := by
  rw [List.take_add_one, he, List.filter_append]
  cases h : f e <;> simp [h]
theorem refs_append (a b : List Ent) : refs (a ++ b) = refs a ++ refs b := List.map_append
theorem nm_beq {n k : Nat} (hn : n < 6) (hk : k < 6) : (nm n == nm k) = (n == k) := by
  cases h : (n == k) with
  | true => rw [beq_iff_eq.mp h]; exact beq_self_eq_true _
  | false =>
    cases q : (nm n == nm k) with
    | false => rfl
    | true => rw [nm_inj n hn k hk (eq_of_beq q)] at h; simp at h
theorem nm_bne {n k : Nat} (hn : n < 6) (hk : k < 6) : (nm n != nm k) = (n != k) := by
  show (!(nm n == nm k)) = (!(n == k))
  rw [nm_beq hn hk]
end Mine
end

section
theorem Mine.reset2 : True := by
  w_top off
  exact True.intro
open PySem PySem.W PyProof.Rows PySem.Calls PySem.Builtin.Str
set_option Elab.async false
set_option maxRecDepth 100000
set_option maxHeartbeats 0
namespace Mine
local macro_rules | `(tactic| walk_at "mine enter") => `(tactic| ((case ho => k_is); (case hcd => k_is); (case hbind => first | exact BindsTo.of_eq rfl | exact kp_binds (Frag.In.keeps (by assumption) (by assumption)) (fun _ => rfl)); (case hloc => exact locs rfl); (case hcell => decide); (case c2 => exact rfl); (case c3 => exact rfl); (case c4 => exact rfl)))
local macro_rules | `(tactic| walk_at "call ref") => `(tactic| (k_here; (with_reducible show wpAny _ _ (call (Value.ref 117) _ _) _ _ _); k_dflt (refine' conv (b := true) ?k1 ?k2 (Fr.keep ?k3) ?k4 ?k5 ?k6 ?_; (case k1 => k_asm); (case k2 => k_asm); (case k3 => k_asm); (case k4 => first | assumption | exact hroom); (case k5 => exact fun _ => nm_ok _ (by assumption)); (case k6 => exact fun e => nomatch e); k_whole); intro h' tk' hk'; have F' := fr_all (by assumption) hk'; have N' := news_all (by assumption) hk'))
local macro_rules | `(tactic| walk_at "call builtin:str.lower") => `(tactic| (refine lower_nm (by assumption) (by assumption) ?_))
theorem get_spec {loose : List Str} {mean : ExcName → Option Value} {mg mb : Str → Option Value} {hT : Heap} {w : World} {A : Around} {s : Shared} {Q E : Value → Shared → Prop} {tb td hl : Addr} {tbl : List Ent} {y : Str} {t : Tok} {q : Nat}
    (X : (hd.heap_39 w.params).In hT) (T : Top hd.view_39 loose mean mg mb hT) (st : ∀ b o, hT.get? b = some o → s.heap.get? b = some o) (hroom : A.depth + 1 < recursionLimit) (hh : A.handled = none)
    (tab : TabAt s.heap tb td hl tbl) (htb : hT.get? tb = none) (htd : hT.get? td = none) (hhl : hT.get? hl = none)
    (hy : Txt.lower y = nm q) (hq : q < 6)
    (hret : ∀ h' tk', (∀ b o, s.heap.get? b = some o → h'.get? b = some o) → Q (match tbl.find? (fun e => e.p == q) with | some e => .str (lt e.f) e.tf | none => .none) { s with heap := h', toks := tk' }) :
    wpAny (model PySem.Challenge.rw_pe0235_01.row.prog w) A (call (.ref 165) [.ref tb, .str y t]) Q E s := by
  revert X
  k_fill
  intro X
  obtain ⟨hI, ⟨kh, tk0, nd, hD⟩, ⟨nl, hL⟩, hE⟩ := tab
  have hW : ∀ p ∈ [(tb, instObj 218 td), (td, dictOf [⟨kh, .str (Str.ofString "_headers") tk0, .ref hl⟩] nd), (hl, listOf (refs tbl).toArray nl)], s.heap.get? p.1 = some p.2 ∧ hT.get? p.1 = none := by
    intro p hp
    simp only [List.mem_cons, List.not_mem_nil, or_false] at hp
    rcases hp with rfl | rfl | rfl
    · exact ⟨hI, htb⟩
    · exact ⟨hD, htd⟩
    · exact ⟨hL, hhl⟩
  refine wpAny_call ?_
  refine' raw_call (binds := [(Str.ofString "self", .ref tb), (Str.ofString "name", .str y t), (Str.ofString "default", .none)]) [(tb, instObj 218 td), (td, dictOf [⟨kh, .str (Str.ofString "_headers") tk0, .ref hl⟩] nd), (hl, listOf (refs tbl).toArray nl)] X T st hW ?ho ?hcd (by omega) ?hbind ?hloc ?_ ?hcell ?c2 ?c3 ?c4
  walk_at "mine enter"
  intro g L' h' hg F' N' X' T' tg hlt
  clear X T
  k_steps
  refine wpAny_For ?_
  k_steps
  dsimp only
  have hbase : ∀ e ∈ tbl, g.get? e.a = some e.obj := fun e he => hg _ _ (hE e he).1 (by
    have := (hE e he).1
    simp only [List.map_cons, List.map_nil, List.mem_cons, List.not_mem_nil, or_false, not_or]
    refine ⟨fun q => ?_, fun q => ?_, fun q => ?_⟩
    · rw [q, hI] at this; simp at this
    · rw [q, hD] at this; simp at this
    · rw [q, hL] at this; simp at this)
  rename_i tkn _ _ _ _ _ _
  refine for_list (items := refs tbl) (fun i m₁ news₁ => news₁ = [(tb, instObj 218 td), (td, dictOf [⟨kh, .str (Str.ofString "_headers") tk0, .ref hl⟩] nd), (hl, listOf (refs tbl).toArray nl)] ∧
      (∃ u : Str → Option Value, m₁ = fun z => if z = Str.ofString "name" then some (.str (nm q) tkn) else if z = Str.ofString "default" then some .none else u z) ∧ ∀ j e, j < i → tbl[j]? = some e → (e.p == q) = false)
    hh (by assumption) (by assumption) ⟨listOf (refs tbl).toArray nl, (‹News _ _ _ _› (hl, listOf (refs tbl).toArray nl) (by k_mem)).1, rfl, _, rfl⟩ ?_ ?_ ?_ ?_
  · rintro i m₁ news₁ h ⟨rfl, _, _⟩ _ N
    exact ⟨_, (N (hl, listOf (refs tbl).toArray nl) (by k_mem)).1, rfl, _, rfl⟩
  · exact ⟨rfl, ex_map2 rfl rfl, fun j e h => absurd h (Nat.not_lt_zero _)⟩
  · rintro i v m₁ news₁ h tk own hv ⟨rfl, ⟨u, rfl⟩, hno⟩ F₁ N₁ hown
    have hv' : ∃ e, tbl[i]? = some e ∧ v = .ref e.a := by
      simp only [refs, List.getElem?_map, Option.map_eq_some_iff] at hv
      obtain ⟨e, he, rfl⟩ := hv
      exact ⟨e, he, rfl⟩
    obtain ⟨e, he, rfl⟩ := hv'
    have hmem : e ∈ tbl := List.mem_of_getElem? he
    have hep := (hE e hmem).2.1
    have hlow := nm_lower e.p hep
    refine assign_pair hh ⟨_, F₁.keep _ _ (hbase e hmem), rfl, _, rfl⟩ F₁ N₁ (fun h₂ tk₂ F₂ N₂ => ?_) rfl rfl rfl
    k_steps
    · have hb : (nm e.p == nm q) = true := by assumption
      rw [nm_beq hep hq] at hb
      have z : ∀ tk', Q (.str (lt e.f) e.tf) { s with heap := h₂, toks := tk' } := fun tk' => by
        have z := hret h₂ tk' (keep_back hg (fun p hp => (hW p hp).1) F₂ (news_sub N₂ fun p hp => .tail _ hp))
        rw [find_split he hb fun j e' hj hje => hno j e' hj hje] at z
        exact z
      exact z _
    · have hb : (nm e.p == nm q) = false := by assumption
      rw [nm_beq hep hq] at hb
      refine ⟨_, _, _, _, rfl, F₂, N₂, hown, rfl, ex_map2 rfl rfl, fun j e' hj hje => ?_⟩
      rcases Nat.lt_succ_iff_lt_or_eq.mp hj with h | h
      · exact hno j e' h hje
      · subst h; rw [he] at hje; cases hje; exact hb
  · rintro m₁ news₁ h tk ⟨rfl, ⟨u, rfl⟩, hno⟩ F₁ N₁
    k_steps
    have z : ∀ tk', Q .none { s with heap := h, toks := tk' } := fun tk' => by
      have z := hret h tk' (keep_back hg (fun p hp => (hW p hp).1) F₁ N₁)
      rw [find_none fun j e' hj hje => hno j e' (by simpa [refs] using hj) hje] at z
      exact z
    exact z _
end Mine
end

section
open PySem PySem.W PyProof.Rows PySem.Calls
set_option Elab.async false
set_option maxRecDepth 100000
set_option maxHeartbeats 0
namespace Mine
theorem raw_callC {prog : Program} {K : Frag} {p : Program} {loose : List Str} {mean : ExcName → Option Value} {mg mb : Str → Option Value} {hT : Heap} {w : World} {A : Around} {s : Shared} {R : Result → Shared → Prop} {name qual : Str} {params : Arguments} {body : List Stmt} {scope : Scope} {dV kV doc pm cdv ct oc : Value} {an od : Option Addr} {osl : Array (Option Value)} {f : Addr} {args : Args} {binds : List (Str × Value)}
    (W : List (Addr × Obj)) (X : K.In hT) (T : Top p loose mean mg mb hT) (st : ∀ b o, hT.get? b = some o → s.heap.get? b = some o) (hW : ∀ p ∈ W, s.heap.get? p.1 = some p.2 ∧ hT.get? p.1 = none)
    (ho : K.lookup f = some ⟨oc, od, .func (fnOf name qual params body scope dV kV doc pm an cdv ct), osl⟩) (hcd : codeIn K cdv qual = true) (hroom : A.depth < recursionLimit)
    (hbind : BindsTo s (fnOf name qual params body scope dV kV doc pm an cdv ct) args binds) (hkind : (binds.all fun y => scope.names.lookup y.1 == some .local || scope.names.lookup y.1 == some .cell) = true)
    (hnd : ((cellsFrom 0 scope.names []).map (·.1)).Nodup)
    (h : ∀ g L' h₁ tk cells, (∀ b o, s.heap.get? b = some o → b ∉ W.map (·.1) → g.get? b = some o) → Fr g L' h₁ (bindL (envOfC qual scope L' f cdv).kindOf binds fun _ => none) → News g L' h₁ (cells ++ W) →
      CellsAre (bindC (envOfC qual scope L' f cdv).kindOf binds fun _ => none) (cellsFrom (L' + 1) scope.names []) cells → K.In g → Top p loose mean mg mb g → (∀ b o, hT.get? b = some o → g.get? b = some o) → (∀ p ∈ W, p.1 < L') →
      wpAny (model prog w) (A.deeper (envOfC qual scope L' f cdv)) (execs body (envOfC qual scope L' f cdv))
        (fun fl s' => R (.ok (.ret (match fl with | .ret v => v | _ => .none))) s')
        (fun e s' => wpAny (model prog w) (A.deeper (envOfC qual scope L' f cdv)) (leaving (envOfC qual scope L' f cdv) e) (fun _ s'' => R (.error e) s'') (fun e' s'' => R (.error e') s'') s')
        { s with heap := h₁, toks := tk })
    (hco : scope.isCoroutine = false := by rfl) (hgen : scope.isGenerator = false := by rfl) (hk : scope.kind = .function := by rfl) :
    codeAny (model prog w) A (.call (.ref f) args) R s := by
  have XS : K.In s.heap := X.keeps st
  refine codeAny_call_function hroom (XS _ _ ho) rfl hco hgen rfl (codeRec_of XS hcd) (hbind _ _ _ _ ?_)
  refine wpAny_newFunctionEnv_cells hk (kindsX hkind _) fun env' he s' x => ?_
  subst he
  refine ⟨(T.nolimit.keeps st).keeps x.toInCall.keep, codeAny_func ?_⟩
  obtain ⟨h₁, tk, rfl, _⟩ := x.done
  have hk₁ := x.toInCall.keep
  obtain ⟨cells, NC, Y⟩ := Cl.news (h₀ := s.heap) (Nat.le_refl _) fun n c hm => ⟨x.cell n c (lookup_of_mem_nodup (cellsFrom_names scope.names 0 (s.heap.objs.size + 1) [] [] rfl ▸ hnd) hm), x.above n c hm⟩
  have sg : ∀ b o, hT.get? b = some o → (hideAll s.heap (W.map (·.1))).get? b = some o := fun b o e => hideAll_get _ (st b o e) fun q => by
    obtain ⟨p, hp, rfl⟩ := List.mem_map.mp q
    rw [(hW p hp).2] at e; cases e
  refine h (hideAll s.heap (W.map (·.1))) s.heap.objs.size h₁ tk cells (fun b o e n => hideAll_get _ e n) ⟨x.toInCall.ns, fun b o e => hk₁ b o (of_hideAll _ e), Nat.le_of_eq (hideAll_size _ _)⟩ (fun p hp => ?_) Y (X.keeps sg) (T.keeps sg) sg (fun p hp => Heap.lt_size (hW p hp).1)
  rcases List.mem_append.mp hp with hp | hp
  · refine ⟨(NC p hp).1, (NC p hp).2.1, ?_⟩
    cases q : (hideAll s.heap (W.map (·.1))).get? p.1 with
    | none => rfl
    | some o => have := of_hideAll _ q; rw [(NC p hp).2.2] at this; cases this
  · exact ⟨hk₁ _ _ (hW p hp).1, Nat.ne_of_lt (Heap.lt_size (hW p hp).1), hideAll_none _ (List.mem_map_of_mem hp)⟩
end Mine
end

section
open PySem PySem.W PyProof.Rows PySem.Calls
set_option Elab.async false
set_option maxRecDepth 100000
set_option maxHeartbeats 0
namespace Mine
/-- a turn's end within a comprehension -/
def EndK (g : Heap) (L : Addr) (m : Str → Option Value) (s : Shared) (all : List (Addr × Obj)) (P : Prop) (s' : Shared) : Prop :=
  ∃ h' tk', s' = { s with heap := h', toks := tk' } ∧ Fr g L h' m ∧ News g L h' all ∧ P
theorem EndK.intro {g h' : Heap} {L : Addr} {m : Str → Option Value} {s : Shared} {tk' : Nat} {all all' : List (Addr × Obj)} {P : Prop} (F : Fr g L h' m) (N : News g L h' all') (hs : ∀ p ∈ all, p ∈ all') (hP : P) : EndK g L m s all P { s with heap := h', toks := tk' } :=
  ⟨h', tk', rfl, F, fun p hp => N p (hs p hp), hP⟩
section
variable {prog : Program} {w : World} {A : Around} {E : Value → Shared → Prop} {s : Shared} {g : Heap} {L : Addr} {m : Str → Option Value} {env : Env} {elt ct : Expr} {x x₂ : Str} {scope : Scope} {cl : List (Str × Addr)} {S : List (Addr × Obj) → Prop} {P : Nat → Value → Prop} {Fin : List Value → List (Addr × Obj) → Prop} {n : Nat} {W : List (Addr × Obj)}

theorem rest_U (J : Nat → List Value → Prop) (hS : S W)
    (turn : ∀ i v ys I oI C oC D m₂ h tk (E' : Value → Shared → Prop), i < n → J i ys → P i v → LCg.NsObj oC m₂ → m₂ x = some v → Fr g L h m → News g L h ((I, oI) :: (C, oC) :: (D, LCg.lst ys) :: W) → LCg.Off3 I C D W → ((@Ne Nat I C) ∧ (@Ne Nat I D) ∧ (@Ne Nat C D)) →
      wpAny (model prog w) A (eval elt (compEnvC scope cl C env)) (fun y s' => EndK g L m s ((I, oI) :: (C, oC) :: (D, LCg.lst ys) :: W) (J (i + 1) (ys ++ [y])) s') E' { s with heap := h, toks := tk })
    (fin : ∀ ys, J n ys → Fin ys W) (h0 : J 0 []) : LCg.CompRest prog w A g L m env elt x scope cl s S P Fin n 0 [] W := by
  have key : ∀ k i ys, i + k = n → J i ys → LCg.CompRest prog w A g L m env elt x scope cl s S P Fin k i ys W := by
    intro k
    induction k with
    | zero => intro i ys hi hJ; exact LCg.CompRest.zero (fin ys (by rw [← hi]; exact hJ))
    | succ k ih =>
      intro i ys hi hJ
      refine LCg.CompRest.succ fun v I oI C oC D m₂ h tk E' hP hN hm F N off ne => ?_
      refine wpAny_mono (turn i v ys I oI C oC D m₂ h tk E' (by omega) hJ hP hN hm F N off ne) (fun y s' hy => ?_) fun _ _ e => e
      obtain ⟨h', tk', rfl, F', N', hJ'⟩ := hy
      exact ⟨h', tk', W, rfl, F', N', off, hS, ih (i + 1) _ (by omega) hJ'⟩
  exact key n 0 [] (by omega) h0

theorem rest_T (J : Nat → List Value → Prop) (hS : S W)
    (turn : ∀ i v ys I oI C oC D m₂ h tk (E' : Value → Shared → Prop), i < n → J i ys → P i v → LCg.NsObj oC m₂ → m₂ x = some v → Fr g L h m → News g L h ((I, oI) :: (C, oC) :: (D, LCg.lst ys) :: W) → LCg.Off3 I C D W → ((@Ne Nat I C) ∧ (@Ne Nat I D) ∧ (@Ne Nat C D)) →
      wpAny (model prog w) A (isTrue ct (compEnvC scope cl C env) (eval ct (compEnvC scope cl C env))) (fun ok s₁ => if ok = true then
        wpAny (model prog w) A (eval elt (compEnvC scope cl C env)) (fun y s' => EndK g L m s ((I, oI) :: (C, oC) :: (D, LCg.lst ys) :: W) (J (i + 1) (ys ++ [y])) s') E' s₁
        else EndK g L m s ((I, oI) :: (C, oC) :: (D, LCg.lst ys) :: W) (J (i + 1) ys) s₁) E' { s with heap := h, toks := tk })
    (fin : ∀ ys, J n ys → Fin ys W) (h0 : J 0 []) : LCt.CompRestT prog w A g L m env ct elt x scope cl s S P Fin n 0 [] W := by
  have key : ∀ k i ys, i + k = n → J i ys → LCt.CompRestT prog w A g L m env ct elt x scope cl s S P Fin k i ys W := by
    intro k
    induction k with
    | zero => intro i ys hi hJ; exact LCt.CompRestT.zero (fin ys (by rw [← hi]; exact hJ))
    | succ k ih =>
      intro i ys hi hJ
      refine LCt.CompRestT.succ fun v I oI C oC D m₂ h tk E' hP hN hm F N off ne => ?_
      refine wpAny_mono (turn i v ys I oI C oC D m₂ h tk E' (by omega) hJ hP hN hm F N off ne) (fun ok s₁ h₁ => ?_) fun _ _ e => e
      cases ok with
      | true =>
        rw [if_pos rfl] at h₁ ⊢
        refine wpAny_mono h₁ (fun y s' hy => ?_) fun _ _ e => e
        obtain ⟨h', tk', rfl, F', N', hJ'⟩ := hy
        exact ⟨h', tk', W, rfl, F', N', off, hS, ih (i + 1) _ (by omega) hJ'⟩
      | false =>
        rw [if_neg Bool.false_ne_true] at h₁ ⊢
        obtain ⟨h', tk', rfl, F', N', hJ'⟩ := h₁
        exact ⟨h', tk', W, rfl, F', N', off, hS, ih (i + 1) _ (by omega) hJ'⟩
  exact key n 0 [] (by omega) h0

theorem rest_P (J : Nat → List Value → Prop) (hS : S W) (vals : Nat → Value × Value) (hP : ∀ i v, i < n → P i v → ∃ t, v = .ref t ∧ (t, pairObj (vals i).1 (vals i).2) ∈ W)
    (turn : ∀ i ys I oI C oC D m₂ h tk (E' : Value → Shared → Prop), i < n → J i ys → LCg.NsObj oC m₂ → m₂ x = some (vals i).1 → m₂ x₂ = some (vals i).2 → Fr g L h m → News g L h ((I, oI) :: (C, oC) :: (D, LCg.lst ys) :: W) → LCg.Off3 I C D W → ((@Ne Nat I C) ∧ (@Ne Nat I D) ∧ (@Ne Nat C D)) →
      wpAny (model prog w) A (eval elt (compEnvC scope cl C env)) (fun y s' => EndK g L m s ((I, oI) :: (C, oC) :: (D, LCg.lst ys) :: W) (J (i + 1) (ys ++ [y])) s') E' { s with heap := h, toks := tk })
    (fin : ∀ ys, J n ys → Fin ys W) (h0 : J 0 []) : LCp.CompRestP prog w A g L m env elt x x₂ scope cl s S P Fin n 0 [] W := by
  have key : ∀ k i ys, i + k = n → J i ys → LCp.CompRestP prog w A g L m env elt x x₂ scope cl s S P Fin k i ys W := by
    intro k
    induction k with
    | zero => intro i ys hi hJ; exact LCp.CompRestP.zero (fin ys (by rw [← hi]; exact hJ))
    | succ k ih =>
      intro i ys hi hJ
      refine LCp.CompRestP.succ fun v hv => ?_
      obtain ⟨t, rfl, ht⟩ := hP i v (by omega) hv
      refine ⟨t, _, _, _, _, rfl, ht, rfl, rfl, fun I oI C oC D m₂ h tk E' hN hm hm₂ F N off ne => ?_⟩
      refine wpAny_mono (turn i ys I oI C oC D m₂ h tk E' (by omega) hJ hN hm hm₂ F N off ne) (fun y s' hy => ?_) fun _ _ e => e
      obtain ⟨h', tk', rfl, F', N', hJ'⟩ := hy
      exact ⟨h', tk', W, rfl, F', N', off, hS, ih (i + 1) _ (by omega) hJ'⟩
  exact key n 0 [] (by omega) h0
end
end Mine
end

section
open PySem PySem.W PyProof.Rows PySem.Calls
set_option Elab.async false
set_option maxRecDepth 100000
set_option maxHeartbeats 0
namespace Mine
theorem field_of {M : Model} {A : Around} {E : Value → Shared → Prop} {s : Shared} {a : Addr} {o : Obj} {vs : Array Value} {i : Nat} {x : Value} {Q : Value → Shared → Prop} (ho : s.heap.get? a = some o) (hd : o.data = .fields vs) (hx : vs[i]? = some x) (h : Q x s) :
    wpAny M A (field (.ref a) i) Q E s := by
  unfold field fieldsOf
  dsimp only
  refine wpAny_bind (wpAny_bind (wpAny_load ho ?_))
  rw [hd]
  refine wpAny_pure ?_
  rw [hx]
  exact wpAny_pure h
theorem listItems_of {M : Model} {A : Around} {E : Value → Shared → Prop} {s : Shared} {a : Addr} {o : Obj} {items : Array Value} {n : Nat} {Q : Array Value → Shared → Prop} (ho : s.heap.get? a = some o) (hd : o.data = .seq items n) (h : Q items s) :
    wpAny M A (Builtin.List.listItems (.ref a)) Q E s := by
  unfold Builtin.List.listItems
  exact wpAny_bind (m := seqItems? (.ref a)) (wpAny_seqItems ho hd (wpAny_pure h))
theorem setItem_all {prog : Program} {w : World} {A : Around} {E : Value → Shared → Prop} {s : Shared} {l D sl : Addr} {xs ys : Array Value} {n k : Nat} {Q : Unit → Shared → Prop}
    (hl : s.heap.get? l = some (listOf xs n)) (hD : s.heap.get? D = some (listOf ys k)) (hsl : s.heap.get? sl = some { cls := .type "slice", data := .fields #[.none, .none, .none] }) (hne : l ≠ D) (hx : xs.size ≤ 100) (hy : ys.size ≤ 100)
    (hQ : ∀ h', (∃ n', h'.get? l = some (listOf ys n')) → Heap.SameBut l s.heap h' → Q () { s with heap := h' }) :
    wpAny (model prog w) A (setItem (.ref l) (.ref sl) (.ref D)) Q E s := by
  have hT : s.TypeIs (.ref l) "list" := ⟨_, hl, rfl⟩
  have hTD : s.TypeIs (.ref D) "list" := ⟨_, hD, rfl⟩
  have hTs : s.TypeIs (.ref sl) "slice" := ⟨_, hsl, rfl⟩
  unfold setItem
  try with_reducible refine wpAny_holding ?_
  refine wpAny_bind (wpAny_sequenceKey hT (by decide) ?_)
  refine wpAny_bind (wpAny_callSpecial?_slot (name := Str.ofString "__setitem__") hT slot_list_setitem
    (wpAny_call_entry slot_list_setitem hT entry_list_setitem ?_ (args_list_setitem _ _ _)))
  show wpAny _ _ (Builtin.List.listSubscript? (.ref sl) >>= _) _ _ s
  refine wpAny_bind ?_
  unfold Builtin.List.listSubscript?
  refine wpAny_bind (wpAny_specialOf (T := "slice") hTs slice_no_index ?_)
  refine wpAny_pure ?_
  dsimp only
  refine wpAny_bind (wpAny_typeOf hTs ?_)
  rw [if_neg (by decide)]
  refine wpAny_bind ?_
  unfold Builtin.List.listSliceParts
  dsimp only
  refine wpAny_bind (field_of hsl rfl rfl ?_)
  refine wpAny_bind (wpAny_pure ?_)
  rw [if_neg (by decide)]
  refine wpAny_bind (field_of hsl rfl rfl (wpAny_bind (wpAny_pure ?_)))
  refine wpAny_bind (field_of hsl rfl rfl (wpAny_bind (wpAny_pure ?_)))
  refine wpAny_pure ?_
  dsimp only
  have hsr : Builtin.List.listSameRef (.ref l) (.ref D) = false := by
    unfold Builtin.List.listSameRef
    exact beq_eq_false_iff_ne.mpr hne
  rw [hsr, if_neg Bool.false_ne_true]
  refine wpAny_bind ?_
  unfold Builtin.List.listAllItems
  refine wpAny_bind (wpAny_typeOf hTD ?_)
  rw [if_pos (by decide)]
  refine listItems_of hD rfl ?_
  refine wpAny_bind (listItems_of hl rfl ?_)
  refine wpAny_bind ?_
  unfold sliceIndices
  dsimp only
  refine wpAny_bind (wpAny_pure ?_)
  rw [if_neg (by decide)]
  refine wpAny_bind (wpAny_pure (wpAny_bind (wpAny_pure (wpAny_pure ?_))))
  dsimp only
  rw [if_pos (by decide)]
  refine wpAny_bind (wpAny_rule ?_)
  rw [if_neg (by
    unfold Builtin.List.listTooLong
    simp only [decide_eq_true_eq, sizeLine_eq]
    omega)]
  unfold Builtin.List.listUpdate
  dsimp only
  have e1 : ∀ zs : Array Value, zs.size = xs.size → zs.extract 0 (Int.toNat (if (1 : Int) > 0 then 0 else (xs.size : Int) - 1)) ++ ys ++ zs.extract (max (if (1 : Int) > 0 then 0 else (xs.size : Int) - 1) (if (1 : Int) > 0 then (xs.size : Int) else -1)).toNat = ys := by
    intro zs hz
    simp [hz]
  have hsz : sizeLine = 16777216 := by rw [sizeLine_eq]
  refine wpAny_bind (wpAny_updateSeq hl rfl ?_ (by omega) (by rw [e1 xs rfl]; omega))
  refine wpAny_bind (wpAny_letGo (wpAny_pure ⟨.none, rfl, wpAny_pure (hQ _ ?_ (Heap.SameBut.update ..))⟩))
  refine ⟨if ys.size == xs.size then n else n + 1, ?_⟩
  rw [Heap.get?_update_self _ hl rfl]
  simp only [Obj.mapSeq, e1 xs rfl]
end Mine
end

section
theorem Mine.reset3 : True := by
  w_top off
  exact True.intro
local macro_rules | `(tactic| walk_at "no such place") => `(tactic| skip)
local macro_rules | `(tactic| walk_at "no such place") => `(tactic| skip)
local macro_rules | `(tactic| walk_at "no such place") => `(tactic| skip)
local macro_rules | `(tactic| walk_at "no such place") => `(tactic| skip)
local macro_rules | `(tactic| walk_at "no such place") => `(tactic| skip)
local macro_rules | `(tactic| walk_at "no such place") => `(tactic| skip)
local macro_rules | `(tactic| walk_at "no such place") => `(tactic| skip)
local macro_rules | `(tactic| walk_at "no such place") => `(tactic| skip)
open PySem PySem.W PyProof.Rows PySem.Calls PySem.Builtin.Str
set_option Elab.async false
set_option maxRecDepth 100000
set_option maxHeartbeats 0
namespace Mine
local macro_rules | `(tactic| walk_at "mine enterC") => `(tactic| ((case ho => k_is); (case hcd => k_is); (case hbind => first | exact BindsTo.of_eq rfl | exact kp_binds (Frag.In.keeps (by assumption) (by assumption)) (fun _ => rfl)); (case hkind => exact rfl); (case hnd => decide +kernel); (case c2 => exact rfl); (case c3 => exact rfl); (case c4 => exact rfl)))
local macro_rules | `(tactic| walk_at "call ref") => `(tactic| (k_here; (with_reducible show wpAny _ _ (call (Value.ref 117) _ _) _ _ _); k_dflt (refine' conv (b := true) ?k1 ?k2 (Fr.keep ?k3) ?k4 ?k5 ?k6 ?_; (case k1 => k_asm); (case k2 => k_asm); (case k3 => k_asm); (case k4 => first | assumption | exact hroom); (case k5 => exact fun _ => nm_ok _ (by assumption)); (case k6 => exact fun e => nomatch e); k_whole); intro h' tk' hk'; have F' := fr_all (by assumption) hk'; have N' := news_all (by assumption) hk'))
local macro_rules | `(tactic| walk_at "call builtin:str.lower") => `(tactic| (refine lower_nm (by assumption) (by assumption) ?_))
local macro_rules | `(tactic| k_all) => `(tactic| assumption)
theorem del_spec {loose : List Str} {mean : ExcName → Option Value} {mg mb : Str → Option Value} {hT : Heap} {w : World} {A : Around} {s : Shared} {Q E : Value → Shared → Prop} {tb td hl : Addr} {tbl : List Ent} {y : Str} {t : Tok} {q : Nat}
    (X : (hd.heap_39 w.params).In hT) (T : Top hd.view_39 loose mean mg mb hT) (st : ∀ b o, hT.get? b = some o → s.heap.get? b = some o) (hroom : A.depth + 1 < recursionLimit) (hh : A.handled = none)
    (tab : TabAt s.heap tb td hl tbl) (new : TabNew hT tb td hl tbl)
    (hy : Txt.lower y = nm q) (hq : q < 6) (hlen : tbl.length ≤ 6)
    (hret : ∀ h' tk', (∀ b o, b ≠ hl → s.heap.get? b = some o → h'.get? b = some o) → (∃ nl, h'.get? hl = some (listOf (refs (tbl.filter (fun e => e.p != q))).toArray nl)) → Q .none { s with heap := h', toks := tk' }) :
    wpAny (model PySem.Challenge.rw_pe0235_01.row.prog w) A (call (.ref 136) [.ref tb, .str y t]) Q E s := by
  revert X
  k_fill
  intro X
  obtain ⟨kh, tk0, nd, nl, hW⟩ := tab.all new
  refine wpAny_call ?_
  refine' raw_callC (binds := [(Str.ofString "self", .ref tb), (Str.ofString "name", .str y t)]) (tabW tb td hl kh tk0 nd nl tbl) X T st hW ?ho ?hcd (by omega) ?hbind ?hkind ?hnd ?_ ?c2 ?c3 ?c4
  walk_at "mine enterC"
  intro g L' h' tk' cells' hg F' N' Y' X' T' tg hlt
  clear X T
  k_cells Y'
  have l1 : @LT.lt Nat _ tb L' := hlt (tb, _) (by k_mem)
  have l2 : @LT.lt Nat _ td L' := hlt (td, _) (by k_mem)
  have l3 : @LT.lt Nat _ hl L' := hlt (hl, _) (by k_mem)
  have hents : ∀ p ∈ ents tbl, p.1 ≠ L' + 1 := fun p hp => Nat.ne_of_lt (Nat.lt_succ_of_lt (hlt p (by simp [hp])))
  (try simp only [List.cons_append, List.nil_append] at N')
  k_steps
  try simp only [List.nil_append] at *
  refine' LCt.ListComp_T (cl := [(Str.ofString "name", L' + 1)]) (by assumption) rfl (by decide) rfl (by decide) rfl ?_ (fun _ => rfl)
  k_steps
  refine' LCt.CompSrcT.ledger (ax := hl) (its := (refs tbl).toArray) (k := nl) hh (by assumption) (by assumption) (by k_mem) ?_ ?_
  · rw [sizeLine_eq]; simp [refs]; omega
  intro g'
  refine rest_T (fun i ys => ys = refs ((tbl.take i).filter (fun e => e.p != q))) (.inr ⟨_, (by k_mem), rfl, _, rfl⟩) ?_ ?_ ?_
  · intro i v ys I oI C oC D m₂ h tk E' hi hJ hv hC hm F₁ N₁ off ne
    obtain ⟨e, he, hmem, rfl⟩ := refs_get (by simpa using hv)
    have hep := (tab.ents e hmem).2.1
    have hlow := nm_lower e.p hep
    have N₂ : News g L' h ((e.a, e.obj) :: (I, oI) :: (C, oC) :: (D, LCg.lst ys) :: _) := fun p hp => by
      rcases List.mem_cons.mp hp with rfl | hp
      · exact N₁ _ (by simp [ents_mem hmem])
      · exact N₁ p hp
    k_steps
    · have hb : (nm e.p != nm q) = true := by assumption
      rw [nm_bne hep hq] at hb
      refine EndK.intro F₁ N₁ (fun p hp => hp) ?_
      rw [filt_step he, hb, if_pos rfl, refs_append, hJ]; rfl
    · have hb : (nm e.p != nm q) = false := by assumption
      rw [nm_bne hep hq] at hb
      refine EndK.intro F₁ N₁ (fun p hp => hp) ?_
      rw [filt_step he, hb, if_neg Bool.false_ne_true, List.append_nil, hJ]
  · rintro ys rfl D h tk F₁ N₁ off
    dsimp only
    k_steps
    dsimp only
    have hk := keep_back hg (fun p hp => (hW p hp).1) F₁ (news_sub N₁ fun p hp => .tail _ (.tail _ hp))
    have hne : hl ≠ D := (off.2.2.2.1)
    refine setItem_all (xs := (refs tbl).toArray) (Heap.get?_push_of_some _ (N₁ (hl, listOf (refs tbl).toArray nl) (by k_mem)).1) (Heap.get?_push_of_some _ (N₁ (D, _) (.head _)).1) (Heap.get?_push_size _ rfl) hne (by simp [refs]; omega) ?_ ?_
    · have := List.length_filter_le (fun e : Ent => e.p != q) (tbl.take (refs tbl).toArray.size)
      simp [refs] at this ⊢; omega
    intro h₂ hnew hsame
    k_steps
    refine hret h₂ _ (fun b o hb e => hsame.extBut b o hb (Heap.get?_push_of_some _ (hk b o e))) ?_
    obtain ⟨n', hn'⟩ := hnew
    refine ⟨n', ?_⟩
    rw [hn']
    simp [refs]
  · rfl
end Mine
end

section
open PySem PySem.W PyProof.Rows PySem.Calls PySem.Builtin.Str
set_option Elab.async false
set_option maxRecDepth 100000
set_option maxHeartbeats 0
namespace Mine
section
variable {M : Model} {A : Around} {E : Value → Shared → Prop} {s : Shared} {K : Frag} {x C L f : Addr} {h₀ : Heap} {m : Str → Option Value} {ox : Obj} {od : Option Obj} {i v : Value}
theorem own_delItem {Q : Unit → Shared → Prop} (F : Fr h₀ L s.heap m) (X₀ : K.In h₀) (I : InstAt s.heap x ox C od) (hq : noSeq K C = true) (hs : findIn K (.ref C) "__delitem__" = some (some (.ref f))) (hf : isFn K (.ref f) = true)
    (h : wpAny M A (call (.ref f) [.ref x, i]) (fun _ s' => Q () s') E s) : wpAny M A (delItem (.ref x) i) Q E s := by
  have X := X₀.keeps F.keep
  unfold delItem sequenceKey
  refine wpAny_holding (wpAny_bind (wpAny_bind (I.type.here ?_)))
  refine wpAny_bind ((anyM_none X hq).here ?_)
  rw [if_pos (show (!false) = true from rfl)]
  exact wpAny_pure (wpAny_bind (special_fn X I hs (beq_iff_eq.mp hf) (wpAny_mono h (fun _ _ z => wpAny_pure z) fun _ _ z => z)))
end
theorem obj_ne {h : Heap} {a b : Addr} {o o' : Obj} (ha : h.get? a = some o) (hb : h.get? b = some o') (hc : o.cls ≠ o'.cls) : a ≠ b := by
  rintro rfl
  rw [ha] at hb
  cases hb
  exact hc rfl
section
variable {g h h' : Heap} {L tb td hl : Addr} {kh : Int} {tk0 : Tok} {nd nl : Nat} {tbl tbl' : List Ent}
theorem tab_apart (x : TabAt h tb td hl tbl) : tb ≠ hl ∧ td ≠ hl ∧ ∀ e ∈ tbl, e.a ≠ hl := by
  obtain ⟨hI, ⟨kh, tk0, nd, hD⟩, ⟨nl, hL⟩, hE⟩ := x
  exact ⟨obj_ne hI hL (by simp), obj_ne hD hL (by simp), fun e he => obj_ne (hE e he).1 hL (by simp)⟩
theorem tab_of_news (N : News g L h (tabW tb td hl kh tk0 nd nl tbl)) (hp : ∀ e ∈ tbl, e.p < 6 ∧ e.f < 6) : TabAt h tb td hl tbl ∧ TabNew g tb td hl tbl :=
  ⟨⟨(N (tb, _) (.head _)).1, ⟨kh, tk0, nd, (N (td, _) (.tail _ (.head _))).1⟩, ⟨nl, (N (hl, _) (.tail _ (.tail _ (.head _)))).1⟩, fun e he => ⟨(N (e.a, e.obj) (.tail _ (.tail _ (.tail _ (ents_mem he))))).1, hp e he⟩⟩,
   ⟨(N (tb, _) (.head _)).2.2, (N (td, _) (.tail _ (.head _))).2.2, (N (hl, _) (.tail _ (.tail _ (.head _)))).2.2, fun e he => (N (e.a, e.obj) (.tail _ (.tail _ (.tail _ (ents_mem he))))).2.2⟩⟩
theorem news_tab (N : News g L h (tabW tb td hl kh tk0 nd nl tbl)) (hp : ∀ e ∈ tbl, e.p < 6 ∧ e.f < 6) {nl' : Nat} (hk : ∀ b o, b ≠ hl → h.get? b = some o → h'.get? b = some o) (hn : h'.get? hl = some (listOf (refs tbl').toArray nl')) (hs : ∀ e ∈ tbl', e ∈ tbl) :
    News g L h' (tabW tb td hl kh tk0 nd nl' tbl') := by
  obtain ⟨h1, h2, h3⟩ := tab_apart (tab_of_news N hp).1
  intro p hp'
  simp only [tabW, ents, List.mem_cons, List.mem_map] at hp'
  rcases hp' with rfl | rfl | rfl | ⟨e, he, rfl⟩
  · have z := N (tb, _) (.head _); exact ⟨hk _ _ h1 z.1, z.2⟩
  · have z := N (td, _) (.tail _ (.head _)); exact ⟨hk _ _ h2 z.1, z.2⟩
  · have z := N (hl, _) (.tail _ (.tail _ (.head _))); exact ⟨hn, z.2⟩
  · have z := N (e.a, e.obj) (.tail _ (.tail _ (.tail _ (ents_mem (hs e he))))); exact ⟨hk _ _ (h3 e (hs e he)) z.1, z.2⟩
theorem news_tab2 (N : News g L h (tabW tb td hl kh tk0 nd nl tbl)) (hp : ∀ e ∈ tbl, e.p < 6 ∧ e.f < 6) {nl' : Nat} (hk : ∀ b o, b ≠ hl → h.get? b = some o → h'.get? b = some o) (hn : h'.get? hl = some (listOf (refs tbl').toArray nl')) :
    News g L h' ((tb, instObj 218 td) :: (td, dictOf [⟨kh, .str (Str.ofString "_headers") tk0, .ref hl⟩] nd) :: (hl, listOf (refs tbl').toArray nl') :: ents tbl) := by
  obtain ⟨h1, h2, h3⟩ := tab_apart (tab_of_news N hp).1
  intro p hp'
  simp only [ents, List.mem_cons, List.mem_map] at hp'
  rcases hp' with rfl | rfl | rfl | ⟨e, he, rfl⟩
  · have z := N (tb, _) (.head _); exact ⟨hk _ _ h1 z.1, z.2⟩
  · have z := N (td, _) (.tail _ (.head _)); exact ⟨hk _ _ h2 z.1, z.2⟩
  · have z := N (hl, _) (.tail _ (.tail _ (.head _))); exact ⟨hn, z.2⟩
  · have z := N (e.a, e.obj) (.tail _ (.tail _ (.tail _ (ents_mem he)))); exact ⟨hk _ _ (h3 e he) z.1, z.2⟩
theorem allLt_mem {d : Nat} : ∀ {l : List (Addr × Obj)}, AllLt d l → ∀ p ∈ l, p.1 < d
  | [], _, _, h => nomatch h
  | _ :: _, x, p, h => by
    rcases List.mem_cons.mp h with rfl | h
    · exact x.1
    · exact allLt_mem x.2 p h
theorem fr_but1 {m : Str → Option Value} (F : Fr g L h m) (hL : hl ≠ L) (hg : g.get? hl = none) (hk : ∀ b o, b ≠ hl → h.get? b = some o → h'.get? b = some o) : Fr g L h' m :=
  ⟨F.ns.at' fun o e => hk _ o (Ne.symm hL) e, fun b o e => hk b o (fun q => by rw [q, hg] at e; cases e) (F.keep b o e), F.above⟩
end
end Mine
end

section
theorem Mine.reset4 : True := by
  w_top off
  exact True.intro
open PySem PySem.W PyProof.Rows PySem.Calls PySem.Builtin.Str
set_option Elab.async false
set_option maxRecDepth 100000
set_option maxHeartbeats 0
namespace Mine
local macro_rules | `(tactic| walk_at "mine enter") => `(tactic| ((case ho => k_is); (case hcd => k_is); (case hbind => first | exact BindsTo.of_eq rfl | exact kp_binds (Frag.In.keeps (by assumption) (by assumption)) (fun _ => rfl)); (case hloc => exact locs rfl); (case hcell => decide); (case c2 => exact rfl); (case c3 => exact rfl); (case c4 => exact rfl)))
local macro_rules | `(tactic| walk_at "delItem") => `(tactic| (k_here; k_dflt (refine' own_delItem ?k1 ?k2 ?k3 ?k4 ?k5 ?k6 ?_; (case k1 => k_asm); (case k2 => k_asm); (case k3 => k_inst); (case k4 => k_is); (case k5 => k_is); (case k6 => k_is); k_whole)))
local macro_rules | `(tactic| walk_at "call ref") => `(tactic| (k_here; (with_reducible show wpAny _ _ (call (Value.ref 117) _ _) _ _ _); k_dflt (first
  | (refine' conv (b := true) ?k1 ?k2 (Fr.keep ?k3) ?k4 ?k5 ?k6 ?_; (case k1 => k_asm); (case k2 => k_asm); (case k3 => k_asm); (case k4 => assumption); (case k5 => exact fun _ => nm_ok _ (by assumption)); (case k6 => exact fun e => nomatch e); k_whole)
  | (refine' conv (b := false) ?k1 ?k2 (Fr.keep ?k3) ?k4 ?k5 ?k6 ?_; (case k1 => k_asm); (case k2 => k_asm); (case k3 => k_asm); (case k4 => assumption); (case k5 => exact fun e => nomatch e); (case k6 => exact fun _ => lt_ok _ (by assumption)); k_whole)); intro h' tk' hk'; have F' := fr_all (by assumption) hk'; have N' := news_all (by assumption) hk'))
local macro_rules | `(tactic| k_all) => `(tactic| assumption)
theorem set_spec {loose : List Str} {mean : ExcName → Option Value} {mg mb : Str → Option Value} {hT : Heap} {w : World} {A : Around} {s : Shared} {Q E : Value → Shared → Prop} {tb td hl : Addr} {tbl : List Ent} {t t' : Tok} {q f : Nat}
    (X : (hd.heap_39 w.params).In hT) (T : Top hd.view_39 loose mean mg mb hT) (st : ∀ b o, hT.get? b = some o → s.heap.get? b = some o) (hroom : A.depth + 2 < recursionLimit) (hh : A.handled = none)
    (tab : TabAt s.heap tb td hl tbl) (new : TabNew hT tb td hl tbl)
    (hq : q < 6) (hf : f < 6) (hlen : tbl.length ≤ 6)
    (hret : ∀ h' tk' a, (∀ b o, b ≠ hl → s.heap.get? b = some o → h'.get? b = some o) → s.heap.get? a = none → TabAt h' tb td hl (tbl.filter (fun e => e.p != q) ++ [⟨a, q, f, t, t'⟩]) → Q .none { s with heap := h', toks := tk' }) :
    wpAny (model PySem.Challenge.rw_pe0235_01.row.prog w) A (call (.ref 131) [.ref tb, .str (nm q) t, .str (lt f) t']) Q E s := by
  revert X
  k_fill
  intro X
  obtain ⟨kh, tk0, nd, nl, hW⟩ := tab.all new
  refine wpAny_call ?_
  refine' raw_call (binds := [(Str.ofString "self", .ref tb), (Str.ofString "name", .str (nm q) t), (Str.ofString "val", .str (lt f) t')]) (tabW tb td hl kh tk0 nd nl tbl) X T st hW ?ho ?hcd (by omega) ?hbind ?hloc ?_ ?hcell ?c2 ?c3 ?c4
  walk_at "mine enter"
  intro g L' h' hg F' N' X' T' tg hlt
  clear X T
  k_steps
  have hents : ∀ e ∈ tbl, e.p < 6 ∧ e.f < 6 := fun e he => (tab.ents e he).2
  obtain ⟨tab', new'⟩ := tab_of_news N' hents
  have hrm : A.depth + 1 < recursionLimit := by omega
  refine del_spec X' T' F'.keep (by exact hroom) hh tab' new' (nm_lower q hq) hq hlen ?_
  rintro h₂ tk₂ hk₂ ⟨nl₂, hn₂⟩
  have F₂ := fr_but1 F' (N' (hl, _) (by k_mem)).2.1 new'.list hk₂
  have N₂ := news_tab2 N' hents hk₂ hn₂
  clear F' N'
  generalize hT2 : tbl.filter (fun e => e.p != q) = tbl₂ at N₂ hn₂ hret
  have hT2s : ∀ e ∈ tbl₂, e ∈ tbl := fun e he => by rw [← hT2] at he; exact (List.mem_filter.mp he).1
  have hT2l : tbl₂.length ≤ 6 := by rw [← hT2]; exact Nat.le_trans (List.length_filter_le _ _) hlen
  k_steps
  rename_i h3 tk3 hk3 h4 tk4 hk4 D h5 F5 N5 l5
  obtain ⟨l51, l52, l53, l54⟩ := l5
  obtain ⟨h1, h2, h3⟩ := tab_apart tab'
  have keep5 : ∀ b o, b ≠ hl → s.heap.get? b = some o → h5.get? b = some o := by
    intro b o hb e
    by_cases hm : b ∈ (tabW tb td hl kh tk0 nd nl tbl).map (·.1)
    · obtain ⟨p, hp, rfl⟩ := List.mem_map.mp hm
      have z := (hW p hp).1
      rw [e] at z
      cases z
      simp only [tabW, List.mem_cons] at hp
      rcases hp with rfl | rfl | rfl | hp
      · exact (N5 (tb, _) (by k_mem)).1
      · exact (N5 (td, _) (by k_mem)).1
      · exact absurd rfl hb
      · exact (N5 p (.tail _ (.tail _ (.tail _ (.tail _ hp))))).1
    · exact F5.keep b o (hg b o e hm)
  have fresh5 : s.heap.get? D = none := by
    cases z : s.heap.get? D with
    | none => rfl
    | some o =>
      by_cases hm : D ∈ (tabW tb td hl kh tk0 nd nl tbl).map (·.1)
      · obtain ⟨p, hp, hpe⟩ := List.mem_map.mp hm
        simp only [tabW, List.mem_cons] at hp
        rcases hp with rfl | rfl | rfl | hp
        · exact absurd l51 (hpe ▸ Nat.lt_irrefl _)
        · exact absurd l52 (hpe ▸ Nat.lt_irrefl _)
        · exact absurd l53 (hpe ▸ Nat.lt_irrefl _)
        · exact absurd (allLt_mem l54 p hp) (hpe ▸ Nat.lt_irrefl _)
      · have := hg D o z hm
        rw [(N5 (D, _) (.head _)).2.2] at this; cases this
  refine wpAny_list_append_plain ⟨nl₂, (N5 (hl, _) (by k_mem)).1⟩ (fun h6 hl6 hs6 => ?_) ?_
  · k_steps
    refine hret h6 _ D (fun b o hb e => hs6.extBut b o hb (keep5 b o hb e)) fresh5 ⟨hs6.extBut _ _ h1 (N5 (tb, _) (by k_mem)).1, ⟨kh, tk0, nd, hs6.extBut _ _ h2 (N5 (td, _) (by k_mem)).1⟩, ?_, ?_⟩
    · obtain ⟨n, hn⟩ := hl6
      refine ⟨n, hn.trans ?_⟩
      simp [refs]
    · intro e he
      rcases List.mem_append.mp he with he | he
      · exact ⟨hs6.extBut _ _ (h3 e (hT2s e he)) (N5 (e.a, e.obj) (.tail _ (.tail _ (.tail _ (.tail _ (ents_mem (hT2s e he))))))).1, hents e (hT2s e he)⟩
      · rw [List.mem_singleton.mp he]
        exact ⟨hs6.extBut _ _ (Nat.ne_of_gt l53) (N5 (D, _) (.head _)).1, hq, hf⟩
  · rw [sizeLine_eq]; simp [refs]; omega
end Mine
end

section
theorem Mine.reset5 : True := by
  w_top off
  exact True.intro
local macro_rules | `(tactic| walk_at "no such place") => `(tactic| skip)
local macro_rules | `(tactic| walk_at "no such place") => `(tactic| skip)
local macro_rules | `(tactic| walk_at "no such place") => `(tactic| skip)
local macro_rules | `(tactic| walk_at "no such place") => `(tactic| skip)
local macro_rules | `(tactic| walk_at "no such place") => `(tactic| skip)
local macro_rules | `(tactic| walk_at "no such place") => `(tactic| skip)
local macro_rules | `(tactic| walk_at "no such place") => `(tactic| skip)
local macro_rules | `(tactic| walk_at "no such place") => `(tactic| skip)
open PySem PySem.W PyProof.Rows PySem.Calls PySem.Builtin.Str
set_option Elab.async false
set_option maxRecDepth 100000
set_option maxHeartbeats 0
namespace Mine
local macro_rules | `(tactic| walk_at "mine enter") => `(tactic| ((case ho => k_is); (case hcd => k_is); (case hbind => first | exact BindsTo.of_eq rfl | exact kp_binds (Frag.In.keeps (by assumption) (by assumption)) (fun _ => rfl)); (case hloc => exact locs rfl); (case hcell => decide); (case c2 => exact rfl); (case c3 => exact rfl); (case c4 => exact rfl)))
def keysOf (tbl : List Ent) : List Value := tbl.map fun e => .str (nm e.p) e.tp
def valsOf (tbl : List Ent) : List Value := tbl.map fun e => .str (lt e.f) e.tf
def pairAt (tbl : List Ent) (i : Nat) : Value × Value := match tbl[i]? with
  | some e => (.str (nm e.p) e.tp, .str (lt e.f) e.tf)
  | none => (.none, .none)
theorem take_step {α β : Type} {f : α → β} {l : List α} {i : Nat} {e : α} (he : l[i]? = some e) : (l.take (i + 1)).map f = (l.take i).map f ++ [f e] := by
  rw [List.take_add_one, he, List.map_append]; rfl
theorem fresh_of {s₀ g h : Heap} {L D : Addr} {o : Obj} {m : Str → Option Value} {W rest : List (Addr × Obj)} (hg : ∀ b o, s₀.get? b = some o → b ∉ W.map (·.1) → g.get? b = some o) (N : News g L h ((D, o) :: rest)) (off : ∀ p ∈ W, p.1 ≠ D) : s₀.get? D = none := by
  cases z : s₀.get? D with
  | none => rfl
  | some o' =>
    have := hg D o' z (fun hm => by obtain ⟨p, hp, e⟩ := List.mem_map.mp hm; exact off p hp e)
    rw [(N (D, o) (.head _)).2.2] at this; cases this
theorem off1_mem {D : Addr} : ∀ {l : List (Addr × Obj)}, LCg.Off1 D l → ∀ p ∈ l, p.1 ≠ D
  | [], _, _, h => nomatch h
  | _ :: _, x, p, h => by
    rcases List.mem_cons.mp h with rfl | h
    · exact x.1
    · exact off1_mem x.2 p h
theorem vals_spec {loose : List Str} {mean : ExcName → Option Value} {mg mb : Str → Option Value} {hT : Heap} {w : World} {A : Around} {s : Shared} {Q E : Value → Shared → Prop} {tb td hl : Addr} {tbl : List Ent}
    (X : (hd.heap_39 w.params).In hT) (T : Top hd.view_39 loose mean mg mb hT) (st : ∀ b o, hT.get? b = some o → s.heap.get? b = some o) (hroom : A.depth + 1 < recursionLimit) (hh : A.handled = none)
    (tab : TabAt s.heap tb td hl tbl) (new : TabNew hT tb td hl tbl) (hlen : tbl.length ≤ 6)
    (hret : ∀ h' tk' D n, (∀ b o, s.heap.get? b = some o → h'.get? b = some o) → s.heap.get? D = none → h'.get? D = some (listOf (valsOf tbl).toArray n) → Q (.ref D) { s with heap := h', toks := tk' }) :
    wpAny (model PySem.Challenge.rw_pe0235_01.row.prog w) A (call (.ref 175) [.ref tb]) Q E s := by
  revert X
  k_fill
  intro X
  obtain ⟨kh, tk0, nd, nl, hW⟩ := tab.all new
  refine wpAny_call ?_
  refine' raw_call (binds := [(Str.ofString "self", .ref tb)]) (tabW tb td hl kh tk0 nd nl tbl) X T st hW ?ho ?hcd (by omega) ?hbind ?hloc ?_ ?hcell ?c2 ?c3 ?c4
  walk_at "mine enter"
  intro g L' h' hg F' N' X' T' tg hlt
  clear X T
  walk1
  walk1
  walk1
  refine' LCp.ListComp_P (cl := []) F' rfl (by decide) rfl (by decide) rfl rfl (by decide) ?_ (fun _ => rfl)
  walk1
  walk1
  walk1
  refine' LCp.SrcLP.ledger (its := (refs tbl).toArray) (k := nl) hh F' N' (by k_mem) (by rw [sizeLine_eq]; simp [refs]; omega) ?_
  intro g'
  refine rest_P (fun i ys => ys = valsOf (tbl.take i)) (.inr ⟨_, (by k_mem), rfl, _, rfl⟩) (pairAt tbl) ?_ ?_ ?_ rfl
  · intro i v hi hv
    obtain ⟨e, he, hmem, rfl⟩ := refs_get (by simpa using hv)
    refine ⟨e.a, rfl, ?_⟩
    have : pairAt tbl i = (.str (nm e.p) e.tp, .str (lt e.f) e.tf) := by unfold pairAt; rw [he]
    rw [this]
    exact .tail _ (.tail _ (.tail _ (ents_mem hmem)))
  · intro i ys I oI C oC D m₂ h tk E' hi hJ hC hm hm₂ F₁ N₁ off ne
    walk1
    refine EndK.intro F₁ N₁ (fun p hp => hp) ?_
    have hi' : i < tbl.length := by simpa [refs] using hi
    have he : tbl[i]? = some tbl[i] := List.getElem?_eq_getElem hi'
    have : pairAt tbl i = (.str (nm tbl[i].p) tbl[i].tp, .str (lt tbl[i].f) tbl[i].tf) := by unfold pairAt; rw [he]
    rw [hJ, this]
    exact (take_step he).symm
  · rintro ys rfl D h tk F₁ N₁ off
    have e : (tbl.take (refs tbl).toArray.size) = tbl := by simp [refs]
    rw [e] at N₁
    exact hret h tk D (valsOf tbl).length (keep_back hg (fun p hp => (hW p hp).1) F₁ (news_sub N₁ fun p hp => .tail _ hp)) (fresh_of (m := fun _ => none) hg N₁ (off1_mem off)) (N₁ (D, _) (.head _)).1
theorem keys_spec {loose : List Str} {mean : ExcName → Option Value} {mg mb : Str → Option Value} {hT : Heap} {w : World} {A : Around} {s : Shared} {Q E : Value → Shared → Prop} {tb td hl : Addr} {tbl : List Ent}
    (X : (hd.heap_39 w.params).In hT) (T : Top hd.view_39 loose mean mg mb hT) (st : ∀ b o, hT.get? b = some o → s.heap.get? b = some o) (hroom : A.depth + 1 < recursionLimit) (hh : A.handled = none)
    (tab : TabAt s.heap tb td hl tbl) (new : TabNew hT tb td hl tbl) (hlen : tbl.length ≤ 6)
    (hret : ∀ h' tk' D n, (∀ b o, s.heap.get? b = some o → h'.get? b = some o) → s.heap.get? D = none → h'.get? D = some (listOf (keysOf tbl).toArray n) → Q (.ref D) { s with heap := h', toks := tk' }) :
    wpAny (model PySem.Challenge.rw_pe0235_01.row.prog w) A (call (.ref 170) [.ref tb]) Q E s := by
  revert X
  k_fill
  intro X
  obtain ⟨kh, tk0, nd, nl, hW⟩ := tab.all new
  refine wpAny_call ?_
  refine' raw_call (binds := [(Str.ofString "self", .ref tb)]) (tabW tb td hl kh tk0 nd nl tbl) X T st hW ?ho ?hcd (by omega) ?hbind ?hloc ?_ ?hcell ?c2 ?c3 ?c4
  walk_at "mine enter"
  intro g L' h' hg F' N' X' T' tg hlt
  clear X T
  walk1
  walk1
  walk1
  refine' LCp.ListComp_P (cl := []) F' rfl (by decide) rfl (by decide) rfl rfl (by decide) ?_ (fun _ => rfl)
  walk1
  walk1
  walk1
  refine' LCp.SrcLP.ledger (its := (refs tbl).toArray) (k := nl) hh F' N' (by k_mem) (by rw [sizeLine_eq]; simp [refs]; omega) ?_
  intro g'
  refine rest_P (fun i ys => ys = keysOf (tbl.take i)) (.inr ⟨_, (by k_mem), rfl, _, rfl⟩) (pairAt tbl) ?_ ?_ ?_ rfl
  · intro i v hi hv
    obtain ⟨e, he, hmem, rfl⟩ := refs_get (by simpa using hv)
    refine ⟨e.a, rfl, ?_⟩
    have : pairAt tbl i = (.str (nm e.p) e.tp, .str (lt e.f) e.tf) := by unfold pairAt; rw [he]
    rw [this]
    exact .tail _ (.tail _ (.tail _ (ents_mem hmem)))
  · intro i ys I oI C oC D m₂ h tk E' hi hJ hC hm hm₂ F₁ N₁ off ne
    walk1
    refine EndK.intro F₁ N₁ (fun p hp => hp) ?_
    have hi' : i < tbl.length := by simpa [refs] using hi
    have he : tbl[i]? = some tbl[i] := List.getElem?_eq_getElem hi'
    have : pairAt tbl i = (.str (nm tbl[i].p) tbl[i].tp, .str (lt tbl[i].f) tbl[i].tf) := by unfold pairAt; rw [he]
    rw [hJ, this]
    exact (take_step he).symm
  · rintro ys rfl D h tk F₁ N₁ off
    have e : (tbl.take (refs tbl).toArray.size) = tbl := by simp [refs]
    rw [e] at N₁
    exact hret h tk D (keysOf tbl).length (keep_back hg (fun p hp => (hW p hp).1) F₁ (news_sub N₁ fun p hp => .tail _ hp)) (fresh_of (m := fun _ => none) hg N₁ (off1_mem off)) (N₁ (D, _) (.head _)).1
theorem items_spec {loose : List Str} {mean : ExcName → Option Value} {mg mb : Str → Option Value} {hT : Heap} {w : World} {A : Around} {s : Shared} {Q E : Value → Shared → Prop} {tb td hl : Addr} {tbl : List Ent}
    (X : (hd.heap_39 w.params).In hT) (T : Top hd.view_39 loose mean mg mb hT) (st : ∀ b o, hT.get? b = some o → s.heap.get? b = some o) (hroom : A.depth + 1 < recursionLimit) (hh : A.handled = none)
    (tab : TabAt s.heap tb td hl tbl) (new : TabNew hT tb td hl tbl) (hlen : tbl.length ≤ 6)
    (hret : ∀ h' tk' D n, (∀ b o, s.heap.get? b = some o → h'.get? b = some o) → s.heap.get? D = none → h'.get? D = some (listOf (refs tbl).toArray n) → Q (.ref D) { s with heap := h', toks := tk' }) :
    wpAny (model PySem.Challenge.rw_pe0235_01.row.prog w) A (call (.ref 182) [.ref tb]) Q E s := by
  revert X
  k_fill
  intro X
  obtain ⟨kh, tk0, nd, nl, hW⟩ := tab.all new
  refine wpAny_call ?_
  refine' raw_call (binds := [(Str.ofString "self", .ref tb)]) (tabW tb td hl kh tk0 nd nl tbl) X T st hW ?ho ?hcd (by omega) ?hbind ?hloc ?_ ?hcell ?c2 ?c3 ?c4
  walk_at "mine enter"
  intro g L' h' hg F' N' X' T' tg hlt
  clear X T
  iterate 11 walk1
  dsimp only
  have NL := (N' (hl, listOf (refs tbl).toArray nl) (by k_mem)).1
  refine tail_any (T := "list") ⟨_, Heap.get?_push_of_some _ NL, rfl⟩ slot_list_getitem.lookup ?_ (by with_unfolding_all rfl)
  refine wpAny_getItem_list_slice (items := (refs tbl).toArray) ⟨_, Heap.get?_push_of_some _ NL, rfl, _, rfl⟩ (Heap.IsSliceOf.new h' .none .none .none) .none .none .none (by simp) ?_ (by rw [sizeLine_eq]; simp [refs]; omega)
  rw [slicePick_all]
  have hk := keep_back hg (fun p hp => (hW p hp).1) F' N'
  refine hret _ _ _ 0 (fun b o e => Heap.get?_push_of_some _ (Heap.get?_push_of_some _ (hk b o e))) ?_ (Heap.get?_push_size _ rfl)
  cases z : s.heap.get? (h'.push { cls := .type "slice", data := .fields #[.none, .none, .none] }).objs.size with
  | none => rfl
  | some o =>
    have z2 := Heap.lt_size (hk _ _ z)
    rw [Heap.size_push] at z2
    exact absurd z2 (Nat.not_lt.mpr (Nat.le_succ _))
end Mine
end

section
namespace Mine
/-- a table's content: place, file -/
abbrev Tb := List (Nat × Nat)
def tget (t : Tb) (q : Nat) : Option Nat := (t.find? (fun e => e.1 == q)).map (·.2)
def tset (t : Tb) (q f : Nat) : Tb := t.filter (fun e => e.1 != q) ++ [(q, f)]
def scan (R : Nat → Nat → Bool) (call : Nat → Tb → List Nat → Bool × Tb × List Nat) (k : Nat) : List Nat → Tb → List Nat → Bool × Tb × List Nat
  | [], t, asked => (false, t, asked)
  | p :: ps, t, asked =>
    if R k p && !asked.contains p then
      match tget t p with
      | none => (true, tset t p k, asked ++ [p])
      | some h =>
        match call h t (asked ++ [p]) with
        | (true, t', asked') => (true, tset t' p k, asked')
        | (false, t', asked') => scan R call k ps t' asked'
    else scan R call k ps t asked
def finds (R : Nat → Nat → Bool) : Nat → Nat → Tb → List Nat → Bool × Tb × List Nat
  | 0, _, t, asked => (false, t, asked)
  | n + 1, k, t, asked => scan R (finds R n) k [0, 1, 2, 3, 4, 5] t asked
theorem drop6 {i : Nat} (hi : i < 6) : (List.range 6).drop i = i :: (List.range 6).drop (i + 1) := by
  match i, hi with
  | 0, _ => rfl
  | 1, _ => rfl
  | 2, _ => rfl
  | 3, _ => rfl
  | 4, _ => rfl
  | 5, _ => rfl
theorem scan_no {R : Nat → Nat → Bool} {call : Nat → Tb → List Nat → Bool × Tb × List Nat} {k i : Nat} {t : Tb} {a : List Nat} (hi : i < 6) (h : (R k i && !a.contains i) = false) :
    scan R call k ((List.range 6).drop i) t a = scan R call k ((List.range 6).drop (i + 1)) t a := by
  rw [drop6 hi, scan, h]; rfl
theorem scan_free {R : Nat → Nat → Bool} {call : Nat → Tb → List Nat → Bool × Tb × List Nat} {k i : Nat} {t : Tb} {a : List Nat} (hi : i < 6) (h1 : R k i = true) (h2 : a.contains i = false) (h3 : tget t i = none) :
    scan R call k ((List.range 6).drop i) t a = (true, tset t i k, a ++ [i]) := by
  rw [drop6 hi, scan, h1, h2, h3]; rfl
theorem scan_true {R : Nat → Nat → Bool} {call : Nat → Tb → List Nat → Bool × Tb × List Nat} {k i f : Nat} {t t' : Tb} {a a' : List Nat} (hi : i < 6) (h1 : R k i = true) (h2 : a.contains i = false) (h3 : tget t i = some f) (h4 : call f t (a ++ [i]) = (true, t', a')) :
    scan R call k ((List.range 6).drop i) t a = (true, tset t' i k, a') := by
  rw [drop6 hi, scan, h1, h2, h3]
  simp only [Bool.not_false, Bool.and_self, if_true, h4]
theorem scan_false {R : Nat → Nat → Bool} {call : Nat → Tb → List Nat → Bool × Tb × List Nat} {k i f : Nat} {t t' : Tb} {a a' : List Nat} (hi : i < 6) (h1 : R k i = true) (h2 : a.contains i = false) (h3 : tget t i = some f) (h4 : call f t (a ++ [i]) = (false, t', a')) :
    scan R call k ((List.range 6).drop i) t a = scan R call k ((List.range 6).drop (i + 1)) t' a' := by
  rw [drop6 hi, scan, h1, h2, h3]
  simp only [Bool.not_false, Bool.and_self, if_true, h4]
end Mine
end

section
open PySem PySem.W PyProof.Rows PySem.Calls PySem.Builtin.Str
set_option Elab.async false
set_option maxRecDepth 100000
set_option maxHeartbeats 0
namespace Mine
section
variable {prog : Program} {w : World} {A : Around} {E : Value → Shared → Prop} {s : Shared} {Q : Value → Shared → Prop}
theorem item_at {g : Heap} {L l : Addr} {value slice : Expr} {news : List (Addr × Obj)} {vs : List Value} {nn i : Nat} {t : Tok} {v : Value} (N : News g L s.heap news) (hm : (l, listOf vs.toArray nn) ∈ news) (hx : vs[i]? = some v) (hi : i < 1000000) (h : Q v s)
    (hs : ∀ k t, subscripted slice false (.ref l) (.int k t) = operate [.ref l, .int k t] (getItem (.ref l) (.int k t))) :
    wpAny (model prog w) A (subscriptTail value slice (.ref l) (.int ((i : Nat) : Int) t)) Q E s :=
  tail_any (T := "list") ⟨_, (N _ hm).1, rfl⟩ slot_list_getitem.lookup (wpAny_getItem_list (items := vs.toArray) ⟨_, (N _ hm).1, rfl, _, rfl⟩ (by omega) (by omega) (by simpa using hx) h) (hs _ _)
theorem char_at {value slice : Expr} {x : Str} {t u : Tok} {j : Int} {i c : Nat} (hj : j = ((i : Nat) : Int)) (hc : x.cps[i]? = some c) (hi : i < 1000000) (h : Q (.str ⟨#[c]⟩ s.toks) { s with toks := s.toks + 1 })
    (hs : ∀ k t', subscripted slice false (.str x t) (.int k t') = operate [.str x t, .int k t'] (getItem (.str x t) (.int k t'))) :
    wpAny (model prog w) A (subscriptTail value slice (.str x t) (.int j u)) Q E s := by
  subst hj
  refine tail_any (T := "str") (typeIs_str s x t) F.slot_str_getitem.lookup (P.getItem_str (c := c) ?_ ?_ h) (hs _ _)
  · rw [Bool.or_eq_false_iff]; exact ⟨decide_eq_false (by omega), decide_eq_false (by omega)⟩
  · have hlt : i < x.length := (Array.getElem?_eq_some_iff.mp hc).1
    have : seqIndex? ((i : Nat) : Int) x.length = some i := by
      unfold seqIndex?
      simp
      omega
    rw [this]; exact hc
theorem in_word {x : Str} {t u : Tok} {c : Nat} {l : List Nat} (hx : x.cps.toList = l) (h : Q (.bool (l.contains c)) s) : wpAny (model prog w) A (compareOp .In (.str ⟨#[c]⟩ u) (.str x t)) Q E s := by
  refine P.in_str ?_
  rw [StrLaws.found_one, hx]
  have : decide (c ∈ l) = l.contains c := by rw [Bool.eq_iff_iff]; simp
  rw [this]; exact h
theorem upper_nm {n : Nat} {t : Tok} (hn : n < 6) (h : Q (.str (Txt.upper (nm n)) s.toks) { s with toks := s.toks + 1 }) : wpAny (model prog w) A (call (.builtin "str.upper") [.str (nm n) t]) Q E s :=
  SC.upper (six (P := fun n => tooLong (Txt.upper (nm n)).length = false) (by decide +kernel) (by decide +kernel) (by decide +kernel) (by decide +kernel) (by decide +kernel) (by decide +kernel) n hn) h
theorem lt_occ : ∀ n, n < 6 → occurrences (Str.ofString "abcdef") (lt n) 0 (Str.ofString "abcdef").length 1 = [n] := six (by decide +kernel) (by decide +kernel) (by decide +kernel) (by decide +kernel) (by decide +kernel) (by decide +kernel)
theorem index_lt {n : Nat} {t u : Tok} (hn : n < 6) (h : Q (.int ((n : Nat) : Int) s.toks) { s with toks := s.toks + 1 }) : wpAny (model prog w) A (call (.builtin "str.index") [.str (Str.ofString "abcdef") t, .str (lt n) u]) Q E s :=
  SC.index (lt_occ n hn) h
theorem lt_is : ∀ n, n < 6 → (Str.ofString "abcdef").cps[n]? = some (97 + n) ∧ lt n = ⟨#[97 + n]⟩ := six (by decide +kernel) (by decide +kernel) (by decide +kernel) (by decide +kernel) (by decide +kernel) (by decide +kernel)
theorem letter_at {value slice : Expr} {t u : Tok} {n : Nat} (hn : n < 6) (h : Q (.str (lt n) s.toks) { s with toks := s.toks + 1 })
    (hs : ∀ k t', subscripted slice false (.str (Str.ofString "abcdef") t) (.int k t') = operate [.str (Str.ofString "abcdef") t, .int k t'] (getItem (.str (Str.ofString "abcdef") t) (.int k t'))) :
    wpAny (model prog w) A (subscriptTail value slice (.str (Str.ofString "abcdef") t) (.int ((n : Nat) : Int) u)) Q E s :=
  char_at rfl (lt_is n hn).1 (by omega) (by rw [← (lt_is n hn).2]; exact h) hs
end
theorem isL {g h : Heap} {L l : Addr} {news : List (Addr × Obj)} {vs : List Value} {n : Nat} (N : News g L h news) (hm : (l, listOf vs.toArray n) ∈ news) : h.IsList l vs.toArray := ⟨_, (N _ hm).1, rfl, _, rfl⟩
theorem isP {g h : Heap} {L l : Addr} {news : List (Addr × Obj)} {vs : List Value} {n : Nat} (N : News g L h news) (hm : (l, listOf vs.toArray n) ∈ news) : h.PlainList l vs.toArray := ⟨_, (N _ hm).1⟩
theorem news_chg {g h h' : Heap} {L : Addr} {W W' : List (Addr × Obj)} {ch : List Addr} (N : News g L h W) (hk : ∀ b o, b ∉ ch → h.get? b = some o → h'.get? b = some o)
    (hW : ∀ p ∈ W', (p ∈ W ∧ p.1 ∉ ch) ∨ (h'.get? p.1 = some p.2 ∧ p.1 ≠ L ∧ g.get? p.1 = none)) : News g L h' W' := fun p hp => by
  rcases hW p hp with ⟨h1, h2⟩ | h1
  · exact ⟨hk _ _ h2 (N p h1).1, (N p h1).2⟩
  · exact h1
end Mine
end

section
open PySem PySem.W PyProof.Rows PySem.Calls PySem.Builtin.Str
set_option Elab.async false
set_option maxRecDepth 100000
set_option maxHeartbeats 0
namespace Mine
theorem nodup_len : ∀ (n : Nat) {l : List Nat}, l.Nodup → (∀ p ∈ l, p < n) → l.length ≤ n
  | 0, [], _, _ => Nat.le_refl _
  | 0, x :: _, _, h => absurd (h x (.head _)) (Nat.not_lt_zero _)
  | n + 1, l, hn, h => by
    by_cases hm : n ∈ l
    · have h1 := nodup_len n (hn.erase n) fun p hp => by
        have hp' := (List.Nodup.mem_erase_iff hn).mp hp
        have := h p hp'.2
        have := hp'.1
        omega
      rw [List.length_erase_of_mem hm] at h1
      omega
    · have h1 := nodup_len n hn fun p hp => by
        have := h p hp
        have : p ≠ n := fun e => hm (e ▸ hp)
        omega
      omega
theorem ints_snoc {asv : List Value} {l : List Int} {i : Int} {t : Tok} (h : IntsAre asv l) : IntsAre (asv ++ [.int i t]) (l ++ [i]) := by
  induction h with
  | nil => exact .cons i t .nil
  | cons n u _ ih => exact .cons n u ih
abbrev tabX (tb td hl : Addr) (kh : Int) (tk0 : Tok) (nd nl : Nat) (tbl : List Ent) (ex : List (Addr × Obj)) : List (Addr × Obj) :=
  (tb, instObj 218 td) :: (td, dictOf [⟨kh, .str (Str.ofString "_headers") tk0, .ref hl⟩] nd) :: (hl, listOf (refs tbl).toArray nl) :: (ents tbl ++ ex)
section
variable {g h h' : Heap} {L tb td hl al rl ml : Addr} {kh : Int} {tk0 : Tok} {nd nl nr nm' : Nat} {tbl tbl' : List Ent} {rowsV namesV : List Value} {o o' : Obj} {own : Addr × Obj} {m : Str → Option Value} {ex : List (Addr × Obj)}
structure Apart (al rl ml hl : Addr) : Prop where
  ar : al ≠ rl
  am : al ≠ ml
  ah : al ≠ hl
  hr : hl ≠ rl
  hm : hl ≠ ml
theorem tabX_sub : ∀ p ∈ tabW tb td hl kh tk0 nd nl tbl, p ∈ tabX tb td hl kh tk0 nd nl tbl ex := by
  intro p hp
  simp only [tabW, tabX, List.mem_cons, List.mem_append] at hp ⊢
  rcases hp with h | h | h | h
  · exact .inl h
  · exact .inr (.inl h)
  · exact .inr (.inr (.inl h))
  · exact .inr (.inr (.inr (.inl h)))
theorem ents_cls : ∀ p ∈ ents tbl, p.2.cls = .type "tuple" := by
  intro p hp
  obtain ⟨e, he, rfl⟩ := List.mem_map.mp hp
  rfl
/-- of the whole ledger: what is not al, not hl, is no list al | hl -/
theorem led_ne (hex : ∀ p ∈ ex, p.2.cls = .type "tuple") (hc : o.cls = .type "list") (N : News g L h (own :: (al, o) :: (rl, listOf rowsV.toArray nr) :: (ml, listOf namesV.toArray nm') :: tabX tb td hl kh tk0 nd nl tbl ex)) :
    ∀ p ∈ (tb, instObj 218 td) :: (td, dictOf [⟨kh, .str (Str.ofString "_headers") tk0, .ref hl⟩] nd) :: (ents tbl ++ ex), p.1 ≠ al ∧ p.1 ≠ hl ∧ p ∈ own :: (al, o) :: (rl, listOf rowsV.toArray nr) :: (ml, listOf namesV.toArray nm') :: tabX tb td hl kh tk0 nd nl tbl ex := by
  intro p hp
  have hm : p ∈ own :: (al, o) :: (rl, listOf rowsV.toArray nr) :: (ml, listOf namesV.toArray nm') :: tabX tb td hl kh tk0 nd nl tbl ex := by
    simp only [tabX, List.mem_cons] at hp ⊢
    rcases hp with h | h | h
    · exact .inr (.inr (.inr (.inr (.inl h))))
    · exact .inr (.inr (.inr (.inr (.inr (.inl h)))))
    · exact .inr (.inr (.inr (.inr (.inr (.inr (.inr h))))))
  have hcl : p.2.cls ≠ .type "list" := by
    rcases List.mem_cons.mp hp with rfl | hp
    · simp
    rcases List.mem_cons.mp hp with rfl | hp
    · simp
    rcases List.mem_append.mp hp with hp | hp
    · rw [ents_cls p hp]; simp
    · rw [hex p hp]; simp
  exact ⟨obj_ne (N p hm).1 (N (al, o) (by simp)).1 (by rw [hc]; exact hcl), obj_ne (N p hm).1 (N (hl, listOf (refs tbl).toArray nl) (by simp)).1 hcl, hm⟩
theorem led_set_al (D : Apart al rl ml hl) (hex : ∀ p ∈ ex, p.2.cls = .type "tuple") (hc : o.cls = .type "list") (N : News g L h (own :: (al, o) :: (rl, listOf rowsV.toArray nr) :: (ml, listOf namesV.toArray nm') :: tabX tb td hl kh tk0 nd nl tbl ex)) (hown : al ≠ own.1) (hs : Heap.SameBut al h h') (hn : h'.get? al = some o') :
    News g L h' (own :: (al, o') :: (rl, listOf rowsV.toArray nr) :: (ml, listOf namesV.toArray nm') :: tabX tb td hl kh tk0 nd nl tbl ex) := by
  have z : ∀ p, p ∈ own :: (al, o) :: (rl, listOf rowsV.toArray nr) :: (ml, listOf namesV.toArray nm') :: tabX tb td hl kh tk0 nd nl tbl ex → p.1 ≠ al → h'.get? p.1 = some p.2 ∧ p.1 ≠ L ∧ g.get? p.1 = none := fun p hp hne => ⟨hs.extBut _ _ hne (N p hp).1, (N p hp).2⟩
  have ne := led_ne hex hc N
  intro p hp'
  rcases List.mem_cons.mp hp' with rfl | hp'
  · exact z _ (.head _) (Ne.symm hown)
  rcases List.mem_cons.mp hp' with rfl | hp'
  · exact ⟨hn, (N (al, o) (.tail _ (.head _))).2⟩
  rcases List.mem_cons.mp hp' with rfl | hp'
  · exact z _ (.tail _ (.tail _ (.head _))) (Ne.symm D.ar)
  rcases List.mem_cons.mp hp' with rfl | hp'
  · exact z _ (.tail _ (.tail _ (.tail _ (.head _)))) (Ne.symm D.am)
  rcases List.mem_cons.mp hp' with rfl | hp'
  · have q := ne (tb, _) (.head _); exact z _ q.2.2 q.1
  rcases List.mem_cons.mp hp' with rfl | hp'
  · have q := ne (td, _) (.tail _ (.head _)); exact z _ q.2.2 q.1
  rcases List.mem_cons.mp hp' with rfl | hp'
  · exact z _ (by simp) (Ne.symm D.ah)
  have q := ne p (.tail _ (.tail _ hp')); exact z _ q.2.2 q.1
theorem led_set_tab (D : Apart al rl ml hl) (hex : ∀ p ∈ ex, p.2.cls = .type "tuple") (F : Fr g L h m) (N : News g L h (own :: (al, o) :: (rl, listOf rowsV.toArray nr) :: (ml, listOf namesV.toArray nm') :: tabX tb td hl kh tk0 nd nl tbl ex)) (hall : ∀ q ∈ (al, o) :: (rl, listOf rowsV.toArray nr) :: (ml, listOf namesV.toArray nm') :: tabX tb td hl kh tk0 nd nl tbl ex, q.1 ≠ own.1)
    (hk : ∀ b o, b ≠ hl → b ≠ al → h.get? b = some o → h'.get? b = some o) (hal : h'.get? al = some o') (tab : TabAt h' tb td hl tbl') (fresh : ∀ e ∈ tbl', e ∈ tbl ∨ h.get? e.a = none) (hc : o.cls = .type "list") :
    ∃ nl', News g L h' (own :: (al, o') :: (rl, listOf rowsV.toArray nr) :: (ml, listOf namesV.toArray nm') :: tabX tb td hl kh tk0 nd nl' tbl' ex) ∧ (∀ p ∈ (al, o') :: (rl, listOf rowsV.toArray nr) :: (ml, listOf namesV.toArray nm') :: tabX tb td hl kh tk0 nd nl' tbl' ex, p.1 ≠ own.1) ∧ Fr g L h' m := by
  obtain ⟨nl', hL'⟩ := tab.list
  have hlF := (N (hl, listOf (refs tbl).toArray nl) (by simp))
  have haF := (N (al, o) (by simp))
  have hoF := N own (.head _)
  have ho : hl ≠ own.1 := hall (hl, listOf (refs tbl).toArray nl) (by simp)
  have ha : al ≠ own.1 := hall (al, o) (by simp)
  have z : ∀ p, p ∈ own :: (al, o) :: (rl, listOf rowsV.toArray nr) :: (ml, listOf namesV.toArray nm') :: tabX tb td hl kh tk0 nd nl tbl ex → p.1 ≠ hl → p.1 ≠ al → h'.get? p.1 = some p.2 ∧ p.1 ≠ L ∧ g.get? p.1 = none := fun p hp h1 h2 => ⟨hk _ _ h1 h2 (N p hp).1, (N p hp).2⟩
  have ne := led_ne hex hc N
  have hLs : ∃ oL, h.get? L = some oL := let ⟨oL, _, _, e, _⟩ := F.ns; ⟨oL, e⟩
  have ent : ∀ e ∈ tbl', h'.get? e.a = some e.obj ∧ e.a ≠ L ∧ g.get? e.a = none ∧ e.a ≠ own.1 := by
    intro e he
    rcases fresh e he with h1 | h1
    · have q := ne (e.a, e.obj) (.tail _ (.tail _ (List.mem_append_left _ (ents_mem h1))))
      exact ⟨(tab.ents e he).1, (N _ q.2.2).2.1, (N _ q.2.2).2.2, hall (e.a, e.obj) (by simp [ents_mem h1])⟩
    · refine ⟨(tab.ents e he).1, ?_, ?_, ?_⟩
      · rintro rfl; obtain ⟨oL, e⟩ := hLs; rw [h1] at e; cases e
      · cases q : g.get? e.a with
        | none => rfl
        | some o => have := F.keep _ _ q; rw [h1] at this; cases this
      · intro q; have := hoF.1; rw [← q, h1] at this; cases this
  refine ⟨nl', ?_, ?_, ?_⟩
  · intro p hp'
    rcases List.mem_cons.mp hp' with rfl | hp'
    · exact z _ (.head _) (Ne.symm ho) (Ne.symm ha)
    rcases List.mem_cons.mp hp' with rfl | hp'
    · exact ⟨hal, haF.2⟩
    rcases List.mem_cons.mp hp' with rfl | hp'
    · exact z _ (.tail _ (.tail _ (.head _))) (Ne.symm D.hr) (Ne.symm D.ar)
    rcases List.mem_cons.mp hp' with rfl | hp'
    · exact z _ (.tail _ (.tail _ (.tail _ (.head _)))) (Ne.symm D.hm) (Ne.symm D.am)
    rcases List.mem_cons.mp hp' with rfl | hp'
    · have q := ne (tb, _) (.head _); exact z _ q.2.2 q.2.1 q.1
    rcases List.mem_cons.mp hp' with rfl | hp'
    · have q := ne (td, _) (.tail _ (.head _)); exact z _ q.2.2 q.2.1 q.1
    rcases List.mem_cons.mp hp' with rfl | hp'
    · exact ⟨hL', hlF.2⟩
    rcases List.mem_append.mp hp' with hp' | hp'
    · obtain ⟨e, he, rfl⟩ := List.mem_map.mp hp'
      exact ⟨(ent e he).1, (ent e he).2.1, (ent e he).2.2.1⟩
    · have q := ne p (.tail _ (.tail _ (List.mem_append_right _ hp'))); exact z _ q.2.2 q.2.1 q.1
  · intro p hp'
    rcases List.mem_cons.mp hp' with rfl | hp'
    · exact ha
    rcases List.mem_cons.mp hp' with rfl | hp'
    · exact hall _ (.tail _ (.head _))
    rcases List.mem_cons.mp hp' with rfl | hp'
    · exact hall _ (.tail _ (.tail _ (.head _)))
    rcases List.mem_cons.mp hp' with rfl | hp'
    · exact hall (tb, instObj 218 td) (by simp)
    rcases List.mem_cons.mp hp' with rfl | hp'
    · exact hall (td, dictOf [⟨kh, .str (Str.ofString "_headers") tk0, .ref hl⟩] nd) (by simp)
    rcases List.mem_cons.mp hp' with rfl | hp'
    · exact ho
    rcases List.mem_append.mp hp' with hp' | hp'
    · obtain ⟨e, he, rfl⟩ := List.mem_map.mp hp'
      exact (ent e he).2.2.2
    · exact hall p (by simp [hp'])
  · exact ⟨F.ns.at' fun o e => hk _ o (Ne.symm hlF.2.1) (Ne.symm haF.2.1) e, fun b o e => hk b o (fun q => by rw [q, hlF.2.2] at e; cases e) (fun q => by rw [q, haF.2.2] at e; cases e) (F.keep b o e), F.above⟩
theorem led_keep {s₀ : Heap} {oA : Obj} {nl0 : Nat} {tbl0 : List Ent} (hg : ∀ b o, s₀.get? b = some o → b ∉ ((al, oA) :: (rl, listOf rowsV.toArray nr) :: (ml, listOf namesV.toArray nm') :: tabW tb td hl kh tk0 nd nl0 tbl0).map (·.1) → g.get? b = some o)
    (hW : ∀ p ∈ (al, oA) :: (rl, listOf rowsV.toArray nr) :: (ml, listOf namesV.toArray nm') :: tabW tb td hl kh tk0 nd nl0 tbl0, s₀.get? p.1 = some p.2)
    (F : Fr g L h m) (N : News g L h (own :: (al, o) :: (rl, listOf rowsV.toArray nr) :: (ml, listOf namesV.toArray nm') :: tabX tb td hl kh tk0 nd nl tbl (ents tbl0))) :
    ∀ b ob, b ≠ hl → b ≠ al → s₀.get? b = some ob → h.get? b = some ob := by
  intro b ob h1 h2 e
  by_cases hm : b ∈ ((al, oA) :: (rl, listOf rowsV.toArray nr) :: (ml, listOf namesV.toArray nm') :: tabW tb td hl kh tk0 nd nl0 tbl0).map (·.1)
  · obtain ⟨p, hp, rfl⟩ := List.mem_map.mp hm
    have z := hW p hp
    rw [e] at z
    cases z
    simp only [tabW, List.mem_cons] at hp
    rcases hp with rfl | rfl | rfl | rfl | rfl | rfl | hx
    · exact absurd rfl h2
    · exact (N (rl, listOf rowsV.toArray nr) (by simp)).1
    · exact (N (ml, listOf namesV.toArray nm') (by simp)).1
    · exact (N (tb, instObj 218 td) (by simp)).1
    · exact (N (td, dictOf [⟨kh, .str (Str.ofString "_headers") tk0, .ref hl⟩] nd) (by simp)).1
    · exact absurd rfl h1
    · exact (N p (by simp [hx])).1
  · exact F.keep b ob (hg b ob e hm)
theorem led_fresh {s₀ : Heap} (hk : ∀ b ob, b ≠ hl → b ≠ al → s₀.get? b = some ob → h.get? b = some ob) (N : News g L h (own :: (al, o) :: (rl, listOf rowsV.toArray nr) :: (ml, listOf namesV.toArray nm') :: tabX tb td hl kh tk0 nd nl tbl ex)) {a : Addr} (ha : h.get? a = none) : s₀.get? a = none := by
  cases q : s₀.get? a with
  | none => rfl
  | some ob =>
    by_cases h1 : a = hl
    · subst h1; have := (N (a, listOf (refs tbl).toArray nl) (by simp)).1; rw [ha] at this; cases this
    by_cases h2 : a = al
    · subst h2; have := (N (a, o) (by simp)).1; rw [ha] at this; cases this
    have := hk a ob h1 h2 q
    rw [ha] at this; cases this
theorem map_p_len {tbl : List Ent} (hn : (tbl.map (·.p)).Nodup) (hp : ∀ e ∈ tbl, e.p < 6 ∧ e.f < 6) : tbl.length ≤ 6 := by
  have := nodup_len 6 hn (fun p hp' => by obtain ⟨e, he, rfl⟩ := List.mem_map.mp hp'; exact (hp e he).1)
  simpa using this
def pf (tbl : List Ent) : Tb := tbl.map fun e => (e.p, e.f)
theorem pf_get {tbl : List Ent} {q : Nat} : tget (pf tbl) q = (tbl.find? (fun e => e.p == q)).map (·.f) := by
  unfold tget pf
  rw [List.find?_map, Option.map_map]
  rfl
theorem pf_set {tbl : List Ent} {q f : Nat} {a : Addr} {t t' : Tok} : pf (tbl.filter (fun e => e.p != q) ++ [⟨a, q, f, t, t'⟩]) = tset (pf tbl) q f := by
  unfold tset pf
  rw [List.map_append, List.filter_map]
  rfl
theorem set_nodup {tbl : List Ent} {q f : Nat} {a : Addr} {t t' : Tok} (hn : (tbl.map (·.p)).Nodup) : ((tbl.filter (fun e => e.p != q) ++ [(⟨a, q, f, t, t'⟩ : Ent)]).map (·.p)).Nodup := by
  rw [List.map_append, List.nodup_append]
  refine ⟨hn.sublist ((List.filter_sublist).map _), by simp, ?_⟩
  intro x hx y hy
  simp at hx hy
  obtain ⟨e, ⟨_, h2⟩, rfl⟩ := hx
  rw [hy]; exact h2
end
end Mine
end

section
theorem Mine.reset6 : True := by
  w_top off
  exact True.intro
open PySem PySem.W PyProof.Rows PySem.Calls PySem.Builtin.Str
set_option Elab.async false
set_option maxRecDepth 100000
set_option maxHeartbeats 0
namespace Mine
local macro_rules | `(tactic| walk_at "mine enter") => `(tactic| ((case ho => k_is); (case hcd => k_is); (case hbind => first | exact BindsTo.of_eq rfl | exact kp_binds (Frag.In.keeps (by assumption) (by assumption)) (fun _ => rfl)); (case hloc => exact locs rfl); (case hcell => decide); (case c2 => exact rfl); (case c3 => exact rfl); (case c4 => exact rfl)))
theorem ex_map5 {m : Str → Option Value} {a b c d e : Str} {va vb vc vd ve : Value} (ha : m a = some va) (hb : m b = some vb) (hc : m c = some vc) (hd : m d = some vd) (he : m e = some ve) :
    ∃ u : Str → Option Value, m = fun z => if z = a then some va else if z = b then some vb else if z = c then some vc else if z = d then some vd else if z = e then some ve else u z :=
  ⟨m, by
    funext z
    by_cases h1 : z = a
    · subst h1; simp [ha]
    by_cases h2 : z = b
    · subst h2; simp [h1, hb]
    by_cases h3 : z = c
    · subst h3; simp [h1, h2, hc]
    by_cases h4 : z = d
    · subst h4; simp [h1, h2, h3, hd]
    by_cases h5 : z = e
    · subst h5; simp [h1, h2, h3, h4, he]
    simp [h1, h2, h3, h4, h5]⟩
theorem any_nat (l : List Nat) (i : Nat) : ((l.map Int.ofNat).any (· == (i : Int))) = l.contains i := by
  induction l with
  | nil => rfl
  | cons x l ih =>
    rw [List.map_cons, List.any_cons, ih, List.contains_cons]
    congr 1
    rw [Bool.eq_iff_iff]
    simp
    constructor
    · intro h; exact (Int.ofNat.inj h).symm
    · intro h; rw [h]
def Has5 (m : Str → Option Value) (tb rl ml al : Addr) (kv : Value) : Prop :=
  m (Str.ofString "table") = some (.ref tb) ∧ m (Str.ofString "rows") = some (.ref rl) ∧ m (Str.ofString "names") = some (.ref ml) ∧ m (Str.ofString "k") = some kv ∧ m (Str.ofString "asked") = some (.ref al)
structure RowsAt (R : Nat → Nat → Bool) (rowsV namesV : List Value) : Prop where
  row : ∀ k, k < 6 → ∃ x t, rowsV[k]? = some (.str x t) ∧ ∀ p, p < 6 → ∃ c, x.cps[4 + p]? = some c ∧ [114, 119, 120, 115, 116].contains c = R k p
  name : ∀ p, p < 6 → ∃ t, namesV[p]? = some (.str (nm p) t)
local macro_rules | `(tactic| walk_at "subscriptTail Name Name ref int") => `(tactic| (refine item_at (by assumption) (by k_mem) (by assumption) (by omega) ?_ (fun _ _ => by with_unfolding_all rfl)))
local macro_rules | `(tactic| walk_at "call builtin:str.upper") => `(tactic| (refine upper_nm (by assumption) ?_))
local macro_rules | `(tactic| walk_at "subscriptTail") => `(tactic| ((with_reducible show wpAny _ _ (subscriptTail _ _ (Value.str (Str.ofString "abcdef") _) (Value.int _ _)) _ _ _); refine letter_at (by assumption) ?_ (fun _ _ => by with_unfolding_all rfl)))
local macro_rules | `(tactic| walk_at "call builtin:str.index") => `(tactic| (refine index_lt (by assumption) ?_))
theorem finds_spec {loose : List Str} {mean : ExcName → Option Value} {mg mb : Str → Option Value} {w : World} {R : Nat → Nat → Bool} {rowsV namesV : List Value} (HR : RowsAt R rowsV namesV) (n : Nat) :
    ∀ {hT : Heap} {A : Around} {s : Shared} {Q E : Value → Shared → Prop} {tb td hl al rl ml : Addr} {tbl : List Ent} {k : Nat} {tkk : Tok} {asv : List Value} {asked : List Nat} {na nr nm' : Nat}
    (X : (hd.heap_39 w.params).In hT) (T : Top hd.view_39 loose mean mg mb hT) (st : ∀ b o, hT.get? b = some o → s.heap.get? b = some o) (hroom : A.depth + n + 5 < recursionLimit) (hh : A.handled = none)
    (tab : TabAt s.heap tb td hl tbl) (new : TabNew hT tb td hl tbl) (hnd : (tbl.map (·.p)).Nodup) (hk : k < 6) (has : asked.Nodup) (hal6 : ∀ p ∈ asked, p < 6) (hfuel : 7 ≤ asked.length + n)
    (ha : s.heap.get? al = some (listOf asv.toArray na)) (hal : hT.get? al = none) (hasv : IntsAre asv (asked.map Int.ofNat))
    (hr : s.heap.get? rl = some (listOf rowsV.toArray nr)) (hrl : hT.get? rl = none)
    (hm : s.heap.get? ml = some (listOf namesV.toArray nm')) (hml : hT.get? ml = none) (D : Apart al rl ml hl)
    (hret : ∀ h' tk' (b : Bool) tbl' asv' asked' na', (∀ b o, b ≠ hl → b ≠ al → s.heap.get? b = some o → h'.get? b = some o) → (∀ e ∈ tbl', e ∈ tbl ∨ s.heap.get? e.a = none) → TabAt h' tb td hl tbl' → (tbl'.map (·.p)).Nodup → asked'.Nodup → (∀ p ∈ asked', p < 6) → asked.length ≤ asked'.length →
      h'.get? al = some (listOf asv'.toArray na') → IntsAre asv' (asked'.map Int.ofNat) → finds R n k (pf tbl) asked = (b, pf tbl', asked') → Q (.bool b) { s with heap := h', toks := tk' }),
    wpAny (model PySem.Challenge.rw_pe0235_01.row.prog w) A (call (.ref 229) [.ref tb, .ref rl, .ref ml, .int k tkk, .ref al]) Q E s := by
  induction n with
  | zero =>
    intro hT A s Q E tb td hl al rl ml tbl k tkk asv asked na nr nm' X T st hroom hh tab new hnd hk has hal6 hfuel
    have := nodup_len 6 has hal6
    omega
  | succ n ih =>
  intro hT A s Q E tb td hl al rl ml tbl k tkk asv asked na nr nm' X
  revert X
  k_fill
  intro X T st hroom hh tab new hnd hk has hal6 hfuel ha hal hasv hr hrl hm hml D hret
  obtain ⟨kh, tk0, nd, nl, hW0⟩ := tab.all new
  have hW : ∀ p ∈ (al, listOf asv.toArray na) :: (rl, listOf rowsV.toArray nr) :: (ml, listOf namesV.toArray nm') :: tabW tb td hl kh tk0 nd nl tbl, s.heap.get? p.1 = some p.2 ∧ hT.get? p.1 = none := by
    intro p hp
    rcases List.mem_cons.mp hp with rfl | hp
    · exact ⟨ha, hal⟩
    rcases List.mem_cons.mp hp with rfl | hp
    · exact ⟨hr, hrl⟩
    rcases List.mem_cons.mp hp with rfl | hp
    · exact ⟨hm, hml⟩
    exact hW0 p hp
  refine wpAny_call ?_
  refine' raw_call (binds := [(Str.ofString "table", .ref tb), (Str.ofString "rows", .ref rl), (Str.ofString "names", .ref ml), (Str.ofString "k", .int k tkk), (Str.ofString "asked", .ref al)]) _ X T st hW ?ho ?hcd (by omega) ?hbind ?hloc ?_ ?hcell ?c2 ?c3 ?c4
  walk_at "mine enter"
  intro g L' h' hg F' N' X' T' tg hlt
  clear X T
  walk1
  walk1
  refine wpAny_For ?_
  iterate 6 walk1
  refine range1_rows F' N' ?_
  intro h₁ tk₁ t₁ u₁ v₁ hrg F₁ N₁ _
  dsimp only
  have N₁' : News g L' h₁ ((al, listOf asv.toArray na) :: (rl, listOf rowsV.toArray nr) :: (ml, listOf namesV.toArray nm') :: tabX tb td hl kh tk0 nd nl tbl (ents tbl)) := news_sub N₁ fun p hp => by
    simp only [tabX, List.mem_cons, List.mem_append, or_self] at hp ⊢
    exact hp
  refine for_range (n := 6) (fun i m₁ news₁ => ∃ (asv : List Value) (na nlc : Nat) (tblc : List Ent) (asked₁ : List Nat), Has5 m₁ tb rl ml al (.int k tkk) ∧
      news₁ = (al, listOf asv.toArray na) :: (rl, listOf rowsV.toArray nr) :: (ml, listOf namesV.toArray nm') :: tabX tb td hl kh tk0 nd nlc tblc (ents tbl) ∧
      IntsAre asv (asked₁.map Int.ofNat) ∧ asked₁.Nodup ∧ (∀ p ∈ asked₁, p < 6) ∧ asked.length ≤ asked₁.length ∧ (tblc.map (·.p)).Nodup ∧ (∀ e ∈ tblc, e.p < 6 ∧ e.f < 6) ∧ (∀ e ∈ tblc, e ∈ tbl ∨ s.heap.get? e.a = none) ∧
      scan R (finds R n) k ((List.range 6).drop i) (pf tblc) asked₁ = finds R (n + 1) k (pf tbl) asked) hh F₁ N₁' hrg rfl rfl ?_ ?_ ?_
  · exact ⟨asv, na, nl, tbl, asked, ⟨rfl, rfl, rfl, rfl, rfl⟩, rfl, hasv, has, hal6, Nat.le_refl _, hnd, fun e he => (tab.ents e he).2, fun e he => .inl he, rfl⟩
  · rintro i tv m₁ news₁ h tk own hi ⟨asv, na, nlc, tblc, asked₁, ⟨hm1, hm2, hm3, hm4, hm5⟩, rfl, hasv, has, hal6, hale, hnd, hents, hfresh, hscan⟩ F₂ N₂ hown
    obtain ⟨u, rfl⟩ := ex_map5 hm1 hm2 hm3 hm4 hm5
    rw [Int.zero_add]
    obtain ⟨xr, tr, hrow, hch⟩ := HR.row k hk
    obtain ⟨c, hc, hcR⟩ := hch i hi
    obtain ⟨tn, hname⟩ := HR.name i hi
    iterate 16 walk1
    refine char_at (i := 4 + i) (by omega) hc (by omega) ?_ (fun _ _ => by with_unfolding_all rfl)
    iterate 1 walk1
    refine in_word (l := [114, 119, 120, 115, 116]) (by decide +kernel) ?_
    rw [hcR]
    cases hR : R k i
    · iterate 6 walk1
      refine ⟨_, _, _, _, rfl, by assumption, by assumption, hown, ?_⟩
      exact ⟨asv, na, nlc, tblc, asked₁, ⟨rfl, rfl, rfl, rfl, rfl⟩, rfl, hasv, has, hal6, hale, hnd, hents, hfresh, (scan_no hi (by rw [hR]; rfl)).symm.trans hscan⟩
    · iterate 6 walk1
      refine notin_list_ints (isL (n := na) (by assumption) (by k_mem)) hasv ?_
      rw [any_nat]
      cases hnc : asked₁.contains i
      · simp only [Bool.not_false]
        iterate 14 walk1
        (rename Fr _ _ _ _ => F₃)
        (rename News _ _ _ _ => N₃)
        have hsize : asv.toArray.size ≤ 6 := by
          have e1 := hasv.length
          have e2 := nodup_len 6 has hal6
          simp at e1 ⊢
          omega
        refine wpAny_list_append_plain (isP (n := na) N₃ (by k_mem)) (fun h₄ hp₄ hs₄ => ?_) (by rw [sizeLine_eq]; omega)
        have halo : al ≠ own.1 := hown (al, _) (by k_mem)
        have F₄ := fr_but1 F₃ (N₃ (al, _) (by k_mem)).2.1 (N₃ (al, _) (by k_mem)).2.2 fun b o hb e => hs₄.extBut b o hb e
        obtain ⟨na₄, hn₄⟩ := hp₄
        have hn₄' : h₄.get? al = some (listOf (asv ++ [Value.int ↑i tv]).toArray na₄) := by rw [hn₄]; simp
        have N₄ := led_set_al D ents_cls rfl N₃ halo hs₄ hn₄'
        have hasv₄ : IntsAre (asv ++ [Value.int ↑i tv]) ((asked₁ ++ [i]).map Int.ofNat) := by rw [List.map_append]; exact ints_snoc hasv
        have hni : i ∉ asked₁ := fun hm => by rw [List.contains_iff_mem.mpr hm] at hnc; cases hnc
        have has₄ : (asked₁ ++ [i]).Nodup := by
          rw [List.nodup_append]
          exact ⟨has, by simp, fun x hx y hy => by simp at hy; subst hy; exact fun e => hni (e ▸ hx)⟩
        have hal6₄ : ∀ p ∈ asked₁ ++ [i], p < 6 := fun p hp => by
          rcases List.mem_append.mp hp with hp | hp
          · exact hal6 p hp
          · rw [List.mem_singleton.mp hp]; exact hi
        clear F₃ N₃
        iterate 17 walk1
        obtain ⟨tab₄, new₄⟩ := tab_of_news (news_sub N₄ (fun p hp => .tail _ (.tail _ (.tail _ (.tail _ (tabX_sub p hp)))))) hents
        refine get_spec X' T' F₄.keep (by show A.depth + 1 + 1 < _; omega) (by exact hh) tab₄ new₄.inst new₄.dict new₄.list (nm_upper_lower i hi) hi ?_
        intro h₅ tk₅ hk₅
        have F₅ := fr_all F₄ hk₅
        have N₅ := news_all N₄ hk₅
        clear F₄ N₄
        cases hfd : tblc.find? (fun e => e.p == i)
        · dsimp only
          iterate 24 walk1
          (rename Fr _ _ _ _ => F₆)
          (rename News _ _ _ _ => N₆)
          obtain ⟨tab₆, new₆⟩ := tab_of_news (news_sub N₆ (fun p hp => .tail _ (.tail _ (.tail _ (.tail _ (tabX_sub p hp)))))) hents
          have hkeep := led_keep hg (fun p hp => (hW p hp).1) F₆ N₆
          dsimp only
          refine set_spec X' T' F₆.keep (by show A.depth + 1 + 2 < _; omega) (by exact hh) tab₆ new₆ hi hk (map_p_len hnd hents) ?_
          intro h₇ tk₇ a₇ hk₇ hfr₇ tab₇
          iterate 3 walk1
          refine hret h₇ _ true _ _ (asked₁ ++ [i]) na₄ (fun b o h1 h2 e => hk₇ b o h1 (hkeep b o h1 h2 e)) ?_ tab₇ (set_nodup hnd) has₄ hal6₄ (by simp; omega) (hk₇ _ _ D.ah (N₆ (al, _) (by k_mem)).1) hasv₄ ?_
          · intro e he
            rcases List.mem_append.mp he with he | he
            · exact hfresh e (List.mem_filter.mp he).1
            · rw [List.mem_singleton.mp he]; exact .inr (led_fresh hkeep N₆ hfr₇)
          · rw [← hscan, scan_free hi hR hnc (by rw [pf_get, hfd]; rfl), pf_set]
        · rename_i en
          have hen := (hents en (List.mem_of_find?_eq_some hfd)).2
          dsimp only
          iterate 35 walk1
          (rename Fr _ _ _ _ => F₆)
          (rename News _ _ _ _ => N₆)
          obtain ⟨tab₆, new₆⟩ := tab_of_news (news_sub N₆ (fun p hp => .tail _ (.tail _ (.tail _ (.tail _ (tabX_sub p hp)))))) hents
          refine ih (asv := asv ++ [Value.int ↑i tv]) (asked := asked₁ ++ [i]) (tbl := tblc) X' T' F₆.keep (by show A.depth + 1 + n + 5 < _; omega) (by exact hh) tab₆ new₆ hnd hen has₄ hal6₄ (by simp; omega) (N₆ (al, _) (by k_mem)).1 (N₆ (al, _) (by k_mem)).2.2 hasv₄ (N₆ (rl, _) (by k_mem)).1 (N₆ (rl, _) (by k_mem)).2.2 (N₆ (ml, _) (by k_mem)).1 (N₆ (ml, _) (by k_mem)).2.2 D ?_
          intro h₈ tk₈ bres tbl₈ asv₈ asked₈ na₈ hk₈ hfr₈ tab₈ hnd₈ has₈ hal6₈ hle₈ hal₈ hasv₈ heq₈
          have hown₄ : ∀ q ∈ (al, listOf (asv ++ [Value.int ↑i tv]).toArray na₄) :: (rl, listOf rowsV.toArray nr) :: (ml, listOf namesV.toArray nm') :: tabX tb td hl kh tk0 nd nlc tblc (ents tbl), q.1 ≠ own.1 := fun q hq => by
            rcases List.mem_cons.mp hq with rfl | hq
            · exact halo
            · exact hown q (.tail _ hq)
          obtain ⟨nl₈, N₈, hown₈, F₈⟩ := led_set_tab D ents_cls F₆ N₆ hown₄ hk₈ hal₈ tab₈ hfr₈ rfl
          have hkeep₆ := led_keep hg (fun p hp => (hW p hp).1) F₆ N₆
          have hfresh₈ : ∀ e ∈ tbl₈, e ∈ tbl ∨ s.heap.get? e.a = none := fun e he => by
            rcases hfr₈ e he with h1 | h1
            · exact hfresh e h1
            · exact .inr (led_fresh hkeep₆ N₆ h1)
          have hents₈ : ∀ e ∈ tbl₈, e.p < 6 ∧ e.f < 6 := fun e he => (tab₈.ents e he).2
          clear F₆ N₆
          simp only [List.length_append, List.length_singleton] at hle₈
          cases bres
          · iterate 7 walk1
            refine ⟨_, _, _, _, rfl, F₈, N₈, hown₈, ?_⟩
            exact ⟨asv₈, na₈, nl₈, tbl₈, asked₈, ⟨rfl, rfl, rfl, rfl, rfl⟩, rfl, hasv₈, has₈, hal6₈, by omega, hnd₈, hents₈, hfresh₈, (scan_false hi hR hnc (by rw [pf_get, hfd]; rfl) heq₈).symm.trans hscan⟩
          · iterate 15 walk1
            (rename Fr _ _ _ _ => F₉)
            (rename News _ _ _ _ => N₉)
            obtain ⟨tab₉, new₉⟩ := tab_of_news (news_sub N₉ (fun p hp => .tail _ (.tail _ (.tail _ (.tail _ (tabX_sub p hp)))))) hents₈
            have hkeep := led_keep hg (fun p hp => (hW p hp).1) F₉ N₉
            dsimp only
            refine set_spec X' T' F₉.keep (by show A.depth + 1 + 2 < _; omega) (by exact hh) tab₉ new₉ hi hk (map_p_len hnd₈ hents₈) ?_
            intro h₇ tk₇ a₇ hk₇ hfr₇ tab₇
            iterate 3 walk1
            refine hret h₇ _ true _ _ asked₈ na₈ (fun b o h1 h2 e => hk₇ b o h1 (hkeep b o h1 h2 e)) ?_ tab₇ (set_nodup hnd₈) has₈ hal6₈ (by omega) (hk₇ _ _ D.ah (N₉ (al, _) (by k_mem)).1) hasv₈ ?_
            · intro e he
              rcases List.mem_append.mp he with he | he
              · exact hfresh₈ e (List.mem_filter.mp he).1
              · rw [List.mem_singleton.mp he]; exact .inr (led_fresh hkeep N₉ hfr₇)
            · rw [← hscan, scan_true hi hR hnc (by rw [pf_get, hfd]; rfl) heq₈, pf_set]
      · simp only [Bool.not_true]
        iterate 6 walk1
        refine ⟨_, _, _, _, rfl, by assumption, by assumption, hown, ?_⟩
        exact ⟨asv, na, nlc, tblc, asked₁, ⟨rfl, rfl, rfl, rfl, rfl⟩, rfl, hasv, has, hal6, hale, hnd, hents, hfresh, (scan_no hi (by rw [hR, hnc]; rfl)).symm.trans hscan⟩
  · rintro m₁ news₁ h tk ⟨asv, na, nlc, tblc, asked₁, hm5, rfl, hasv, has, hal6, hale, hnd, hents, hfresh, hscan⟩ F₂ N₂
    iterate 4 walk1
    have N₃ : News g L' h ((al, listOf asv.toArray na) :: (al, listOf asv.toArray na) :: (rl, listOf rowsV.toArray nr) :: (ml, listOf namesV.toArray nm') :: tabX tb td hl kh tk0 nd nlc tblc (ents tbl)) := fun p hp => by
      rcases List.mem_cons.mp hp with rfl | hp
      · exact N₂ _ (.head _)
      · exact N₂ p hp
    have hkeep := led_keep hg (fun p hp => (hW p hp).1) F₂ N₃
    have tab₂ := (tab_of_news (news_sub N₂ (fun p hp => .tail _ (.tail _ (.tail _ (tabX_sub p hp))))) hents).1
    exact hret h _ false tblc asv asked₁ na hkeep hfresh tab₂ hnd has hal6 hale (N₂ (al, _) (.head _)).1 hasv hscan.symm
end Mine
end

section
open PySem PySem.W PyProof.Rows PySem.Calls
set_option Elab.async false
namespace Mine
theorem bitAnd_nat (a b : Nat) : Builtin.bitAnd (a : Int) (b : Int) = ((a &&& b : Nat) : Int) := by
  unfold Builtin.bitAnd
  rw [decide_eq_true (Int.natCast_nonneg a), decide_eq_true (Int.natCast_nonneg b)]
  rfl
theorem bitOr_nat (a b : Nat) : Builtin.bitOr (a : Int) (b : Int) = ((a ||| b : Nat) : Int) := by
  unfold Builtin.bitOr Builtin.bitAnd
  have h1 : decide (0 ≤ Builtin.bitNot (a : Int)) = false := decide_eq_false (by unfold Builtin.bitNot; omega)
  have h2 : decide (0 ≤ Builtin.bitNot (b : Int)) = false := decide_eq_false (by unfold Builtin.bitNot; omega)
  rw [h1, h2]
  have e1 : (Builtin.bitNot (Builtin.bitNot (a : Int))).toNat = a := by unfold Builtin.bitNot; omega
  have e2 : (Builtin.bitNot (Builtin.bitNot (b : Int))).toNat = b := by unfold Builtin.bitNot; omega
  dsimp only
  rw [e1, e2]
  unfold Builtin.bitNot
  omega
section
variable {prog : Program} {w : World} {A : Around} {E : Value → Shared → Prop} {s : Shared} {Q : Value → Shared → Prop} {a b : Nat} {t u : Tok}
theorem and_nat (h : Q (.int ((a &&& b : Nat) : Int) s.toks) { s with toks := s.toks + 1 }) : wpAny (model prog w) A (binaryOp .BitAnd (.int (a : Int) t) (.int (b : Int) u)) Q E s :=
  and_int (by rw [bitAnd_nat]; exact h)
theorem or_nat (h : Q (.int ((a ||| b : Nat) : Int) s.toks) { s with toks := s.toks + 1 }) : wpAny (model prog w) A (binaryOp .BitOr (.int (a : Int) t) (.int (b : Int) u)) Q E s :=
  or_int (by rw [bitOr_nat]; exact h)
end
end Mine
end

section
theorem Mine.reset7 : True := by
  w_top off
  exact True.intro
local macro_rules | `(tactic| walk_at "no such place") => `(tactic| skip)
local macro_rules | `(tactic| walk_at "no such place") => `(tactic| skip)
local macro_rules | `(tactic| walk_at "no such place") => `(tactic| skip)
local macro_rules | `(tactic| walk_at "no such place") => `(tactic| skip)
local macro_rules | `(tactic| walk_at "no such place") => `(tactic| skip)
local macro_rules | `(tactic| walk_at "no such place") => `(tactic| skip)
local macro_rules | `(tactic| walk_at "no such place") => `(tactic| skip)
local macro_rules | `(tactic| walk_at "no such place") => `(tactic| skip)
open PySem PySem.W PyProof.Rows PySem.Calls PySem.Builtin.Str
set_option Elab.async false
set_option maxRecDepth 100000
set_option maxHeartbeats 0
namespace Mine
local macro_rules | `(tactic| walk_at "mine enter") => `(tactic| ((case ho => k_is); (case hcd => k_is); (case hbind => first | exact BindsTo.of_eq rfl | exact kp_binds (Frag.In.keeps (by assumption) (by assumption)) (fun _ => rfl)); (case hloc => exact locs rfl); (case hcell => decide); (case c2 => exact rfl); (case c3 => exact rfl); (case c4 => exact rfl)))
theorem common_spec {loose : List Str} {mean : ExcName → Option Value} {mg mb : Str → Option Value} {hT : Heap} {w : World} {A : Around} {s : Shared} {Q E : Value → Shared → Prop} {l : Addr} {vs : List Value} {ns : List Nat} {n : Nat}
    (X : (hd.heap_39 w.params).In hT) (T : Top hd.view_39 loose mean mg mb hT) (st : ∀ b o, hT.get? b = some o → s.heap.get? b = some o) (hroom : A.depth + 1 < recursionLimit) (hh : A.handled = none)
    (hl : s.heap.get? l = some (listOf vs.toArray n)) (hlT : hT.get? l = none) (hi : IntsAre vs (ns.map Int.ofNat)) (hb : ∀ x ∈ ns, x < 64)
    (hret : ∀ h' tk' t, (∀ b o, s.heap.get? b = some o → h'.get? b = some o) → Q (.int ((ns.foldl (fun a b => a &&& b) 63 : Nat) : Int) t) { s with heap := h', toks := tk' }) :
    wpAny (model PySem.Challenge.rw_pe0235_01.row.prog w) A (call (.ref 236) [.ref l]) Q E s := by
  revert X
  k_fill
  intro X
  have hW : ∀ p ∈ [(l, listOf vs.toArray n)], s.heap.get? p.1 = some p.2 ∧ hT.get? p.1 = none := by
    intro p hp
    rw [List.mem_singleton.mp hp]; exact ⟨hl, hlT⟩
  refine wpAny_call ?_
  refine' raw_call (binds := [(Str.ofString "sets", .ref l)]) _ X T st hW ?ho ?hcd (by omega) ?hbind ?hloc ?_ ?hcell ?c2 ?c3 ?c4
  walk_at "mine enter"
  intro g L' h' hg F' N' X' T' tg hlt
  clear X T
  iterate 6 walk1
  refine wpAny_For ?_
  iterate 1 walk1
  refine for_list (items := vs) (fun i m₁ news₁ => news₁ = [(l, listOf vs.toArray n)] ∧ (∃ t, m₁ (Str.ofString "least") = some (.int (((ns.take i).foldl (fun a b => a &&& b) 63 : Nat) : Int) t)) ∧ (ns.take i).foldl (fun a b => a &&& b) 63 < 64)
    hh (by assumption) (by assumption) (isL (n := n) (by assumption) (by k_mem)) ?_ ?_ ?_ ?_
  · rintro i m₁ news₁ h ⟨rfl, _, _⟩ _ N
    exact isL (n := n) N (by k_mem)
  · exact ⟨rfl, ⟨_, rfl⟩, by show 63 < 64; omega⟩
  · rintro i v m₁ news₁ h tk own hv ⟨rfl, ⟨t, ht⟩, hlt64⟩ F₁ N₁ hown
    obtain ⟨u, rfl⟩ := ex_map1 ht
    obtain ⟨x, tx, rfl, hx⟩ := hi.at i v hv
    obtain ⟨y, hy, rfl⟩ : ∃ y, ns[i]? = some y ∧ x = Int.ofNat y := by
      rw [List.getElem?_map, Option.map_eq_some_iff] at hx
      obtain ⟨y, hy, e⟩ := hx
      exact ⟨y, hy, e.symm⟩
    iterate 8 walk1
    have e63 : (ns.take (i + 1)).foldl (fun a b => a &&& b) 63 = (ns.take i).foldl (fun a b => a &&& b) 63 &&& y := by
      rw [List.take_add_one, hy]; simp
    refine and_nat (b := y) ?_
    iterate 2 walk1
    refine ⟨_, _, _, _, rfl, by assumption, by assumption, hown, rfl, ⟨_, by rw [e63]; rfl⟩, ?_⟩
    rw [e63]
    exact Nat.lt_of_le_of_lt Nat.and_le_left hlt64
  · rintro m₁ news₁ h tk ⟨rfl, ⟨t, ht⟩, hlt64⟩ F₁ N₁
    obtain ⟨u, rfl⟩ := ex_map1 ht
    iterate 4 walk1
    have e : ns.take vs.length = ns := by
      have := hi.length
      rw [this]; simp
    rw [e]
    exact hret h _ _ (keep_back hg (fun p hp => (hW p hp).1) F₁ N₁)
end Mine
end

section
open PySem PySem.W PyProof.Rows PySem.Calls
open AutoSeq1 (wpAny_loadPart')
set_option Elab.async false
set_option maxRecDepth 100000
set_option maxHeartbeats 0
namespace Mine
theorem enum_newT (l : Addr) (items : Array Value) (n : Nat) (dct : Option Addr) (sl : Array (Option Value)) :
    Meets (Builtin.«enumerate.__new__» ⟨[.type "enumerate", .ref l], []⟩) (fun _ R s => s.heap.get? l = some { cls := .type "tuple", dict := dct, data := .seq items n, slots := sl } ∧
      R (.ok (.ret (.ref (s.heap.push { cls := .type "tuple_iterator", data := .fields #[.ref l, .int 0 0] }).objs.size)))
        { s with heap := (s.heap.push { cls := .type "tuple_iterator", data := .fields #[.ref l, .int 0 0] }).push { cls := .type "enumerate", data := .fields #[.none, .bool false, .ref s.heap.objs.size, rawInt 0, .none, .none] } }) :=
  .of_wp fun prog w A R s h => by
    obtain ⟨hp, g, d, tk, os⟩ := s; obtain ⟨hl, h⟩ := h
    have hsub := sub_enumerate
    have hL : Heap.IsTuple (Shared.heap ⟨hp, g, d, tk, os⟩) l items := ⟨_, hl, rfl, n, rfl⟩
    wp_walk using wpAny_loadPart' hl
    refine wpAny_stack_any fun st => wpAny_pure ?_
    split
    · rename_i c _ _ _ _ _
      cases (c == Value.type "enumerate")
      · wp_walk using wpAny_loadPart' hl, wpAny_pyIter_tuple hL
        exact ⟨_, rfl, h⟩
      · wp_walk using wpAny_loadPart' hl, wpAny_pyIter_tuple hL
        exact ⟨_, rfl, h⟩
    · wp_walk using wpAny_loadPart' hl, wpAny_pyIter_tuple hL
      exact ⟨_, rfl, h⟩
section
variable {prog : Program} {w : World} {A : Around} {E : Value → Shared → Prop} {s : Shared}
theorem call_enumT {l : Addr} {items : Array Value} {Q : Value → Shared → Prop} (hL : s.heap.IsTuple l items)
    (h : ∀ h', IsEnum h' (s.heap.objs.size + 1) s.heap.objs.size 0 .none → h'.IsTupleIter s.heap.objs.size l 0 → h'.objs.size = s.heap.objs.size + 2 →
      (∀ b o, s.heap.get? b = some o → h'.get? b = some o) → Q (.ref (s.heap.objs.size + 1)) { s with heap := h' }) :
    wpAny (model prog w) A (call (.type "enumerate") [.ref l]) Q E s := by
  obtain ⟨⟨c, dct, dt, sl⟩, hl, hc, n, hd⟩ := hL
  replace hc : c = .type "tuple" := hc
  replace hd : dt = .seq items n := hd
  subst hc hd
  refine callType_new F.called_enumerate (by decide) (F.typeCall_enumerate_1 _) (F.newCall_enumerate_1 _) (fun obj => F.args_object_init_2 obj _) F.entry_enumerate_new
    (enum_newT l items n dct sl) ⟨hl, ?_⟩
  have hz : (s.heap.push { cls := .type "tuple_iterator", data := .fields #[.ref l, .int 0 0] }).objs.size = s.heap.objs.size + 1 := Heap.size_push ..
  show _ ∧ _
  rw [hz]
  have he : IsEnum ((s.heap.push { cls := .type "tuple_iterator", data := .fields #[.ref l, .int 0 0] }).push
      { cls := .type "enumerate", data := .fields #[.none, .bool false, .ref s.heap.objs.size, rawInt 0, .none, .none] }) (s.heap.objs.size + 1) s.heap.objs.size 0 .none := by
    have := Heap.get?_push_size (s.heap.push { cls := .type "tuple_iterator", data := .fields #[.ref l, .int 0 0] })
      (o := { cls := .type "enumerate", data := .fields #[.none, .bool false, .ref s.heap.objs.size, rawInt 0, .none, .none] }) rfl
    rw [hz] at this; exact this
  refine ⟨⟨_, he, rfl⟩, h _ he ⟨_, Heap.get?_push_of_some _ (Heap.get?_push_size _ rfl), rfl, rfl⟩ (by rw [Heap.size_push, hz]) fun b o x => Heap.get?_push_of_some _ (Heap.get?_push_of_some _ x)⟩
theorem nextT_item {it l : Addr} {i : Nat} {items} {x : Value} {Q : Value → Shared → Prop} (hit : s.heap.IsTupleIter it l i)
    (hl : s.heap.IsTuple l items) (hx : items[i]? = some x)
    (hQ : ∀ h', h'.IsTupleIter it l (i + 1) → Heap.SameBut it s.heap h' → Q x { s with heap := h' }) :
    wpAny (model prog w) A (Builtin.SmallTypes.nextOf (.ref it)) Q E s := by
  obtain ⟨o, ho, hc, hd⟩ := id hit
  obtain ⟨ol, hol, _, nl, hdl⟩ := hl
  unfold Builtin.SmallTypes.nextOf
  refine wpAny_bind (wpAny_callSpecial?_slot (name := Str.ofString "__next__") hit.typeIs F.slot_tuple_iterator_next
    (wpAny_call_entry F.slot_tuple_iterator_next hit.typeIs F.entry_tuple_iterator_next ?_ (F.args_tuple_iterator_next_1 _)))
  show wpAny _ _ (field (.ref it) 0 >>= _) _ _ s
  refine wpAny_bind (wpAny_field ho hd (x := .ref l) rfl ?_)
  show wpAny _ _ (if (Value.ref l == Value.none) = true then _ else _) _ _ s
  rw [if_neg (show ¬ ((Value.ref l == Value.none) = true) from Bool.false_ne_true)]
  show wpAny _ _ (field (.ref it) 1 >>= _) _ _ s
  refine wpAny_bind (wpAny_field ho hd (x := .int i 0) rfl ?_)
  show wpAny _ _ (seqItems? (.ref l) >>= _) _ _ s
  refine wpAny_bind (wpAny_seqItems hol hdl ?_)
  simp only [Int.toNat_natCast, hx]
  refine wpAny_bind (wpAny_setField ho hd (by simp) (wpAny_pure ⟨x, rfl, wpAny_pure (hQ _ ?_ (Heap.SameBut.update ..))⟩))
  exact ⟨_, Heap.get?_update_self _ ho (Obj.isFreed_of_fields (Obj.data_mapFields hd _)), (Obj.cls_mapFields ..).trans hc, by
    rw [Obj.data_mapFields hd]; simp [rawInt]⟩
theorem nextT_end {it l : Addr} {i : Nat} {items} {Q : Value → Shared → Prop} (hh : A.handled = none)
    (hit : s.heap.IsTupleIter it l i) (hl : s.heap.IsTuple l items) (hx : items[i]? = none)
    (hE : ∀ h' e, Heap.ExtBut it s.heap h' → (∃ o, h'.get? e = some o ∧ o.cls = .type "StopIteration") → E (.ref e) { s with heap := h' }) :
    wpAny (model prog w) A (Builtin.SmallTypes.nextOf (.ref it)) Q E s := by
  obtain ⟨o, ho, hc, hd⟩ := id hit
  obtain ⟨ol, hol, _, nl, hdl⟩ := hl
  unfold Builtin.SmallTypes.nextOf
  refine wpAny_bind (wpAny_callSpecial?_slot (name := Str.ofString "__next__") hit.typeIs F.slot_tuple_iterator_next
    (wpAny_call_entry F.slot_tuple_iterator_next hit.typeIs F.entry_tuple_iterator_next ?_ (F.args_tuple_iterator_next_1 _)))
  show wpAny _ _ (field (.ref it) 0 >>= _) _ _ s
  refine wpAny_bind (wpAny_field ho hd (x := .ref l) rfl ?_)
  show wpAny _ _ (if (Value.ref l == Value.none) = true then _ else _) _ _ s
  rw [if_neg (show ¬ ((Value.ref l == Value.none) = true) from Bool.false_ne_true)]
  show wpAny _ _ (field (.ref it) 1 >>= _) _ _ s
  refine wpAny_bind (wpAny_field ho hd (x := .int i 0) rfl ?_)
  show wpAny _ _ (seqItems? (.ref l) >>= _) _ _ s
  refine wpAny_bind (wpAny_seqItems hol hdl ?_)
  simp only [Int.toNat_natCast, hx]
  refine wpAny_bind (wpAny_rule (wpAny_bind (wpAny_setField ho hd (by simp) ?_)))
  show wpAny _ _ (newExc (.type "StopIteration") [] >>= _) _ _ _
  refine wpAny_bind ?_
  simp only [newExc, newTuple]
  refine wpAny_bind (wpAny_newObj_type ?_ (by size_fits))
  refine wpAny_bind (m := firstArgMember _ _) (wpAny_of_eq (a := Value.none) (by first | rfl | (simp only [firstArgMember]; rfl)) ?_)
  refine wpAny_newObj_type ?_ (by size_fits)
  simp only [raiseNew]
  refine wpAny_bind (wpAny_handled ?_)
  first | rw [show A.in1.handled = none from hh] | rw [hh]
  refine wpAny_bind (wpAny_pure (wpAny_throw ?_))
  exact hE _ _ (((Heap.SameBut.update ..).extBut.push _).push _) ⟨_, Heap.get?_push_size _ rfl, rfl⟩
end
theorem drawsT {prog : Program} {w : World} {A : Around} (hh : A.handled = none) (it l : Addr) (hne : l ≠ it) (items : Array Value) :
    Draws prog w A it [it, l] items.size (fun i v => items[i]? = some v) (fun i h => h.IsTupleIter it l i ∧ h.IsTuple l items) where
  live := fun _ _ st => let ⟨o, ho, _⟩ := st.1; ⟨o, ho⟩
  frame := fun _ _ _ st hk => ⟨st.1.at fun o e => hk it (by simp) o e, st.2.at fun o e => hk l (by simp) o e⟩
  item := fun i s Q E hi st hQ => by
    refine nextT_item st.1 st.2 (x := items[i]) (by simp [hi]) fun h' hit' hs' => ?_
    exact hQ _ h' s.toks (by simp [hi]) ⟨hit', st.2.extBut hs'.extBut hne⟩ hs'
  done := fun s Q E st hE => nextT_end hh st.1 st.2 (by simp) hE
end Mine
end

section
open PySem PySem.W PyProof.Rows PySem.Calls
set_option Elab.async false
set_option maxRecDepth 100000
set_option maxHeartbeats 0
namespace Mine
section
variable {prog : Program} {w : World} {A : Around} {E : Value → Shared → Prop} {s : Shared} {env : Env} {g : Heap} {R : Result → Shared → Prop} {target : Expr} {body orelse : List Stmt}
theorem for_tuple {l : Addr} {items : List Value} {m : Str → Option Value} {news : List (Addr × Obj)} (J : Nat → (Str → Option Value) → List (Addr × Obj) → Prop)
    (hh : A.handled = none) (F : Fr g env.locals s.heap m) (N : News g env.locals s.heap news) (hl : g.IsTuple l items.toArray) (hj : J 0 m news)
    (turn : ∀ i v m₁ news₁ h tk own, items[i]? = some v → J i m₁ news₁ → Fr g env.locals h m₁ → News g env.locals h (own :: news₁) → (∀ p ∈ news₁, p.1 ≠ own.1) →
      wpAny (model prog w) A (assign target env v) (fun _ s₂ => wpAny (model prog w) A (execs body env) (fun f s₃ => match f with
          | .next | .cont => LeftU g env.locals (J (i + 1)) own s s₃
          | .brk => R (.ok .next) s₃
          | .ret v => R (.ok (.ret v)) s₃) (notedBy (model prog w) A env fun e s' => R (.error e) s') s₂) (notedBy (model prog w) A env fun e s' => R (.error e) s') { s with heap := h, toks := tk })
    (done : ∀ m₁ news₁ h tk, J items.length m₁ news₁ → Fr g env.locals h m₁ → News g env.locals h news₁ →
      wpAny (model prog w) A (execs orelse env) (fun f s₃ => R (.ok f) s₃) (notedBy (model prog w) A env fun e s' => R (.error e) s') { s with heap := h, toks := tk }) :
    wpAny (model prog w) A (pyIter (.ref l)) (fun it s₂ => codeAny (model prog w) A (.forLoop target it body orelse env) R s₂) E s := by
  have hls : s.heap.IsTuple l items.toArray := hl.at fun o e => F.keep _ _ e
  obtain ⟨ol, hol, _⟩ := id hls
  have hne : l ≠ s.heap.objs.size := Nat.ne_of_lt (Heap.lt_size hol)
  refine wpAny_pyIter_tuple hls ?_
  have Wk := KTurns.ofWalks (target := target) (Walks.tuple (prog := prog) (w := w) hh s.heap.objs.size l hne items.toArray) (fun i v s Q E st hQ => letGo_tupleiter st.1 hQ)
  have gn := fr_new F
  have LI : env.locals ≠ s.heap.objs.size := Nat.ne_of_lt (fr_lt F)
  refine for_raw Wk (fun i s' => ∃ h' tk' m₁ news₁, s' = { s with heap := h', toks := tk' } ∧ Fr g env.locals h' m₁ ∧ News g env.locals h' news₁ ∧ (∀ p ∈ news₁, p.1 ≠ s.heap.objs.size) ∧ J i m₁ news₁)
    ⟨⟨_, Heap.get?_push_size _ rfl, rfl, rfl⟩, hls.at fun o e => Heap.get?_push_of_some _ e⟩ ⟨_, s.toks, m, news, rfl, F.push _, (fun p hp => ⟨Heap.get?_push_of_some _ (N p hp).1, (N p hp).2⟩), (fun p hp e => absurd (Heap.lt_size (N p hp).1) (by rw [e]; exact Nat.lt_irrefl _)), hj⟩ ?_ ?_
  · rintro i v s₀ h₁ tk₁ hi hP ⟨h', tk', m₁, news₁, rfl, F₁, N₁, hn₁, hJ₁⟩ _ hst₁ hk₁
    have F₂ := fr_keep F₁ (wr := [s.heap.objs.size]) (by simpa using LI) (fun b hb => by rw [List.mem_singleton.mp hb]; exact gn) hk₁
    have N₂ := news_keep N₁ (wr := [s.heap.objs.size]) (fun p hp => by simpa using hn₁ p hp) hk₁
    obtain ⟨io, hio, hic, hid⟩ := hst₁.1
    have N₃ : News g env.locals h₁ ((s.heap.objs.size, io) :: news₁) := fun p hp => by
      rcases List.mem_cons.mp hp with rfl | hp
      · exact ⟨hio, Ne.symm LI, gn⟩
      · exact N₂ p hp
    refine wpAny_mono (turn i v m₁ news₁ h₁ tk₁ (s.heap.objs.size, io) (by simpa using hP) hJ₁ F₂ N₃ hn₁) (fun _ s₂ h₂ => wpAny_mono h₂ (fun f s₃ h₃ => ?_) fun _ _ e => e) fun _ _ e => e
    have fin : LeftU g env.locals (J (i + 1)) (s.heap.objs.size, io) s s₃ → (∃ h' tk' m₁ news₁, s₃ = { s with heap := h', toks := tk' } ∧ Fr g env.locals h' m₁ ∧ News g env.locals h' news₁ ∧ (∀ p ∈ news₁, p.1 ≠ s.heap.objs.size) ∧ J (i + 1) m₁ news₁) ∧ s₃.heap.IsTupleIter s.heap.objs.size l (i + 1) ∧ s₃.heap.IsTuple l items.toArray := by
      rintro ⟨h', tk', m₂, news₂, rfl, F₃, N₃, hn₃, hJ₃⟩
      have N₄ : News g env.locals h' news₂ := fun p hp => N₃ p (.tail _ hp)
      exact ⟨⟨h', tk', m₂, news₂, rfl, F₃, N₄, hn₃, hJ₃⟩, ⟨io, (N₃ _ (.head _)).1, hic, hid⟩, hl.at fun o e => F₃.keep _ _ e⟩
    cases f with
    | next => exact fin h₃
    | cont => exact fin h₃
    | brk => exact h₃
    | ret v => exact h₃
  · rintro s₀ h₁ tk₁ ⟨h', tk', m₁, news₁, rfl, F₁, N₁, hn₁, hJ₁⟩ hk₁
    have F₂ := fr_keep F₁ (wr := [s.heap.objs.size]) (by simpa using LI) (fun b hb => by rw [List.mem_singleton.mp hb]; exact gn) hk₁
    have N₂ := news_keep N₁ (wr := [s.heap.objs.size]) (fun p hp => by simpa using hn₁ p hp) hk₁
    exact done m₁ news₁ h₁ tk₁ (by simpa using hJ₁) F₂ N₂
def LeftU2 (g : Heap) (L : Addr) (J : (Str → Option Value) → List (Addr × Obj) → Prop) (own own2 : Addr × Obj) (s s₃ : Shared) : Prop :=
  ∃ h' tk' m₂ news₂, s₃ = { s with heap := h', toks := tk' } ∧ Fr g L h' m₂ ∧ News g L h' (own :: own2 :: news₂) ∧ (∀ p ∈ news₂, p.1 ≠ own.1 ∧ p.1 ≠ own2.1) ∧ J m₂ news₂
theorem for_enum {e it l : Addr} {items : List Value} {elts : List Expr} {ek : Nat} {ep : Pos} {m : Str → Option Value} {news : List (Addr × Obj)} (J : Nat → (Str → Option Value) → List (Addr × Obj) → Prop)
    (hh : A.handled = none) (F : Fr g env.locals s.heap m) (N : News g env.locals s.heap news) (hl : g.IsTuple l items.toArray) (he : IsEnum s.heap e it 0 .none) (hit : s.heap.IsTupleIter it l 0)
    (hei : e ≠ it) (ge : g.get? e = none) (gi : g.get? it = none) (Le : env.locals ≠ e) (Li : env.locals ≠ it) (hn : ∀ p ∈ news, p.1 ≠ e ∧ p.1 ≠ it) (hj : J 0 m news)
    (turn : ∀ i v T tv m₁ news₁ h tk own own2, items[i]? = some v → J i m₁ news₁ → Fr g env.locals h m₁ → News g env.locals h (own :: own2 :: news₁) → (∀ p ∈ news₁, p.1 ≠ own.1 ∧ p.1 ≠ own2.1) → h.IsTuple T #[.int (i : Int) tv, v] →
      wpAny (model prog w) A (assign (.Tuple elts ek ep) env (.ref T)) (fun _ s₂ => wpAny (model prog w) A (execs body env) (fun f s₃ => match f with
          | .next | .cont => LeftU2 g env.locals (J (i + 1)) own own2 s s₃
          | .brk => R (.ok .next) s₃
          | .ret v => R (.ok (.ret v)) s₃) (notedBy (model prog w) A env fun e s' => R (.error e) s') s₂) (notedBy (model prog w) A env fun e s' => R (.error e) s') { s with heap := h, toks := tk })
    (done : ∀ m₁ news₁ h tk, J items.length m₁ news₁ → Fr g env.locals h m₁ → News g env.locals h news₁ →
      wpAny (model prog w) A (execs orelse env) (fun f s₃ => R (.ok f) s₃) (notedBy (model prog w) A env fun e s' => R (.error e) s') { s with heap := h, toks := tk }) :
    wpAny (model prog w) A (pyIter (.ref e)) (fun it s₂ => codeAny (model prog w) A (.forLoop (.Tuple elts ek ep) it body orelse env) R s₂) E s := by
  have hls : s.heap.IsTuple l items.toArray := hl.at fun o e => F.keep _ _ e
  have lne : ∀ b, g.get? b = none → l ≠ b := fun b gb q => by
    obtain ⟨o, ho, _⟩ := hl
    rw [q, gb] at ho; cases ho
  refine wpAny_pyIter_enum he ?_
  have Wk := KTurns.ofWalksU (elts := elts) (k := ek) (pos := ep) (WalksT.toU (WalksT.enumerateD (drawsT (prog := prog) (w := w) (A := A.in1) hh it l (lne it gi) items.toArray) e hei
    (by simp only [List.mem_cons, List.not_mem_nil, or_false, not_or]; exact ⟨hei, fun q => lne e ge q.symm⟩) (by simp)))
  have hwL : env.locals ∉ [e, it] := by simp only [List.mem_cons, List.not_mem_nil, or_false, not_or]; exact ⟨Le, Li⟩
  have hwg : ∀ b ∈ [e, it], g.get? b = none := fun b hb => by
    simp only [List.mem_cons, List.not_mem_nil, or_false] at hb
    rcases hb with rfl | rfl
    · exact ge
    · exact gi
  refine for_raw Wk (fun i s' => ∃ h' tk' m₁ news₁, s' = { s with heap := h', toks := tk' } ∧ Fr g env.locals h' m₁ ∧ News g env.locals h' news₁ ∧ (∀ p ∈ news₁, p.1 ≠ e ∧ p.1 ≠ it) ∧ J i m₁ news₁)
    ⟨⟨_, he⟩, hit, hls⟩ ⟨_, s.toks, m, news, rfl, F, N, hn, hj⟩ ?_ ?_
  · rintro i v s₀ h₁ tk₁ hi ⟨T, vals, rfl, ⟨tv, x, hx, rfl⟩, hT⟩ ⟨h', tk', m₁, news₁, rfl, F₁, N₁, hn₁, hJ₁⟩ _ hst₁ hk₁
    have nw : ∀ p ∈ news₁, p.1 ∉ [e, it] := fun p hp => by simpa using hn₁ p hp
    have F₂ := fr_keep F₁ (wr := [e, it]) hwL hwg hk₁
    have N₂ := news_keep N₁ (wr := [e, it]) nw hk₁
    obtain ⟨⟨old, hold⟩, hti, _⟩ := hst₁
    obtain ⟨io, hio, hic, hid⟩ := hti
    have hold' : h₁.get? e = some _ := hold
    have N₃ : News g env.locals h₁ ((e, _) :: (it, io) :: news₁) := fun p hp => by
      rcases List.mem_cons.mp hp with rfl | hp
      · exact ⟨hold', Ne.symm Le, ge⟩
      rcases List.mem_cons.mp hp with rfl | hp
      · exact ⟨hio, Ne.symm Li, gi⟩
      · exact N₂ p hp
    refine wpAny_mono (turn i x T tv m₁ news₁ h₁ tk₁ (e, _) (it, io) (by simpa using hx) hJ₁ F₂ N₃ hn₁ hT) (fun _ s₂ h₂ => wpAny_mono h₂ (fun f s₃ h₃ => ?_) fun _ _ e => e) fun _ _ e => e
    cases f with
    | brk => exact h₃
    | ret v => exact h₃
    | next =>
      obtain ⟨h', tk', m₂, news₂, rfl, F₃, N₃, hn₃, hJ₃⟩ := h₃
      exact ⟨⟨h', tk', m₂, news₂, rfl, F₃, fun p hp => N₃ p (.tail _ (.tail _ hp)), hn₃, hJ₃⟩, ⟨old, (N₃ _ (.head _)).1⟩, ⟨io, (N₃ _ (.tail _ (.head _))).1, hic, hid⟩, hl.at fun o e => F₃.keep _ _ e⟩
    | cont =>
      obtain ⟨h', tk', m₂, news₂, rfl, F₃, N₃, hn₃, hJ₃⟩ := h₃
      exact ⟨⟨h', tk', m₂, news₂, rfl, F₃, fun p hp => N₃ p (.tail _ (.tail _ hp)), hn₃, hJ₃⟩, ⟨old, (N₃ _ (.head _)).1⟩, ⟨io, (N₃ _ (.tail _ (.head _))).1, hic, hid⟩, hl.at fun o e => F₃.keep _ _ e⟩
  · rintro s₀ h₁ tk₁ ⟨h', tk', m₁, news₁, rfl, F₁, N₁, hn₁, hJ₁⟩ hk₁
    have F₂ := fr_keep F₁ (wr := [e, it]) hwL hwg hk₁
    have N₂ := news_keep N₁ (wr := [e, it]) (fun p hp => by simpa using hn₁ p hp) hk₁
    exact done m₁ news₁ h₁ tk₁ (by simpa using hJ₁) F₂ N₂
end
end Mine
end

section
open PySem PySem.W PyProof.Rows PySem.Calls
set_option Elab.async false
set_option maxRecDepth 100000
set_option maxHeartbeats 0
namespace Mine
def fmRow : Nat → List (Nat × Str)
  | 0 => [(40960, Str.ofString "l"), (49152, Str.ofString "s"), (32768, Str.ofString "-"), (24576, Str.ofString "b"), (16384, Str.ofString "d"), (8192, Str.ofString "c"), (4096, Str.ofString "p")]
  | 1 => [(256, Str.ofString "r")]
  | 2 => [(128, Str.ofString "w")]
  | 3 => [(2112, Str.ofString "s"), (2048, Str.ofString "S"), (64, Str.ofString "x")]
  | 4 => [(32, Str.ofString "r")]
  | 5 => [(16, Str.ofString "w")]
  | 6 => [(1032, Str.ofString "s"), (1024, Str.ofString "S"), (8, Str.ofString "x")]
  | 7 => [(4, Str.ofString "r")]
  | 8 => [(2, Str.ofString "w")]
  | 9 => [(513, Str.ofString "t"), (512, Str.ofString "T"), (1, Str.ofString "x")]
  | _ => []
def fmAddr : List Nat := [53, 55, 57, 61, 63, 65, 69, 71, 73, 77]
structure FmAt (hT : Heap) (i : Nat) (a : Addr) : Prop where
  row : ∃ its : List Value, hT.IsTuple a its.toArray ∧ its.length = (fmRow i).length ∧ ∀ (j : Nat) (v : Value), its[j]? = some v → ∃ (q : Addr) (b : Nat) (c : Str) (t u : Tok), v = Value.ref q ∧ (fmRow i)[j]? = some ((b : Nat), (c : Str)) ∧ hT.IsTuple q #[Value.int ((b : Nat) : Int) t, Value.str c u]
theorem fm_at0 {hT : Heap} {w : World} (X : (hd.heap_39 w.params).In hT) : FmAt hT 0 53 := by
  have e : PySem.Challenge.rw_pe0235_01 = PySem.Challenge.rw_pe0235_01 := rfl; revert X; revert e; k_fill; intro e X
  refine ⟨[Value.ref 46, Value.ref 47, Value.ref 48, Value.ref 49, Value.ref 50, Value.ref 51, Value.ref 52], ⟨_, X 53 _ (by k_is), rfl, _, rfl⟩, rfl, fun j v h => ?_⟩
  match j, h with
  | 0, h => cases h; exact ⟨46, 40960, Str.ofString "l", _, _, rfl, rfl, ⟨_, X 46 _ (by k_is), rfl, _, rfl⟩⟩
  | 1, h => cases h; exact ⟨47, 49152, Str.ofString "s", _, _, rfl, rfl, ⟨_, X 47 _ (by k_is), rfl, _, rfl⟩⟩
  | 2, h => cases h; exact ⟨48, 32768, Str.ofString "-", _, _, rfl, rfl, ⟨_, X 48 _ (by k_is), rfl, _, rfl⟩⟩
  | 3, h => cases h; exact ⟨49, 24576, Str.ofString "b", _, _, rfl, rfl, ⟨_, X 49 _ (by k_is), rfl, _, rfl⟩⟩
  | 4, h => cases h; exact ⟨50, 16384, Str.ofString "d", _, _, rfl, rfl, ⟨_, X 50 _ (by k_is), rfl, _, rfl⟩⟩
  | 5, h => cases h; exact ⟨51, 8192, Str.ofString "c", _, _, rfl, rfl, ⟨_, X 51 _ (by k_is), rfl, _, rfl⟩⟩
  | 6, h => cases h; exact ⟨52, 4096, Str.ofString "p", _, _, rfl, rfl, ⟨_, X 52 _ (by k_is), rfl, _, rfl⟩⟩
  | (n + 7), h => simp at h
theorem fm_at1 {hT : Heap} {w : World} (X : (hd.heap_39 w.params).In hT) : FmAt hT 1 55 := by
  have e : PySem.Challenge.rw_pe0235_01 = PySem.Challenge.rw_pe0235_01 := rfl; revert X; revert e; k_fill; intro e X
  refine ⟨[Value.ref 54], ⟨_, X 55 _ (by k_is), rfl, _, rfl⟩, rfl, fun j v h => ?_⟩
  match j, h with
  | 0, h => cases h; exact ⟨54, 256, Str.ofString "r", _, _, rfl, rfl, ⟨_, X 54 _ (by k_is), rfl, _, rfl⟩⟩
  | (n + 1), h => simp at h
theorem fm_at2 {hT : Heap} {w : World} (X : (hd.heap_39 w.params).In hT) : FmAt hT 2 57 := by
  have e : PySem.Challenge.rw_pe0235_01 = PySem.Challenge.rw_pe0235_01 := rfl; revert X; revert e; k_fill; intro e X
  refine ⟨[Value.ref 56], ⟨_, X 57 _ (by k_is), rfl, _, rfl⟩, rfl, fun j v h => ?_⟩
  match j, h with
  | 0, h => cases h; exact ⟨56, 128, Str.ofString "w", _, _, rfl, rfl, ⟨_, X 56 _ (by k_is), rfl, _, rfl⟩⟩
  | (n + 1), h => simp at h
theorem fm_at3 {hT : Heap} {w : World} (X : (hd.heap_39 w.params).In hT) : FmAt hT 3 61 := by
  have e : PySem.Challenge.rw_pe0235_01 = PySem.Challenge.rw_pe0235_01 := rfl; revert X; revert e; k_fill; intro e X
  refine ⟨[Value.ref 58, Value.ref 59, Value.ref 60], ⟨_, X 61 _ (by k_is), rfl, _, rfl⟩, rfl, fun j v h => ?_⟩
  match j, h with
  | 0, h => cases h; exact ⟨58, 2112, Str.ofString "s", _, _, rfl, rfl, ⟨_, X 58 _ (by k_is), rfl, _, rfl⟩⟩
  | 1, h => cases h; exact ⟨59, 2048, Str.ofString "S", _, _, rfl, rfl, ⟨_, X 59 _ (by k_is), rfl, _, rfl⟩⟩
  | 2, h => cases h; exact ⟨60, 64, Str.ofString "x", _, _, rfl, rfl, ⟨_, X 60 _ (by k_is), rfl, _, rfl⟩⟩
  | (n + 3), h => simp at h
theorem fm_at4 {hT : Heap} {w : World} (X : (hd.heap_39 w.params).In hT) : FmAt hT 4 63 := by
  have e : PySem.Challenge.rw_pe0235_01 = PySem.Challenge.rw_pe0235_01 := rfl; revert X; revert e; k_fill; intro e X
  refine ⟨[Value.ref 62], ⟨_, X 63 _ (by k_is), rfl, _, rfl⟩, rfl, fun j v h => ?_⟩
  match j, h with
  | 0, h => cases h; exact ⟨62, 32, Str.ofString "r", _, _, rfl, rfl, ⟨_, X 62 _ (by k_is), rfl, _, rfl⟩⟩
  | (n + 1), h => simp at h
theorem fm_at5 {hT : Heap} {w : World} (X : (hd.heap_39 w.params).In hT) : FmAt hT 5 65 := by
  have e : PySem.Challenge.rw_pe0235_01 = PySem.Challenge.rw_pe0235_01 := rfl; revert X; revert e; k_fill; intro e X
  refine ⟨[Value.ref 64], ⟨_, X 65 _ (by k_is), rfl, _, rfl⟩, rfl, fun j v h => ?_⟩
  match j, h with
  | 0, h => cases h; exact ⟨64, 16, Str.ofString "w", _, _, rfl, rfl, ⟨_, X 64 _ (by k_is), rfl, _, rfl⟩⟩
  | (n + 1), h => simp at h
theorem fm_at6 {hT : Heap} {w : World} (X : (hd.heap_39 w.params).In hT) : FmAt hT 6 69 := by
  have e : PySem.Challenge.rw_pe0235_01 = PySem.Challenge.rw_pe0235_01 := rfl; revert X; revert e; k_fill; intro e X
  refine ⟨[Value.ref 66, Value.ref 67, Value.ref 68], ⟨_, X 69 _ (by k_is), rfl, _, rfl⟩, rfl, fun j v h => ?_⟩
  match j, h with
  | 0, h => cases h; exact ⟨66, 1032, Str.ofString "s", _, _, rfl, rfl, ⟨_, X 66 _ (by k_is), rfl, _, rfl⟩⟩
  | 1, h => cases h; exact ⟨67, 1024, Str.ofString "S", _, _, rfl, rfl, ⟨_, X 67 _ (by k_is), rfl, _, rfl⟩⟩
  | 2, h => cases h; exact ⟨68, 8, Str.ofString "x", _, _, rfl, rfl, ⟨_, X 68 _ (by k_is), rfl, _, rfl⟩⟩
  | (n + 3), h => simp at h
theorem fm_at7 {hT : Heap} {w : World} (X : (hd.heap_39 w.params).In hT) : FmAt hT 7 71 := by
  have e : PySem.Challenge.rw_pe0235_01 = PySem.Challenge.rw_pe0235_01 := rfl; revert X; revert e; k_fill; intro e X
  refine ⟨[Value.ref 70], ⟨_, X 71 _ (by k_is), rfl, _, rfl⟩, rfl, fun j v h => ?_⟩
  match j, h with
  | 0, h => cases h; exact ⟨70, 4, Str.ofString "r", _, _, rfl, rfl, ⟨_, X 70 _ (by k_is), rfl, _, rfl⟩⟩
  | (n + 1), h => simp at h
theorem fm_at8 {hT : Heap} {w : World} (X : (hd.heap_39 w.params).In hT) : FmAt hT 8 73 := by
  have e : PySem.Challenge.rw_pe0235_01 = PySem.Challenge.rw_pe0235_01 := rfl; revert X; revert e; k_fill; intro e X
  refine ⟨[Value.ref 72], ⟨_, X 73 _ (by k_is), rfl, _, rfl⟩, rfl, fun j v h => ?_⟩
  match j, h with
  | 0, h => cases h; exact ⟨72, 2, Str.ofString "w", _, _, rfl, rfl, ⟨_, X 72 _ (by k_is), rfl, _, rfl⟩⟩
  | (n + 1), h => simp at h
theorem fm_at9 {hT : Heap} {w : World} (X : (hd.heap_39 w.params).In hT) : FmAt hT 9 77 := by
  have e : PySem.Challenge.rw_pe0235_01 = PySem.Challenge.rw_pe0235_01 := rfl; revert X; revert e; k_fill; intro e X
  refine ⟨[Value.ref 74, Value.ref 75, Value.ref 76], ⟨_, X 77 _ (by k_is), rfl, _, rfl⟩, rfl, fun j v h => ?_⟩
  match j, h with
  | 0, h => cases h; exact ⟨74, 513, Str.ofString "t", _, _, rfl, rfl, ⟨_, X 74 _ (by k_is), rfl, _, rfl⟩⟩
  | 1, h => cases h; exact ⟨75, 512, Str.ofString "T", _, _, rfl, rfl, ⟨_, X 75 _ (by k_is), rfl, _, rfl⟩⟩
  | 2, h => cases h; exact ⟨76, 1, Str.ofString "x", _, _, rfl, rfl, ⟨_, X 76 _ (by k_is), rfl, _, rfl⟩⟩
  | (n + 3), h => simp at h
theorem fm_at {hT : Heap} {w : World} (X : (hd.heap_39 w.params).In hT) {i : Nat} {v : Value} (h : (fmAddr.map Value.ref)[i]? = some v) : ∃ a, v = .ref a ∧ FmAt hT i a := by
  match i, h with
  | 0, h => cases h; exact ⟨_, rfl, fm_at0 X⟩
  | 1, h => cases h; exact ⟨_, rfl, fm_at1 X⟩
  | 2, h => cases h; exact ⟨_, rfl, fm_at2 X⟩
  | 3, h => cases h; exact ⟨_, rfl, fm_at3 X⟩
  | 4, h => cases h; exact ⟨_, rfl, fm_at4 X⟩
  | 5, h => cases h; exact ⟨_, rfl, fm_at5 X⟩
  | 6, h => cases h; exact ⟨_, rfl, fm_at6 X⟩
  | 7, h => cases h; exact ⟨_, rfl, fm_at7 X⟩
  | 8, h => cases h; exact ⟨_, rfl, fm_at8 X⟩
  | 9, h => cases h; exact ⟨_, rfl, fm_at9 X⟩
  | (n + 10), h => simp [fmAddr] at h
theorem fm_tab {hT : Heap} {w : World} (X : (hd.heap_39 w.params).In hT) : hT.IsTuple 78 (fmAddr.map Value.ref).toArray := by
  have e : PySem.Challenge.rw_pe0235_01 = PySem.Challenge.rw_pe0235_01 := rfl; revert X; revert e; k_fill; intro e X
  exact ⟨_, X 78 _ (by k_is), rfl, _, rfl⟩
end Mine
end

section
theorem Mine.reset8 : True := by
  w_top off
  exact True.intro
open PySem PySem.W PyProof.Rows PySem.Calls PySem.Builtin.Str
set_option Elab.async false
set_option maxRecDepth 100000
set_option maxHeartbeats 0
namespace Mine
local macro_rules | `(tactic| walk_at "mine enter") => `(tactic| ((case ho => k_is); (case hcd => k_is); (case hbind => first | exact BindsTo.of_eq rfl | exact kp_binds (Frag.In.keeps (by assumption) (by assumption)) (fun _ => rfl)); (case hloc => exact locs rfl); (case hcell => decide); (case c2 => exact rfl); (case c3 => exact rfl); (case c4 => exact rfl)))
theorem ifmt_spec {loose : List Str} {mean : ExcName → Option Value} {mg mb : Str → Option Value} {hT : Heap} {w : World} {A : Around} {s : Shared} {Q E : Value → Shared → Prop} {mode : Nat} {t : Tok}
    (X : (hd.heap_39 w.params).In hT) (T : Top hd.view_39 loose mean mg mb hT) (st : ∀ b o, hT.get? b = some o → s.heap.get? b = some o) (hroom : A.depth + 1 < recursionLimit) (hh : A.handled = none)
    (hret : ∀ h' tk' t, (∀ b o, s.heap.get? b = some o → h'.get? b = some o) → Q (.int ((mode &&& 61440 : Nat) : Int) t) { s with heap := h', toks := tk' }) :
    wpAny (model PySem.Challenge.rw_pe0235_01.row.prog w) A (call (.ref 45) [.int (mode : Int) t]) Q E s := by
  revert X
  k_fill
  intro X
  refine wpAny_call ?_
  refine' raw_call (binds := [(Str.ofString "mode", .int (mode : Int) t)]) [] X T st (by simp) ?ho ?hcd (by omega) ?hbind ?hloc ?_ ?hcell ?c2 ?c3 ?c4
  walk_at "mine enter"
  intro g L' h' hg F' N' X' T' tg hlt
  clear X T
  iterate 6 walk1
  refine and_nat (b := 61440) ?_
  dsimp only
  exact hret _ _ _ (keep_back hg (fun p hp => by simp at hp) (by assumption) (by assumption))
theorem app_at {prog : Program} {w : World} {A : Around} {E : Value → Shared → Prop} {s : Shared} {g : Heap} {L pl : Addr} {m : Str → Option Value} {xs : List Value} {np : Nat} {v : Value} {W : List (Addr × Obj)} {Q : Value → Shared → Prop}
    (F : Fr g L s.heap m) (N : News g L s.heap ((pl, listOf xs.toArray np) :: W)) (hW : ∀ p ∈ W, p.1 ≠ pl) (hsz : xs.length ≤ 1000)
    (h : ∀ h' np', Fr g L h' m → News g L h' ((pl, listOf (xs ++ [v]).toArray np') :: W) → Q .none { s with heap := h' }) :
    wpAny (model prog w) A (call (.builtin "list.append") [.ref pl, v]) Q E s := by
  refine wpAny_list_append_plain (isP (n := np) N (.head _)) (fun h₄ hp₄ hs₄ => ?_) (by rw [sizeLine_eq]; simp; omega)
  obtain ⟨na₄, hn₄⟩ := hp₄
  have hn₄' : h₄.get? pl = some (listOf (xs ++ [v]).toArray na₄) := by rw [hn₄]; simp
  have hp := (N _ (.head _)).2
  refine h h₄ na₄ (fr_but1 F hp.1 hp.2 fun b o hb e => hs₄.extBut b o hb e) (news_chg N (ch := [pl]) (fun b o hb e => hs₄.extBut b o (by simpa using hb) e) fun p hpm => ?_)
  rcases List.mem_cons.mp hpm with rfl | hpm
  · exact .inr ⟨hn₄', hp⟩
  · exact .inl ⟨.tail _ hpm, by simpa using hW p hpm⟩
theorem ex_map3 {m : Str → Option Value} {a b c : Str} {va vb vc : Value} (ha : m a = some va) (hb : m b = some vb) (hc : m c = some vc) : ∃ u : Str → Option Value, m = fun z => if z = a then some va else if z = b then some vb else if z = c then some vc else u z :=
  ⟨m, by funext z; by_cases h1 : z = a <;> by_cases h2 : z = b <;> by_cases h3 : z = c <;> simp_all⟩
theorem perm3 {a b c : Addr × Obj} {p : Addr × Obj} {W : List (Addr × Obj)} (h : p ∈ a :: b :: c :: W) : p ∈ b :: c :: a :: W := by
  simp only [List.mem_cons] at h ⊢
  rcases h with h | h | h | h <;> simp [h]
def fmTest (mode i : Nat) (p : Nat × Str) : Bool := if i = 0 then (mode &&& 61440) == p.1 else (mode &&& p.1) == p.1
def fmChar (mode i : Nat) : Str := match (fmRow i).find? (fmTest mode i) with
  | some p => p.2
  | none => if i = 0 then Str.ofString "?" else Str.ofString "-"
def fmText (mode : Nat) : Str := Txt.join (Str.ofString "") ((List.range 10).map (fmChar mode))
local macro_rules | `(tactic| walk_at "call ref") => `(tactic| (k_here; (with_reducible show wpAny _ _ (call (Value.ref 45) _ _) _ _ _); k_dflt (refine' ifmt_spec ?k1 ?k2 (Fr.keep ?k3) ?k4 ?k5 ?_; (case k1 => k_asm); (case k2 => k_asm); (case k3 => k_asm); (case k4 => first | assumption | exact hroom); (case k5 => exact hh); k_whole); intro h' tk' t' hk'; have F' := fr_all (by assumption) hk'; have N' := news_all (by assumption) hk'))
theorem fmRow_len : ∀ (i : Nat) (p : Nat × Str), p ∈ fmRow i → p.2.length = 1
  | 0, p, h | 1, p, h | 2, p, h | 3, p, h | 4, p, h | 5, p, h | 6, p, h | 7, p, h | 8, p, h | 9, p, h => by
    simp only [fmRow, List.mem_cons, List.not_mem_nil, or_false] at h
    (repeat (rcases h with rfl | h; decide +kernel)); (first | done | (subst h; decide +kernel))
  | n + 10, p, h => by simp [fmRow] at h
theorem fmChar_len (mode i : Nat) : (fmChar mode i).length = 1 := by
  unfold fmChar
  split
  · rename_i p hp
    exact fmRow_len i p (List.mem_of_find?_eq_some hp)
  · split <;> decide +kernel
theorem fm_joinOk (mode : Nat) : JoinOk (Str.ofString "") ((List.range 10).map (fmChar mode)) = true :=
  joinOk_of_weight (by simp [List.range_succ, fmChar_len]) (by decide +kernel)
theorem filemode_spec {loose : List Str} {mean : ExcName → Option Value} {mg mb : Str → Option Value} {hT : Heap} {w : World} {A : Around} {s : Shared} {Q E : Value → Shared → Prop} {mode : Nat} {t : Tok}
    (X : (hd.heap_39 w.params).In hT) (T : Top hd.view_39 loose mean mg mb hT) (st : ∀ b o, hT.get? b = some o → s.heap.get? b = some o) (hroom : A.depth + 2 < recursionLimit) (hh : A.handled = none)
    (hret : ∀ h' tk' t, (∀ b o, s.heap.get? b = some o → h'.get? b = some o) → Q (.str (fmText mode) t) { s with heap := h', toks := tk' }) :
    wpAny (model PySem.Challenge.rw_pe0235_01.row.prog w) A (call (.ref 85) [.int (mode : Int) t]) Q E s := by
  revert X
  k_fill
  intro X
  refine wpAny_call ?_
  refine' raw_call (binds := [(Str.ofString "mode", .int (mode : Int) t)]) [] X T st (by simp) ?ho ?hcd (by omega) ?hbind ?hloc ?_ ?hcell ?c2 ?c3 ?c4
  walk_at "mine enter"
  intro g L' h' hg F' N' X' T' tg hlt
  clear X T
  iterate 9 walk1
  refine wpAny_For ?_
  iterate 6 walk1
  (rename Fr _ _ _ _ => F₀); (rename News _ _ _ _ => N₀)
  rename_i pl _ _ h₀
  refine call_enumT (by exact (fm_tab X').at fun o e => F₀.keep _ o e) fun h₁ he hit hsz hk => ?_
  dsimp only
  have F₁ := fr_all F₀ hk
  have N₁ := news_all N₀ hk
  refine for_enum (items := fmAddr.map Value.ref) (fun i m₁ news₁ => (∃ u : Str → Option Value, m₁ = fun z => if z = Str.ofString "perm" then some (.ref pl) else if z = Str.ofString "mode" then some (.int (mode : Int) t) else u z) ∧
      ∃ l np, news₁ = [(pl, W.listOf (strValues l).toArray np)] ∧ l.map (·.1) = (List.range i).map (fmChar mode))
    hh F₁ N₁ (fm_tab X') he hit ?_ ?_ ?_ ?_ ?_ ?_ ?_ ?_ ?_
  · exact Nat.succ_ne_self _
  · cases q : g.get? (h₀.objs.size + 1) with
    | none => rfl
    | some o => exact absurd (Heap.lt_size (F₀.keep _ _ q)) (Nat.not_lt.mpr (Nat.le_succ _))
  · exact fr_new F₀
  · exact Nat.ne_of_lt (Nat.lt_succ_of_lt (fr_lt F₀))
  · exact Nat.ne_of_lt (fr_lt F₀)
  · intro p hp
    have := Heap.lt_size (N₀ p hp).1
    exact ⟨Nat.ne_of_lt (Nat.lt_succ_of_lt this), Nat.ne_of_lt this⟩
  · exact ⟨ex_map2 rfl rfl, [], 0, rfl, rfl⟩
  · rintro i v T tv m₁ news₁ h tk own own2 hv₀ ⟨⟨u, rfl⟩, l, np, rfl, hl⟩ F₂ N₂ hown hT
    obtain ⟨a, rfl, its, hits, hlen, hrow⟩ := fm_at X' hv₀
    have hlen10 : (strValues l).length ≤ 1000 := by
      have e1 := congrArg List.length hl
      have e2 := (List.getElem?_eq_some_iff.mp hv₀).1
      simp [strValues, fmAddr] at e1 e2 ⊢
      omega
    have fin : ∀ (s₆ : Shared) c tc, fmChar mode i = c → (∃ h₆ tk₆ m₆ np', s₆ = { s with heap := h₆, toks := tk₆ } ∧ Fr g L' h₆ m₆ ∧ (∃ u : Str → Option Value, m₆ = fun z => if z = Str.ofString "perm" then some (.ref pl) else if z = Str.ofString "mode" then some (.int (mode : Int) t) else u z) ∧
        News g L' h₆ ((pl, W.listOf (strValues l ++ [Value.str c tc]).toArray np') :: own :: own2 :: [])) → LeftU2 g L' (fun m₁ news₁ => (∃ u : Str → Option Value, m₁ = fun z => if z = Str.ofString "perm" then some (.ref pl) else if z = Str.ofString "mode" then some (.int (mode : Int) t) else u z) ∧
        ∃ l np, news₁ = [(pl, W.listOf (strValues l).toArray np)] ∧ l.map (·.1) = (List.range (i + 1)).map (fmChar mode)) own own2 s s₆ := by
      rintro s₆ c tc hc ⟨h₆, tk₆, m₆, np', rfl, F₆, hm₆, N₆⟩
      refine ⟨h₆, tk₆, m₆, [(pl, W.listOf (strValues (l ++ [(c, tc)])).toArray np')], rfl, F₆, news_sub N₆ fun p hp => ?_, fun p hp => ?_, hm₆, l ++ [(c, tc)], np', rfl, ?_⟩
      · simp only [strValues, List.map_append, List.map_cons, List.map_nil, List.mem_cons, List.not_mem_nil, or_false] at hp ⊢
        rcases hp with h | h | h <;> simp [h]
      · rw [List.mem_singleton.mp hp]; exact hown (pl, W.listOf (strValues l).toArray np) (.head _)
      · rw [List.map_append, hl, List.range_succ, List.map_append, List.map_cons, List.map_nil, List.map_cons, List.map_nil, hc]
    refine assign_pair hh hT F₂ N₂ (fun h₂ tk₂ F₃ N₃ => ?_) rfl rfl rfl
    iterate 1 walk1
    refine wpAny_For ?_
    iterate 1 walk1
    refine for_tuple (items := its) (fun j m₁ news₁ => news₁ = own :: own2 :: [(pl, W.listOf (strValues l).toArray np)] ∧ (∃ u : Str → Option Value, m₁ = fun z => if z = Str.ofString "perm" then some (.ref pl) else if z = Str.ofString "mode" then some (.int (mode : Int) t) else if z = Str.ofString "index" then some (.int (i : Int) tv) else u z) ∧
       ∀ j' p, j' < j → (fmRow i)[j']? = some p → fmTest mode i p = false) hh (by assumption) (by assumption) hits ?_ ?_ ?_
    · exact ⟨rfl, ex_map3 rfl rfl rfl, fun j' p h => absurd h (Nat.not_lt_zero _)⟩
    · rintro j v m₁ news₁ h tk own3 hv ⟨rfl, ⟨u, rfl⟩, hno⟩ F₄ N₄ hown₄
      obtain ⟨q, b, c, tb, tc, rfl, hbc, hq⟩ := hrow j v hv
      refine assign_pair hh (hq.at fun o e => F₄.keep _ _ e) F₄ N₄ (fun h₅ tk₅ F₅ N₅ => ?_) rfl rfl rfl
      have hown₅ : (pl ≠ own.1 ∧ pl ≠ own2.1) ∧ pl ≠ own3.1 := ⟨hown _ (.head _), hown₄ (pl, _) (by k_mem)⟩
      by_cases hi : i = 0
      · subst hi
        iterate 19 walk1
        refine ifmt_spec X' T' (Fr.keep (by assumption)) hroom hh ?_
        intro h₆ tk₆ t₆ hk₆
        dsimp only
        have F₆ := fr_all F₅ hk₆
        have N₆ := news_all N₅ hk₆
        clear F₅ N₅ F₄ N₄ F₃ N₃ F₂ N₂ F₁ N₁ F₀ N₀
        iterate 4 walk1
        · iterate 9 walk1
          refine app_at (by assumption) (np := np) (W := [own3, own, own2]) (news_sub (by assumption) fun p hp => by simp only [List.mem_cons, List.not_mem_nil, or_false] at hp ⊢; rcases hp with h | h | h | h <;> simp [h]) (fun p hp => by
            simp only [List.mem_cons, List.not_mem_nil, or_false] at hp
            rcases hp with rfl | rfl | rfl
            · exact hown₅.2.symm
            · exact hown₅.1.1.symm
            · exact hown₅.1.2.symm) hlen10 fun h₇ np₇ F₇ N₇ => ?_
          have hc0 : ((mode &&& 61440 : Nat) : Int) = ((b : Nat) : Int) := by assumption
          have ht : fmTest mode 0 (b, c) = true := by
            simp only [fmTest, if_pos]; simpa [Int.ofNat_inj] using hc0
          have hch := congrArg (fun o => match o with | some p => p.2 | none => if 0 = 0 then Str.ofString "?" else Str.ofString "-") (find_split hbc ht fun j' p hj hp => hno j' p hj hp)
          clear F₆ N₆
          iterate 3 walk1
          dsimp only
          refine fin _ c tc hch ⟨_, _, _, np₇, rfl, F₇, ex_map2 rfl rfl, news_sub N₇ fun p hp => ?_⟩
          simp only [List.mem_cons, List.not_mem_nil, or_false] at hp ⊢
          rcases hp with h | h | h <;> simp [h]
        · have hc0 : ((mode &&& 61440 : Nat) : Int) ≠ ((b : Nat) : Int) := by assumption
          have ht : fmTest mode 0 (b, c) = false := by
            simp only [fmTest, if_pos]; simpa [Int.ofNat_inj] using hc0
          iterate 3 walk1
          dsimp only
          refine ⟨_, _, _, _, rfl, F₆, N₆, hown₄, rfl, ex_map3 rfl rfl rfl, fun j' p hj hp => ?_⟩
          rcases Nat.lt_succ_iff_lt_or_eq.mp hj with h | h
          · exact hno j' p h hp
          · subst h; rw [hbc] at hp; cases hp; exact ht
      · have hi' : (((i : Nat) : Int) == 0) = false := by simp; omega
        clear F₄ N₄ F₃ N₃ F₂ N₂ F₁ N₁ F₀ N₀
        iterate 20 walk1
        · iterate 10 walk1
          refine app_at (by assumption) (np := np) (W := [own3, own, own2]) (news_sub (by assumption) fun p hp => by simp only [List.mem_cons, List.not_mem_nil, or_false] at hp ⊢; rcases hp with h | h | h | h <;> simp [h]) (fun p hp => by
            simp only [List.mem_cons, List.not_mem_nil, or_false] at hp
            rcases hp with rfl | rfl | rfl
            · exact hown₅.2.symm
            · exact hown₅.1.1.symm
            · exact hown₅.1.2.symm) hlen10 fun h₇ np₇ F₇ N₇ => ?_
          have hc0 : Builtin.bitAnd (mode : Int) (b : Int) = ((b : Nat) : Int) := by assumption
          have ht : fmTest mode i (b, c) = true := by
            rw [bitAnd_nat] at hc0; simp only [fmTest, if_neg hi]; simpa [Int.ofNat_inj] using hc0
          have hch := congrArg (fun o => match o with | some p => p.2 | none => if i = 0 then Str.ofString "?" else Str.ofString "-") (find_split hbc ht fun j' p hj hp => hno j' p hj hp)
          clear F₅ N₅
          iterate 3 walk1
          dsimp only
          refine fin _ c tc hch ⟨_, _, _, np₇, rfl, F₇, ex_map2 rfl rfl, news_sub N₇ fun p hp => ?_⟩
          simp only [List.mem_cons, List.not_mem_nil, or_false] at hp ⊢
          rcases hp with h | h | h <;> simp [h]
        · have hc0 : Builtin.bitAnd (mode : Int) (b : Int) ≠ ((b : Nat) : Int) := by assumption
          have ht : fmTest mode i (b, c) = false := by
            rw [bitAnd_nat] at hc0; simp only [fmTest, if_neg hi]; simpa [Int.ofNat_inj] using hc0
          iterate 3 walk1
          dsimp only
          refine ⟨_, _, _, _, rfl, F₅, N₅, hown₄, rfl, ex_map3 rfl rfl rfl, fun j' p hj hp => ?_⟩
          rcases Nat.lt_succ_iff_lt_or_eq.mp hj with h | h
          · exact hno j' p h hp
          · subst h; rw [hbc] at hp; cases hp; exact ht
    · rintro m₁ news₁ h tk ⟨rfl, ⟨u, rfl⟩, hno⟩ F₁ N₁
      clear F₃ N₃ F₂ N₂ F₀ N₀
      by_cases hi : i = 0
      · subst hi
        iterate 8 walk1
        iterate 10 walk1
        refine app_at (by assumption) (np := np) (W := [own, own2]) (news_sub (by assumption) fun p hp => by simp only [List.mem_cons, List.not_mem_nil, or_false] at hp ⊢; rcases hp with h | h | h <;> simp [h]) (fun p hp => by
            simp only [List.mem_cons, List.not_mem_nil, or_false] at hp
            rcases hp with rfl | rfl
            · exact (hown (pl, W.listOf (strValues l).toArray np) (.head _)).1.symm
            · exact (hown (pl, W.listOf (strValues l).toArray np) (.head _)).2.symm) hlen10 fun h₇ np₇ F₇ N₇ => ?_
        clear F₁ N₁
        iterate 3 walk1
        dsimp only
        iterate 1 walk1
        refine fin _ (Str.ofString "?") _ ?_ ⟨_, _, _, _, rfl, F₇, ex_map2 rfl rfl, N₇⟩
        unfold fmChar
        rw [find_none fun j p hj hp => hno j p (by rw [hlen]; exact hj) hp]
        rfl
      · have hi' : (((i : Nat) : Int) == 0) = false := by simp; omega
        iterate 8 walk1
        iterate 10 walk1
        refine app_at (by assumption) (np := np) (W := [own, own2]) (news_sub (by assumption) fun p hp => by simp only [List.mem_cons, List.not_mem_nil, or_false] at hp ⊢; rcases hp with h | h | h <;> simp [h]) (fun p hp => by
            simp only [List.mem_cons, List.not_mem_nil, or_false] at hp
            rcases hp with rfl | rfl
            · exact (hown (pl, W.listOf (strValues l).toArray np) (.head _)).1.symm
            · exact (hown (pl, W.listOf (strValues l).toArray np) (.head _)).2.symm) hlen10 fun h₇ np₇ F₇ N₇ => ?_
        clear F₁ N₁
        iterate 3 walk1
        dsimp only
        iterate 1 walk1
        refine fin _ (Str.ofString "-") _ ?_ ⟨_, _, _, _, rfl, F₇, ex_map2 rfl rfl, N₇⟩
        unfold fmChar
        rw [find_none fun j p hj hp => hno j p (by rw [hlen]; exact hj) hp]
        exact if_neg hi
  · rintro m₁ news₁ h tk ⟨⟨u, rfl⟩, l, np, rfl, hl⟩ F₁ N₁
    iterate 10 walk1
    refine SC.join (by exact isL (n := np) N₁ (.head _)) hl (fm_joinOk mode) ?_
    intro t' k
    dsimp only
    exact hret _ _ _ (keep_back hg (fun p hp => by simp at hp) F₁ (news_sub N₁ (fun p hp => by simp at hp)))
end Mine
end

section
open PySem PySem.W PyProof.Rows PySem.Calls PySem.Builtin.Str
set_option Elab.async false
set_option maxRecDepth 100000
namespace Mine
theorem glue_nil : ∀ (l : List Str), (Txt.join (Str.ofString "") l).cps.toList = l.flatMap fun x => x.cps.toList := by
  have e : (Str.ofString "").cps = #[] := by decide +kernel
  intro l
  show (PySem.Builtin.Str.glued (Str.ofString "") l).cps.toList = _
  rw [PySem.StrLaws.glued_eq_join]
  induction l with
  | nil => rfl
  | cons x l ih =>
    cases l with
    | nil => simp [Str.join]
    | cons y l =>
      show ((x.cps ++ (Str.ofString "").cps) ++ (Str.join (Str.ofString "") (y :: l)).cps).toList = _
      rw [e, List.flatMap_cons, ← ih]
      simp
def fmC (mode i : Nat) : Nat := (fmChar mode i).cps.toList.headD 0
theorem fmC_one (mode i : Nat) : (fmChar mode i).cps.toList = [fmC mode i] := by
  have h : (fmChar mode i).cps.toList.length = 1 := fmChar_len mode i
  unfold fmC
  cases q : (fmChar mode i).cps.toList with
  | nil => rw [q] at h; cases h
  | cons a r =>
    cases r with
    | nil => rfl
    | cons b r => rw [q] at h; simp at h
theorem fmText_list (mode : Nat) : (fmText mode).cps.toList = (List.range 10).map (fmC mode) := by
  unfold fmText
  rw [glue_nil, List.flatMap_map]
  induction List.range 10 with
  | nil => rfl
  | cons a l ih => rw [List.flatMap_cons, ih, fmC_one]; rfl
theorem fmText_get (mode j : Nat) (hj : j < 10) : (fmText mode).cps[j]? = some (fmC mode j) := by
  rw [← Array.getElem?_toList, fmText_list, List.getElem?_map, List.getElem?_range hj]; rfl
theorem pow_bit (m k : Nat) : (m &&& 2 ^ k) = (m.testBit k).toNat * 2 ^ k := by
  apply Nat.eq_of_testBit_eq
  intro i
  rw [Nat.testBit_and, Nat.testBit_two_pow]
  cases h : m.testBit k with
  | false =>
    by_cases q : k = i
    · subst q; simp [h]
    · simp [q]
  | true =>
    by_cases q : k = i
    · subst q; simp [h]
    · simp [q, Nat.testBit_two_pow]
theorem fmTest_pos {m i : Nat} (h : i ≠ 0) (p : Nat × Str) : fmTest m i p = ((m &&& p.1) == p.1) := if_neg h
theorem fmChar_pos {m i : Nat} (h : i ≠ 0) : fmChar m i = match (fmRow i).find? (fun p => (m &&& p.1) == p.1) with | some p => p.2 | none => Str.ofString "-" := by
  unfold fmChar
  rw [if_neg h, show fmTest m i = (fun p => (m &&& p.1) == p.1) from funext fun p => fmTest_pos h p]
  all_goals rfl
def oneC (b : Bool) (c : Nat) : Nat := if b then c else 45
def threeC (x s : Bool) (a b c : Nat) : Nat := if x && s then a else if s then b else if x then c else 45
theorem fmC4 (m : Nat) : fmC m 4 = oneC (m.testBit 5) 114 := by
  have e : (m &&& 32) = (m.testBit 5).toNat * 32 := pow_bit m 5
  rw [fmC, fmChar_pos (by decide)]
  simp only [fmRow, List.find?, e, oneC]
  cases m.testBit 5 <;> decide +kernel
theorem fmC5 (m : Nat) : fmC m 5 = oneC (m.testBit 4) 119 := by
  have e : (m &&& 16) = (m.testBit 4).toNat * 16 := pow_bit m 4
  rw [fmC, fmChar_pos (by decide)]
  simp only [fmRow, List.find?, e, oneC]
  cases m.testBit 4 <;> decide +kernel
theorem fmC7 (m : Nat) : fmC m 7 = oneC (m.testBit 2) 114 := by
  have e : (m &&& 4) = (m.testBit 2).toNat * 4 := pow_bit m 2
  rw [fmC, fmChar_pos (by decide)]
  simp only [fmRow, List.find?, e, oneC]
  cases m.testBit 2 <;> decide +kernel
theorem fmC8 (m : Nat) : fmC m 8 = oneC (m.testBit 1) 119 := by
  have e : (m &&& 2) = (m.testBit 1).toNat * 2 := pow_bit m 1
  rw [fmC, fmChar_pos (by decide)]
  simp only [fmRow, List.find?, e, oneC]
  cases m.testBit 1 <;> decide +kernel
theorem fmC6 (m : Nat) : fmC m 6 = threeC (m.testBit 3) (m.testBit 10) 115 83 120 := by
  have e1 : (m &&& 8) = (m.testBit 3).toNat * 8 := pow_bit m 3
  have e2 : (m &&& 1024) = (m.testBit 10).toNat * 1024 := pow_bit m 10
  have e3 : (m &&& 1032) = (m.testBit 3).toNat * 8 ||| (m.testBit 10).toNat * 1024 := by
    rw [← e1, ← e2, ← Nat.and_or_distrib_left]; rfl
  rw [fmC, fmChar_pos (by decide)]
  simp only [fmRow, List.find?, e1, e2, e3, threeC]
  cases m.testBit 3 <;> cases m.testBit 10 <;> decide +kernel
theorem fmC9 (m : Nat) : fmC m 9 = threeC (m.testBit 0) (m.testBit 9) 116 84 120 := by
  have e1 : (m &&& 1) = (m.testBit 0).toNat * 1 := pow_bit m 0
  have e2 : (m &&& 512) = (m.testBit 9).toNat * 512 := pow_bit m 9
  have e3 : (m &&& 513) = (m.testBit 0).toNat * 1 ||| (m.testBit 9).toNat * 512 := by
    rw [← e1, ← e2, ← Nat.and_or_distrib_left]; rfl
  rw [fmC, fmChar_pos (by decide)]
  simp only [fmRow, List.find?, e1, e2, e3, threeC]
  cases m.testBit 0 <;> cases m.testBit 9 <;> decide +kernel
theorem mode_bit (u w k : Nat) (hw : w < 64) : (u * 64 + w).testBit k = if k < 6 then w.testBit k else u.testBit (k - 6) := by
  have := Nat.testBit_two_pow_mul_add (i := 6) u hw k
  rw [← this, Nat.mul_comm]
/-- the row's sign shows the right -/
theorem fm_sign (u w p : Nat) (hw : w < 64) (hp : p < 6) : ([114, 119, 120, 115, 116] : List Nat).contains (fmC (u * 64 + w) (4 + p)) = w.testBit (5 - p) := by
  match p, hp with
  | 0, _ => rw [fmC4, mode_bit u w 5 hw, if_pos (by decide)]; simp only [oneC]; cases w.testBit 5 <;> decide
  | 1, _ => rw [fmC5, mode_bit u w 4 hw, if_pos (by decide)]; simp only [oneC]; cases w.testBit 4 <;> decide
  | 2, _ => rw [fmC6, mode_bit u w 3 hw, if_pos (by decide)]; simp only [threeC]; cases w.testBit 3 <;> cases (u * 64 + w).testBit 10 <;> decide
  | 3, _ => rw [fmC7, mode_bit u w 2 hw, if_pos (by decide)]; simp only [oneC]; cases w.testBit 2 <;> decide
  | 4, _ => rw [fmC8, mode_bit u w 1 hw, if_pos (by decide)]; simp only [oneC]; cases w.testBit 1 <;> decide
  | 5, _ => rw [fmC9, mode_bit u w 0 hw, if_pos (by decide)]; simp only [threeC]; cases w.testBit 0 <;> cases (u * 64 + w).testBit 9 <;> decide
/-- the due sign -/
def due (u p : Nat) : Nat := if p = 2 then (if u.testBit 4 then 115 else 120) else if p = 5 then (if u.testBit 3 then 116 else 120) else if p = 0 ∨ p = 3 then 114 else 119
theorem fm_due (u w p : Nat) (hw : w < 64) (hp : p < 6) (h : ([114, 119, 120, 115, 116] : List Nat).contains (fmC (u * 64 + w) (4 + p)) = true) : fmC (u * 64 + w) (4 + p) = due u p := by
  match p, hp with
  | 0, _ => rw [fmC4] at h ⊢; revert h; simp only [oneC, due]; cases (u * 64 + w).testBit 5 <;> simp
  | 1, _ => rw [fmC5] at h ⊢; revert h; simp only [oneC, due]; cases (u * 64 + w).testBit 4 <;> simp
  | 2, _ =>
    rw [fmC6, mode_bit u w 10 hw] at h ⊢; revert h; simp only [threeC, due]
    cases (u * 64 + w).testBit 3 <;> simp <;> cases u.testBit 4 <;> decide
  | 3, _ => rw [fmC7] at h ⊢; revert h; simp only [oneC, due]; cases (u * 64 + w).testBit 2 <;> simp
  | 4, _ => rw [fmC8] at h ⊢; revert h; simp only [oneC, due]; cases (u * 64 + w).testBit 1 <;> simp
  | 5, _ =>
    rw [fmC9, mode_bit u w 9 hw] at h ⊢; revert h; simp only [threeC, due]
    cases (u * 64 + w).testBit 0 <;> simp <;> cases u.testBit 3 <;> decide
end Mine
end

section
open PySem PySem.W PyProof.Rows PySem.Calls
set_option Elab.async false
set_option maxRecDepth 100000
set_option maxHeartbeats 0
namespace Mine
def LawSpec : Prop := ∀ (loose : List Str) (mean : ExcName → Option Value) (mg mb : Str → Option Value) (hT : Heap) (w : World) (s : Shared) (Q E : Value → Shared → Prop) (l : Addr) (vs : List Value) (xs : List Int),
    (hd.heap_39 w.params).In hT → Top hd.view_39 loose mean mg mb hT → (∀ b o, hT.get? b = some o → s.heap.get? b = some o) →
    hT.IsList l vs.toArray → IntsAre vs xs → xs.length ≤ 63 → (∀ h' tk', (∀ b o, s.heap.get? b = some o → h'.get? b = some o) → Q (.bool true) { s with heap := h', toks := tk' }) →
    wpAny (model PySem.Challenge.rw_pe0235_01.row.prog w) callerA (call (.ref 241) [.ref l]) Q E s
theorem top_of (H : LawSpec) : PySem.Challenge.rw_pe0235_01.Holds := hd (by
  k_fill
  intro w s₀ s₁ mg mb G Y fa o pm cd doc dV kV ho hd hcd hD hmg hg args vals as hpre hlay hrd hwl hlo
  have KX := kIn_of Y
  refine Ground.open G ?_
  intro T B D TE TW
  try (refine guard_noD D (by decide +kernel) ?_; clear D)
  have hfa : fa = 241 := by
    have h1 := mg_of (n := Str.ofString "law") KX T.g (by k_is)
    rw [h1] at hmg
    injection hmg with hmg
    injection hmg with hmg
    exact hmg.symm
  subst hfa
  clear ho hd hcd hD G Y TE TW B hmg
  wrow_args hpre hlay hrd hwl hlo
  rename_i xs hs _ _ _ _ _ _ la vs _ hL _ _ _ hI _ hc _
  refine H _ _ _ _ s₁.heap w s₁ _ _ la vs xs KX T (fun _ _ e => e) hL hI (by omega) fun h' tk' hk => ?_
  exact GoodW.toG ⟨.inl ⟨.bool true, .bool true, [], rfl, (fun _ => rfl), .bool true, (by with_unfolding_all rfl), unshared_nil⟩, hk, rfl, hg⟩)
end Mine
end

section
open PySem PySem.W PyProof.Rows PySem.Calls PySem.Builtin.Str
set_option Elab.async false
set_option maxRecDepth 100000
set_option maxHeartbeats 0
namespace Mine
theorem s_canLayAll0 : ∀ ns : List Str, (∀ x ∈ ns, (PyData.str x).canLay0 = true) → PyData.canLayAll0 (ns.map PyData.str) = true
  | [], _ => rfl
  | x :: r, h => by simp [PyData.canLayAll0, h x (.head _), s_canLayAll0 r fun y hy => h y (.tail _ hy)]
theorem s_depthAll : ∀ ns : List Str, PyData.depthAll (ns.map PyData.str) = 0
  | [] => rfl
  | _ :: r => by simp [PyData.depthAll, PyData.depth, s_depthAll r]
theorem s_shaped (ns : List Str) (h : ∀ x ∈ ns, PyData.strOk x = true) : SeqAt.shaped (.list (ns.map PyData.str)) = true := by
  simp [SeqAt.shaped, PyData.canLay0, PyData.depth, s_depthAll, s_canLayAll0 ns (fun x hx => by rw [PyData.canLay0]; exact h x hx)]
theorem s_sameAll : ∀ ns ms : List Str, PySem.Spec.sameAll (ns.map PyData.str) (ms.map PyData.str) = decide (ns = ms)
  | [], [] => by simp [PySem.Spec.sameAll]
  | [], _ :: _ => by simp [PySem.Spec.sameAll]
  | _ :: _, [] => by simp [PySem.Spec.sameAll]
  | a :: r, b :: t => by
    simp only [List.map_cons, PySem.Spec.sameAll, PySem.Spec.same, s_sameAll r t]
    by_cases h : a = b <;> by_cases h' : r = t <;> simp [h, h']
theorem s_carried : ∀ {vs : List Value} {ns : List Str}, StrsAre vs ns → CarriedAll vs (ns.map PyData.str)
  | _, _, .nil => .nil
  | _, _, .cons _ t r => .cons (.str _ t) (s_carried r)
section
variable {prog : Program} {w : World} {A : Around} {E : Value → Shared → Prop} {s : Shared} {a b : Addr} {xs ys : List Value} {ns ms : List Str} {Q : Value → Shared → Prop}
theorem eq_strs (ha : s.heap.IsList a xs.toArray) (hb : s.heap.IsList b ys.toArray) (hi : StrsAre xs ns) (hj : StrsAre ys ms) (hu : A.units + 64 < cLine) (h1 : ∀ x ∈ ns, PyData.strOk x = true) (h2 : ∀ x ∈ ms, PyData.strOk x = true) (h : Q (.bool (decide (ns = ms))) s) :
    wpAny (model prog w) A (compareOp .Eq (.ref a) (.ref b)) Q E s :=
  eq_dataH_same (reads_newData ha (s_carried hi)) (reads_newData hb (s_carried hj)) (s_shaped _ h1) (s_shaped _ h2) hu (SeqAt.noMix_of_shape (.list .str) rfl _ _ (list_map_has fun _ => rfl) (list_map_has fun _ => rfl)) (by simp only [PySem.Spec.same]; rw [s_sameAll]; exact h)
theorem ne_strs (ha : s.heap.IsList a xs.toArray) (hb : s.heap.IsList b ys.toArray) (hi : StrsAre xs ns) (hj : StrsAre ys ms) (hu : A.units + 64 < cLine) (h1 : ∀ x ∈ ns, PyData.strOk x = true) (h2 : ∀ x ∈ ms, PyData.strOk x = true) (h : Q (.bool (!decide (ns = ms))) s) :
    wpAny (model prog w) A (compareOp .NotEq (.ref a) (.ref b)) Q E s :=
  ne_dataH_same (reads_newData ha (s_carried hi)) (reads_newData hb (s_carried hj)) (s_shaped _ h1) (s_shaped _ h2) hu (SeqAt.noMix_of_shape (.list .str) rfl _ _ (list_map_has fun _ => rfl) (list_map_has fun _ => rfl)) (by simp only [PySem.Spec.same]; rw [s_sameAll]; exact h)
end
theorem nm_strOk : ∀ p, p < 6 → PyData.strOk (nm p) = true
  | 0, _ | 1, _ | 2, _ | 3, _ | 4, _ | 5, _ => by decide +kernel
  | _ + 6, h => by omega
theorem lt_strOk : ∀ p, p < 6 → PyData.strOk (lt p) = true
  | 0, _ | 1, _ | 2, _ | 3, _ | 4, _ | 5, _ => by decide +kernel
  | _ + 6, h => by omega
theorem keys_strs (tbl : List Ent) : StrsAre (keysOf tbl) (tbl.map fun e => nm e.p) := by
  induction tbl with
  | nil => exact .nil
  | cons e r ih => exact .cons _ _ ih
theorem vals_strs (tbl : List Ent) : StrsAre (valsOf tbl) (tbl.map fun e => lt e.f) := by
  induction tbl with
  | nil => exact .nil
  | cons e r ih => exact .cons _ _ ih
theorem count_le : ∀ (tbl : List Ent) (p : Nat), p < 6 → (∀ e ∈ tbl, e.p < 6 ∧ e.f < 6) → (tbl.map (·.p)).Nodup → PySem.Spec.countIn (.str (nm p)) ((tbl.map fun e => nm e.p).map PyData.str) ≤ 1
  | [], _, _, _, _ => by simp [PySem.Spec.countIn]
  | e :: r, p, hp, h6, hn => by
    have hr : ∀ x ∈ r, x.p < 6 ∧ x.f < 6 := fun x hx => h6 x (.tail _ hx)
    have hn' : (∀ x ∈ r, ¬x.p = e.p) ∧ (r.map (·.p)).Nodup := by simpa using hn
    simp only [List.map_cons, PySem.Spec.countIn]
    by_cases q : e.p = p
    · have z : PySem.Spec.countIn (.str (nm p)) ((r.map fun e => nm e.p).map PyData.str) = 0 := by
        clear hn h6
        replace hn' := hn'.1
        induction r with
        | nil => rfl
        | cons x r ih =>
          simp only [List.map_cons, PySem.Spec.countIn]
          have hx := hr x (.head _)
          have : PySem.Spec.same (.str (nm x.p)) (.str (nm p)) = false := by
            simp only [PySem.Spec.same]
            have hne : x.p ≠ p := fun c => hn' x (.head _) (c.trans q.symm)
            rw [nm_beq hx.1 hp]; simp [hne]
          rw [this, ih (fun y hy => hr y (.tail _ hy)) (fun y hy => hn' y (.tail _ hy))]
          rfl
      rw [z]; split <;> decide
    · have := count_le r p hp hr hn'.2
      have e0 : PySem.Spec.same (.str (nm e.p)) (.str (nm p)) = false := by
        simp only [PySem.Spec.same]
        rw [nm_beq (h6 e (.head _)).1 hp]; simp [q]
      rw [e0]
      simpa using this
end Mine
end

section
theorem Mine.reset9 : True := by
  w_top off
  exact True.intro
local macro_rules | `(tactic| walk_at "no such place") => `(tactic| skip)
local macro_rules | `(tactic| walk_at "no such place") => `(tactic| skip)
local macro_rules | `(tactic| walk_at "no such place") => `(tactic| skip)
local macro_rules | `(tactic| walk_at "no such place") => `(tactic| skip)
local macro_rules | `(tactic| walk_at "no such place") => `(tactic| skip)
local macro_rules | `(tactic| walk_at "no such place") => `(tactic| skip)
local macro_rules | `(tactic| walk_at "no such place") => `(tactic| skip)
local macro_rules | `(tactic| walk_at "no such place") => `(tactic| skip)
open PySem PySem.W PyProof.Rows PySem.Calls PySem.Builtin.Str
set_option Elab.async false
set_option maxRecDepth 100000
set_option maxHeartbeats 0
namespace Mine
/-- body and frame of the law, by the static heap -/
def LawAt (P : Params) (L : Addr) (body : List Stmt) (env : Env) : Prop :=
  ∃ oc od osl name qual params scope dV kV doc pm an cdv ct, (hd.heap_39 P).lookup 241 = some ⟨oc, od, .func (fnOf name qual params body scope dV kV doc pm an cdv ct), osl⟩ ∧ env = envOfC qual scope L 241 cdv
theorem LawAt.eq {P : Params} {L : Addr} {body : List Stmt} {env : Env} {oc od osl name qual params body' scope dV kV doc pm an cdv ct} (h : LawAt P L body env)
    (e : (hd.heap_39 P).lookup 241 = some ⟨oc, od, .func (fnOf name qual params body' scope dV kV doc pm an cdv ct), osl⟩) : body = body' ∧ env = envOfC qual scope L 241 cdv := by
  obtain ⟨oc', od', osl', name', qual', params', scope', dV', kV', doc', pm', an', cdv', ct', e', rfl⟩ := h
  rw [e] at e'
  have e2 := Option.some.inj e'
  have e3 : Data.func (fnOf name qual params body' scope dV kV doc pm an cdv ct) = Data.func (fnOf name' qual' params' body scope' dV' kV' doc' pm' an' cdv' ct') := congrArg Obj.data e2
  have e4 := Data.func.inj e3
  have e5 : FuncBody.stmts body' = FuncBody.stmts body := congrArg FuncData.body e4
  have e6 : qual = qual' := congrArg FuncData.qualname e4
  have e7 : scope = scope' := congrArg FuncData.scope e4
  have e8 : cdv = cdv' := congrArg FuncData.code e4
  subst e6 e7 e8
  exact ⟨(FuncBody.stmts.inj e5).symm, rfl⟩
theorem news_add {g h h' : Heap} {L D : Addr} {m : Str → Option Value} {W : List (Addr × Obj)} {o : Obj} (F : Fr g L h m) (N : News g L h W) (hk : ∀ b o, h.get? b = some o → h'.get? b = some o) (hD : h.get? D = none) (hl : h'.get? D = some o) : News g L h' ((D, o) :: W) := by
  intro p hp
  rcases List.mem_cons.mp hp with rfl | hp
  · refine ⟨hl, ?_, ?_⟩
    · rintro rfl
      obtain ⟨o', _, _, ho', _⟩ := F.ns
      rw [hD] at ho'; cases ho'
    · cases q : g.get? D with
      | none => rfl
      | some o' => have := F.keep _ _ q; rw [hD] at this; cases this
  · exact ⟨hk _ _ (N p hp).1, (N p hp).2⟩
abbrev RetOf (Q : Value → Shared → Prop) : Flow → Shared → Prop := fun fl s' => Q (match fl with | .ret v => v | _ => .none) s'
theorem seg16 {loose : List Str} {mean : ExcName → Option Value} {mg mb : Str → Option Value} {g : Heap} {w : World} {s : Shared} {Q : Value → Shared → Prop} {E : Value → Shared → Prop} {L : Addr} {body : List Stmt} {env : Env} {m : Str → Option Value}
    {tb td hl nl : Addr} {tbl : List Ent} {namesV : List Value} {nn : Nat} {kh : Int} {tk0 nd nl' : Nat} {o3 : Obj}
    (X : (hd.heap_39 w.params).In g) (T : Top hd.view_39 loose mean mg mb g) (hb : LawAt w.params L body env) 
    (F : Fr g L s.heap m) (N : News g L s.heap ((L + 3, o3) :: (nl, listOf namesV.toArray nn) :: tabW tb td hl kh tk0 nd nl' tbl)) (d3 : o3.data = .cell (some (.ref tb)))
    (hm : m (Str.ofString "names") = some (.ref nl)) (hnm : ∀ p v, namesV[p]? = some v → p < 6 ∧ ∃ t, v = .str (nm p) t) (hn6 : namesV.length ≤ 6)
    (hnd : (tbl.map (·.p)).Nodup) (h6 : ∀ e ∈ tbl, e.p < 6 ∧ e.f < 6) (hlen : tbl.length ≤ 6)
    (hret : ∀ h' tk' m', Fr g L h' m' → Q (.bool true) { s with heap := h', toks := tk' }) :
    wpAny (model PySem.Challenge.rw_pe0235_01.row.prog w) (callerA.deeper env) (execs (body.drop 16) env) (RetOf Q) E s := by
  revert X
  k_fill
  intro X
  obtain ⟨rfl, rfl⟩ := hb.eq (by k_is)
  clear hb
  have hh : callerA.handled = none := rfl
  obtain ⟨u, rfl⟩ := ex_map1 hm
  dsimp only [List.drop]
  iterate 3 walk1
  refine' LCt.ListComp_T (cl := [(Str.ofString "table", L + 3)]) (by assumption) rfl (by decide) rfl (by decide) rfl ?_ (fun _ => rfl)
  iterate 1 walk1
  refine' LCt.CompSrcT.ledger (ax := nl) (its := namesV.toArray) (k := nn) hh (by assumption) (by assumption) (by k_mem) ?_ ?_
  · rw [sizeLine_eq]; simp; omega
  intro g'
  refine rest_T (fun i ys => ys = []) (.inr ⟨_, (by k_mem), rfl, _, rfl⟩) ?_ ?_ rfl
  · rintro i v ys I oI C oC D m₂ h tk E' hi rfl hv hC hm F₁ N₁ off ne
    obtain ⟨hi6, t, rfl⟩ := hnm i v (by simpa using hv)
    iterate 7 walk1
    obtain ⟨tab, new⟩ := tab_of_news (news_sub N₁ (fun p hp => .tail _ (.tail _ (.tail _ (.tail _ (.tail _ hp)))))) h6
    refine keys_spec X T F₁.keep (by k_room) rfl tab new hlen ?_
    intro h₂ tk₂ D₂ n₂ hk₂ hD₂ hl₂
    dsimp only
    have F₂ := fr_all F₁ hk₂
    have N₂ := news_add F₁ N₁ hk₂ hD₂ hl₂
    clear F₁ N₁
    iterate 5 walk1
    refine count_list_strs (by exact isL (n := n₂) N₂ (.head _)) (keys_strs tbl) ?_
    have hc := count_le tbl i hi6 h6 hnd
    iterate 4 walk1
    · exact absurd hc (by omega)
    · exact EndK.intro F₂ N₂ (fun p hp => .tail _ hp) rfl
  · rintro ys rfl D h tk F₁ N₁ off
    iterate 3 walk1
    (rename Fr _ _ _ _ => F₅); (rename News _ _ _ _ => N₅)
    refine ke_eq_ints (ns := []) (ms := []) (xs := []) (ys := []) (by exact ⟨_, (N₅ (D, LCg.lst []) (by k_mem)).1, rfl, _, rfl⟩) (by exact ⟨_, (N₅ _ (.head _)).1, rfl, _, rfl⟩) .nil .nil (by ke_room) ?_
    dsimp only
    exact hret _ _ _ F₅
end Mine
end

section
open PySem PySem.W PyProof.Rows PySem.Calls PySem.Builtin.Str
set_option Elab.async false
set_option maxRecDepth 100000
set_option maxHeartbeats 0
namespace Mine
/-- the list of the six names -/
def NamesAre (vs : List Value) : Prop := ∃ t0 t1 t2 t3 t4 t5, vs = [.str (nm 0) t0, .str (nm 1) t1, .str (nm 2) t2, .str (nm 3) t3, .str (nm 4) t4, .str (nm 5) t5]
def isNm (q : Nat) (v : Value) : Bool := match v with | .str x _ => x == nm q | _ => false
theorem NamesAre.len {vs : List Value} (h : NamesAre vs) : vs.length = 6 := by
  obtain ⟨t0, t1, t2, t3, t4, t5, rfl⟩ := h; rfl
theorem NamesAre.at {vs : List Value} (h : NamesAre vs) {p : Nat} {v : Value} (e : vs[p]? = some v) : p < 6 ∧ ∃ t, v = .str (nm p) t := by
  obtain ⟨t0, t1, t2, t3, t4, t5, rfl⟩ := h
  match p, e with
  | 0, e | 1, e | 2, e | 3, e | 4, e | 5, e => cases e; exact ⟨by omega, _, rfl⟩
  | n + 6, e => simp at e
theorem NamesAre.get {vs : List Value} (h : NamesAre vs) {p : Nat} (hp : p < 6) : ∃ t, vs[p]? = some (.str (nm p) t) := by
  obtain ⟨t0, t1, t2, t3, t4, t5, rfl⟩ := h
  match p, hp with
  | 0, _ | 1, _ | 2, _ | 3, _ | 4, _ | 5, _ => exact ⟨_, rfl⟩
theorem NamesAre.strs {vs : List Value} (h : NamesAre vs) : StrsAre vs [nm 0, nm 1, nm 2, nm 3, nm 4, nm 5] := by
  obtain ⟨t0, t1, t2, t3, t4, t5, rfl⟩ := h
  exact .cons _ _ (.cons _ _ (.cons _ _ (.cons _ _ (.cons _ _ (.cons _ _ .nil)))))
section
variable {prog : Program} {w : World} {A : Around} {E : Value → Shared → Prop} {s : Shared} {Q : Value → Shared → Prop}
theorem index_nm {l : Addr} {vs : List Value} {q : Nat} {t : Tok} (hl : s.heap.IsList l vs.toArray) (hN : NamesAre vs) (hq : q < 6) (h : Q (.int ((q : Nat) : Int) s.toks) { s with toks := s.toks + 1 }) :
    wpAny (model prog w) A (call (.builtin "list.index") [.ref l, .str (nm q) t]) Q E s := by
  obtain ⟨⟨cls, dd, data, sl⟩, ho, hc, n, hd⟩ := id hl
  simp only at hc hd
  subst hc hd
  have hget : ∀ p (hp : p < vs.length), isNm q vs[p] = (p == q) := fun p hp => by
    obtain ⟨hp6, t, ht⟩ := hN.at (List.getElem?_eq_getElem hp)
    rw [ht]
    exact nm_beq hp6 hq
  have hlen := hN.len
  refine call_meets PySem.F.slot_list_index ⟨_, ho, rfl⟩ PySem.F.entry_list_index (PySem.F.args_list_index_2 _ _)
    (PySem.SeqAt.list_indexAt l vs.toArray n dd sl (.str (nm q) t) (isNm q) q (by simpa [hlen] using hq) (by omega) ?_ ?_) ⟨ho, fun y hy => ?_, h⟩
  · show isNm q vs[q] = true
    rw [hget]; simp
  · intro j hjs hlt
    show isNm q vs[j] = false
    rw [hget]; simp; omega
  · obtain ⟨p, hp⟩ := List.getElem?_of_mem (by simpa using hy : y ∈ vs)
    obtain ⟨hp6, t', rfl⟩ := hN.at hp
    exact (eqGives_str _ _ _ _).at _ _
theorem notin_nm {l : Addr} {vs : List Value} {q : Nat} {t : Tok} (hl : s.heap.IsList l vs.toArray) (hN : NamesAre vs) (hq : q < 6) (h : Q (.bool false) s) :
    wpAny (model prog w) A (compareOp .NotIn (.str (nm q) t) (.ref l)) Q E s := by
  refine notin_list_strs hl hN.strs ?_
  have : ([nm 0, nm 1, nm 2, nm 3, nm 4, nm 5].any (· == nm q)) = true := by
    match q, hq with
    | 0, _ | 1, _ | 2, _ | 3, _ | 4, _ | 5, _ => decide +kernel
  rw [this]; exact h
theorem shr32 {q : Nat} {t u : Tok} (hq : q < 6) (h : Q (.int ((2 ^ (5 - q) : Nat) : Int) s.toks) { s with toks := s.toks + 1 }) : wpAny (model prog w) A (binaryOp .RShift (.int 32 t) (.int ((q : Nat) : Int) u)) Q E s := by
  refine rshift_int (by omega) ?_
  have : (32 : Int).fdiv (2 ^ ((q : Nat) : Int).toNat) = ((2 ^ (5 - q) : Nat) : Int) := by
    match q, hq with
    | 0, _ | 1, _ | 2, _ | 3, _ | 4, _ | 5, _ => decide +kernel
  rw [this]; exact h
theorem fdiv_nat {a b : Nat} {t u : Tok} (hb2 : b < 2 ^ 64) (hb : 0 < b) (h : Q (.int ((a / b : Nat) : Int) s.toks) { s with toks := s.toks + 1 }) : wpAny (model prog w) A (binaryOp .FloorDiv (.int (a : Int) t) (.int (b : Int) u)) Q E s := by
  refine floordiv_int (by omega) ?_ (Or.inl (PyProof.noPylong_of_log2 ?_))
  · rw [Int.fdiv_eq_ediv_of_nonneg _ (by omega), ← Int.natCast_ediv]; exact h
  · rw [Int.natAbs_natCast]
    exact Nat.lt_trans ((Nat.log2_lt (by omega)).mpr hb2) (by decide)
theorem mod_nat {a b : Nat} {t u : Tok} (hb : 0 < b) (h : Q (.int ((a % b : Nat) : Int) s.toks) { s with toks := s.toks + 1 }) : wpAny (model prog w) A (binaryOp .Mod (.int (a : Int) t) (.int (b : Int) u)) Q E s := by
  refine mod_int' (by omega) ?_
  rw [Int.fmod_eq_emod_of_nonneg _ (by omega), ← Int.natCast_emod]; exact h
theorem bit_div (a k : Nat) : (a / 2 ^ k % 2 == 0) = !a.testBit k := by
  rw [Nat.testBit_eq_decide_div_mod_eq]
  rcases Nat.mod_two_eq_zero_or_one (a / 2 ^ k) with h | h <;> simp [h]
end
end Mine
end

section
theorem Mine.reset10 : True := by
  w_top off
  exact True.intro
open PySem PySem.W PyProof.Rows PySem.Calls PySem.Builtin.Str
set_option Elab.async false
set_option maxRecDepth 100000
set_option maxHeartbeats 0
namespace Mine
theorem seg15 {loose : List Str} {mean : ExcName → Option Value} {mg mb : Str → Option Value} {g : Heap} {w : World} {s : Shared} {Q : Value → Shared → Prop} {E : Value → Shared → Prop} {L : Addr} {body : List Stmt} {env : Env} {m : Str → Option Value}
    {tb td hl nl wl pl : Addr} {tbl : List Ent} {namesV wV : List Value} {W : List Nat} {nn nw np : Nat} {kh : Int} {tk0 nd nl' : Nat} {o1 o3 : Obj}
    (X : (hd.heap_39 w.params).In g) (T : Top hd.view_39 loose mean mg mb g) (hb : LawAt w.params L body env)
    (F : Fr g L s.heap m) (N : News g L s.heap ((L + 1, o1) :: (L + 3, o3) :: (wl, listOf wV.toArray nw) :: (nl, listOf namesV.toArray nn) :: (pl, listOf (refs tbl).toArray np) :: tabW tb td hl kh tk0 nd nl' tbl))
    (d1 : o1.data = .cell (some (.ref wl))) (d3 : o3.data = .cell (some (.ref tb)))
    (hm : m (Str.ofString "names") = some (.ref nl)) (hm2 : m (Str.ofString "pairs") = some (.ref pl)) (hN : NamesAre namesV) (hW : IntsAre wV (W.map Int.ofNat))
    (hnd : (tbl.map (·.p)).Nodup) (h6 : ∀ e ∈ tbl, e.p < 6 ∧ e.f < 6) (hlen : tbl.length ≤ 6) (hwish : ∀ e ∈ tbl, ∃ x, W[e.f]? = some x ∧ x.testBit (5 - e.p) = true)
    (hret : ∀ h' tk' m', Fr g L h' m' → Q (.bool true) { s with heap := h', toks := tk' }) :
    wpAny (model PySem.Challenge.rw_pe0235_01.row.prog w) (callerA.deeper env) (execs (body.drop 15) env) (RetOf Q) E s := by
  revert X
  k_fill
  intro X
  have hb₀ := hb
  obtain ⟨rfl, rfl⟩ := hb.eq (by k_is)
  have hh : callerA.handled = none := rfl
  clear hb
  obtain ⟨u, rfl⟩ := ex_map2 hm hm2
  dsimp only [List.drop]
  iterate 1 walk1
  refine wpAny_For ?_
  iterate 1 walk1
  refine for_list (items := refs tbl) (fun i m₁ news₁ => news₁ = (L + 1, o1) :: (L + 3, o3) :: (wl, listOf wV.toArray nw) :: (nl, listOf namesV.toArray nn) :: (pl, listOf (refs tbl).toArray np) :: tabW tb td hl kh tk0 nd nl' tbl ∧
      (∃ u : Str → Option Value, m₁ = fun z => if z = Str.ofString "names" then some (.ref nl) else if z = Str.ofString "pairs" then some (.ref pl) else u z))
    hh F N (isL (n := np) N (by k_mem)) ?_ ?_ ?_ ?_
  · rintro i m₁ news₁ h ⟨rfl, _⟩ _ N
    exact isL (n := np) N (by k_mem)
  · exact ⟨rfl, u, rfl⟩
  · rintro i v m₁ news₁ h tk own hv ⟨rfl, u, rfl⟩ F₁ N₁ hown
    obtain ⟨e, he, hmem, rfl⟩ := refs_get hv
    obtain ⟨hp6, hf6⟩ := h6 e hmem
    obtain ⟨x, hx, hbit⟩ := hwish e hmem
    refine assign_pair hh ⟨_, (N₁ (e.a, e.obj) (by simp [ents_mem hmem])).1, rfl, _, rfl⟩ F₁ N₁ (fun h₂ tk₂ F₂ N₂ => ?_) rfl rfl rfl
    clear F₁ N₁ F N
    iterate 6 walk1
    refine notin_nm (vs := namesV) (by exact isL (n := nn) N₂ (by k_mem)) hN hp6 ?_
    iterate 10 walk1
    iterate 5 walk1
    refine index_lt hf6 ?_
    obtain ⟨xv, hxv⟩ : ∃ v, wV[e.f]? = some v := by
      have h1 := hW.length
      have h2 := (List.getElem?_eq_some_iff.mp hx).1
      exact ⟨_, List.getElem?_eq_getElem (by simp at h1; omega)⟩
    obtain ⟨x', tx, rfl, hx'⟩ := hW.at _ _ hxv
    rw [List.getElem?_map, hx] at hx'
    cases hx'
    refine item_at N₂ (l := wl) (vs := wV) (nn := nw) (by k_mem) hxv (by omega) ?_ (fun _ _ => by with_unfolding_all rfl)
    iterate 9 walk1
    refine index_nm (vs := namesV) (by exact isL (n := nn) N₂ (by k_mem)) hN hp6 ?_
    refine shr32 hp6 ?_
    refine fdiv_nat ?_ ?_ ?_
    · exact Nat.lt_of_le_of_lt (Nat.pow_le_pow_right (by decide) (Nat.sub_le 5 _)) (by decide)
    · exact Nat.pow_pos (by decide)
    iterate 1 walk1
    refine mod_nat (b := 2) (by decide) ?_
    have hz := bit_div x (5 - e.p)
    rw [hbit] at hz
    have hz2 : x / 2 ^ (5 - e.p) % 2 = 1 := by
      rcases Nat.mod_two_eq_zero_or_one (x / 2 ^ (5 - e.p)) with q | q
      · rw [q] at hz; cases hz
      · exact q
    rw [hz2]
    iterate 9 walk1
    dsimp only
    exact ⟨_, _, _, _, rfl, F₂, N₂, hown, rfl, ex_map2 rfl rfl⟩
  · rintro m₁ news₁ h tk ⟨rfl, u, rfl⟩ F₁ N₁
    iterate 1 walk1
    dsimp only
    exact seg16 X T hb₀ F₁ (news_sub N₁ fun p hp => by
      rcases List.mem_cons.mp hp with rfl | hp
      · exact .tail _ (.head _)
      rcases List.mem_cons.mp hp with rfl | hp
      · exact .tail _ (.tail _ (.tail _ (.head _)))
      exact .tail _ (.tail _ (.tail _ (.tail _ (.tail _ hp))))) d3 rfl (fun p v h => hN.at h) (by rw [hN.len]; exact Nat.le_refl _) hnd h6 hlen (fun h' tk' m' F' => hret h' tk' m' F')
end Mine
end

section
theorem Mine.reset11 : True := by
  w_top off
  exact True.intro
local macro_rules | `(tactic| walk_at "no such place") => `(tactic| skip)
local macro_rules | `(tactic| walk_at "no such place") => `(tactic| skip)
local macro_rules | `(tactic| walk_at "no such place") => `(tactic| skip)
local macro_rules | `(tactic| walk_at "no such place") => `(tactic| skip)
local macro_rules | `(tactic| walk_at "no such place") => `(tactic| skip)
local macro_rules | `(tactic| walk_at "no such place") => `(tactic| skip)
local macro_rules | `(tactic| walk_at "no such place") => `(tactic| skip)
local macro_rules | `(tactic| walk_at "no such place") => `(tactic| skip)
open PySem PySem.W PyProof.Rows PySem.Calls PySem.Builtin.Str
set_option Elab.async false
set_option maxRecDepth 100000
set_option maxHeartbeats 0
namespace Mine
theorem seg13 {loose : List Str} {mean : ExcName → Option Value} {mg mb : Str → Option Value} {g : Heap} {w : World} {s : Shared} {Q : Value → Shared → Prop} {E : Value → Shared → Prop} {L : Addr} {body : List Stmt} {env : Env} {m : Str → Option Value}
    {tb td hl nl wl : Addr} {tbl : List Ent} {namesV wV : List Value} {W : List Nat} {nn nw : Nat} {kh : Int} {tk0 nd nl' : Nat} {o1 o3 : Obj}
    (X : (hd.heap_39 w.params).In g) (T : Top hd.view_39 loose mean mg mb g) (hb : LawAt w.params L body env)
    (F : Fr g L s.heap m) (N : News g L s.heap ((L + 1, o1) :: (L + 3, o3) :: (wl, listOf wV.toArray nw) :: (nl, listOf namesV.toArray nn) :: tabW tb td hl kh tk0 nd nl' tbl))
    (d1 : o1.data = .cell (some (.ref wl))) (d3 : o3.data = .cell (some (.ref tb)))
    (hm : m (Str.ofString "names") = some (.ref nl)) (hN : NamesAre namesV) (hW : IntsAre wV (W.map Int.ofNat))
    (hnd : (tbl.map (·.p)).Nodup) (h6 : ∀ e ∈ tbl, e.p < 6 ∧ e.f < 6) (hlen : tbl.length ≤ 6) (hwish : ∀ e ∈ tbl, ∃ x, W[e.f]? = some x ∧ x.testBit (5 - e.p) = true)
    (hret : ∀ h' tk' m', Fr g L h' m' → Q (.bool true) { s with heap := h', toks := tk' }) :
    wpAny (model PySem.Challenge.rw_pe0235_01.row.prog w) (callerA.deeper env) (execs (body.drop 13) env) (RetOf Q) E s := by
  revert X
  k_fill
  intro X
  have hb₀ := hb
  obtain ⟨rfl, rfl⟩ := hb.eq (by k_is)
  have hh : callerA.handled = none := rfl
  clear hb
  obtain ⟨u, rfl⟩ := ex_map1 hm
  dsimp only [List.drop]
  iterate 6 walk1
  obtain ⟨tab, new⟩ := tab_of_news (news_sub N (fun p hp => .tail _ (.tail _ (.tail _ (.tail _ hp))))) h6
  refine items_spec X T F.keep (by k_room) rfl tab new hlen ?_
  intro h₁ tk₁ pl np hk₁ hD₁ hl₁
  have F₁ := fr_all F hk₁
  have N₁ := news_add F N hk₁ hD₁ hl₁
  clear F N
  iterate 9 walk1
  (rename Fr _ _ _ _ => F₂); (rename News _ _ _ _ => N₂)
  obtain ⟨tab, new⟩ := tab_of_news (news_sub N₂ (fun p hp => .tail _ (.tail _ (.tail _ (.tail _ (.tail _ hp)))))) h6
  refine keys_spec X T F₂.keep (by k_room) rfl tab new hlen ?_
  intro h₃ tk₃ kl nk hk₃ hD₃ hl₃
  have F₃ := fr_all F₂ hk₃
  have N₃ := news_add F₂ N₂ hk₃ hD₃ hl₃
  clear F₂ N₂
  dsimp only
  refine' LCp.ListComp_P (cl := []) F₃ rfl (by decide) rfl (by decide) rfl rfl (by decide) ?_ (fun _ => rfl)
  iterate 1 walk1
  refine' LCp.SrcLP.ledger (ax := pl) (its := (refs tbl).toArray) (k := np) hh F₃ N₃ (by k_mem) (by rw [sizeLine_eq]; simp [refs]; omega) ?_
  intro g'
  refine rest_P (fun i ys => ys = keysOf (tbl.take i)) (.inr ⟨_, (by k_mem), rfl, _, rfl⟩) (pairAt tbl) ?_ ?_ ?_ rfl
  · intro i v hi hv
    obtain ⟨e, he, hmem, rfl⟩ := refs_get (by simpa using hv)
    refine ⟨e.a, rfl, ?_⟩
    have : pairAt tbl i = (.str (nm e.p) e.tp, .str (lt e.f) e.tf) := by unfold pairAt; rw [he]
    rw [this]
    simp [ents_mem hmem]
  · intro i ys I oI C oC D m₂ h tk E' hi hJ hC hm hm₂ F₁ N₁ off ne
    walk1
    refine EndK.intro F₁ N₁ (fun p hp => hp) ?_
    have hi' : i < tbl.length := by simpa [refs] using hi
    have he : tbl[i]? = some tbl[i] := List.getElem?_eq_getElem hi'
    have : pairAt tbl i = (.str (nm tbl[i].p) tbl[i].tp, .str (lt tbl[i].f) tbl[i].tf) := by unfold pairAt; rw [he]
    rw [hJ, this]
    exact (take_step he).symm
  rintro ys rfl D₄ h₄ tk₄ F₄ N₄ off₄
  have e4 : (tbl.take (refs tbl).toArray.size) = tbl := by simp [refs]
  rw [e4] at N₄
  clear F₃ N₃
  dsimp only
  have okk : ∀ x ∈ tbl.map (fun e => nm e.p), PyData.strOk x = true := fun x hx => by
    obtain ⟨e, he, rfl⟩ := List.mem_map.mp hx
    exact nm_strOk _ (h6 e he).1
  have okv : ∀ x ∈ tbl.map (fun e => lt e.f), PyData.strOk x = true := fun x hx => by
    obtain ⟨e, he, rfl⟩ := List.mem_map.mp hx
    exact lt_strOk _ (h6 e he).2
  refine ne_strs (by exact isL (n := nk) N₄ (by k_mem)) (by exact ⟨_, (N₄ (D₄, LCg.lst (keysOf tbl)) (.head _)).1, rfl, _, rfl⟩) (keys_strs tbl) (keys_strs tbl) (by ke_room) okk okk ?_
  rw [decide_eq_true rfl, Bool.not_true]
  iterate 8 walk1
  (rename Fr _ _ _ _ => F₅); (rename News _ _ _ _ => N₅)
  obtain ⟨tab, new⟩ := tab_of_news (news_sub N₅ (fun p hp => .tail _ (.tail _ (.tail _ (.tail _ (.tail _ (.tail _ (.tail _ hp)))))))) h6
  refine vals_spec X T F₅.keep (by k_room) rfl tab new hlen ?_
  intro h₆ tk₆ vl nv hk₆ hD₆ hl₆
  have F₆ := fr_all F₅ hk₆
  have N₆ := news_add F₅ N₅ hk₆ hD₆ hl₆
  clear tab new F₅ N₅
  dsimp only
  refine' LCp.ListComp_P (cl := []) F₆ rfl (by decide) rfl (by decide) rfl rfl (by decide) ?_ (fun _ => rfl)
  iterate 1 walk1
  refine' LCp.SrcLP.ledger (ax := pl) (its := (refs tbl).toArray) (k := np) hh F₆ N₆ (by k_mem) (by rw [sizeLine_eq]; simp [refs]; omega) ?_
  intro g'
  refine rest_P (fun i ys => ys = valsOf (tbl.take i)) (.inr ⟨_, (by k_mem), rfl, _, rfl⟩) (pairAt tbl) ?_ ?_ ?_ rfl
  · intro i v hi hv
    obtain ⟨e, he, hmem, rfl⟩ := refs_get (by simpa using hv)
    refine ⟨e.a, rfl, ?_⟩
    have : pairAt tbl i = (.str (nm e.p) e.tp, .str (lt e.f) e.tf) := by unfold pairAt; rw [he]
    rw [this]
    simp [ents_mem hmem]
  · intro i ys I oI C oC D m₂ h tk E' hi hJ hC hm hm₂ F₁ N₁ off ne
    walk1
    refine EndK.intro F₁ N₁ (fun p hp => hp) ?_
    have hi' : i < tbl.length := by simpa [refs] using hi
    have he : tbl[i]? = some tbl[i] := List.getElem?_eq_getElem hi'
    have : pairAt tbl i = (.str (nm tbl[i].p) tbl[i].tp, .str (lt tbl[i].f) tbl[i].tf) := by unfold pairAt; rw [he]
    rw [hJ, this]
    exact (take_step he).symm
  rintro ys rfl D₇ h₇ tk₇ F₇ N₇ off₇
  rw [e4] at N₇
  clear F₆ N₆
  dsimp only
  refine ne_strs (by exact isL (n := nv) N₇ (by k_mem)) (by exact ⟨_, (N₇ (D₇, LCg.lst (valsOf tbl)) (.head _)).1, rfl, _, rfl⟩) (vals_strs tbl) (vals_strs tbl) (by ke_room) okv okv ?_
  rw [decide_eq_true rfl, Bool.not_true]
  iterate 5 walk1
  dsimp only
  have N₈ : News g L h₇ ((L + 1, o1) :: (L + 3, o3) :: (wl, listOf wV.toArray nw) :: (nl, listOf namesV.toArray nn) :: (pl, listOf (refs tbl).toArray np) :: tabW tb td hl kh tk0 nd nl' tbl) := news_sub N₇ fun p hp => by
    rcases List.mem_cons.mp hp with rfl | hp
    · k_mem
    rcases List.mem_cons.mp hp with rfl | hp
    · k_mem
    rcases List.mem_cons.mp hp with rfl | hp
    · k_mem
    rcases List.mem_cons.mp hp with rfl | hp
    · k_mem
    rcases List.mem_cons.mp hp with rfl | hp
    · k_mem
    exact .tail _ (.tail _ (.tail _ (.tail _ (.tail _ (.tail _ (.tail _ (.tail _ (.tail _ hp))))))))
  exact seg15 X T hb₀ F₇ N₈ d1 d3 rfl rfl hN hW hnd h6 hlen hwish (fun h' tk' m' F' => hret h' tk' m' F')
end Mine
end

section
set_option Elab.async false
namespace Mine
def Nd (t : Tb) : Prop := (t.map (·.1)).Nodup
def Val (R : Nat → Nat → Bool) (t : Tb) : Prop := ∀ e ∈ t, R e.2 e.1 = true
theorem tget_some {t : Tb} {p f : Nat} (h : tget t p = some f) : (p, f) ∈ t := by
  unfold tget at h
  rw [Option.map_eq_some_iff] at h
  obtain ⟨e, he, rfl⟩ := h
  have h1 := List.find?_some he
  have h2 := List.mem_of_find?_eq_some he
  simp at h1
  rw [← h1]; exact h2
theorem tget_none {t : Tb} {p : Nat} (h : tget t p = none) : ∀ e ∈ t, e.1 ≠ p := by
  unfold tget at h
  rw [Option.map_eq_none_iff, List.find?_eq_none] at h
  intro e he
  simpa using h e he
theorem tget_mem : ∀ {t : Tb} {p f : Nat}, Nd t → (p, f) ∈ t → tget t p = some f
  | e :: t, p, f, hn, h => by
    unfold Nd at hn
    simp only [List.map_cons, List.nodup_cons] at hn
    unfold tget
    rcases List.mem_cons.mp h with rfl | h
    · simp
    · have : e.1 ≠ p := fun q => hn.1 (by rw [q]; exact List.mem_map.mpr ⟨_, h, rfl⟩)
      rw [List.find?_cons_of_neg (by simpa using this)]
      exact tget_mem (t := t) hn.2 h
theorem nd_filter {t : Tb} (h : Nd t) (f : Nat × Nat → Bool) : Nd (t.filter f) := List.Sublist.nodup (List.Sublist.map _ List.filter_sublist) h
theorem nd_set {t : Tb} {q f : Nat} (h : Nd t) : Nd (tset t q f) := by
  unfold Nd tset
  rw [List.map_append, List.nodup_append]
  refine ⟨nd_filter h _, by simp, ?_⟩
  intro x hx y hy
  simp at hx hy
  obtain ⟨⟨_, h2⟩, rfl⟩ | ⟨_, h2⟩ := hx
  all_goals (first | (subst hy; exact h2) | skip)
  all_goals (subst hy; intro c; simp_all)
theorem tget_set {t : Tb} {q f p : Nat} (h : Nd t) : tget (tset t q f) p = if p = q then some f else tget t p := by
  by_cases e : p = q
  · rw [if_pos e, e]
    exact tget_mem (nd_set h) (by unfold tset; simp)
  · rw [if_neg e]
    cases g : tget t p with
    | some f' => exact tget_mem (nd_set h) (by unfold tset; simp [tget_some g, e])
    | none =>
      cases g' : tget (tset t q f) p with
      | none => rfl
      | some f' =>
        have := tget_some g'
        unfold tset at this
        simp [e] at this
        exact absurd rfl (tget_none g _ this)
theorem val_set {R : Nat → Nat → Bool} {t : Tb} {q f : Nat} (h : Val R t) (hf : R f q = true) : Val R (tset t q f) := by
  intro e he
  unfold tset at he
  rcases List.mem_append.mp he with he | he
  · exact h e (List.mem_filter.mp he).1
  · rw [List.mem_singleton.mp he]; exact hf
theorem files_set_none {t : Tb} {q f : Nat} (h : tget t q = none) : ((tset t q f).map (·.2)).Perm (f :: t.map (·.2)) := by
  have : t.filter (fun e => e.1 != q) = t := List.filter_eq_self.mpr fun e he => by simpa using tget_none h e he
  unfold tset
  rw [this, List.map_append]
  exact List.perm_append_comm
theorem files_out : ∀ {t : Tb} {q h : Nat}, Nd t → tget t q = some h → (t.map (·.2)).Perm (h :: (t.filter (fun e => e.1 != q)).map (·.2))
  | [], _, _, _, h => by simp [tget] at h
  | e :: t, q, h, hn, hg => by
    have hn0 := hn
    unfold Nd at hn
    simp only [List.map_cons, List.nodup_cons] at hn
    by_cases c : e.1 = q
    · have hnone : ∀ x ∈ t, x.1 ≠ q := fun x hx k => hn.1 (by rw [c, ← k]; exact List.mem_map_of_mem hx)
      have h1 : t.filter (fun e => e.1 != q) = t := List.filter_eq_self.mpr fun x hx => by simpa using hnone x hx
      have h2 : e.2 = h := by
        have := tget_mem hn0 (p := q) (f := e.2) (by rw [← c]; exact .head _)
        rw [hg] at this; exact (Option.some.inj this).symm
      rw [List.filter_cons_of_neg (by simpa using c), h1, List.map_cons, h2]
    · have hg' : tget t q = some h := by
        unfold tget at hg ⊢
        rwa [List.find?_cons_of_neg (by simpa using c)] at hg
      rw [List.filter_cons_of_pos (by simpa using c), List.map_cons, List.map_cons]
      exact ((files_out (t := t) hn.2 hg').cons e.2).trans (List.Perm.swap ..)
theorem files_set_some {t : Tb} {q f h : Nat} (hn : Nd t) (hg : tget t q = some h) : (h :: (tset t q f).map (·.2)).Perm (f :: t.map (·.2)) := by
  unfold tset
  rw [List.map_append]
  have h1 := files_out hn hg
  refine List.Perm.trans (List.Perm.cons h List.perm_append_comm) ?_
  exact (List.Perm.swap ..).trans ((h1.symm).cons f)
structure Res (R : Nat → Nat → Bool) (k : Nat) (t : Tb) (a : List Nat) (b : Bool) (t' : Tb) (a' : List Nat) : Prop where
  sub : ∀ p ∈ a, p ∈ a'
  nd : a'.Nodup
  lt : ∀ p ∈ a', p < 6
  len : a.length ≤ a'.length
  no : b = false → t' = t ∧ (∀ p ∈ a', p ∈ a ∨ ∃ h, tget t p = some h ∧ ∀ q, q < 6 → R h q = true → q ∈ a') ∧
    (∀ S : Nat → Prop, (∀ p h q, S p → tget t p = some h → q < 6 → R h q = true → S q) → (∀ q, q < 6 → R k q = true → S q) → (∀ p ∈ a, S p) → ∀ p ∈ a', S p)
  yes : b = true → Nd t' ∧ (t'.map (·.2)).Perm (k :: t.map (·.2)) ∧ (∀ p ∈ a, tget t' p = tget t p) ∧ (Val R t → Val R t')
def CallP (R : Nat → Nat → Bool) (n : Nat) (call : Nat → Tb → List Nat → Bool × Tb × List Nat) : Prop :=
  ∀ k t a b t' a', Nd t → a.Nodup → (∀ p ∈ a, p < 6) → 7 ≤ a.length + n → call k t a = (b, t', a') → Res R k t a b t' a' ∧ (b = false → ∀ q, q < 6 → R k q = true → q ∈ a')
theorem scan_ok {R : Nat → Nat → Bool} {n : Nat} {call : Nat → Tb → List Nat → Bool × Tb × List Nat} (hc : CallP R n call) {k : Nat} {t : Tb} (hn : Nd t) :
    ∀ (ps a : List Nat) (b : Bool) (t' : Tb) (a' : List Nat), (∀ p ∈ ps, p < 6) → a.Nodup → (∀ p ∈ a, p < 6) → 7 ≤ a.length + (n + 1) → scan R call k ps t a = (b, t', a') →
      Res R k t a b t' a' ∧ (b = false → ∀ p ∈ ps, R k p = true → p ∈ a') := by
  intro ps
  induction ps with
  | nil =>
    intro a b t' a' _ hnd hlt _ he
    rw [scan] at he
    cases he
    exact ⟨⟨fun _ h => h, hnd, hlt, Nat.le_refl _, fun _ => ⟨rfl, fun p h => .inl h, fun S _ _ h => h⟩, fun h => nomatch h⟩, fun _ p h => nomatch h⟩
  | cons p ps ih =>
    intro a b t' a' hps hnd hlt hfuel he
    rw [scan] at he
    have hp : p < 6 := hps p (.head _)
    have hps' : ∀ q ∈ ps, q < 6 := fun q hq => hps q (.tail _ hq)
    by_cases hcond : (R k p && !a.contains p) = true
    · rw [if_pos hcond] at he
      have hR : R k p = true := (Bool.and_eq_true_iff.mp hcond).1
      have hpa : p ∉ a := by have := (Bool.and_eq_true_iff.mp hcond).2; simpa using this
      have hnd1 : (a ++ [p]).Nodup := by
        rw [List.nodup_append]
        exact ⟨hnd, by simp, fun x hx y hy => by simp at hy; subst hy; exact fun e => hpa (e ▸ hx)⟩
      have hlt1 : ∀ q ∈ a ++ [p], q < 6 := fun q hq => by
        rcases List.mem_append.mp hq with hq | hq
        · exact hlt q hq
        · rw [List.mem_singleton.mp hq]; exact hp
      cases hg : tget t p with
      | none =>
        rw [hg] at he
        cases he
        refine ⟨⟨fun q hq => List.mem_append_left _ hq, hnd1, hlt1, by simp, (fun h => nomatch h), fun _ => ⟨nd_set hn, files_set_none hg, fun q hq => ?_, fun hv => val_set hv hR⟩⟩, fun h => nomatch h⟩
        rw [tget_set hn, if_neg (show ¬ q = p from fun e => hpa (e ▸ hq))]
      | some h =>
        rw [hg] at he
        dsimp only at he
        cases hcl : call h t (a ++ [p]) with
        | mk b1 r =>
          obtain ⟨t1, a1⟩ := r
          rw [hcl] at he
          obtain ⟨r1, cl1⟩ := hc h t (a ++ [p]) b1 t1 a1 hn hnd1 hlt1 (by simp; omega) hcl
          cases b1 with
          | true =>
            dsimp only at he
            cases he
            obtain ⟨n1, f1, k1, v1⟩ := r1.yes rfl
            have hg1 : tget t1 p = some h := by rw [k1 p (by simp), hg]
            refine ⟨⟨fun q hq => r1.sub q (List.mem_append_left _ hq), r1.nd, r1.lt, ?_, (fun h => nomatch h), fun _ => ⟨nd_set n1, ?_, fun q hq => ?_, fun hv => val_set (v1 hv) hR⟩⟩, fun h => nomatch h⟩
            · have := r1.len; simp at this; omega
            · have h2 := files_set_some (f := k) n1 hg1
              have h3 : (h :: (tset t1 p k).map (·.2)).Perm (h :: k :: t.map (·.2)) := h2.trans ((f1.cons k).trans (List.Perm.swap ..))
              exact h3.cons_inv
            · rw [tget_set n1, if_neg (show ¬ q = p from fun e => hpa (e ▸ hq)), k1 q (List.mem_append_left _ hq)]
          | false =>
            dsimp only at he
            obtain ⟨rfl, hclo, hmin⟩ := r1.no rfl
            have hl1 := r1.len
            simp only [List.length_append, List.length_singleton] at hl1
            obtain ⟨r2, all2⟩ := ih a1 b t' a' hps' r1.nd r1.lt (by omega) he
            have pa' : p ∈ a' := r2.sub p (r1.sub p (by simp))
            refine ⟨⟨fun q hq => r2.sub q (r1.sub q (List.mem_append_left _ hq)), r2.nd, r2.lt, by have := r2.len; omega, fun hb => ?_, fun hb => ?_⟩, fun hb q hq hRq => ?_⟩
            · obtain ⟨e2, clo2, min2⟩ := r2.no hb
              refine ⟨e2, fun q hq => ?_, fun S hS hk ha => min2 S hS hk (hmin S hS (fun q hq hRq => hS p h q (hk p hp hR) hg hq hRq) fun q hq => ?_)⟩
              · rcases clo2 q hq with h1 | h1
                · rcases hclo q h1 with h2 | ⟨f, hf, hf2⟩
                  · rcases List.mem_append.mp h2 with h2 | h2
                    · exact .inl h2
                    · rw [List.mem_singleton.mp h2]
                      exact .inr ⟨h, hg, fun z hz hRz => r2.sub z (cl1 rfl z hz hRz)⟩
                  · exact .inr ⟨f, hf, fun z hz hRz => r2.sub z (hf2 z hz hRz)⟩
                · exact .inr h1
              · rcases List.mem_append.mp hq with hq | hq
                · exact ha q hq
                · rw [List.mem_singleton.mp hq]; exact hk p hp hR
            · obtain ⟨n2, f2, k2, v2⟩ := r2.yes hb
              exact ⟨n2, f2, fun q hq => k2 q (r1.sub q (List.mem_append_left _ hq)), v2⟩
            · rcases List.mem_cons.mp hq with rfl | hq
              · exact pa'
              · exact all2 hb q hq hRq
    · rw [if_neg hcond] at he
      obtain ⟨r2, all2⟩ := ih a b t' a' hps' hnd hlt hfuel he
      refine ⟨r2, fun hb q hq hRq => ?_⟩
      rcases List.mem_cons.mp hq with rfl | hq
      · rw [hRq] at hcond
        exact r2.sub q (by simpa using hcond)
      · exact all2 hb q hq hRq
theorem finds_ok (R : Nat → Nat → Bool) : ∀ n, CallP R n (finds R n)
  | 0 => fun k t a b t' a' _ hnd hlt hf _ => by
    have := nodup_len 6 hnd hlt
    omega
  | n + 1 => fun k t a b t' a' hn hnd hlt hf he => by
    obtain ⟨r, all⟩ := scan_ok (finds_ok R n) hn [0, 1, 2, 3, 4, 5] a b t' a' (by decide) hnd hlt hf he
    exact ⟨r, fun hb q hq => all hb q (by match q, hq with | 0, _ | 1, _ | 2, _ | 3, _ | 4, _ | 5, _ => decide)⟩
end Mine
end

section
set_option Elab.async false
namespace Mine
theorem sub_len {l1 : List Nat} : ∀ {l2 : List Nat}, l1.Nodup → (∀ x ∈ l1, x ∈ l2) → l1.length ≤ l2.length := by
  induction l1 with
  | nil => intro l2 _ _; exact Nat.zero_le _
  | cons x l ih =>
    intro l2 hn hs
    have hx : x ∈ l2 := hs x (.head _)
    rw [List.nodup_cons] at hn
    have h := ih (l2 := l2.erase x) hn.2 fun y hy => (List.mem_erase_of_ne (show y ≠ x from fun e => hn.1 (e ▸ hy))).mpr (hs y (.tail _ hy))
    rw [List.length_erase_of_mem hx] at h
    have : 0 < l2.length := List.length_pos_of_mem hx
    simp only [List.length_cons]
    omega
theorem sub_back {l1 l2 : List Nat} (hn : l1.Nodup) (hs : ∀ x ∈ l1, x ∈ l2) (hl : l2.length ≤ l1.length) : ∀ x ∈ l2, x ∈ l1 := by
  intro x hx
  by_cases h : x ∈ l1
  · exact h
  · have := sub_len (l1 := x :: l1) (l2 := l2) (List.nodup_cons.mpr ⟨h, hn⟩) fun y hy => by
      rcases List.mem_cons.mp hy with rfl | hy
      · exact hx
      · exact hs y hy
    simp only [List.length_cons] at this
    omega
def Rof (W : Nat → Nat) (k p : Nat) : Bool := (W k).testBit (5 - p)
def pls (S : Nat) : List Nat := (List.range 6).filter fun p => S.testBit (5 - p)
def card (S : Nat) : Nat := (pls S).length
def inS (W : Nat → Nat) (S f : Nat) : Bool := (W f ||| S) == S
def cnt (W : Nat → Nat) (H : List Nat) (S : Nat) : Nat := H.countP (inS W S)
theorem mem_pls {S p : Nat} : p ∈ pls S ↔ p < 6 ∧ S.testBit (5 - p) = true := by
  unfold pls; rw [List.mem_filter, List.mem_range]
theorem inS_iff {W : Nat → Nat} {S f : Nat} (hW : W f < 64) : inS W S f = true ↔ ∀ q, q < 6 → Rof W f q = true → S.testBit (5 - q) = true := by
  unfold inS Rof
  rw [beq_iff_eq]
  constructor
  · intro h q _ hq
    rw [← h, Nat.testBit_or, hq, Bool.true_or]
  · intro h
    apply Nat.eq_of_testBit_eq
    intro i
    rw [Nat.testBit_or]
    by_cases hi : i < 6
    · cases hb : (W f).testBit i with
      | false => rw [Bool.false_or]
      | true =>
        have := h (5 - i) (by omega) (by rw [show 5 - (5 - i) = i by omega]; exact hb)
        rw [show 5 - (5 - i) = i by omega] at this
        rw [this]; rfl
    · rw [Nat.testBit_lt_two_pow (Nat.lt_of_lt_of_le hW (Nat.pow_le_pow_right (by decide) (Nat.not_lt.mp hi) : 2 ^ 6 ≤ 2 ^ i)), Bool.false_or]
structure Inv (W : Nat → Nat) (t : Tb) (H : List Nat) : Prop where
  nd : Nd t
  val : Val (Rof W) t
  lt : ∀ e ∈ t, e.1 < 6 ∧ W e.2 < 64
  files : (t.map (·.2)).Perm H
/-- the table's part within S -/
def part (W : Nat → Nat) (t : Tb) (S : Nat) : List Nat := (t.filter fun e => inS W S e.2).map (·.1)
theorem part_nd {W : Nat → Nat} {t : Tb} {H : List Nat} (I : Inv W t H) (S : Nat) : (part W t S).Nodup := nd_filter I.nd _
theorem part_len {W : Nat → Nat} {t : Tb} {H : List Nat} (I : Inv W t H) (S : Nat) : (part W t S).length = cnt W H S := by
  unfold part cnt
  rw [List.length_map, ← List.countP_eq_length_filter, ← I.files.countP_eq, List.countP_map]
  rfl
theorem part_sub {W : Nat → Nat} {t : Tb} {H : List Nat} (I : Inv W t H) (S : Nat) : ∀ p ∈ part W t S, p ∈ pls S := by
  intro p hp
  unfold part at hp
  obtain ⟨e, he, rfl⟩ := List.mem_map.mp hp
  obtain ⟨h1, h2⟩ := List.mem_filter.mp he
  obtain ⟨h3, h4⟩ := I.lt e h1
  exact mem_pls.mpr ⟨h3, (inS_iff h4).mp h2 e.1 h3 (I.val e h1)⟩
theorem hall_le {W : Nat → Nat} {t : Tb} {H : List Nat} (I : Inv W t H) (S : Nat) : cnt W H S ≤ card S := by
  rw [← part_len I S]
  exact sub_len (part_nd I S) (part_sub I S)
theorem tight_held {W : Nat → Nat} {t : Tb} {H : List Nat} (I : Inv W t H) {S : Nat} (ht : cnt W H S = card S) {p : Nat} (hp : p < 6) (hS : S.testBit (5 - p) = true) : ∃ f, (p, f) ∈ t ∧ inS W S f = true := by
  have := sub_back (part_nd I S) (part_sub I S) (by rw [part_len I S, ht]; exact Nat.le_refl _) p (mem_pls.mpr ⟨hp, hS⟩)
  unfold part at this
  obtain ⟨e, he, rfl⟩ := List.mem_map.mp this
  obtain ⟨h1, h2⟩ := List.mem_filter.mp he
  exact ⟨e.2, h1, h2⟩
theorem sum_set (g : Nat → Nat) : ∀ {a : List Nat}, a.Nodup → (∀ p ∈ a, p < 6) → (a.map g).sum = ((List.range 6).map fun p => if p ∈ a then g p else 0).sum := by
  intro a
  induction a with
  | nil => intro _ _; simp [List.range_succ]
  | cons x a ih =>
    intro hn hl
    rw [List.nodup_cons] at hn
    rw [List.map_cons, List.sum_cons, ih hn.2 fun p hp => hl p (.tail _ hp)]
    have hx := hl x (.head _)
    have key : ∀ p, (if p ∈ x :: a then g p else 0) = (if p = x then g p else 0) + (if p ∈ a then g p else 0) := by
      intro p
      by_cases h1 : p = x
      · subst h1; simp [hn.1]
      · simp [h1]
    simp only [key, List.range_succ, List.range_zero, List.nil_append, List.map_append, List.map_cons, List.map_nil, List.sum_append, List.sum_cons, List.sum_nil]
    match x, hx with
    | 0, _ | 1, _ | 2, _ | 3, _ | 4, _ | 5, _ => simp; try omega
def mask (a : List Nat) : Nat := (a.map fun p => 2 ^ (5 - p)).sum
def bits (b0 b1 b2 b3 b4 b5 : Bool) : Nat := b0.toNat * 32 + b1.toNat * 16 + b2.toNat * 8 + b3.toNat * 4 + b4.toNat * 2 + b5.toNat
theorem mask_bits {a : List Nat} (hn : a.Nodup) (hl : ∀ p ∈ a, p < 6) : mask a = bits (decide (0 ∈ a)) (decide (1 ∈ a)) (decide (2 ∈ a)) (decide (3 ∈ a)) (decide (4 ∈ a)) (decide (5 ∈ a)) := by
  unfold mask
  rw [sum_set _ hn hl]
  have e : ∀ p, (if p ∈ a then 2 ^ (5 - p) else 0) = (decide (p ∈ a)).toNat * 2 ^ (5 - p) := fun p => by
    by_cases h : p ∈ a <;> simp [h]
  simp only [e, List.range_succ, List.range_zero, List.nil_append, List.map_append, List.map_cons, List.map_nil, List.sum_append, List.sum_cons, List.sum_nil, bits]
  omega
theorem bits_test : ∀ b0 b1 b2 b3 b4 b5 : Bool, bits b0 b1 b2 b3 b4 b5 < 64 ∧ (bits b0 b1 b2 b3 b4 b5).testBit 5 = b0 ∧ (bits b0 b1 b2 b3 b4 b5).testBit 4 = b1 ∧ (bits b0 b1 b2 b3 b4 b5).testBit 3 = b2 ∧ (bits b0 b1 b2 b3 b4 b5).testBit 2 = b3 ∧ (bits b0 b1 b2 b3 b4 b5).testBit 1 = b4 ∧ (bits b0 b1 b2 b3 b4 b5).testBit 0 = b5 := by decide
theorem mask_lt {a : List Nat} (hn : a.Nodup) (hl : ∀ p ∈ a, p < 6) : mask a < 64 := by
  rw [mask_bits hn hl]; exact (bits_test ..).1
theorem mask_test {a : List Nat} (hn : a.Nodup) (hl : ∀ p ∈ a, p < 6) {p : Nat} (hp : p < 6) : (mask a).testBit (5 - p) = decide (p ∈ a) := by
  rw [mask_bits hn hl]
  have := bits_test (decide (0 ∈ a)) (decide (1 ∈ a)) (decide (2 ∈ a)) (decide (3 ∈ a)) (decide (4 ∈ a)) (decide (5 ∈ a))
  match p, hp with
  | 0, _ => exact this.2.1
  | 1, _ => exact this.2.2.1
  | 2, _ => exact this.2.2.2.1
  | 3, _ => exact this.2.2.2.2.1
  | 4, _ => exact this.2.2.2.2.2.1
  | 5, _ => exact this.2.2.2.2.2.2
theorem fold_and {M : Nat} : ∀ {l : List Nat} {x : Nat}, M &&& x = M → (∀ S ∈ l, M &&& S = M) → M &&& l.foldl (fun a b => a &&& b) x = M
  | [], x, h, _ => h
  | S :: l, x, h, hl => fold_and (l := l) (x := x &&& S) (by rw [← Nat.and_assoc, h, hl S (.head _)]) fun T hT => hl T (.tail _ hT)
theorem fold_le {l : List Nat} : ∀ {x : Nat}, (l.foldl (fun a b => a &&& b) x) &&& x = l.foldl (fun a b => a &&& b) x := by
  induction l with
  | nil => intro x; exact Nat.and_self x
  | cons S l ih =>
    intro x
    have h := ih (x := x &&& S)
    show (l.foldl _ (x &&& S)) &&& x = l.foldl _ (x &&& S)
    rw [← h, Nat.and_assoc]
    congr 1
    rw [Nat.and_comm (x &&& S) x, ← Nat.and_assoc, Nat.and_self]
theorem fold_mem {M : Nat} : ∀ {l : List Nat} {x : Nat}, M ∈ l → (l.foldl (fun a b => a &&& b) x) &&& M = l.foldl (fun a b => a &&& b) x
  | S :: l, x, h => by
    rcases List.mem_cons.mp h with rfl | h
    · have h := fold_le (l := l) (x := x &&& M)
      show (l.foldl _ (x &&& M)) &&& M = l.foldl _ (x &&& M)
      rw [← h, Nat.and_assoc]
      congr 1
      rw [Nat.and_assoc, Nat.and_self]
    · exact fold_mem (l := l) (x := x &&& S) h
theorem fold_eq {M : Nat} {l : List Nat} (h63 : M &&& 63 = M) (hm : M ∈ l) (hl : ∀ S ∈ l, M &&& S = M) : l.foldl (fun a b => a &&& b) 63 = M := by
  have h1 := fold_and h63 hl
  have h2 := fold_mem (x := 63) hm
  rw [← h2, Nat.and_comm]; exact h1
theorem and_of_sub {M S : Nat} (hM : M < 64) (h : ∀ p, p < 6 → M.testBit (5 - p) = true → S.testBit (5 - p) = true) : M &&& S = M := by
  apply Nat.eq_of_testBit_eq
  intro i
  rw [Nat.testBit_and]
  by_cases hi : i < 6
  · cases hb : M.testBit i with
    | false => rfl
    | true =>
      have := h (5 - i) (by omega) (by rw [show 5 - (5 - i) = i by omega]; exact hb)
      rw [show 5 - (5 - i) = i by omega] at this
      rw [this]; rfl
  · rw [Nat.testBit_lt_two_pow (Nat.lt_of_lt_of_le hM (Nat.pow_le_pow_right (by decide) (Nat.not_lt.mp hi) : 2 ^ 6 ≤ 2 ^ i)), Bool.false_and]
/-- the search came through: no full set holds the wish -/
theorem come_true {W : Nat → Nat} {t t' : Tb} {H a' : List Nat} {k : Nat} (I : Inv W t H) (hlt : ∀ e ∈ t', e.1 < 6 ∧ W e.2 < 64) (r : Res (Rof W) k t [] true t' a') :
    Inv W t' (k :: H) ∧ ∀ S, inS W S k = true → cnt W H S ≠ card S := by
  obtain ⟨n, f, _, v⟩ := r.yes rfl
  have I' : Inv W t' (k :: H) := ⟨n, v I.val, hlt, f.trans (I.files.cons k)⟩
  refine ⟨I', fun S hS e => ?_⟩
  have := hall_le I' S
  unfold cnt at this e
  rw [List.countP_cons_of_pos hS] at this
  omega
/-- the search did not come through: the asked places are the least full set with the wish in it -/
theorem come_false {W : Nat → Nat} {t t' : Tb} {H a' : List Nat} {k : Nat} (I : Inv W t H) (hk : W k < 64) (r : Res (Rof W) k t [] false t' a') (cl : ∀ q, q < 6 → Rof W k q = true → q ∈ a') :
    t' = t ∧ inS W (mask a') k = true ∧ cnt W H (mask a') = card (mask a') ∧ ∀ S, inS W S k = true → cnt W H S = card S → mask a' &&& S = mask a' := by
  obtain ⟨e, clo, mn⟩ := r.no rfl
  have hin : ∀ f, W f < 64 → (∀ q, q < 6 → Rof W f q = true → q ∈ a') → inS W (mask a') f = true := fun f hf h => (inS_iff hf).mpr fun q hq hR => by
    rw [mask_test r.nd r.lt hq]; exact decide_eq_true (h q hq hR)
  refine ⟨e, hin k hk cl, ?_, fun S hS ht => ?_⟩
  · refine Nat.le_antisymm (hall_le I _) ?_
    rw [← part_len I]
    refine sub_len (List.Nodup.sublist List.filter_sublist List.nodup_range) fun p hp => ?_
    obtain ⟨hp6, hb⟩ := mem_pls.mp hp
    rw [mask_test r.nd r.lt hp6] at hb
    rcases clo p (of_decide_eq_true hb) with h | ⟨h, hg, hcl⟩
    · cases h
    · have hm := tget_some hg
      unfold part
      exact List.mem_map.mpr ⟨(p, h), List.mem_filter.mpr ⟨hm, hin h (I.lt _ hm).2 hcl⟩, rfl⟩
  · refine and_of_sub (mask_lt r.nd r.lt) fun p hp hb => ?_
    rw [mask_test r.nd r.lt hp] at hb
    refine mn (fun q => S.testBit (5 - q) = true ∧ q < 6) ?_ ?_ (fun _ h => nomatch h) p (of_decide_eq_true hb) |>.1
    · rintro q h z ⟨hq, hq6⟩ hg hz hR
      obtain ⟨f, hf, hfS⟩ := tight_held I ht hq6 hq
      have := tget_mem I.nd hf
      rw [hg] at this
      cases this
      exact ⟨(inS_iff (I.lt _ hf).2).mp hfS z hz hR, hz⟩
    · exact fun q hq hR => ⟨(inS_iff hk).mp hS q hq hR, hq⟩
end Mine
end

section
open PySem PySem.W PyProof.Rows PySem.Calls PySem.Builtin.Str
set_option Elab.async false
set_option maxRecDepth 100000
set_option maxHeartbeats 0
namespace Mine
section
variable {g h h' : Heap} {L : Addr} {m : Str → Option Value} {W : List (Addr × Obj)}
theorem cell_set {prog : Program} {w : World} {A : Around} {E : Value → Shared → Prop} {s : Shared} {env : Env} {x : Str} {c : Addr} {oc : Obj} {v₀ : Option Value} {v : Value} {Q : Unit → Shared → Prop}
    (hk : env.scope.kind = .function) (hl : env.kindOf x = some .cell) (hc : env.cells.lookup x = some c)
    (F : Fr g L s.heap m) (N : News g L s.heap ((c, oc) :: W)) (d : oc.data = .cell v₀) (hW : ∀ p ∈ W, p.1 ≠ c)
    (h : ∀ h' o', Fr g L h' m → News g L h' ((c, o') :: W) → o'.data = .cell (some v) → Q () { s with heap := h' }) : wpAny (model prog w) A (storeName env x v) Q E s := by
  have hp := N (c, oc) (.head _)
  refine wpAny_storeName_cell hk hl hc ⟨oc, hp.1, d⟩ fun h' hv hs => ?_
  obtain ⟨o', ho', hd'⟩ := hv
  refine h h' o' (fr_but1 F hp.2.1 hp.2.2 fun b o hb e => hs.extBut b o hb e) (fun p hpm => ?_) hd'
  rcases List.mem_cons.mp hpm with rfl | hpm
  · exact ⟨ho', hp.2⟩
  · exact ⟨hs.extBut _ _ (hW p hpm) (N p (.tail _ hpm)).1, (N p (.tail _ hpm)).2⟩
theorem not_cell {c b : Addr} {oc o : Obj} {v : Option Value} (N : News g L h W) (h1 : (c, oc) ∈ W) (h2 : (b, o) ∈ W) (d : oc.data = .cell v) (hd : ∀ v, o.data ≠ .cell v) : b ≠ c := by
  rintro rfl
  have e1 := (N _ h1).1
  have e2 := (N _ h2).1
  simp only at e1 e2
  rw [e1] at e2
  cases e2
  exact hd _ d
theorem news_finds {tb td hl al : Addr} {kh : Int} {tk0 nd nl : Nat} {tbl tbl' : List Ent} {oa oa' : Obj} (F : Fr g L h m) (N : News g L h ((al, oa) :: W ++ tabW tb td hl kh tk0 nd nl tbl))
    (hW : ∀ p ∈ W, p.1 ≠ hl ∧ p.1 ≠ al) (hah : al ≠ hl) (hta : tb ≠ al ∧ td ≠ al) (h6 : ∀ e ∈ tbl, e.p < 6 ∧ e.f < 6)
    (hk : ∀ b o, b ≠ hl → b ≠ al → h.get? b = some o → h'.get? b = some o) (hal : h'.get? al = some oa') (tab : TabAt h' tb td hl tbl') (fresh : ∀ e ∈ tbl', e ∈ tbl ∨ h.get? e.a = none) :
    Fr g L h' m ∧ ∃ nl', News g L h' ((al, oa') :: W ++ tabW tb td hl kh tk0 nd nl' tbl') := by
  obtain ⟨nl', hL'⟩ := tab.list
  have NT : News g L h (tabW tb td hl kh tk0 nd nl tbl) := news_sub N fun p hp => List.mem_append_right _ hp
  obtain ⟨t0, n0⟩ := tab_of_news NT h6
  obtain ⟨a1, a2, a3⟩ := tab_apart t0
  have hA := N (al, oa) (.head _)
  have hH := NT (hl, listOf (refs tbl).toArray nl) (.tail _ (.tail _ (.head _)))
  obtain ⟨oL, _, _, hoL, _⟩ := id F.ns
  refine ⟨⟨F.ns.at' fun o e => hk _ o (Ne.symm hH.2.1) (Ne.symm hA.2.1) e, fun b o e => hk b o (fun q => ?_) (fun q => ?_) (F.keep b o e), F.above⟩, nl', fun p hp => ?_⟩
  · rw [q, hH.2.2] at e; cases e
  · rw [q, hA.2.2] at e; cases e
  rcases List.mem_append.mp hp with hp | hp
  · rcases List.mem_cons.mp hp with rfl | hp
    · exact ⟨hal, hA.2⟩
    · have hN := N p (List.mem_append_left _ (.tail _ hp))
      exact ⟨hk _ _ (hW p hp).1 (hW p hp).2 hN.1, hN.2⟩
  · rcases List.mem_cons.mp hp with rfl | hp
    · exact ⟨tab.inst, (NT (tb, _) (.head _)).2⟩
    rcases List.mem_cons.mp hp with rfl | hp
    · have hD := NT (td, _) (.tail _ (.head _))
      exact ⟨hk _ _ a2 hta.2 hD.1, hD.2⟩
    rcases List.mem_cons.mp hp with rfl | hp
    · exact ⟨hL', hH.2⟩
    obtain ⟨e, he, rfl⟩ := List.mem_map.mp hp
    rcases fresh e he with h1 | h1
    · exact ⟨(tab.ents e he).1, (NT _ (.tail _ (.tail _ (.tail _ (ents_mem h1))))).2⟩
    · refine ⟨(tab.ents e he).1, ?_, ?_⟩
      · rintro q; rw [show L = e.a from q.symm] at hoL; rw [h1] at hoL; cases hoL
      · cases q : g.get? e.a with
        | none => rfl
        | some o => have := F.keep _ _ q; rw [h1] at this; cases this
end
end Mine
end

section
open PySem PySem.W PyProof.Rows PySem.Calls PySem.Builtin.Str
set_option Elab.async false
set_option maxRecDepth 100000
set_option maxHeartbeats 0
namespace Mine
def code (s : Str) : Nat := s.cps.toList.headD 97 - 97
theorem code_lt : ∀ f, f < 6 → code (lt f) = f := six (by decide +kernel) (by decide +kernel) (by decide +kernel) (by decide +kernel) (by decide +kernel) (by decide +kernel)
theorem lt_cps (f : Nat) (hf : f < 6) : (lt f).cps.toList = [97 + f] := by rw [(lt_is f hf).2]
theorem le_of_lt {a b : Nat} (ha : a < 6) (hb : b < 6) (h : PySem.Spec.ltCps (lt b).cps.toList (lt a).cps.toList = false) : a ≤ b := by
  rw [lt_cps a ha, lt_cps b hb] at h
  simp [PySem.Spec.ltCps] at h
  omega
theorem rising : ∀ (r : List Str) (a : Nat), a < 6 → (∀ s ∈ r, ∃ f, f < 6 ∧ s = lt f) → risingS (lt a) r = true → ((lt a :: r).map code).Pairwise (· ≤ ·)
  | [], a, _, _, _ => by simp
  | x :: r, a, ha, hr, h => by
    obtain ⟨b, hb, rfl⟩ := hr x (.head _)
    rw [risingS] at h
    simp only [Bool.and_eq_true, Bool.not_eq_true'] at h
    have hab := le_of_lt ha hb (by simpa using h.1)
    have ih := rising r b hb (fun s hs => hr s (.tail _ hs)) h.2
    rw [List.map_cons, List.pairwise_cons]
    refine ⟨fun c hc => ?_, ih⟩
    rw [List.map_cons, List.pairwise_cons] at ih
    rw [code_lt a ha]
    rcases List.mem_cons.mp hc with rfl | hc
    · rw [code_lt b hb]; exact hab
    · have := ih.1 c hc
      rw [code_lt b hb] at this
      exact Nat.le_trans hab this
theorem sorted_letters {ss' : List Str} {fs H : List Nat} (hp : ss'.Perm (fs.map lt)) (hfs : fs.Perm H) (h6 : ∀ f ∈ H, f < 6) (hH : H.Pairwise (· ≤ ·)) (hs : sortedS ss' = true) : ss' = H.map lt := by
  have hall : ∀ s ∈ ss', ∃ f, f < 6 ∧ s = lt f := fun s h => by
    obtain ⟨f, hf, rfl⟩ := List.mem_map.mp (hp.mem_iff.mp h)
    exact ⟨f, h6 f (hfs.mem_iff.mp hf), rfl⟩
  have hpw : (ss'.map code).Pairwise (· ≤ ·) := by
    cases ss' with
    | nil => simp
    | cons x r =>
      obtain ⟨a, ha, rfl⟩ := hall x (.head _)
      exact rising r a ha (fun s hs => hall s (.tail _ hs)) hs
  have hcode : (ss'.map code).Perm H := by
    refine (hp.map code).trans ?_
    rw [List.map_map]
    have : fs.map (code ∘ lt) = fs := by
      have := List.map_congr_left (f := code ∘ lt) (g := id) (l := fs) fun f hf => code_lt f (h6 f (hfs.mem_iff.mp hf))
      rw [this]; simp
    rw [this]; exact hfs
  have e := hcode.eq_of_pairwise (fun a b _ _ h1 h2 => Nat.le_antisymm h1 h2) hpw hH
  rw [← e, List.map_map]
  have : ss'.map (lt ∘ code) = ss' := by
    have := List.map_congr_left (f := lt ∘ code) (g := id) (l := ss') fun s hs => by
      obtain ⟨f, hf, rfl⟩ := hall s hs
      show lt (code (lt f)) = lt f
      rw [code_lt f hf]
    rw [this]; simp
  exact this.symm
end Mine
end

section
theorem Mine.reset12 : True := by
  w_top off
  exact True.intro
open PySem PySem.W PyProof.Rows PySem.Calls PySem.Builtin.Str
set_option Elab.async false
set_option maxRecDepth 100000
set_option maxHeartbeats 0
namespace Mine
/-- the ledger of the main loop -/
abbrev led12 (L : Addr) (o1 o2 o3 o4 : Obj) (wl : Addr) (wV : List Value) (nw : Nat) (rl : Addr) (rowsV : List Value) (nr : Nat) (nl : Addr) (namesV : List Value) (nn : Nat) (rm : Addr) (roomV : List Value) (nrm : Nat) (hol : Addr) (holV : List Value) (nh : Nat) (tl : List (Addr × Obj)) : List (Addr × Obj) :=
  (L + 1, o1) :: (L + 2, o2) :: (L + 3, o3) :: (L + 4, o4) :: (wl, listOf wV.toArray nw) :: (rl, listOf rowsV.toArray nr) :: (nl, listOf namesV.toArray nn) :: (rm, listOf roomV.toArray nrm) :: (hol, listOf holV.toArray nh) :: tl
structure Sep (hl hol wl rl nl rm : Addr) : Prop where
  h1 : hl ≠ wl
  h2 : hl ≠ rl
  h3 : hl ≠ nl
  h4 : hl ≠ rm
  h5 : hl ≠ hol
  h6 : hol ≠ wl
  h7 : hol ≠ rl
  h8 : hol ≠ nl
  h9 : hol ≠ rm
structure J12 (W : List Nat) (i : Nat) (tbl : List Ent) (H : List Nat) (roomV holV : List Value) : Prop where
  inv : Inv (fun k => W.getD k 0) (pf tbl) H
  ent : ∀ e ∈ tbl, e.p < 6 ∧ e.f < 6
  flt : ∀ f ∈ H, f < i
  srt : H.Pairwise (· ≤ ·)
  len : H.length ≤ i
  room : IntsAre roomV ((List.range 64).map fun S => ((card S : Int) - (cnt (fun k => W.getD k 0) H S : Int)))
  hol : StrsAre holV (H.map lt)
theorem ints_get {vs : List Value} {xs : List Int} (h : IntsAre vs xs) {j : Nat} {x : Int} (hx : xs[j]? = some x) : ∃ t, vs[j]? = some (.int x t) := by
  have hl := h.length
  have hj := (List.getElem?_eq_some_iff.mp hx).1
  obtain ⟨y, t, e, hy⟩ := h.at j _ (List.getElem?_eq_getElem (by omega))
  rw [hx] at hy
  cases hy
  exact ⟨t, by rw [List.getElem?_eq_getElem (by omega), e]⟩
theorem cast_mask (a : List Nat) : (a.map fun p => ((2 ^ (5 - p) : Nat) : Int)).sum = ((mask a : Nat) : Int) := by
  unfold mask
  induction a with
  | nil => rfl
  | cons x a ih => rw [List.map_cons, List.map_cons, List.sum_cons, List.sum_cons, ih]; push_cast; rfl
theorem strs_snoc {vs : List Value} {ns : List Str} {x : Str} {t : Tok} (h : StrsAre vs ns) : StrsAre (vs ++ [.str x t]) (ns ++ [x]) := by
  induction h with
  | nil => exact .cons x t .nil
  | cons n u _ ih => exact .cons n u ih
theorem item_lt : ∀ n, n < 6 → Txt.item (Str.ofString "abcdef") ((n : Nat) : Int) = lt n := six (by decide +kernel) (by decide +kernel) (by decide +kernel) (by decide +kernel) (by decide +kernel) (by decide +kernel)
theorem seg12 {loose : List Str} {mean : ExcName → Option Value} {mg mb : Str → Option Value} {g : Heap} {w : World} {s : Shared} {Q : Value → Shared → Prop} {E : Value → Shared → Prop} {L : Addr} {body : List Stmt} {env : Env} {m : Str → Option Value}
    {tb td hl nl wl rl rm hol : Addr} {namesV wV rowsV roomV holV : List Value} {W : List Nat} {nn nw nr nrm nh : Nat} {kh : Int} {tk0 nd nl' : Nat} {o1 o2 o3 o4 : Obj} {v4 : Option Value}
    (X : (hd.heap_39 w.params).In g) (T : Top hd.view_39 loose mean mg mb g) (hb : LawAt w.params L body env)
    (F : Fr g L s.heap m) (N : News g L s.heap (led12 L o1 o2 o3 o4 wl wV nw rl rowsV nr nl namesV nn rm roomV nrm hol holV nh (tabW tb td hl kh tk0 nd nl' [])))
    (d1 : o1.data = .cell (some (.ref wl))) (d2 : o2.data = .cell (some (.ref rm))) (d3 : o3.data = .cell (some (.ref tb))) (d4 : o4.data = .cell v4)
    (hm : m (Str.ofString "names") = some (.ref nl)) (hm2 : m (Str.ofString "rows") = some (.ref rl)) (hm3 : m (Str.ofString "holders") = some (.ref hol)) (hN : NamesAre namesV) (hW : IntsAre wV (W.map Int.ofNat)) (hWl : W.length = 6) (hW64 : ∀ x ∈ W, x < 64)
    (HR : RowsAt (Rof fun k => W.getD k 0) rowsV namesV) (sep : Sep hl hol wl rl nl rm) (J0 : J12 W 0 [] [] roomV holV)
    (hret : ∀ h' tk' m', Fr g L h' m' → Q (.bool true) { s with heap := h', toks := tk' }) :
    wpAny (model PySem.Challenge.rw_pe0235_01.row.prog w) (callerA.deeper env) (execs (body.drop 12) env) (RetOf Q) E s := by
  revert X
  k_fill
  intro X
  have hb₀ := hb
  obtain ⟨rfl, rfl⟩ := hb.eq (by k_is)
  have hh : callerA.handled = none := rfl
  clear hb
  obtain ⟨u, rfl⟩ := ex_map3 hm hm2 hm3
  dsimp only [List.drop]
  iterate 1 walk1
  refine wpAny_For ?_
  iterate 6 walk1
  refine range1_rows F N ?_
  intro h₁ tk₁ t₁ u₁ v₁ hrg F₁ N₁ _
  dsimp only
  refine for_range (n := 6) (fun i m₁ news₁ => ∃ (tbl : List Ent) (H : List Nat) (roomV holV : List Value) (o2 o4 : Obj) (v4 : Option Value) (rm : Addr) (nrm nh nlc : Nat),
      (∃ u : Str → Option Value, m₁ = fun z => if z = Str.ofString "names" then some (.ref nl) else if z = Str.ofString "rows" then some (.ref rl) else if z = Str.ofString "holders" then some (.ref hol) else u z) ∧
      news₁ = led12 L o1 o2 o3 o4 wl wV nw rl rowsV nr nl namesV nn rm roomV nrm hol holV nh (tabW tb td hl kh tk0 nd nlc tbl) ∧ o2.data = .cell (some (.ref rm)) ∧ o4.data = .cell v4 ∧ Sep hl hol wl rl nl rm ∧ J12 W i tbl H roomV holV)
    hh F₁ (news_sub N₁ fun p hp => hp) hrg (by decide) (by decide) ?_ ?_ ?_
  · exact ⟨[], [], roomV, holV, o2, o4, v4, rm, nrm, nh, nl', ⟨_, rfl⟩, rfl, d2, d4, sep, J0⟩
  · rintro i tv m₁ news₁ h tk own hi ⟨tbl, H, roomV, holV, o2, o4, v4, rm, nrm, nh, nlc, ⟨u, rfl⟩, rfl, d2, d4, sep, J⟩ F₂ N₂ hown
    clear F₁ N₁ F N
    have ne4 : ∀ p ∈ own :: (L + 1, o1) :: (L + 2, o2) :: (L + 3, o3) :: (wl, listOf wV.toArray nw) :: (rl, listOf rowsV.toArray nr) :: (nl, listOf namesV.toArray nn) :: (rm, listOf roomV.toArray nrm) :: (hol, listOf holV.toArray nh) :: tabW tb td hl kh tk0 nd nlc tbl, p.1 ≠ L + 4 := by
      have M4 : (L + 4, o4) ∈ own :: led12 L o1 o2 o3 o4 wl wV nw rl rowsV nr nl namesV nn rm roomV nrm hol holV nh (tabW tb td hl kh tk0 nd nlc tbl) := by k_mem
      intro p hp
      rcases List.mem_cons.mp hp with rfl | hp
      · exact (hown (L + 4, o4) (by k_mem)).symm
      rcases List.mem_cons.mp hp with rfl | hp
      · exact fun e => absurd (Nat.add_left_cancel e) (by decide)
      rcases List.mem_cons.mp hp with rfl | hp
      · exact fun e => absurd (Nat.add_left_cancel e) (by decide)
      rcases List.mem_cons.mp hp with rfl | hp
      · exact fun e => absurd (Nat.add_left_cancel e) (by decide)
      have hp' : p ∈ own :: led12 L o1 o2 o3 o4 wl wV nw rl rowsV nr nl namesV nn rm roomV nrm hol holV nh (tabW tb td hl kh tk0 nd nlc tbl) := .tail _ (.tail _ (.tail _ (.tail _ (.tail _ hp))))
      refine not_cell (o := p.2) N₂ M4 hp' d4 ?_
      simp only [tabW, ents, List.mem_cons, List.mem_map] at hp
      rcases hp with rfl | rfl | rfl | rfl | rfl | rfl | rfl | rfl | ⟨e, _, rfl⟩ <;> exact fun v => nofun
    refine wpAny_assign_Name (cell_set (c := L + 4) (oc := o4) rfl rfl rfl F₂ (W := own :: (L + 1, o1) :: (L + 2, o2) :: (L + 3, o3) :: (wl, listOf wV.toArray nw) :: (rl, listOf rowsV.toArray nr) :: (nl, listOf namesV.toArray nn) :: (rm, listOf roomV.toArray nrm) :: (hol, listOf holV.toArray nh) :: tabW tb td hl kh tk0 nd nlc tbl) (news_sub N₂ fun p hp => ?_) d4 ne4 fun h₃ o4' F₃ N₃ d4' => ?_)
    · rcases List.mem_cons.mp hp with rfl | hp
      · k_mem
      rcases List.mem_cons.mp hp with rfl | hp
      · k_mem
      rcases List.mem_cons.mp hp with rfl | hp
      · k_mem
      rcases List.mem_cons.mp hp with rfl | hp
      · k_mem
      rcases List.mem_cons.mp hp with rfl | hp
      · k_mem
      exact .tail _ (.tail _ (.tail _ (.tail _ (.tail _ hp))))
    clear F₂ N₂
    rw [Int.zero_add] at d4'
    iterate 25 walk1
    (rename Fr _ _ _ _ => F₄); (rename News _ _ _ _ => N₄)
    rename_i al _ _ _ l1 _
    have tnd : (tbl.map (·.p)).Nodup := by have := J.inv.nd; unfold Nd pf at this; rwa [List.map_map] at this
    obtain ⟨tab, new⟩ := tab_of_news (news_sub N₄ (fun p hp => .tail _ (.tail _ (.tail _ (.tail _ (.tail _ (.tail _ (.tail _ (.tail _ (.tail _ (.tail _ (.tail _ hp)))))))))))) J.ent
    refine finds_spec HR 7 (asked := []) (asv := []) (na := 0) (nr := nr) (nm' := nn) X T F₄.keep (by k_room) rfl tab new tnd hi (by simp) (by simp) (by decide) (N₄ (al, _) (by k_mem)).1 (N₄ (al, listOf #[] 0) (by k_mem)).2.2 .nil (N₄ (rl, _) (by k_mem)).1 (N₄ (rl, listOf rowsV.toArray nr) (by k_mem)).2.2 (N₄ (nl, _) (by k_mem)).1 (N₄ (nl, listOf namesV.toArray nn) (by k_mem)).2.2 ?_ ?_
    · have a1 := allLt_mem (d := al) (l := (L + 4, o4') :: own :: (L + 1, o1) :: (L + 2, o2) :: (L + 3, o3) :: (wl, listOf wV.toArray nw) :: (rl, listOf rowsV.toArray nr) :: (nl, listOf namesV.toArray nn) :: (rm, listOf roomV.toArray nrm) :: (hol, listOf holV.toArray nh) :: tabW tb td hl kh tk0 nd nlc tbl) l1
      exact ⟨(Nat.ne_of_lt (a1 (rl, _) (by k_mem))).symm, (Nat.ne_of_lt (a1 (nl, _) (by k_mem))).symm, (Nat.ne_of_lt (a1 (hl, _) (by k_mem))).symm, sep.h2, sep.h3⟩
    intro h₅ tk₅ b tbl₅ asv₅ asked₅ na₅ hk₅ hfr₅ tab₅ hnd₅ has₅ hal₅ hle₅ hl₅ hasv₅ hfin
    have a1 := allLt_mem (d := al) (l := (L + 4, o4') :: own :: (L + 1, o1) :: (L + 2, o2) :: (L + 3, o3) :: (wl, listOf wV.toArray nw) :: (rl, listOf rowsV.toArray nr) :: (nl, listOf namesV.toArray nn) :: (rm, listOf roomV.toArray nrm) :: (hol, listOf holV.toArray nh) :: tabW tb td hl kh tk0 nd nlc tbl) l1
    obtain ⟨F₅, nl₅, N₅⟩ := news_finds (W := (L + 4, o4') :: own :: (L + 1, o1) :: (L + 2, o2) :: (L + 3, o3) :: (wl, listOf wV.toArray nw) :: (rl, listOf rowsV.toArray nr) :: (nl, listOf namesV.toArray nn) :: (rm, listOf roomV.toArray nrm) :: (hol, listOf holV.toArray nh) :: []) F₄ N₄ (fun p hp => by
      have hlne : p.1 ≠ al := Nat.ne_of_lt (a1 p (by
        simp only [List.mem_cons, List.not_mem_nil, or_false] at hp
        rcases hp with rfl | rfl | rfl | rfl | rfl | rfl | rfl | rfl | rfl | rfl <;> k_mem))
      refine ⟨?_, hlne⟩
      have MH : (hl, listOf (refs tbl).toArray nlc) ∈ (al, listOf #[] 0) :: (L + 4, o4') :: own :: (L + 1, o1) :: (L + 2, o2) :: (L + 3, o3) :: (wl, listOf wV.toArray nw) :: (rl, listOf rowsV.toArray nr) :: (nl, listOf namesV.toArray nn) :: (rm, listOf roomV.toArray nrm) :: (hol, listOf holV.toArray nh) :: tabW tb td hl kh tk0 nd nlc tbl := by k_mem
      simp only [List.mem_cons, List.not_mem_nil, or_false] at hp
      rcases hp with rfl | rfl | rfl | rfl | rfl | rfl | rfl | rfl | rfl | rfl
      · exact (not_cell (o := listOf (refs tbl).toArray nlc) N₄ (by k_mem) MH d4' (fun v => nofun)).symm
      · exact (hown (hl, listOf (refs tbl).toArray nlc) (by k_mem)).symm
      · exact (not_cell (o := listOf (refs tbl).toArray nlc) N₄ (by k_mem) MH d1 (fun v => nofun)).symm
      · exact (not_cell (o := listOf (refs tbl).toArray nlc) N₄ (by k_mem) MH d2 (fun v => nofun)).symm
      · exact (not_cell (o := listOf (refs tbl).toArray nlc) N₄ (by k_mem) MH d3 (fun v => nofun)).symm
      · exact sep.h1.symm
      · exact sep.h2.symm
      · exact sep.h3.symm
      · exact sep.h4.symm
      · exact sep.h5.symm) (Nat.ne_of_lt (a1 (hl, _) (by k_mem))).symm ⟨Nat.ne_of_lt (a1 (tb, _) (by k_mem)), Nat.ne_of_lt (a1 (td, _) (by k_mem))⟩ J.ent hk₅ hl₅ tab₅ hfr₅
    have ent₅ : ∀ e ∈ tbl₅, e.p < 6 ∧ e.f < 6 := fun e he => (tab₅.ents e he).2
    have hWi : ∀ k, W.getD k 0 < 64 := fun k => by
      rw [List.getD_eq_getElem?_getD]
      cases q : W[k]? with
      | none => decide
      | some x => exact hW64 x (List.mem_of_getElem? q)
    obtain ⟨r, cl⟩ := finds_ok (Rof fun k => W.getD k 0) 7 i (pf tbl) [] b (pf tbl₅) asked₅ J.inv.nd (by simp) (by simp) (by decide) hfin
    have hown₅ : ∀ e ∈ tbl₅, e.a ≠ own.1 := fun e he => by
      rcases hfr₅ e he with h1 | h1
      · exact hown (e.a, e.obj) (by simp [tabW, ents_mem h1])
      · intro q
        have z := (N₄ own (by k_mem)).1
        rw [← q] at z
        exact nomatch (h1.symm.trans z)
    clear tab new F₄ N₄
    simp only [List.cons_append, List.nil_append] at N₅
    iterate 3 walk1
    (rename Fr _ _ _ _ => F₆); (rename News _ _ _ _ => N₆)
    refine' LCt.Assign_ListComp_T F₆ rfl ?sw (by with_unfolding_all rfl) (by decide) rfl (by decide) rfl rfl rfl ?_
    case sw => with_unfolding_all rfl
    iterate 6 walk1
    refine range1_rows F₆ N₆ ?_
    intro h₇ tk₇ t₇ u₇ v₇ hrg₇ F₇ N₇ _
    refine LCt.CompSrcT.range (n := 64) hh F₇ N₇ hrg₇ (by decide) (by decide) (by decide) ?_
    intro g'
    refine rest_T (fun n ys => IntsAre ys (((List.range n).filter fun S => decide (((card S : Int) - (cnt (fun k => W.getD k 0) H S : Int)) = 0) && inS (fun k => W.getD k 0) S i).map Int.ofNat)) trivial ?_ ?_ ?_
    · rintro n v ys I oI C oC D m₂ h tk E' hn hJ ⟨tv', rfl⟩ hC hm F₈ N₈ off ne
      rw [Int.zero_add] at hm
      iterate 5 walk1
      obtain ⟨tr, hrn⟩ := ints_get J.room (j := n) (x := (card n : Int) - (cnt (fun k => W.getD k 0) H n : Int)) (by rw [List.getElem?_map, List.getElem?_range hn]; rfl)
      refine item_at N₈ (l := rm) (vs := roomV) (nn := nrm) (by k_mem) hrn (by omega) ?_ (fun _ _ => by with_unfolding_all rfl)
      obtain ⟨tw, hwi⟩ := ints_get hW (j := i) (x := ((W.getD i 0 : Nat) : Int)) (by rw [List.getElem?_map, List.getElem?_eq_getElem (by omega), List.getD_eq_getElem?_getD, List.getElem?_eq_getElem (by omega)]; rfl)
      iterate 4 walk1
      · iterate 6 walk1
        refine item_at N₈ (l := wl) (vs := wV) (nn := nw) (by k_mem) hwi (by omega) ?_ (fun _ _ => by with_unfolding_all rfl)
        iterate 1 walk1
        refine or_nat (b := n) ?_
        have hz : ((card n : Int) - (cnt (fun k => W.getD k 0) H n : Int)) = 0 := by assumption
        iterate 4 walk1
        · have he : ((W.getD i 0 ||| n : Nat) : Int) = (n : Int) := by assumption
          iterate 3 walk1
          refine EndK.intro F₈ N₈ (fun p hp => hp) ?_
          have hin : inS (fun k => W.getD k 0) n i = true := by unfold inS; rw [beq_iff_eq]; exact Int.ofNat_inj.mp he
          rw [List.range_succ, List.filter_append, List.filter_cons_of_pos (by rw [hin, Bool.and_true]; exact decide_eq_true hz), List.filter_nil, List.map_append]
          exact ints_snoc hJ
        · have he : ((W.getD i 0 ||| n : Nat) : Int) ≠ (n : Int) := by assumption
          refine EndK.intro F₈ N₈ (fun p hp => hp) ?_
          have hin : inS (fun k => W.getD k 0) n i = false := by unfold inS; rw [beq_eq_false_iff_ne]; exact fun q => he (congrArg Int.ofNat q)
          rw [List.range_succ, List.filter_append, List.filter_cons_of_neg (by rw [hin, Bool.and_false]; exact Bool.false_ne_true), List.filter_nil, List.append_nil]
          exact hJ
      · have hz : ((card n : Int) - (cnt (fun k => W.getD k 0) H n : Int)) ≠ 0 := by assumption
        iterate 1 walk1
        refine EndK.intro F₈ N₈ (fun p hp => hp) ?_
        rw [List.range_succ, List.filter_append, List.filter_cons_of_neg (by rw [decide_eq_false hz, Bool.false_and]; exact Bool.false_ne_true), List.filter_nil, List.append_nil]
        exact hJ
    · rintro ys hys D₈ h₈ tk₈ F₈ N₈ off₈
      clear F₇ N₇ F₆ N₆
      cases b with
      | true =>
        obtain ⟨I', hno⟩ := come_true J.inv (fun e he => by
          unfold pf at he
          obtain ⟨e', he', rfl⟩ := List.mem_map.mp he
          exact ⟨(ent₅ e' he').1, hWi _⟩) r
        have hfull : ((List.range 64).filter fun S => decide (((card S : Int) - (cnt (fun k => W.getD k 0) H S : Int)) = 0) && inS (fun k => W.getD k 0) S i) = [] := by
          rw [List.filter_eq_nil_iff]
          intro S _ hS
          obtain ⟨h1, h2⟩ := Bool.and_eq_true_iff.mp hS
          have h3 := of_decide_eq_true h1
          exact hno S h2 (by omega)
        rw [hfull] at hys
        iterate 9 walk1
        (rename Fr _ _ _ _ => F₉); (rename News _ _ _ _ => N₉)
        refine ke_eq_ints (ns := []) (ms := []) (xs := ys) (ys := []) (by exact ⟨_, (N₉ (D₈, LCg.lst ys) (by k_mem)).1, rfl, _, rfl⟩) (by exact ⟨_, (N₉ _ (.head _)).1, rfl, _, rfl⟩) hys .nil (by ke_room) ?_
        rw [decide_eq_true rfl]
        iterate 18 walk1
        iterate 4 walk1
        rw [item_lt i hi]
        iterate 1 walk1
        have MO : (hol, listOf holV.toArray nh) ∈ (L + 4, o4') :: own :: (L + 1, o1) :: (L + 2, o2) :: (L + 3, o3) :: (wl, listOf wV.toArray nw) :: (rl, listOf rowsV.toArray nr) :: (nl, listOf namesV.toArray nn) :: (rm, listOf roomV.toArray nrm) :: (hol, listOf holV.toArray nh) :: tabW tb td hl kh tk0 nd nl₅ tbl₅ := by k_mem
        have N₁₀ := news_sub N₉ (news' := (L + 4, o4') :: own :: (L + 1, o1) :: (L + 2, o2) :: (L + 3, o3) :: (wl, listOf wV.toArray nw) :: (rl, listOf rowsV.toArray nr) :: (nl, listOf namesV.toArray nn) :: (rm, listOf roomV.toArray nrm) :: (hol, listOf holV.toArray nh) :: tabW tb td hl kh tk0 nd nl₅ tbl₅) fun p hp => .tail _ (.tail _ (.tail _ hp))
        have neH : ∀ p ∈ (L + 4, o4') :: own :: (L + 1, o1) :: (L + 2, o2) :: (L + 3, o3) :: (wl, listOf wV.toArray nw) :: (rl, listOf rowsV.toArray nr) :: (nl, listOf namesV.toArray nn) :: (rm, listOf roomV.toArray nrm) :: tabW tb td hl kh tk0 nd nl₅ tbl₅, p.1 ≠ hol := by
          intro p hp
          simp only [tabW, ents, List.mem_cons, List.mem_map] at hp
          rcases hp with rfl | rfl | rfl | rfl | rfl | rfl | rfl | rfl | rfl | rfl | rfl | rfl | ⟨e, he, rfl⟩
          · exact (not_cell (o := listOf holV.toArray nh) N₁₀ (by k_mem) MO d4' (fun v => nofun)).symm
          · exact (hown (hol, listOf holV.toArray nh) (by k_mem)).symm
          · exact (not_cell (o := listOf holV.toArray nh) N₁₀ (by k_mem) MO d1 (fun v => nofun)).symm
          · exact (not_cell (o := listOf holV.toArray nh) N₁₀ (by k_mem) MO d2 (fun v => nofun)).symm
          · exact (not_cell (o := listOf holV.toArray nh) N₁₀ (by k_mem) MO d3 (fun v => nofun)).symm
          · exact sep.h6.symm
          · exact sep.h7.symm
          · exact sep.h8.symm
          · exact sep.h9.symm
          · exact obj_ne (N₁₀ (tb, instObj 218 td) (by k_mem)).1 (N₁₀ _ MO).1 (by simp)
          · exact obj_ne (N₁₀ (td, dictOf _ nd) (by k_mem)).1 (N₁₀ _ MO).1 (by simp)
          · exact sep.h5
          · exact obj_ne (N₁₀ (e.a, e.obj) (by simp [tabW, ents_mem he])).1 (N₁₀ _ MO).1 (by simp)
        refine app_at F₉ (np := nh) (xs := holV) (W := (L + 4, o4') :: own :: (L + 1, o1) :: (L + 2, o2) :: (L + 3, o3) :: (wl, listOf wV.toArray nw) :: (rl, listOf rowsV.toArray nr) :: (nl, listOf namesV.toArray nn) :: (rm, listOf roomV.toArray nrm) :: tabW tb td hl kh tk0 nd nl₅ tbl₅) (news_sub N₁₀ fun p hp => ?_) neH ?_ fun h₁₁ nh₁₁ F₁₁ N₁₁ => ?_
        · simp only [List.mem_cons] at hp ⊢
          rcases hp with h | h | h | h | h | h | h | h | h | h | h <;> simp [h]
        · have := J.hol.length
          have := J.len
          simp at *
          omega
        clear N₁₀ F₉ N₉
        generalize tk + 1 = tk11 at *
        dsimp only
        iterate 2 walk1
        refine wpAny_Assign_Name ?_ (by with_unfolding_all rfl)
        refine' LCg.ListComp_U F₁₁ (by with_unfolding_all rfl) (by decide) rfl (by decide) rfl ?_ (fun _ => rfl)
        iterate 6 walk1
        refine range1_rows F₁₁ N₁₁ ?_
        intro h₁₂ tk₁₂ t₁₂ u₁₂ v₁₂ hrg₁₂ F₁₂ N₁₂ _
        refine LCg.CompSrc.range (n := 64) hh F₁₂ N₁₂ hrg₁₂ (by decide) (by decide) (by decide) ?_
        intro g''
        refine rest_U (fun n ys => IntsAre ys ((List.range n).map fun S => ((card S : Int) - (cnt (fun k => W.getD k 0) (H ++ [i]) S : Int)))) trivial ?_ ?_ .nil
        · rintro n v ys I oI C oC D m₂ h tk E' hn hJ ⟨tv', rfl⟩ hC hm F₁₃ N₁₃ off ne
          rw [Int.zero_add] at hm
          obtain ⟨tr, hrn⟩ := ints_get J.room (j := n) (x := (card n : Int) - (cnt (fun k => W.getD k 0) H n : Int)) (by rw [List.getElem?_map, List.getElem?_range hn]; rfl)
          obtain ⟨tw, hwi⟩ := ints_get hW (j := i) (x := ((W.getD i 0 : Nat) : Int)) (by rw [List.getElem?_map, List.getElem?_eq_getElem (by omega), List.getD_eq_getElem?_getD, List.getElem?_eq_getElem (by omega)]; rfl)
          have hcn : cnt (fun k => W.getD k 0) (H ++ [i]) n = cnt (fun k => W.getD k 0) H n + if inS (fun k => W.getD k 0) n i then 1 else 0 := by
            unfold cnt
            rw [List.countP_append, List.countP_singleton]
          iterate 6 walk1
          refine item_at N₁₃ (l := wl) (vs := wV) (nn := nw) (by k_mem) hwi (by omega) ?_ (fun _ _ => by with_unfolding_all rfl)
          iterate 1 walk1
          refine or_nat (b := n) ?_
          iterate 4 walk1
          · have he : ((W.getD i 0 ||| n : Nat) : Int) = (n : Int) := by assumption
            have hin : inS (fun k => W.getD k 0) n i = true := by unfold inS; rw [beq_iff_eq]; exact Int.ofNat_inj.mp he
            iterate 4 walk1
            refine item_at N₁₃ (l := rm) (vs := roomV) (nn := nrm) (by k_mem) hrn (by omega) ?_ (fun _ _ => by with_unfolding_all rfl)
            iterate 2 walk1
            refine EndK.intro F₁₃ N₁₃ (fun p hp => hp) ?_
            rw [List.range_succ, List.map_append, List.map_singleton, hcn, hin, if_pos rfl, show (card n : Int) - ((cnt (fun k => W.getD k 0) H n + 1 : Nat) : Int) = (card n : Int) - (cnt (fun k => W.getD k 0) H n : Int) - 1 by omega]
            exact ints_snoc hJ
          · have he : ((W.getD i 0 ||| n : Nat) : Int) ≠ (n : Int) := by assumption
            have hin : inS (fun k => W.getD k 0) n i = false := by unfold inS; rw [beq_eq_false_iff_ne]; exact fun q => he (congrArg Int.ofNat q)
            iterate 3 walk1
            refine item_at N₁₃ (l := rm) (vs := roomV) (nn := nrm) (by k_mem) hrn (by omega) ?_ (fun _ _ => by with_unfolding_all rfl)
            refine EndK.intro F₁₃ N₁₃ (fun p hp => hp) ?_
            rw [List.range_succ, List.map_append, List.map_singleton, hcn, hin, if_neg Bool.false_ne_true, Nat.add_zero]
            exact ints_snoc hJ
        rintro ys₂ hys₂ D₁₄ h₁₄ tk₁₄ F₁₄ N₁₄ off₁₄
        clear F₁₂ N₁₂ F₁₁ N₁₁
        have offm := off1_mem off₁₄
        have N₁₅ : News g L h₁₄ ((L + 2, o2) :: (hol, listOf (holV ++ [Value.str (lt i) (tk11)]).toArray nh₁₁) :: (L + 4, o4') :: own :: (L + 1, o1) :: (L + 3, o3) :: (wl, listOf wV.toArray nw) :: (rl, listOf rowsV.toArray nr) :: (nl, listOf namesV.toArray nn) :: (D₁₄, LCg.lst ys₂) :: tabW tb td hl kh tk0 nd nl₅ tbl₅) := news_sub N₁₄ fun p hp => by
          simp only [List.mem_cons] at hp ⊢
          rcases hp with h | h | h | h | h | h | h | h | h | h | h <;> simp [h]
        have ne2 : ∀ p ∈ (hol, listOf (holV ++ [Value.str (lt i) (tk11)]).toArray nh₁₁) :: (L + 4, o4') :: own :: (L + 1, o1) :: (L + 3, o3) :: (wl, listOf wV.toArray nw) :: (rl, listOf rowsV.toArray nr) :: (nl, listOf namesV.toArray nn) :: (D₁₄, LCg.lst ys₂) :: tabW tb td hl kh tk0 nd nl₅ tbl₅, p.1 ≠ L + 2 := by
          have M2 : (L + 2, o2) ∈ (L + 2, o2) :: (hol, listOf (holV ++ [Value.str (lt i) (tk11)]).toArray nh₁₁) :: (L + 4, o4') :: own :: (L + 1, o1) :: (L + 3, o3) :: (wl, listOf wV.toArray nw) :: (rl, listOf rowsV.toArray nr) :: (nl, listOf namesV.toArray nn) :: (D₁₄, LCg.lst ys₂) :: tabW tb td hl kh tk0 nd nl₅ tbl₅ := .head _
          intro p hp
          have hp' := List.mem_cons_of_mem (L + 2, o2) hp
          simp only [tabW, ents, List.mem_cons, List.mem_map] at hp
          rcases hp with rfl | rfl | rfl | rfl | rfl | rfl | rfl | rfl | rfl | rfl | rfl | rfl | ⟨e, _, rfl⟩
          · exact not_cell N₁₅ M2 hp' d2 fun v => nofun
          · exact fun e => absurd (Nat.add_left_cancel e) (by decide)
          · exact (hown (L + 2, o2) (by k_mem)).symm
          · exact fun e => absurd (Nat.add_left_cancel e) (by decide)
          · exact fun e => absurd (Nat.add_left_cancel e) (by decide)
          all_goals exact not_cell N₁₅ M2 hp' d2 fun v => nofun
        refine cell_set (c := L + 2) (oc := o2) rfl rfl rfl F₁₄ N₁₅ d2 ne2 fun h₁₆ o2' F₁₆ N₁₆ d2' => ?_
        clear N₁₅ N₁₄ F₁₄
        iterate 2 walk1
        dsimp only
        iterate 11 walk1
        obtain ⟨tab, new⟩ := tab_of_news (tb := tb) (td := td) (hl := hl) (kh := kh) (tk0 := tk0) (nd := nd) (nl := nl₅) (tbl := tbl₅) (news_sub N₁₆ (fun p hp => by
          simp only [List.mem_cons] at hp ⊢
          rcases hp with h | h | h | h <;> simp [h])) ent₅
        have len₅ : tbl₅.length ≤ 6 := map_p_len hnd₅ ent₅
        refine vals_spec X T F₁₆.keep (by k_room) rfl tab new len₅ ?_
        intro h₁₇ tk₁₇ vl nv hk₁₇ hD₁₇ hl₁₇
        have F₁₇ := fr_all F₁₆ hk₁₇
        have N₁₇ := news_add F₁₆ N₁₆ hk₁₇ hD₁₇ hl₁₇
        clear tab new F₁₆ N₁₆
        iterate 1 walk1
        refine sorted_N_str F₁₇ N₁₇ (by exact isL (n := nv) N₁₇ (.head _)) (vals_strs tbl₅) (by simp [valsOf]; omega) ?_
        intro h₁₈ vs₁₈ ss₁₈ e₁₈ F₁₈ N₁₈ hss hperm hsrt
        have hfs : ((pf tbl₅).map (·.2)).Perm (H ++ [i]) := I'.files.trans (List.perm_append_singleton i H).symm
        have hH6 : ∀ f ∈ H ++ [i], f < 6 := fun f hf => by
          rcases List.mem_append.mp hf with hf | hf
          · exact Nat.lt_trans (J.flt f hf) hi
          · rw [List.mem_singleton.mp hf]; exact hi
        have hHs : (H ++ [i]).Pairwise (· ≤ ·) := by
          rw [List.pairwise_append]
          refine ⟨J.srt, by simp, fun a ha b hb => ?_⟩
          rw [List.mem_singleton.mp hb]; exact Nat.le_of_lt (J.flt a ha)
        have hsl : ss₁₈ = (H ++ [i]).map lt := sorted_letters (fs := (pf tbl₅).map (·.2)) (by unfold pf; rw [List.map_map, List.map_map]; exact hperm) hfs hH6 hHs hsrt
        subst hsl
        clear F₁₇ N₁₇
        have okH : ∀ x ∈ (H ++ [i]).map lt, PyData.strOk x = true := fun x hx => by
          obtain ⟨f, hf, rfl⟩ := List.mem_map.mp hx
          exact lt_strOk _ (hH6 f hf)
        have hol' : StrsAre (holV ++ [Value.str (lt i) tk11]) ((H ++ [i]).map lt) := by rw [List.map_append]; exact strs_snoc J.hol
        iterate 1 walk1
        refine ne_strs (by exact ⟨_, (N₁₈ _ (.head _)).1, rfl, _, rfl⟩) (by exact isL (n := nh₁₁) N₁₈ (by k_mem)) hss hol' (by ke_room) okH okH ?_
        rw [decide_eq_true rfl, Bool.not_true]
        iterate 5 walk1
        dsimp only
        refine ⟨_, _, _, led12 L o1 o2' o3 o4' wl wV nw rl rowsV nr nl namesV nn D₁₄ ys₂ ys₂.length hol (holV ++ [Value.str (lt i) tk11]) nh₁₁ (tabW tb td hl kh tk0 nd nl₅ tbl₅), rfl, F₁₈, news_sub N₁₈ fun p hp => ?_, fun p hp => ?_, tbl₅, H ++ [i], ys₂, holV ++ [Value.str (lt i) tk11], o2', o4', _, D₁₄, ys₂.length, nh₁₁, nl₅, ex_map3 rfl rfl rfl, rfl, d2', d4', ⟨sep.h1, sep.h2, sep.h3, offm (hl, listOf (refs tbl₅).toArray nl₅) (by k_mem), sep.h5, sep.h6, sep.h7, sep.h8, offm (hol, listOf (holV ++ [Value.str (lt i) tk11]).toArray nh₁₁) (by k_mem)⟩,
          ⟨⟨I'.nd, I'.val, I'.lt, hfs⟩, ent₅, fun f hf => ?_, hHs, ?_, hys₂, hol'⟩⟩
        · simp only [led12, List.mem_cons] at hp ⊢
          rcases hp with h | h | h | h | h | h | h | h | h | h | h <;> simp [h]
        · simp only [led12, tabW, ents, List.mem_cons, List.mem_map] at hp
          rcases hp with rfl | rfl | rfl | rfl | rfl | rfl | rfl | rfl | rfl | rfl | rfl | rfl | ⟨e, he, rfl⟩
          · exact hown (L + 1, o1) (by k_mem)
          · exact hown (L + 2, o2) (by k_mem)
          · exact hown (L + 3, o3) (by k_mem)
          · exact hown (L + 4, o4) (by k_mem)
          · exact hown (wl, listOf wV.toArray nw) (by k_mem)
          · exact hown (rl, listOf rowsV.toArray nr) (by k_mem)
          · exact hown (nl, listOf namesV.toArray nn) (by k_mem)
          · exact (offm own (by k_mem)).symm
          · exact hown (hol, listOf holV.toArray nh) (by k_mem)
          · exact hown (tb, instObj 218 td) (by k_mem)
          · exact hown (td, dictOf _ nd) (by k_mem)
          · exact hown (hl, listOf (refs tbl).toArray nlc) (by k_mem)
          · exact hown₅ e he
        · rcases List.mem_append.mp hf with hf | hf
          · exact Nat.lt_succ_of_lt (J.flt f hf)
          · rw [List.mem_singleton.mp hf]; exact Nat.lt_succ_self _
        · have := J.len
          simp only [List.length_append, List.length_singleton]
          omega
      | false =>
        obtain ⟨et, hin, htight, hmin⟩ := come_false J.inv (hWi i) r (cl rfl)
        have hmem : mask asked₅ ∈ ((List.range 64).filter fun S => decide (((card S : Int) - (cnt (fun k => W.getD k 0) H S : Int)) = 0) && inS (fun k => W.getD k 0) S i) := by
          refine List.mem_filter.mpr ⟨List.mem_range.mpr (mask_lt has₅ hal₅), ?_⟩
          rw [hin, Bool.and_true]
          exact decide_eq_true (by omega)
        have hfold := fold_eq (M := mask asked₅) (and_of_sub (mask_lt has₅ hal₅) fun p hp _ => by
          match p, hp with
          | 0, _ | 1, _ | 2, _ | 3, _ | 4, _ | 5, _ => decide) hmem (fun S hS => by
          obtain ⟨h1, h2⟩ := Bool.and_eq_true_iff.mp (List.mem_filter.mp hS).2
          have h3 := of_decide_eq_true h1
          exact hmin S h2 (by omega))
        iterate 9 walk1
        (rename Fr _ _ _ _ => F₉); (rename News _ _ _ _ => N₉)
        refine ke_eq_ints (ms := []) (xs := ys) (ys := []) (by exact ⟨_, (N₉ (D₈, LCg.lst ys) (by k_mem)).1, rfl, _, rfl⟩) (by exact ⟨_, (N₉ _ (.head _)).1, rfl, _, rfl⟩) hys .nil (by ke_room) ?_
        rw [decide_eq_false (fun q => by rw [List.map_eq_nil_iff] at q; rw [q] at hmem; cases hmem)]
        iterate 18 walk1
        (rename Fr _ _ _ _ => F₁₀); (rename News _ _ _ _ => N₁₀)
        refine' LCg.ListComp_U F₁₀ (by with_unfolding_all rfl) (by decide) rfl (by decide) rfl ?_ (fun _ => rfl)
        iterate 1 walk1
        refine' LCg.CompSrc.ledger (ax := al) (its := asv₅.toArray) (k := na₅) hh F₁₀ N₁₀ (by k_mem) ?_ ?_
        · rw [sizeLine_eq]
          have e1 := hasv₅.length
          have e2 := nodup_len 6 has₅ hal₅
          simp at e1 ⊢
          omega
        intro g''
        refine rest_U (fun n ys => IntsAre ys ((asked₅.take n).map fun p => ((2 ^ (5 - p) : Nat) : Int))) (.inr ⟨_, (by k_mem), rfl, _, rfl⟩) ?_ ?_ .nil
        · rintro n v ys I oI C oC D m₂ h tk E' hn hJ hv hC hm F₁₁ N₁₁ off ne
          obtain ⟨x, tx, rfl, hx⟩ := hasv₅.at n v (by simpa using hv)
          obtain ⟨q, hq, rfl⟩ : ∃ q, asked₅[n]? = some q ∧ x = Int.ofNat q := by
            rw [List.getElem?_map, Option.map_eq_some_iff] at hx
            obtain ⟨q, hq, e⟩ := hx
            exact ⟨q, hq, e.symm⟩
          iterate 3 walk1
          refine shr32 (hal₅ q (List.mem_of_getElem? hq)) ?_
          refine EndK.intro F₁₁ N₁₁ (fun p hp => hp) ?_
          rw [List.take_add_one, hq, List.map_append]
          exact ints_snoc hJ
        · rintro ys₂ hys₂ D₁₁ h₁₁ tk₁₁ F₁₁ N₁₁ off₁₁
          rw [List.take_of_length_le (l := asked₅) (i := asv₅.toArray.size) (by have := hasv₅.length; simp at this ⊢; omega)] at hys₂
          iterate 1 walk1
          refine LSm.sum_ints (ns := asked₅.map fun p => ((2 ^ (5 - p) : Nat) : Int)) F₁₁ N₁₁ hh (by exact ⟨_, (N₁₁ (D₁₁, LCg.lst ys₂) (.head _)).1, rfl, _, rfl⟩) hys₂ ?_
          intro h₁₂ tk₁₂ t₁₂ F₁₂ N₁₂
          clear F₁₁ N₁₁ F₁₀ N₁₀
          iterate 7 walk1
          refine common_spec X T F₁₂.keep (by k_room) rfl (l := D₈) (vs := ys) (n := ys.length) (by exact (N₁₂ (D₈, LCg.lst ys) (by k_mem)).1) (N₁₂ (D₈, LCg.lst ys) (by k_mem)).2.2 hys (fun x hx => List.mem_range.mp (List.mem_filter.mp hx).1) ?_
          intro h₁₃ tk₁₃ t₁₃ hk₁₃
          rw [hfold, cast_mask]
          have F₁₃ := fr_all F₁₂ hk₁₃
          have N₁₃ := news_all N₁₂ hk₁₃
          clear F₁₂ N₁₂
          iterate 3 walk1
          · exact absurd (show ((mask asked₅ : Nat) : Int) = ((mask asked₅ : Nat) : Int) from rfl) (by assumption)
          · iterate 13 walk1
            obtain ⟨tab, new⟩ := tab_of_news (tb := tb) (td := td) (hl := hl) (kh := kh) (tk0 := tk0) (nd := nd) (nl := nl₅) (tbl := tbl₅) (news_sub N₁₃ (fun p hp => by
              simp only [List.mem_cons] at hp ⊢
              rcases hp with h | h | h | h <;> simp [h])) ent₅
            have len₅ : tbl₅.length ≤ 6 := map_p_len hnd₅ ent₅
            refine vals_spec X T F₁₃.keep (by k_room) rfl tab new len₅ ?_
            intro h₁₄ tk₁₄ vl nv hk₁₄ hD₁₄ hl₁₄
            have F₁₄ := fr_all F₁₃ hk₁₄
            have N₁₄ := news_add F₁₃ N₁₃ hk₁₄ hD₁₄ hl₁₄
            clear tab new F₁₃ N₁₃
            iterate 1 walk1
            refine sorted_N_str F₁₄ N₁₄ (by exact isL (n := nv) N₁₄ (.head _)) (vals_strs tbl₅) (by simp [valsOf]; omega) ?_
            intro h₁₅ vs₁₅ ss₁₅ e₁₅ F₁₅ N₁₅ hss hperm hsrt
            have hfs : ((pf tbl₅).map (·.2)).Perm H := et ▸ J.inv.files
            have hH6 : ∀ f ∈ H, f < 6 := fun f hf => Nat.lt_trans (J.flt f hf) hi
            have hsl : ss₁₅ = H.map lt := sorted_letters (fs := (pf tbl₅).map (·.2)) (by unfold pf; rw [List.map_map, List.map_map]; exact hperm) hfs hH6 J.srt hsrt
            subst hsl
            clear F₁₄ N₁₄
            have okH : ∀ x ∈ H.map lt, PyData.strOk x = true := fun x hx => by
              obtain ⟨f, hf, rfl⟩ := List.mem_map.mp hx
              exact lt_strOk _ (hH6 f hf)
            iterate 1 walk1
            refine ne_strs (by exact ⟨_, (N₁₅ _ (.head _)).1, rfl, _, rfl⟩) (by exact isL (n := nh) N₁₅ (by k_mem)) hss J.hol (by ke_room) okH okH ?_
            rw [decide_eq_true rfl, Bool.not_true]
            iterate 5 walk1
            dsimp only
            refine ⟨_, _, _, led12 L o1 o2 o3 o4' wl wV nw rl rowsV nr nl namesV nn rm roomV nrm hol holV nh (tabW tb td hl kh tk0 nd nl₅ tbl₅), rfl, F₁₅, news_sub N₁₅ fun p hp => ?_, fun p hp => ?_, tbl₅, H, roomV, holV, o2, o4', _, rm, nrm, nh, nl₅, ex_map3 rfl rfl rfl, rfl, d2, d4', sep,
              ⟨by rw [et]; exact J.inv, ent₅, fun f hf => Nat.lt_succ_of_lt (J.flt f hf), J.srt, Nat.le_succ_of_le J.len, J.room, J.hol⟩⟩
            · simp only [led12, List.mem_cons] at hp ⊢
              rcases hp with h | h | h | h | h | h | h | h | h | h | h <;> simp [h]
            · simp only [led12, tabW, ents, List.mem_cons, List.mem_map] at hp
              rcases hp with rfl | rfl | rfl | rfl | rfl | rfl | rfl | rfl | rfl | rfl | rfl | rfl | ⟨e, he, rfl⟩
              · exact hown (L + 1, o1) (by k_mem)
              · exact hown (L + 2, o2) (by k_mem)
              · exact hown (L + 3, o3) (by k_mem)
              · exact hown (L + 4, o4) (by k_mem)
              · exact hown (wl, listOf wV.toArray nw) (by k_mem)
              · exact hown (rl, listOf rowsV.toArray nr) (by k_mem)
              · exact hown (nl, listOf namesV.toArray nn) (by k_mem)
              · exact hown (rm, listOf roomV.toArray nrm) (by k_mem)
              · exact hown (hol, listOf holV.toArray nh) (by k_mem)
              · exact hown (tb, instObj 218 td) (by k_mem)
              · exact hown (td, dictOf _ nd) (by k_mem)
              · exact hown (hl, listOf (refs tbl).toArray nlc) (by k_mem)
              · exact hown₅ e he
    · exact .nil
  · rintro m₁ news₁ h tk ⟨tbl, H, roomV, holV, o2, o4, v4, rm, nrm, nh, nlc, ⟨u, rfl⟩, rfl, d2, d4, sep, J⟩ F₂ N₂
    clear F₁ N₁ F N
    iterate 1 walk1
    dsimp only
    have hnd : (tbl.map (·.p)).Nodup := by have := J.inv.nd; unfold Nd pf at this; rwa [List.map_map] at this
    refine seg13 (tbl := tbl) (nn := nn) (nw := nw) (kh := kh) (tk0 := tk0) (nd := nd) (nl' := nlc) (hl := hl) (td := td) X T hb₀ F₂ (news_sub N₂ fun p hp => ?_) d1 d3 rfl hN hW hnd J.ent (map_p_len hnd J.ent) (fun e he => ?_) (fun h' tk' m' F' => hret h' tk' m' F')
    · simp only [led12, List.mem_cons] at hp ⊢
      rcases hp with h | h | h | h | h <;> simp [h]
    · have hv := J.inv.val (e.p, e.f) (List.mem_map.mpr ⟨e, he, rfl⟩)
      replace hv : (W.getD e.f 0).testBit (5 - e.p) = true := hv
      have hf := (J.ent e he).2
      rw [List.getD_eq_getElem?_getD, List.getElem?_eq_getElem (by omega)] at hv
      exact ⟨_, List.getElem?_eq_getElem (by omega), hv⟩
end Mine
end

section
theorem Mine.reset13 : True := by
  w_top off
  exact True.intro
local macro_rules | `(tactic| walk_at "no such place") => `(tactic| skip)
local macro_rules | `(tactic| walk_at "no such place") => `(tactic| skip)
local macro_rules | `(tactic| walk_at "no such place") => `(tactic| skip)
local macro_rules | `(tactic| walk_at "no such place") => `(tactic| skip)
local macro_rules | `(tactic| walk_at "no such place") => `(tactic| skip)
local macro_rules | `(tactic| walk_at "no such place") => `(tactic| skip)
local macro_rules | `(tactic| walk_at "no such place") => `(tactic| skip)
local macro_rules | `(tactic| walk_at "no such place") => `(tactic| skip)
open PySem PySem.W PyProof.Rows PySem.Calls PySem.Builtin.Str
set_option Elab.async false
set_option maxRecDepth 100000
set_option maxHeartbeats 0
namespace Mine
local macro_rules | `(tactic| walk_at "mine enter") => `(tactic| ((case ho => k_is); (case hcd => k_is); (case hbind => first | exact BindsTo.of_eq rfl | exact kp_binds (Frag.In.keeps (by assumption) (by assumption)) (fun _ => rfl) | exact binds_K (Frag.In.keeps (by assumption) (by assumption)) rfl (by k_is) rfl rfl rfl); (case hloc => exact locs rfl); (case hcell => decide); (case c2 => exact rfl); (case c3 => exact rfl); (case c4 => exact rfl)))
theorem init_spec {loose : List Str} {mean : ExcName → Option Value} {mg mb : Str → Option Value} {hT : Heap} {w : World} {A : Around} {s : Shared} {R : Result → Shared → Prop} {x dx : Addr}
    (X : (hd.heap_39 w.params).In hT) (T : Top hd.view_39 loose mean mg mb hT) (st : ∀ b o, hT.get? b = some o → s.heap.get? b = some o) (hroom : A.depth + 1 < recursionLimit) (hh : A.handled = none)
    (hx : s.heap.get? x = some (instObj 218 dx)) (hdx : s.heap.get? dx = some (dictOf [] 0)) (hdlt : dx < x) (nx : hT.get? x = none) (ndx : hT.get? dx = none)
    (hret : ∀ h' tk' hl kh tk0 nd nl, (∀ b o, b ≠ dx → s.heap.get? b = some o → h'.get? b = some o) → s.heap.get? hl = none → h'.get? dx = some (dictOf [⟨kh, .str (Str.ofString "_headers") tk0, .ref hl⟩] nd) → h'.get? hl = some (listOf #[] nl) → R (.ok (.ret .none)) { s with heap := h', toks := tk' }) :
    codeAny (model PySem.Challenge.rw_pe0235_01.row.prog w) A (.call (.ref 110) ⟨[.ref x], []⟩) R s := by
  revert X
  k_fill
  intro X
  have hW : ∀ p ∈ [(x, instObj 218 dx), (dx, dictOf [] 0)], s.heap.get? p.1 = some p.2 ∧ hT.get? p.1 = none := by
    intro p hp
    simp only [List.mem_cons, List.not_mem_nil, or_false] at hp
    rcases hp with rfl | rfl
    · exact ⟨hx, nx⟩
    · exact ⟨hdx, ndx⟩
  refine' raw_call (binds := [(Str.ofString "self", .ref x), (Str.ofString "headers", .none)]) _ X T st hW ?ho ?hcd (by omega) ?hbind ?hloc ?_ ?hcell ?c2 ?c3 ?c4
  walk_at "mine enter"
  intro g L' h' hg F' N' X' T' tg hlt
  clear X T
  iterate 30 walk1
  dsimp only
  iterate 4 walk1
  (rename Fr _ _ _ _ => F₁); (rename News _ _ _ _ => N₁)
  rename_i hl _ ld _
  refine' set_dict (C := 218) F₁ X' N₁ ?k4 ?k5 ?k6 ?k7 ?k8 ?k9 ?k10 ?k11 ?k12 ?k13 ?_
  case k4 => k_inst
  case k5 => exact rfl
  case k6 => k_is
  case k7 => k_is
  case k8 => k_is
  case k9 => k_is
  case k10 => k_get
  case k11 => k_put
  case k12 =>
    exact Upd.tail (show hl ≠ dx from fun q => absurd ld.2 (by rw [q]; exact Nat.lt_irrefl _)) (Upd.tail (show x ≠ dx from fun q => absurd hdlt (by rw [q]; exact Nat.lt_irrefl _)) (Upd.head fun _ h => nomatch h))
  case k13 => exact Nat.le_of_ble_eq_true rfl
  intro h₂ F₂ N₂
  clear F₁ N₁
  dsimp only
  iterate 8 walk1
  refine wpAny_For ?_
  iterate 1 walk1
  refine for_list (items := []) (fun i m₁ news₁ => news₁ = [(hl, listOf #[] 0), (x, instObj 218 dx), (dx, dictOf [⟨_, .str (Str.ofString "_headers") _, .ref hl⟩] 1)])
    hh F₂ N₂ (isL (vs := []) (n := 0) N₂ (.head _)) ?_ rfl ?_ ?_
  · rintro i m₁ news₁ h rfl _ N
    exact isL (vs := []) (n := 0) N (.head _)
  · intro i v m₁ news₁ h tk own hv
    simp at hv
  rintro m₁ news₁ h tk rfl F₃ N₃
  iterate 3 walk1
  refine hret _ _ hl _ _ _ _ (fun b o hb e => ?_) ?_ (N₃ (dx, _) (by k_mem)).1 (N₃ (hl, _) (.head _)).1
  · by_cases q : b = x
    · subst q
      rw [hx] at e; cases e
      exact (N₃ (b, _) (by k_mem)).1
    · exact F₃.keep _ _ (hg b o e (by simp [q, hb]))
  · cases q : s.heap.get? hl with
    | none => rfl
    | some o =>
      have := hg hl o q (by
        simp only [List.map_cons, List.map_nil, List.mem_cons, List.not_mem_nil, or_false, not_or]
        exact ⟨fun e => absurd ld.1 (by rw [e]; exact Nat.lt_irrefl _), fun e => absurd ld.2 (by rw [e]; exact Nat.lt_irrefl _)⟩)
      rw [(N₃ (hl, _) (.head _)).2.2] at this
      cases this
end Mine
end

section
theorem Mine.reset14 : True := by
  w_top off
  exact True.intro
open PySem PySem.W PyProof.Rows PySem.Calls PySem.Builtin.Str
set_option Elab.async false
set_option maxRecDepth 100000
set_option maxHeartbeats 0
namespace Mine
theorem ints_app : ∀ {v1 v2 : List Value} {l1 l2 : List Int}, IntsAre v1 l1 → IntsAre v2 l2 → IntsAre (v1 ++ v2) (l1 ++ l2)
  | _, _, _, _, .nil, h => h
  | _, _, _, _, .cons n t r, h => .cons n t (ints_app r h)
theorem card_step : ∀ i, i < 6 → ((List.range (2 ^ (i + 1))).map fun S => (card S : Int)) = ((List.range (2 ^ i)).map fun S => (card S : Int)) ++ (List.range (2 ^ i)).map fun S => (card S : Int) + 1 := six (by decide +kernel) (by decide +kernel) (by decide +kernel) (by decide +kernel) (by decide +kernel) (by decide +kernel)
theorem seg7 {loose : List Str} {mean : ExcName → Option Value} {mg mb : Str → Option Value} {g : Heap} {w : World} {s : Shared} {Q : Value → Shared → Prop} {E : Value → Shared → Prop} {L : Addr} {body : List Stmt} {env : Env} {m : Str → Option Value}
    {wl rl : Addr} {wV rowsV : List Value} {W : List Nat} {nw nr : Nat} {o1 o2 o3 o4 : Obj} {v2 v3 v4 : Option Value}
    (X : (hd.heap_39 w.params).In g) (T : Top hd.view_39 loose mean mg mb g) (hb : LawAt w.params L body env)
    (F : Fr g L s.heap m) (N : News g L s.heap ((L + 1, o1) :: (L + 2, o2) :: (L + 3, o3) :: (L + 4, o4) :: (wl, listOf wV.toArray nw) :: (rl, listOf rowsV.toArray nr) :: []))
    (d1 : o1.data = .cell (some (.ref wl))) (d2 : o2.data = .cell v2) (d3 : o3.data = .cell v3) (d4 : o4.data = .cell v4)
    (hm2 : m (Str.ofString "rows") = some (.ref rl)) (hW : IntsAre wV (W.map Int.ofNat)) (hWl : W.length = 6) (hW64 : ∀ x ∈ W, x < 64)
    (HR : ∀ k, k < 6 → ∃ x t, rowsV[k]? = some (.str x t) ∧ ∀ p, p < 6 → ∃ c, x.cps[4 + p]? = some c ∧ ([114, 119, 120, 115, 116] : List Nat).contains c = Rof (fun k => W.getD k 0) k p)
    (hret : ∀ h' tk' m', Fr g L h' m' → Q (.bool true) { s with heap := h', toks := tk' }) :
    wpAny (model PySem.Challenge.rw_pe0235_01.row.prog w) (callerA.deeper env) (execs (body.drop 7) env) (RetOf Q) E s := by
  revert X
  k_fill
  intro X
  have hb₀ := hb
  obtain ⟨rfl, rfl⟩ := hb.eq (by k_is)
  have hh : callerA.handled = none := rfl
  clear hb
  obtain ⟨u, rfl⟩ := ex_map1 hm2
  dsimp only [List.drop]
  iterate 26 walk1
  (rename Fr _ _ _ _ => F₁); (rename News _ _ _ _ => N₁)
  rename_i nl _ ln _ r0 _ lr
  generalize tk = t0 at *
  generalize hnV : (#[Value.str (Str.ofString "gr") s.toks, Value.str (Str.ofString "gw") (s.toks + 1), Value.str (Str.ofString "gx") (s.toks + 1 + 1), Value.str (Str.ofString "or") (s.toks + 1 + 1 + 1), Value.str (Str.ofString "ow") (s.toks + 1 + 1 + 1 + 1), Value.str (Str.ofString "ox") (s.toks + 1 + 1 + 1 + 1 + 1)] : Array Value) = nA at N₁
  obtain ⟨namesV, rfl⟩ : ∃ v : List Value, nA = v.toArray := ⟨nA.toList, by simp⟩
  have hN : NamesAre namesV := ⟨_, _, _, _, _, _, (congrArg Array.toList hnV).symm⟩
  clear hnV
  have ne2 : ∀ p ∈ (r0, listOf [Value.int 0 t0].toArray 0) :: (nl, listOf namesV.toArray 0) :: (L + 1, o1) :: (L + 3, o3) :: (L + 4, o4) :: (wl, listOf wV.toArray nw) :: (rl, listOf rowsV.toArray nr) :: [], p.1 ≠ L + 2 := by
    intro p hp
    have hp' : p ∈ (r0, listOf [Value.int 0 t0].toArray 0) :: (nl, listOf namesV.toArray 0) :: (L + 1, o1) :: (L + 2, o2) :: (L + 3, o3) :: (L + 4, o4) :: (wl, listOf wV.toArray nw) :: (rl, listOf rowsV.toArray nr) :: [] := by
      simp only [List.mem_cons] at hp ⊢
      rcases hp with h | h | h | h | h | h | h | h <;> simp [h]
    simp only [List.mem_cons, List.not_mem_nil, or_false] at hp
    rcases hp with rfl | rfl | rfl | rfl | rfl | rfl | rfl
    · exact not_cell N₁ (by k_mem) hp' d2 fun v => nofun
    · exact not_cell N₁ (by k_mem) hp' d2 fun v => nofun
    · exact fun e => absurd (Nat.add_left_cancel e) (by decide)
    · exact fun e => absurd (Nat.add_left_cancel e) (by decide)
    · exact fun e => absurd (Nat.add_left_cancel e) (by decide)
    · exact not_cell N₁ (by k_mem) hp' d2 fun v => nofun
    · exact not_cell N₁ (by k_mem) hp' d2 fun v => nofun
  refine cell_set (c := L + 2) (oc := o2) rfl rfl rfl F₁ (news_sub N₁ fun p hp => ?_) d2 ne2 fun h₂ o2' F₂ N₂ d2' => ?_
  · simp only [List.mem_cons] at hp ⊢
    rcases hp with h | h | h | h | h | h | h | h | h <;> simp [h]
  clear F₁ N₁
  iterate 2 walk1
  refine wpAny_For ?_
  iterate 6 walk1
  refine range1_rows F₂ N₂ ?_
  intro h₃ tk₃ t₃ u₃ v₃ hrg F₃ N₃ _
  dsimp only
  refine for_range (n := 6) (fun i m₁ news₁ => ∃ (roomV : List Value) (o2 : Obj) (rm : Addr) (nrm : Nat),
      (∃ u : Str → Option Value, m₁ = fun z => if z = Str.ofString "names" then some (.ref nl) else if z = Str.ofString "rows" then some (.ref rl) else u z) ∧
      news₁ = (L + 1, o1) :: (L + 2, o2) :: (L + 3, o3) :: (L + 4, o4) :: (wl, listOf wV.toArray nw) :: (rl, listOf rowsV.toArray nr) :: (nl, listOf namesV.toArray 0) :: (rm, listOf roomV.toArray nrm) :: [] ∧ o2.data = .cell (some (.ref rm)) ∧
      IntsAre roomV ((List.range (2 ^ i)).map fun S => (card S : Int)))
    hh F₃ (news_sub N₃ (news' := (L + 1, o1) :: (L + 2, o2') :: (L + 3, o3) :: (L + 4, o4) :: (wl, listOf wV.toArray nw) :: (rl, listOf rowsV.toArray nr) :: (nl, listOf namesV.toArray 0) :: (r0, listOf [Value.int 0 t0].toArray 0) :: []) fun p hp => ?_) hrg (by decide) (by decide) ?_ ?_ ?_
  · simp only [List.mem_cons] at hp ⊢
    rcases hp with h | h | h | h | h | h | h | h | h <;> simp [h]
  · exact ⟨_, o2', r0, 0, ⟨_, rfl⟩, rfl, d2', .cons _ _ .nil⟩
  · rintro i tv m₁ news₁ h tk own hi ⟨roomV, o2, rm, nrm, ⟨u, rfl⟩, rfl, d2, hroomV⟩ F₄ N₄ hown
    clear F₃ N₃ F₂ N₂
    iterate 7 walk1
    (rename Fr _ _ _ _ => Fa); (rename News _ _ _ _ => Na)
    refine' LCg.ListComp_U Fa (by with_unfolding_all rfl) (by decide) rfl (by decide) rfl ?_ (fun _ => rfl)
    iterate 1 walk1
    have hlen := hroomV.length
    have hp2 : 2 ^ i ≤ 2 ^ 5 := Nat.pow_le_pow_right (by decide) (by omega)
    have hlr : roomV.length = 2 ^ i := by rw [hlen]; simp
    refine' LCg.CompSrc.ledger (ax := rm) (its := roomV.toArray) (k := nrm) hh Fa Na (by k_mem) ?_ ?_
    · rw [sizeLine_eq]
      simp only [List.size_toArray]
      omega
    intro g'
    refine rest_U (fun n ys => IntsAre ys (((List.range (2 ^ i)).take n).map fun S => (card S : Int) + 1)) (.inr ⟨_, (by k_mem), rfl, _, rfl⟩) ?_ ?_ .nil
    · rintro n v ys I oI C oC D m₂ h tk E' hn hJ hv hC hm F₅ N₅ off ne
      obtain ⟨x, tx, rfl, hx⟩ := hroomV.at n v (by simpa using hv)
      rw [List.getElem?_map, Option.map_eq_some_iff] at hx
      obtain ⟨q, hq, rfl⟩ := hx
      iterate 4 walk1
      refine EndK.intro F₅ N₅ (fun p hp => hp) ?_
      rw [List.take_add_one, hq, List.map_append]
      exact ints_snoc hJ
    rintro ys hys D h₅ tk₅ F₅ N₅ off₅
    rw [List.take_of_length_le (l := List.range (2 ^ i)) (by simp [hlr])] at hys
    have hyl : ys.length = 2 ^ i := by rw [hys.length]; simp
    refine add_arrays (its := roomV.toArray) (its2 := ys.toArray) F₅ N₅ (isL (n := nrm) N₅ (by k_mem)) ⟨_, (N₅ (D, LCg.lst ys) (.head _)).1, rfl, _, rfl⟩ (fun h₆ F₆ N₆ => ?_) (by rw [sizeLine_eq]; simp only [List.size_toArray]; omega)
    have ownD : h₅.objs.size ≠ own.1 := (Nat.ne_of_lt (Heap.lt_size (N₅ own (by k_mem)).1)).symm
    dsimp only at N₆
    generalize h₅.objs.size = rm₂ at *
    have N₇ : News g L h₆ ((L + 2, o2) :: (rm₂, listOf (roomV ++ ys).toArray 0) :: own :: (L + 1, o1) :: (L + 3, o3) :: (L + 4, o4) :: (wl, listOf wV.toArray nw) :: (rl, listOf rowsV.toArray nr) :: (nl, listOf namesV.toArray 0) :: []) := news_sub N₆ fun p hp => by
      simp only [List.mem_cons] at hp ⊢
      rcases hp with h | h | h | h | h | h | h | h | h | h <;> simp [h]
    refine cell_set (c := L + 2) (oc := o2) rfl rfl rfl F₆ N₇ d2 (fun p hp => ?_) fun h₈ o2' F₈ N₈ d2' => ?_
    · have hp' := List.mem_cons_of_mem (L + 2, o2) hp
      simp only [List.mem_cons, List.not_mem_nil, or_false] at hp
      rcases hp with rfl | rfl | rfl | rfl | rfl | rfl | rfl | rfl
      · exact not_cell N₇ (by k_mem) hp' d2 fun v => nofun
      · exact (hown (L + 2, o2) (by k_mem)).symm
      · exact fun e => absurd (Nat.add_left_cancel e) (by decide)
      · exact fun e => absurd (Nat.add_left_cancel e) (by decide)
      · exact fun e => absurd (Nat.add_left_cancel e) (by decide)
      · exact not_cell N₇ (by k_mem) hp' d2 fun v => nofun
      · exact not_cell N₇ (by k_mem) hp' d2 fun v => nofun
      · exact not_cell N₇ (by k_mem) hp' d2 fun v => nofun
    dsimp only
    iterate 1 walk1
    dsimp only
    refine ⟨_, _, _, (L + 1, o1) :: (L + 2, o2') :: (L + 3, o3) :: (L + 4, o4) :: (wl, listOf wV.toArray nw) :: (rl, listOf rowsV.toArray nr) :: (nl, listOf namesV.toArray 0) :: (rm₂, listOf (roomV ++ ys).toArray 0) :: [], rfl, F₈, news_sub N₈ fun p hp => ?_, fun p hp => ?_, roomV ++ ys, o2', rm₂, 0, ex_map2 rfl rfl, rfl, d2', ?_⟩
    · simp only [List.mem_cons] at hp ⊢
      rcases hp with h | h | h | h | h | h | h | h | h | h <;> simp [h]
    · simp only [List.mem_cons, List.not_mem_nil, or_false] at hp
      rcases hp with rfl | rfl | rfl | rfl | rfl | rfl | rfl | rfl
      · exact hown (L + 1, o1) (by k_mem)
      · exact hown (L + 2, o2) (by k_mem)
      · exact hown (L + 3, o3) (by k_mem)
      · exact hown (L + 4, o4) (by k_mem)
      · exact hown (wl, listOf wV.toArray nw) (by k_mem)
      · exact hown (rl, listOf rowsV.toArray nr) (by k_mem)
      · exact hown (nl, listOf namesV.toArray 0) (by k_mem)
      · exact ownD
    · rw [card_step i hi, ]
      exact ints_app hroomV hys
  · rintro m₁ news₁ h tk ⟨roomV, o2, rm, nrm, ⟨u, rfl⟩, rfl, d2, hroomV⟩ F₄ N₄
    clear F₃ N₃ F₂ N₂
    iterate 1 walk1
    dsimp only
    iterate 5 walk1
    refine' call_cls (fI := 110) F₄ X N₄ ?k4 ?k5 ?k6 ?_
    case k4 => k_is
    case k5 => k_is
    case k6 => k_is
    intro tb td h₆ F₆ N₆ lnew ldx
    refine init_spec X T F₆.keep (by k_room) rfl (N₆ (tb, _) (.head _)).1 (N₆ (td, _) (.tail _ (.head _))).1 ldx (N₆ (tb, instObj 218 td) (.head _)).2.2 (N₆ (td, dictOf [] 0) (.tail _ (.head _))).2.2 ?_
    intro h₇ tk₇ hl kh tk0 nd nlh hk₇ hhl hdx₇ hhl₇
    refine ⟨rfl, ?_⟩
    dsimp only
    have F₇ : Fr g L h₇ _ := fr_but1 F₆ (N₆ (td, dictOf [] 0) (.tail _ (.head _))).2.1 (N₆ (td, dictOf [] 0) (.tail _ (.head _))).2.2 fun b o hb e => hk₇ b o hb e
    have N₇ : News g L h₇ ((L + 3, o3) :: (hl, listOf [].toArray nlh) :: (tb, instObj 218 td) :: (td, dictOf [⟨kh, .str (Str.ofString "_headers") tk0, .ref hl⟩] nd) :: (L + 1, o1) :: (L + 2, o2) :: (L + 4, o4) :: (wl, listOf wV.toArray nw) :: (rl, listOf rowsV.toArray nr) :: (nl, listOf namesV.toArray 0) :: (rm, listOf roomV.toArray nrm) :: []) := by
      intro p hp
      have old : p ∈ (L + 1, o1) :: (L + 2, o2) :: (L + 3, o3) :: (L + 4, o4) :: (wl, listOf wV.toArray nw) :: (rl, listOf rowsV.toArray nr) :: (nl, listOf namesV.toArray 0) :: (rm, listOf roomV.toArray nrm) :: [] → h₇.get? p.1 = some p.2 ∧ p.1 ≠ L ∧ g.get? p.1 = none := fun hm => by
        have z := N₆ p (.tail _ (.tail _ hm))
        exact ⟨hk₇ _ _ (Nat.ne_of_lt (lnew p hm)) z.1, z.2⟩
      simp only [List.mem_cons, List.not_mem_nil, or_false] at hp
      rcases hp with h | rfl | rfl | rfl | h | h | h | h | h | h | h
      · exact old (by simp [h])
      · refine ⟨hhl₇, ?_, ?_⟩
        · rintro rfl
          obtain ⟨o', _, _, ho', _⟩ := F₆.ns
          exact nomatch (hhl.symm.trans ho')
        · cases q : g.get? hl with
          | none => rfl
          | some o' => exact nomatch (hhl.symm.trans (F₆.keep _ _ q))
      · have z := N₆ (tb, instObj 218 td) (.head _)
        exact ⟨hk₇ _ _ (Nat.ne_of_gt ldx) z.1, z.2⟩
      · exact ⟨hdx₇, (N₆ (td, dictOf [] 0) (.tail _ (.head _))).2⟩
      all_goals exact old (by simp [h])
    have hlne : ∀ p ∈ (L + 1, o1) :: (L + 2, o2) :: (L + 3, o3) :: (L + 4, o4) :: (wl, listOf wV.toArray nw) :: (rl, listOf rowsV.toArray nr) :: (nl, listOf namesV.toArray 0) :: (rm, listOf roomV.toArray nrm) :: [], hl ≠ p.1 := fun p hp q => by
      have z := (N₆ p (.tail _ (.tail _ hp))).1
      rw [← q] at z
      exact nomatch (hhl.symm.trans z)
    refine cell_set (c := L + 3) (oc := o3) rfl rfl rfl F₇ N₇ d3 (fun p hp => ?_) fun h₈ o3' F₈ N₈ d3' => ?_
    · have hp' := List.mem_cons_of_mem (L + 3, o3) hp
      simp only [List.mem_cons, List.not_mem_nil, or_false] at hp
      rcases hp with rfl | rfl | rfl | rfl | rfl | rfl | rfl | rfl | rfl | rfl
      · exact not_cell N₇ (by k_mem) hp' d3 fun v => nofun
      · exact not_cell N₇ (by k_mem) hp' d3 fun v => nofun
      · exact not_cell N₇ (by k_mem) hp' d3 fun v => nofun
      · exact fun e => absurd (Nat.add_left_cancel e) (by decide)
      · exact fun e => absurd (Nat.add_left_cancel e) (by decide)
      · exact fun e => absurd (Nat.add_left_cancel e) (by decide)
      all_goals exact not_cell N₇ (by k_mem) hp' d3 fun v => nofun
    clear N₇ F₇ N₆ F₆ N₄ F₄
    dsimp only
    iterate 6 walk1
    (rename Fr _ _ _ _ => F₉); (rename News _ _ _ _ => N₉)
    rename_i hol _ lh _
    refine seg12 (W := W) (wV := wV) (rowsV := rowsV) (namesV := namesV) (roomV := roomV) (holV := []) (hol := hol) (tb := tb) (td := td) (hl := hl) (wl := wl) (rl := rl) (nl := nl) (rm := rm) (kh := kh) (tk0 := tk0) (nd := nd) (nl' := nlh) (nw := nw) (nr := nr) (nn := 0) (nrm := nrm) (nh := 0) X T hb₀ F₉ (news_sub N₉ fun p hp => ?_) d1 d2 d3' d4 rfl rfl rfl hN hW hWl hW64 ⟨HR, fun p hp => hN.get hp⟩ ⟨?_, ?_, ?_, ?_, ?_, ?_, ?_, ?_, ?_⟩ ⟨⟨?_, ?_, ?_, ?_⟩, ?_, ?_, ?_, ?_, ?_, ?_⟩ (fun h' tk' m' F' => hret h' tk' m' F')
    · simp only [led12, tabW, ents, List.map_nil, List.mem_cons, List.not_mem_nil, or_false] at hp ⊢
      rcases hp with h | h | h | h | h | h | h | h | h | h | h | h
      all_goals first | (simp [h]; done) | (subst h; simp [refs])
    · exact hlne (wl, listOf wV.toArray nw) (by k_mem)
    · exact hlne (rl, listOf rowsV.toArray nr) (by k_mem)
    · exact hlne (nl, listOf namesV.toArray 0) (by k_mem)
    · exact hlne (rm, listOf roomV.toArray nrm) (by k_mem)
    · exact Nat.ne_of_lt lh.2.1
    · exact Nat.ne_of_gt lh.2.2.2.2.2.2.2.1
    · exact Nat.ne_of_gt lh.2.2.2.2.2.2.2.2.1
    · exact Nat.ne_of_gt lh.2.2.2.2.2.2.2.2.2.1
    · exact Nat.ne_of_gt lh.2.2.2.2.2.2.2.2.2.2
    · exact List.nodup_nil
    · intro e he; cases he
    · intro e he; cases he
    · exact List.Perm.refl _
    · intro e he; cases he
    · intro e he; cases he
    · exact List.Pairwise.nil
    · exact Nat.le_refl _
    · have e : (fun S => (card S : Int) - (cnt (fun k => W.getD k 0) [] S : Int)) = fun S => (card S : Int) := by
        funext S
        show (card S : Int) - ((0 : Nat) : Int) = card S
        omega
      rw [e]
      exact hroomV
    · exact .nil
end Mine
end

section
open PySem PySem.W PyProof.Rows PySem.Calls
set_option Elab.async false
set_option maxRecDepth 100000
set_option maxHeartbeats 0
namespace Mine
abbrev sIt (x : Str) (t : Tok) : Obj := { cls := .type "str_ascii_iterator", data := .fields #[.str x t, .int 0 0] }
abbrev zs1 (h : Heap) (x : Str) (t : Tok) : Heap := h.push (sIt x t)
abbrev zs2 (h : Heap) (x : Str) (t : Tok) (y : Str) (u : Tok) : Heap := (zs1 h x t).push (sIt y u)
abbrev zs3 (h : Heap) (x : Str) (t : Tok) (y : Str) (u : Tok) : Heap := (zs2 h x t y u).push { cls := .type "tuple", data := .seq #[.ref h.objs.size, .ref (zs1 h x t).objs.size] }
abbrev zs4 (h : Heap) (x : Str) (t : Tok) (y : Str) (u : Tok) : Heap := (zs3 h x t y u).push { cls := .type "tuple", data := .seq #[.none, .none] }
abbrev zs5 (h : Heap) (x : Str) (t : Tok) (y : Str) (u : Tok) : Heap :=
  (zs4 h x t y u).push { cls := .type "zip", data := .fields #[.none, .bool false, .bool false, .ref (zs2 h x t y u).objs.size, .ref (zs3 h x t y u).objs.size] }
theorem zs_meets (x : Str) (t : Tok) (y : Str) (u : Tok) (hx : x.cps.all (· < 128) = true) (hy : y.cps.all (· < 128) = true) :
    Meets (Builtin.«zip.__new__» ⟨[.type "zip", .str x t, .str y u], []⟩) (fun _ R s => R (.ok (.ret (.ref (zs4 s.heap x t y u).objs.size))) { s with heap := zs5 s.heap x t y u }) :=
  .of_wp fun prog w A R s h => by
    obtain ⟨hp, g, d, tk, os⟩ := s
    have hsub := sub_zip
    wp_walk using wpAny_pyIter_ascii hx, wpAny_pyIter_ascii hy
    exact ⟨_, rfl, h⟩
/-- the zip's state: its five objects stand one behind the other -/
structure ZS (h : Heap) (n : Addr) (x : Str) (t : Tok) (y : Str) (u : Tok) (i : Nat) (f0 : Value) : Prop where
  z : IsZip h (n + 4) (n + 2) (n + 3) f0
  ti : IsPair h (n + 2) (.ref n) (.ref (n + 1))
  to : ∃ a b, IsPair h (n + 3) a b
  i1 : h.IsStrIter n "str_ascii_iterator" x t i
  i2 : h.IsStrIter (n + 1) "str_ascii_iterator" y u i
section
variable {prog : Program} {w : World} {A : Around} {E : Value → Shared → Prop} {s : Shared}
theorem call_zs {x : Str} {t : Tok} {y : Str} {u : Tok} {Q : Value → Shared → Prop} (hx : x.cps.all (· < 128) = true) (hy : y.cps.all (· < 128) = true)
    (h : ∀ h', ZS h' s.heap.objs.size x t y u 0 .none → h'.objs.size = s.heap.objs.size + 5 → (∀ c o, s.heap.get? c = some o → h'.get? c = some o) → Q (.ref (s.heap.objs.size + 4)) { s with heap := h' }) :
    wpAny (model prog w) A (call (.type "zip") [.str x t, .str y u]) Q E s := by
  refine callType_new F.called_zip (by decide) (F.typeCall_zip_2 _ _) (F.newCall_zip_2 _ _) (fun obj => F.args_object_init_3 obj _ _) F.entry_zip_new (zs_meets x t y u hx hy) ?_
  have z1 : (zs1 s.heap x t).objs.size = s.heap.objs.size + 1 := Heap.size_push ..
  have z2 : (zs2 s.heap x t y u).objs.size = s.heap.objs.size + 2 := by rw [Heap.size_push, z1]
  have z3 : (zs3 s.heap x t y u).objs.size = s.heap.objs.size + 3 := by rw [Heap.size_push, z2]
  have z4 : (zs4 s.heap x t y u).objs.size = s.heap.objs.size + 4 := by rw [Heap.size_push, z3]
  have z5 : (zs5 s.heap x t y u).objs.size = s.heap.objs.size + 5 := by rw [Heap.size_push, z4]
  have up4 : ∀ c o, (zs4 s.heap x t y u).get? c = some o → (zs5 s.heap x t y u).get? c = some o := fun c o e => Heap.get?_push_of_some _ e
  have up3 : ∀ c o, (zs3 s.heap x t y u).get? c = some o → (zs5 s.heap x t y u).get? c = some o := fun c o e => up4 c o (Heap.get?_push_of_some _ e)
  have up2 : ∀ c o, (zs2 s.heap x t y u).get? c = some o → (zs5 s.heap x t y u).get? c = some o := fun c o e => up3 c o (Heap.get?_push_of_some _ e)
  have up1 : ∀ c o, (zs1 s.heap x t).get? c = some o → (zs5 s.heap x t y u).get? c = some o := fun c o e => up2 c o (Heap.get?_push_of_some _ e)
  have g5 : (zs5 s.heap x t y u).get? (zs4 s.heap x t y u).objs.size = some _ := Heap.get?_push_size _ rfl
  have g4 : (zs5 s.heap x t y u).get? (zs3 s.heap x t y u).objs.size = some _ := up4 _ _ (Heap.get?_push_size _ rfl)
  have g3 : (zs5 s.heap x t y u).get? (zs2 s.heap x t y u).objs.size = some _ := up3 _ _ (Heap.get?_push_size _ rfl)
  have g2 : (zs5 s.heap x t y u).get? (zs1 s.heap x t).objs.size = some _ := up2 _ _ (Heap.get?_push_size _ rfl)
  have g1 : (zs5 s.heap x t y u).get? s.heap.objs.size = some _ := up1 _ _ (Heap.get?_push_size _ rfl)
  show _ ∧ _
  rw [z2, z3, z4] at g5
  rw [z1, z2] at g3
  rw [z3] at g4
  rw [z1] at g2
  rw [z4]
  exact ⟨⟨_, g5, rfl⟩, h _ ⟨g5, g3, ⟨_, _, g4⟩, ⟨_, g1, rfl, rfl⟩, ⟨_, g2, rfl, rfl⟩⟩ z5 fun c o e => up1 c o (Heap.get?_push_of_some _ e)⟩
end
end Mine
end

section
open PySem PySem.W PyProof.Rows PySem.Calls
set_option Elab.async false
set_option maxRecDepth 100000
set_option maxHeartbeats 0
namespace Mine
theorem na {n a b : Nat} (h : a ≠ b) : n + a ≠ n + b := fun e => h (Nat.add_left_cancel e)
theorem n0 {n a : Nat} (h : 0 < a) : n ≠ n + a := Nat.ne_of_lt (Nat.lt_add_of_pos_right h)
section
variable {prog : Program} {w : World} {A : Around} {E : Value → Shared → Prop} {s : Shared} {n : Addr} {x y : Str} {t u : Tok} {i c d : Nat}
abbrev zsW (n : Addr) : List Addr := [n, n + 1, n + 3, n + 4]
theorem zs_next {Q : Value → Shared → Prop} (Z : ZS s.heap n x t y u i .none) (hx : x.cps[i]? = some c) (hy : y.cps[i]? = some d)
    (hQ : ∀ h' tk' (T : Addr) t1 t2, ZS h' n x t y u (i + 1) (rawInt T) → IsPair h' T (.str ⟨#[c]⟩ t1) (.str ⟨#[d]⟩ t2) → s.heap.get? T = none → (∀ b o, b ∉ zsW n → s.heap.get? b = some o → h'.get? b = some o) → Q (.ref T) { s with heap := h', toks := tk' }) :
    wpAny (model prog w) A (Builtin.«zip.__next__» ⟨[.ref (n + 4)], []⟩) (fun fin s' => ∃ v, fin = .done (.ret v) ∧ Q v s') E s := by
  obtain ⟨hz, hti, ⟨a, b, hto⟩, h1, h2⟩ := Z
  show wpAny _ _ (field (.ref (n + 4)) 2 >>= _) _ _ _
  refine wpAny_bind (wpAny_field hz rfl (x := .bool false) rfl ?_)
  show wpAny _ _ (field (.ref (n + 4)) 3 >>= _) _ _ _
  refine wpAny_bind (wpAny_field hz rfl (x := .ref (n + 2)) rfl ?_)
  refine wpAny_bind (wpAny_seqItems hti rfl ?_)
  show wpAny _ _ (Builtin.SmallTypes.ownedTupleIsFree (.ref (n + 4)) >>= _) _ _ _
  refine wpAny_bind ?_
  unfold Builtin.SmallTypes.ownedTupleIsFree
  refine wpAny_bind (wpAny_field hz rfl (x := .none) rfl (wpAny_pure ?_))
  simp only [if_true]
  refine wpAny_bind (wpAny_rule ?_)
  refine wpAny_bind (wpAny_field hz rfl (x := .ref (n + 3)) rfl ?_)
  refine wpAny_bind (wpAny_setField_rec hz (by simp) fun k₁ e₁ c₁ => ?_)
  replace e₁ : IsZip k₁ (n + 4) (n + 2) (n + 3) .ellipsis := e₁
  refine wpAny_bind ?_
  simp only [List.zipIdx_cons, List.zipIdx_nil, List.forIn_cons, List.forIn_nil]
  -- the first text's sign
  refine wpAny_bind (wpAny_bind (wpAny_onRaise ?_))
  show wpAny _ _ (Builtin.SmallTypes.nextOf (.ref n) >>= _) _ _ _
  refine wpAny_bind (wpAny_nextOf_ascii_item (h1.extBut c₁.extBut (n0 (by decide))) hx fun k₂ e₂ c₂ => wpAny_pure ?_)
  have to₂ : IsPair k₂ (n + 3) a b := c₂.extBut _ _ (Ne.symm (n0 (by decide))) (c₁.extBut _ _ (na (by decide)) hto)
  refine wpAny_bind (wpAny_seqItems to₂ rfl ?_)
  refine wpAny_bind (wpAny_updateSeq_pair to₂ fun k₃ to₃ c₃ => ?_)
  replace to₃ : IsPair k₃ (n + 3) _ b := to₃
  refine wpAny_bind (wpAny_letGo (wpAny_pure ?_))
  -- the second's
  refine wpAny_bind (wpAny_bind (wpAny_onRaise ?_))
  show wpAny _ _ (Builtin.SmallTypes.nextOf (.ref (n + 1)) >>= _) _ _ _
  refine wpAny_bind (wpAny_nextOf_ascii_item (((h2.extBut c₁.extBut (na (by decide))).extBut c₂.extBut (Ne.symm (n0 (by decide)))).extBut c₃.extBut (na (by decide))) hy fun k₄ e₄ c₄ => wpAny_pure ?_)
  have to₄ : IsPair k₄ (n + 3) _ b := c₄.extBut _ _ (na (by decide)) to₃
  refine wpAny_bind (wpAny_seqItems to₄ rfl ?_)
  refine wpAny_bind (wpAny_updateSeq_pair to₄ fun k₅ to₅ c₅ => ?_)
  replace to₅ : IsPair k₅ (n + 3) _ _ := to₅
  refine wpAny_bind (wpAny_letGo (wpAny_pure (wpAny_pure ?_)))
  -- the pair is made and handed out
  refine wpAny_bind (wpAny_seqItems to₅ rfl ?_)
  refine wpAny_bind (wpAny_newTuple ?_)
  have sz : k₅.objs.size = s.heap.objs.size := by rw [c₅.1, c₄.1, c₃.1, c₂.1, c₁.1]
  have z₅ : IsZip k₅ (n + 4) (n + 2) (n + 3) .ellipsis := c₅.extBut _ _ (na (by decide)) (c₄.extBut _ _ (na (by decide)) (c₃.extBut _ _ (na (by decide)) (c₂.extBut _ _ (Ne.symm (n0 (by decide))) e₁)))
  have keep₅ : ∀ b o, b ∉ zsW n → s.heap.get? b = some o → k₅.get? b = some o := fun b o hb e => by
    simp only [List.mem_cons, List.not_mem_nil, or_false, not_or] at hb
    obtain ⟨b0, b1, b3, b4⟩ := hb
    exact c₅.extBut _ _ b3 (c₄.extBut _ _ b1 (c₃.extBut _ _ b3 (c₂.extBut _ _ b0 (c₁.extBut _ _ b4 e))))
  have i1₅ := ((e₂.extBut c₃.extBut (n0 (by decide))).extBut c₄.extBut (n0 (by decide))).extBut c₅.extBut (n0 (by decide))
  have i2₅ := e₄.extBut c₅.extBut (na (by decide))
  have lz : n + 4 < k₅.objs.size := Heap.lt_size z₅
  show wpAny _ _ (Builtin.SmallTypes.ownedTupleHandOut (.ref (n + 4)) (.ref k₅.objs.size) >>= _) _ _ _
  refine wpAny_bind ?_
  unfold Builtin.SmallTypes.ownedTupleHandOut
  refine wpAny_bind (wpAny_setField_rec (Heap.get?_push_of_some _ z₅) (by simp) fun k₇ e₇ c₇ => ?_)
  replace e₇ : IsZip k₇ (n + 4) (n + 2) (n + 3) (rawInt k₅.objs.size) := e₇
  refine wpAny_setField_rec e₇ (by simp) fun k₈ e₈ c₈ => ?_
  replace e₈ : IsZip k₈ (n + 4) (n + 2) (n + 3) (rawInt k₅.objs.size) := e₈
  have up : ∀ b o, b ≠ n + 4 → k₅.get? b = some o → k₈.get? b = some o := fun b o hb e => c₈.extBut _ _ hb (c₇.extBut _ _ hb (Heap.get?_push_of_some _ e))
  have pair₈ : IsPair k₈ k₅.objs.size _ _ := c₈.extBut _ _ (Nat.ne_of_gt lz) (c₇.extBut _ _ (Nat.ne_of_gt lz) (Heap.get?_push_size _ rfl))
  refine wpAny_pure ⟨_, rfl, ?_⟩
  refine hQ k₈ _ k₅.objs.size _ _ ⟨e₈, up _ _ (na (by decide)) (keep₅ _ _ ?_ hti), ⟨_, _, up _ _ (na (by decide)) to₅⟩, let ⟨o, e, r⟩ := i1₅; ⟨o, up _ o (n0 (by decide)) e, r⟩, let ⟨o, e, r⟩ := i2₅; ⟨o, up _ o (na (by decide)) e, r⟩⟩ pair₈ ?_ fun b o hb e => up b o ?_ (keep₅ b o hb e)
  · simp only [List.mem_cons, List.not_mem_nil, or_false, not_or]
    exact ⟨Ne.symm (n0 (by decide)), na (by decide), na (by decide), na (by decide)⟩
  · cases q : s.heap.get? k₅.objs.size with
    | none => rfl
    | some o => exact absurd (Heap.lt_size q) (by rw [sz]; exact Nat.lt_irrefl _)
  · simp only [List.mem_cons, List.not_mem_nil, or_false, not_or] at hb
    exact hb.2.2.2
theorem zs_stop {Q : Fin → Shared → Prop} (hh : A.handled = none) (Z : ZS s.heap n x t y u i .none) (hx : x.cps[i]? = none)
    (hE : ∀ h' e, (∀ b o, b ∉ zsW n → s.heap.get? b = some o → h'.get? b = some o) → (∃ o, h'.get? e = some o ∧ o.cls = .type "StopIteration") → E (.ref e) { s with heap := h' }) :
    wpAny (model prog w) A (Builtin.«zip.__next__» ⟨[.ref (n + 4)], []⟩) Q E s := by
  obtain ⟨hz, hti, ⟨a, b, hto⟩, h1, h2⟩ := Z
  show wpAny _ _ (field (.ref (n + 4)) 2 >>= _) _ _ _
  refine wpAny_bind (wpAny_field hz rfl (x := .bool false) rfl ?_)
  show wpAny _ _ (field (.ref (n + 4)) 3 >>= _) _ _ _
  refine wpAny_bind (wpAny_field hz rfl (x := .ref (n + 2)) rfl ?_)
  refine wpAny_bind (wpAny_seqItems hti rfl ?_)
  show wpAny _ _ (Builtin.SmallTypes.ownedTupleIsFree (.ref (n + 4)) >>= _) _ _ _
  refine wpAny_bind ?_
  unfold Builtin.SmallTypes.ownedTupleIsFree
  refine wpAny_bind (wpAny_field hz rfl (x := .none) rfl (wpAny_pure ?_))
  simp only [if_true]
  refine wpAny_bind (wpAny_rule ?_)
  refine wpAny_bind (wpAny_field hz rfl (x := .ref (n + 3)) rfl ?_)
  refine wpAny_bind (wpAny_setField_rec hz (by simp) fun k₁ e₁ c₁ => ?_)
  replace e₁ : IsZip k₁ (n + 4) (n + 2) (n + 3) .ellipsis := e₁
  refine wpAny_bind ?_
  simp only [List.zipIdx_cons, List.zipIdx_nil, List.forIn_cons, List.forIn_nil]
  refine wpAny_bind (wpAny_bind (wpAny_onRaise ?_))
  show wpAny _ _ (Builtin.SmallTypes.nextOf (.ref n) >>= _) _ _ _
  refine wpAny_bind (wpAny_nextOf_ascii_end hh (h1.extBut c₁.extBut (n0 (by decide))) hx fun k₂ e c₂ he => ?_)
  obtain ⟨oe, hoe, hce⟩ := he
  have z₂ : IsZip k₂ (n + 4) (n + 2) (n + 3) .ellipsis := c₂ _ _ (Ne.symm (n0 (by decide))) e₁
  have ne : e ≠ n + 4 := fun q => by rw [q, z₂] at hoe; cases hoe; simp at hce
  refine wpAny_setField_rec z₂ (by simp) fun k₃ _ c₃ => hE k₃ e (fun b o hb q => ?_) ⟨oe, c₃.extBut _ _ ne hoe, hce⟩
  simp only [List.mem_cons, List.not_mem_nil, or_false, not_or] at hb
  exact c₃.extBut _ _ hb.2.2.2 (c₂ _ _ hb.1 (c₁.extBut _ _ hb.2.2.2 q))
theorem zs_item {Q : Option Value → Shared → Prop} (Z : ZS s.heap n x t y u i .none) (hx : x.cps[i]? = some c) (hy : y.cps[i]? = some d)
    (hQ : ∀ h' tk' (T : Addr) t1 t2, ZS h' n x t y u (i + 1) (rawInt T) → IsPair h' T (.str ⟨#[c]⟩ t1) (.str ⟨#[d]⟩ t2) → s.heap.get? T = none → (∀ b o, b ∉ zsW n → s.heap.get? b = some o → h'.get? b = some o) → Q (some (.ref T)) { s with heap := h', toks := tk' }) :
    wpAny (model prog w) A (pyNext (.ref (n + 4))) Q E s := by
  have hT : s.TypeIs (.ref (n + 4)) "zip" := ⟨_, Z.z, rfl⟩
  unfold pyNext
  exact wpAny_bind (wpAny_attempt (wpAny_callSpecial?_slot (name := Str.ofString "__next__") hT F.slot_zip_next
    (wpAny_call_entry F.slot_zip_next hT F.entry_zip_next (zs_next Z hx hy fun h' tk' T t1 t2 a1 a2 a3 a4 => wpAny_pure (hQ h' tk' T t1 t2 a1 a2 a3 a4)) (F.args_zip_next_1 _))))
theorem zs_end {Q : Option Value → Shared → Prop} (hh : A.handled = none) (Z : ZS s.heap n x t y u i .none) (hx : x.cps[i]? = none)
    (hQ : ∀ h', (∀ b o, b ∉ zsW n → s.heap.get? b = some o → h'.get? b = some o) → Q none { s with heap := h' }) : wpAny (model prog w) A (pyNext (.ref (n + 4))) Q E s := by
  have hT : s.TypeIs (.ref (n + 4)) "zip" := ⟨_, Z.z, rfl⟩
  unfold pyNext
  refine wpAny_bind (wpAny_attempt (wpAny_callSpecial?_slot (name := Str.ofString "__next__") hT F.slot_zip_next
    (wpAny_call_entry F.slot_zip_next hT F.entry_zip_next (zs_stop hh Z hx fun h' e hk he => ?_) (F.args_zip_next_1 _))))
  obtain ⟨o, ho, hc⟩ := he
  refine wpAny_bind (wpAny_isInstance (T := "StopIteration") (b := true) ⟨o, ho, hc⟩ isSubtype_stop ?_)
  exact wpAny_pure (hQ _ hk)
end
theorem zs_turns {prog : Program} {w : World} {A : Around} {elts : List Expr} {kk : Nat} {tp : Pos} {n : Addr} {x y : Str} {t u : Tok} (hh : A.handled = none) (hxy : x.cps.size = y.cps.size) :
    KTurns prog w A (.Tuple elts kk tp) (n + 4) [n, n + 1, n + 2, n + 3, n + 4] (zsW n) x.cps.size
      (fun i v h => ∃ (T : Addr) (c d : Nat) (t1 t2 : Tok), v = .ref T ∧ x.cps[i]? = some c ∧ y.cps[i]? = some d ∧ h.IsTuple T #[.str ⟨#[c]⟩ t1, .str ⟨#[d]⟩ t2])
      (fun i v h => ∃ (T : Addr) (c d : Nat) (t1 t2 : Tok), v = .ref T ∧ x.cps[i]? = some c ∧ y.cps[i]? = some d ∧ ZS h n x t y u (i + 1) (rawInt T) ∧ IsPair h T (.str ⟨#[c]⟩ t1) (.str ⟨#[d]⟩ t2) ∧ T ≠ n + 4)
      (fun i h => ZS h n x t y u i .none) where
  sub := fun b hb => by
    simp only [List.mem_cons, List.not_mem_nil, or_false] at hb ⊢
    rcases hb with h | h | h | h <;> simp [h]
  frame := fun i h h' Z hk => by
    obtain ⟨hz, hti, ⟨a, b, hto⟩, ⟨o1, g1, r1⟩, ⟨o2, g2, r2⟩⟩ := Z
    exact ⟨hk _ (by simp) _ hz, hk _ (by simp) _ hti, ⟨a, b, hk _ (by simp) _ hto⟩, ⟨o1, hk _ (by simp) _ g1, r1⟩, ⟨o2, hk _ (by simp) _ g2, r2⟩⟩
  item := fun i s Q E hi Z hQ => by
    have hi2 : i < y.cps.size := by rw [← hxy]; exact hi
    refine zs_item Z (Array.getElem?_eq_getElem hi) (Array.getElem?_eq_getElem hi2) fun h' tk' T t1 t2 a1 a2 a3 a4 => hQ _ h' tk' ⟨T, _, _, t1, t2, rfl, Array.getElem?_eq_getElem hi, Array.getElem?_eq_getElem hi2, a1, a2, ?_⟩ a4
    rintro rfl
    exact nomatch (a3.symm.trans Z.z)
  go := fun i v s Q E hM hQ => by
    obtain ⟨T, c, d, t1, t2, rfl, hx, hy, Z, hp, hne⟩ := hM
    obtain ⟨hz, hti, ⟨a, b, hto⟩, h1, h2⟩ := Z
    refine wpAny_letOwnedTupleGo_zip hz fun h' hz' hs' => hQ h' ⟨T, c, d, t1, t2, rfl, hx, hy, ⟨_, hs'.extBut _ _ hne hp, rfl, _, rfl⟩⟩
      ⟨hz', hs'.extBut _ _ (na (by decide)) hti, ⟨a, b, hs'.extBut _ _ (na (by decide)) hto⟩, h1.extBut hs'.extBut (n0 (by decide)), h2.extBut hs'.extBut (na (by decide))⟩ fun b o hb e => hs'.extBut _ _ (fun q => hb (by simp [q])) e
  done := fun s Q E Z hQ => zs_end hh Z (by simp) fun h' hk => hQ h' s.toks hk
end Mine
end

section
open PySem PySem.W PyProof.Rows PySem.Calls
set_option Elab.async false
set_option maxRecDepth 100000
set_option maxHeartbeats 0
namespace Mine
section
variable {prog : Program} {w : World} {A : Around} {E : Value → Shared → Prop} {s : Shared} {R : Result → Shared → Prop} {elt i1 i2 ct iter : Expr} {elts el2 : List Expr} {kk k2 : Nat} {tp tp2 : Pos} {scope : Scope} {pos : Pos} {it acc : Value} {env : Env}
abbrev noted (prog : Program) (w : World) (A : Around) (env : Env) (R : Result → Shared → Prop) : Value → Shared → Prop := notedBy (model prog w) A env fun e s' => R (.error e) s'
theorem comp1_raw {I : Addr} {fp wr : List Addr} {n : Nat} {P Md : Nat → Value → Heap → Prop} {St : Nat → Heap → Prop} (Wk : KTurns prog w A (.Tuple elts kk tp) I fp wr n P Md St) (J : Nat → Shared → Prop) (hst : St 0 s.heap) (hJ : J 0 s)
    (turn : ∀ i v s₀ h₁ tk₁, i < n → P i v h₁ → J i s₀ → St i s₀.heap → St (i + 1) h₁ → (∀ b o, b ∉ wr → s₀.heap.get? b = some o → h₁.get? b = some o) →
      wpAny (model prog w) A (assign (.Tuple elts kk tp) env v) (fun _ s₂ => wpAny (model prog w) A (eval elt env) (fun x s₃ => wpAny (model prog w) A (call (.builtin "list.append") [acc, x]) (fun _ s₄ => J (i + 1) s₄ ∧ St (i + 1) s₄.heap)
        (noted prog w A env R) s₃) (noted prog w A env R) s₂) (noted prog w A env R) { s₀ with heap := h₁, toks := tk₁ })
    (done : ∀ s₀ h₁ tk₁, J n s₀ → (∀ b o, b ∉ wr → s₀.heap.get? b = some o → h₁.get? b = some o) → R (.ok .next) { s₀ with heap := h₁, toks := tk₁ }) :
    codeAny (model prog w) A (.compLoop (.ListComp elt [⟨.Tuple elts kk tp, iter, [], 0⟩] scope pos) 0 (.ref I) acc env) R s := by
  refine LCp.codeAny_compLoop_pair (fun k s' => ∃ i, i ≤ n ∧ k = n + 1 - i ∧ J i s' ∧ St i s'.heap) ?_ (n + 1) ⟨0, Nat.zero_le _, rfl, hJ, hst⟩
  rintro k s' ⟨i, hi, rfl, hJ', hst'⟩
  by_cases hlt : i < n
  · refine Wk.item i _ _ _ hlt hst' fun v h₁ tk₁ hMd hk₁ => ?_
    refine Wk.go i v _ _ _ hMd fun h₂ hP hst₂ hk₂ => ?_
    refine wpAny_mono (turn i v s' h₂ tk₁ hlt hP hJ' hst' hst₂ fun b o hb x => hk₂ b o hb (hk₁ b o hb x)) (fun _ s₂ h₂ => wpAny_mono h₂ (fun x s₃ h₃ => wpAny_mono h₃ (fun _ s₄ h₄ => ?_) fun _ _ e => e) fun _ _ e => e) fun _ _ e => e
    exact ⟨n + 1 - (i + 1), by omega, i + 1, hlt, rfl, h₄⟩
  · obtain rfl : i = n := by omega
    exact Wk.done _ _ _ hst' fun h₁ tk₁ hk₁ => done s' h₁ tk₁ hJ' hk₁
-- two generators
theorem turn_out (t1 t2 : Expr) : compTurn (.ListComp elt [⟨t1, i1, [], 0⟩, ⟨t2, i2, [ct], 0⟩] scope pos) 0 it acc env = (do
    standAt i1.pos
    match ← pyNext it with
    | none => pure (.done .next)
    | some v =>
      letOwnedTupleGo t1 it v
      assign t1 env v
      let x ← eval i2 env
      standAt i2.pos
      let x ← foldedSetIterable i2 env x
      let _ ← runOwn (.compStart (.ListComp elt [⟨t1, i1, [], 0⟩, ⟨t2, i2, [ct], 0⟩] scope pos) 1 (← holding [x] (pyIter x)) acc env) env
      again (.compLoop (.ListComp elt [⟨t1, i1, [], 0⟩, ⟨t2, i2, [ct], 0⟩] scope pos) 0 it acc env)) := by rfl
theorem turn_in (t1 t2 : Expr) : compTurn (.ListComp elt [⟨t1, i1, [], 0⟩, ⟨t2, i2, [ct], 0⟩] scope pos) 1 it acc env = (do
    standAt i2.pos
    match ← pyNext it with
    | none => pure (.done .next)
    | some v =>
      letOwnedTupleGo t2 it v
      assign t2 env v
      let mut ok := true
      for c in [ct] do
        if ok then ok ← isTrue c env (eval c env)
      if ok then
        (do let _ ← call (.builtin "list.append") [acc, ← eval elt env])
      again (.compLoop (.ListComp elt [⟨t1, i1, [], 0⟩, ⟨t2, i2, [ct], 0⟩] scope pos) 1 it acc env)) := by rfl
abbrev lc2 (elt : Expr) (t1 i1 t2 i2 ct : Expr) (scope : Scope) (pos : Pos) : Expr := .ListComp elt [⟨t1, i1, [], 0⟩, ⟨t2, i2, [ct], 0⟩] scope pos
theorem in_raw {t1 : Expr} {I : Addr} {fp wr : List Addr} {n : Nat} {P Md : Nat → Value → Heap → Prop} {St : Nat → Heap → Prop} (Wk : KTurns prog w A (.Tuple elts kk tp) I fp wr n P Md St) (J : Nat → Shared → Prop) (hst : St 0 s.heap) (hJ : J 0 s)
    (turn : ∀ i v s₀ h₁ tk₁, i < n → P i v h₁ → J i s₀ → St i s₀.heap → St (i + 1) h₁ → (∀ b o, b ∉ wr → s₀.heap.get? b = some o → h₁.get? b = some o) →
      wpAny (model prog w) A (assign (.Tuple elts kk tp) env v) (fun _ s₂ => wpAny (model prog w) A (isTrue ct env (eval ct env)) (fun ok s₃ => ok = false ∧ J (i + 1) s₃ ∧ St (i + 1) s₃.heap) (noted prog w A env R) s₂) (noted prog w A env R) { s₀ with heap := h₁, toks := tk₁ })
    (done : ∀ s₀ h₁ tk₁, J n s₀ → (∀ b o, b ∉ wr → s₀.heap.get? b = some o → h₁.get? b = some o) → R (.ok .next) { s₀ with heap := h₁, toks := tk₁ }) :
    codeAny (model prog w) A (.compLoop (lc2 elt t1 i1 (.Tuple elts kk tp) i2 ct scope pos) 1 (.ref I) acc env) R s := by
  refine codeAny_loop rfl (fun k s' => ∃ i, i ≤ n ∧ k = n + 1 - i ∧ J i s' ∧ St i s'.heap) (fun k s' hI => ?_) (n + 1) ⟨0, Nat.zero_le _, rfl, hJ, hst⟩
  show wpAny _ A ((compTurn (lc2 elt t1 i1 (.Tuple elts kk tp) i2 ct scope pos) 1 (.ref I) acc env).onRaise (fun x => do noteFrame x env; theTreesLotGoes x)) _ _ s'
  refine wpAny_noted ?_
  rw [turn_in]
  obtain ⟨i, hi, rfl, hJ', hst'⟩ := hI
  refine wpAny_bind (wpAny_standAt (wpAny_bind ?_))
  by_cases hlt : i < n
  · refine Wk.item i _ _ _ hlt hst' fun v h₁ tk₁ hMd hk₁ => ?_
    refine wpAny_bind (Wk.go i v _ _ _ hMd fun h₂ hP hst₂ hk₂ => ?_)
    refine wpAny_bind (wpAny_mono (turn i v s' h₂ tk₁ hlt hP hJ' hst' hst₂ fun b o hb x => hk₂ b o hb (hk₁ b o hb x)) (fun _ s₂ h₂ => wpAny_bind (wpAny_mono (wpAny_tests_one h₂) (fun ok s₃ h₃ => ?_) fun _ _ e => e)) fun _ _ e => e)
    obtain ⟨rfl, h₃⟩ := h₃
    exact wpAny_pure ⟨rfl, n + 1 - (i + 1), by omega, i + 1, hlt, rfl, h₃⟩
  · obtain rfl : i = n := by omega
    exact Wk.done _ _ _ hst' fun h₁ tk₁ hk₁ => wpAny_pure (done s' h₁ tk₁ hJ' hk₁)
theorem start_in {t1 t2 : Expr} (h0 : codeAny (model prog w) A (.compLoop (lc2 elt t1 i1 t2 i2 ct scope pos) 1 it acc env) R s)
    (h : wpAny (model prog w) A (pyIter it) (fun it' s' => codeAny (model prog w) A (.compLoop (lc2 elt t1 i1 t2 i2 ct scope pos) 1 it' acc env) R s') (noted prog w A env R) s) :
    codeAny (model prog w) A (.compStart (lc2 elt t1 i1 t2 i2 ct scope pos) 1 it acc env) R s := by
  refine codeAny_of_tree ?_
  show wpAny _ _ ((compStart (lc2 elt t1 i1 t2 i2 ct scope pos) 1 it acc env).onRaise (fun x => do noteFrame x env; standAt theWindowsPlace)) _ _ s
  refine wpAny_notedAt ?_
  unfold compStart
  show wpAny _ _ (ask >>= _) _ _ s
  refine wpAny_bind (wpAny_askSetting (wpAny_ite ?_))
  split
  · first
      | exact wpAny_bind (wpAny_pure (wpAny_pure (And.intro rfl h0)))
      | exact wpAny_pure (And.intro rfl h0)
  · refine wpAny_bind (wpAny_rule ?_)
    show wpAny _ _ (standAt i2.pos >>= _) _ _ s
    exact wpAny_bind (wpAny_standAt (wpAny_bind (wpAny_mono h (fun it' s' h' => wpAny_pure (And.intro rfl h')) fun _ _ x => x)))
theorem out_raw {t2 : Expr} {I : Addr} {fp wr : List Addr} {n : Nat} {P Md : Nat → Value → Heap → Prop} {St : Nat → Heap → Prop} (Wk : KTurns prog w A (.Tuple elts kk tp) I fp wr n P Md St) (J : Nat → Shared → Prop) (hst : St 0 s.heap) (hJ : J 0 s)
    (hs : ∀ x, foldedSetIterable i2 env x = pure x)
    (turn : ∀ i v s₀ h₁ tk₁, i < n → P i v h₁ → J i s₀ → St i s₀.heap → St (i + 1) h₁ → (∀ b o, b ∉ wr → s₀.heap.get? b = some o → h₁.get? b = some o) →
      wpAny (model prog w) A (assign (.Tuple elts kk tp) env v) (fun _ s₂ => wpAny (model prog w) A (eval i2 env) (fun x s₃ => wpAny (model prog w) A (pyIter x) (fun it' s₄ =>
        codeAny (model prog w) A (.compStart (lc2 elt (.Tuple elts kk tp) i1 t2 i2 ct scope pos) 1 it' acc env) (fun r s₅ => match r with | .ok _ => J (i + 1) s₅ ∧ St (i + 1) s₅.heap | .error _ => False) s₄)
        (noted prog w A env R) s₃) (noted prog w A env R) s₂) (noted prog w A env R) { s₀ with heap := h₁, toks := tk₁ })
    (done : ∀ s₀ h₁ tk₁, J n s₀ → (∀ b o, b ∉ wr → s₀.heap.get? b = some o → h₁.get? b = some o) → R (.ok .next) { s₀ with heap := h₁, toks := tk₁ }) :
    codeAny (model prog w) A (.compLoop (lc2 elt (.Tuple elts kk tp) i1 t2 i2 ct scope pos) 0 (.ref I) acc env) R s := by
  refine codeAny_loop rfl (fun k s' => ∃ i, i ≤ n ∧ k = n + 1 - i ∧ J i s' ∧ St i s'.heap) (fun k s' hI => ?_) (n + 1) ⟨0, Nat.zero_le _, rfl, hJ, hst⟩
  show wpAny _ A ((compTurn (lc2 elt (.Tuple elts kk tp) i1 t2 i2 ct scope pos) 0 (.ref I) acc env).onRaise (fun x => do noteFrame x env; theTreesLotGoes x)) _ _ s'
  refine wpAny_noted ?_
  rw [turn_out]
  obtain ⟨i, hi, rfl, hJ', hst'⟩ := hI
  refine wpAny_bind (wpAny_standAt (wpAny_bind ?_))
  by_cases hlt : i < n
  · refine Wk.item i _ _ _ hlt hst' fun v h₁ tk₁ hMd hk₁ => ?_
    refine wpAny_bind (Wk.go i v _ _ _ hMd fun h₂ hP hst₂ hk₂ => ?_)
    refine wpAny_bind (wpAny_mono (turn i v s' h₂ tk₁ hlt hP hJ' hst' hst₂ fun b o hb x => hk₂ b o hb (hk₁ b o hb x)) (fun _ s₂ h₂ => ?_) fun _ _ e => e)
    refine wpAny_bind (wpAny_mono h₂ (fun x s₃ h₃ => ?_) fun _ _ e => e)
    refine wpAny_bind (wpAny_standAt (wpAny_bind (wpAny_of_eq (hs x) ?_)))
    refine wpAny_bind (wpAny_holding (wpAny_mono h₃ (fun it' s₄ h₄ => ?_) fun _ _ e => e))
    refine wpAny_bind (wpAny_runOwn (codeAny_mono h₄ fun r s₅ h₅ => ?_))
    cases r with
    | error e => exact h₅.elim
    | ok f => exact wpAny_pure ⟨rfl, n + 1 - (i + 1), by omega, i + 1, hlt, rfl, h₅⟩
  · obtain rfl : i = n := by omega
    exact Wk.done _ _ _ hst' fun h₁ tk₁ hk₁ => wpAny_pure (done s' h₁ tk₁ hJ' hk₁)
end
end Mine
end

section
open PySem PySem.W PyProof.Rows PySem.Calls
set_option Elab.async false
set_option maxRecDepth 100000
set_option maxHeartbeats 0
namespace Mine
section
variable {prog : Program} {w : World} {A : Around} {E : Value → Shared → Prop} {s : Shared} {g : Heap} {L : Addr} {m : Str → Option Value} {env : Env}
theorem comp_enter {scope : Scope} {cl : List (Str × Addr)} {e : Expr} {it : Value} {news : List (Addr × Obj)} {RR : Value → Addr → Result → Shared → Prop}
    (hcell : ∀ y ∈ scope.names, y.2 ≠ .cell) (hkind : scope.kind = .function) (F : Fr g L s.heap m) (N : News g L s.heap news)
    (h : ∀ D C h tk oC m₂, Fr g L h m → News g L h ((C, oC) :: (D, listOf [].toArray 0) :: news) → LCg.NsObj oC m₂ → (∀ p ∈ news, p.1 ≠ C ∧ p.1 ≠ D) → C ≠ D → (∀ b o, s.heap.get? b = some o → h.get? b = some o) →
      codeAny (model prog w) A (.compStart e 0 it (.ref D) (compEnvC scope cl C env)) (RR (.ref D) C) { s with heap := h, toks := tk }) :
    wpAny (model prog w) A (newList []) (fun acc s₃ => wpAny (model prog w) A (newFunctionEnv scope env.globals cl [] env.qual none .none (some env)) (fun cenv s₄ =>
      codeAny (model prog w) A (.compStart e 0 it acc { cenv with scope := relabel scope env }) (RR acc cenv.locals) s₄) E s₃) E s := by
  refine wpAny_newObj_type (wpAny_newFunctionEnv hcell (by intro y hy; simp at hy) (fun h₁ hn₁ hb₁ => ?_) hkind)
  dsimp only at hn₁ hb₁ ⊢
  generalize hH : s.heap.push { cls := .type "list", dict := none, data := .seq ([] : List Value).toArray } = H at hn₁ hb₁ ⊢
  have hC : H.objs.size = s.heap.objs.size + 1 := by rw [← hH, Heap.size_push]
  have neC : ∀ b, b < s.heap.objs.size + 1 → b ≠ H.objs.size := fun b hb q => by rw [q, hC] at hb; exact Nat.lt_irrefl _ hb
  have up : ∀ b o, s.heap.get? b = some o → h₁.get? b = some o := fun b o e => hb₁.extBut b o (neC b (Nat.lt_succ_of_lt (Heap.lt_size e))) (Heap.get?_push_of_some _ (hH ▸ Heap.get?_push_of_some _ e))
  have hD : h₁.get? s.heap.objs.size = some (listOf [].toArray 0) := hb₁.extBut _ _ (neC _ (Nat.lt_succ_self _)) (Heap.get?_push_of_some _ (hH ▸ Heap.get?_push_size _ rfl))
  obtain ⟨oC, heC, hoC⟩ := LCg.ns_obj hn₁
  have none₀ : ∀ a, s.heap.objs.size ≤ a → g.get? a = none := fun a ha => by
    cases q : g.get? a with
    | none => rfl
    | some o => exact absurd (Heap.lt_size (F.keep _ _ q)) (Nat.not_lt.mpr ha)
  have hL : L < s.heap.objs.size := fr_lt F
  refine h s.heap.objs.size H.objs.size h₁ _ oC _ (fr_all F up) (fun p hp => ?_) hoC (fun p hp => ?_) (by rw [hC]; exact Nat.ne_of_gt (Nat.lt_succ_self _)) up
  · rcases List.mem_cons.mp hp with rfl | hp
    · exact ⟨heC, (neC L (Nat.lt_succ_of_lt hL)).symm, none₀ _ (by rw [hC]; exact Nat.le_succ _)⟩
    rcases List.mem_cons.mp hp with rfl | hp
    · exact ⟨hD, Nat.ne_of_gt hL, none₀ _ (Nat.le_refl _)⟩
    · exact ⟨up _ _ (N p hp).1, (N p hp).2⟩
  · have lt := Heap.lt_size (N p hp).1
    exact ⟨neC _ (Nat.lt_succ_of_lt lt), Nat.ne_of_lt lt⟩
/-- the state of a zip over two lists -/
def ZL (h : Heap) (n l1 l2 : Addr) (xs ys : List Value) (i : Nat) : Prop :=
  IsZip h (n + 4) (n + 2) (n + 3) .none ∧ IsPair h (n + 2) (.ref n) (.ref (n + 1)) ∧ (∃ a b, IsPair h (n + 3) a b) ∧ h.IsListIter n l1 i ∧ h.IsListIter (n + 1) l2 i ∧ h.IsList l1 xs.toArray ∧ h.IsList l2 ys.toArray
abbrev five (n : Addr) (o0 o1 o2 o3 o4 : Obj) (W : List (Addr × Obj)) : List (Addr × Obj) := (n, o0) :: (n + 1, o1) :: (n + 2, o2) :: (n + 3, o3) :: (n + 4, o4) :: W
theorem ZL.objs {h : Heap} {n l1 l2 : Addr} {xs ys : List Value} {i : Nat} (Z : ZL h n l1 l2 xs ys i) : ∃ o0 o1 o2 o3 o4, h.get? n = some o0 ∧ h.get? (n + 1) = some o1 ∧ h.get? (n + 2) = some o2 ∧ h.get? (n + 3) = some o3 ∧ h.get? (n + 4) = some o4 := by
  obtain ⟨hz, hti, ⟨a, b, hto⟩, ⟨q0, e0, _⟩, ⟨q1, e1, _⟩, _, _⟩ := Z
  exact ⟨q0, q1, _, _, _, e0, e1, hti, hto, hz⟩
theorem ZL.mk {h h₀ : Heap} {n l1 l2 : Addr} {xs ys : List Value} {i : Nat} (Z : ZL h₀ n l1 l2 xs ys i) (hk : ∀ b ∈ [n + 4, n + 2, n + 3, n, n + 1, l1, l2], ∀ o, h₀.get? b = some o → h.get? b = some o) : ZL h n l1 l2 xs ys i := by
  obtain ⟨hz, hti, ⟨a, b, hto⟩, ⟨q0, e0, r0⟩, ⟨q1, e1, r1⟩, ⟨q2, e2, r2⟩, ⟨q3, e3, r3⟩⟩ := Z
  exact ⟨hk _ (by simp) _ hz, hk _ (by simp) _ hti, ⟨a, b, hk _ (by simp) _ hto⟩, ⟨q0, hk _ (by simp) _ e0, r0⟩, ⟨q1, hk _ (by simp) _ e1, r1⟩, ⟨q2, hk _ (by simp) _ e2, r2⟩, ⟨q3, hk _ (by simp) _ e3, r3⟩⟩
theorem zl_turns {elts : List Expr} {kk : Nat} {tp : Pos} {n l1 l2 : Addr} {xs ys : List Value} (hh : A.handled = none) (hl : xs.length = ys.length) (h1 : l1 < n) (h2 : l2 < n) :
    ∃ Md, KTurns prog w A (.Tuple elts kk tp) (n + 4) [n + 4, n + 2, n + 3, n, n + 1, l1, l2] [n + 4, n + 3, n, n + 1] xs.length
      (fun i v h => ∃ T vals, v = .ref T ∧ (∃ x y, xs.toArray[i]? = some x ∧ ys.toArray[i]? = some y ∧ vals = #[x, y]) ∧ h.IsTuple T vals) Md (fun i h => ZL h n l1 l2 xs ys i) := by
  have := KTurns.ofWalksU (elts := elts) (k := kk) (pos := tp) (WalksT.zip2 (prog := prog) (w := w) (A := A) hh (n + 4) (n + 2) (n + 3) n (n + 1) l1 l2 (zipApart_new h1 h2) xs.toArray ys.toArray).toU
  have e : min xs.toArray.size ys.toArray.size = xs.length := by simp [hl]
  rw [e] at this
  exact ⟨_, this⟩
end
end Mine
end

section
open PySem PySem.W PyProof.Rows PySem.Calls
set_option Elab.async false
set_option maxRecDepth 100000
set_option maxHeartbeats 0
namespace Mine
section
variable {prog : Program} {w : World} {A : Around} {E : Value → Shared → Prop} {s : Shared} {g : Heap} {L : Addr} {m : Str → Option Value} {env : Env} {W : List (Addr × Obj)}
theorem call_zl {l1 l2 : Addr} {xs ys : List Value} {Q : Value → Shared → Prop} (F : Fr g L s.heap m) (N : News g L s.heap W) (h1 : s.heap.IsList l1 xs.toArray) (h2 : s.heap.IsList l2 ys.toArray)
    (k : ∀ h' n o0 o1 o2 o3 o4, ZL h' n l1 l2 xs ys 0 → Fr g L h' m → News g L h' (five n o0 o1 o2 o3 o4 W) → l1 < n → l2 < n → (∀ p ∈ W, p.1 < n) → Q (.ref (n + 4)) { s with heap := h' }) :
    wpAny (model prog w) A (call (.type "zip") [.ref l1, .ref l2]) Q E s := by
  refine call_zip_2 h1 h2 fun h' hz hti hto hi1 hi2 hsz hk => ?_
  have Z : ZL h' s.heap.objs.size l1 l2 xs ys 0 := ⟨hz, hti, ⟨_, _, hto⟩, hi1, hi2, h1.at fun o e => hk _ o e, h2.at fun o e => hk _ o e⟩
  obtain ⟨o0, o1, o2, o3, o4, e0, e1, e2, e3, e4⟩ := Z.objs
  have hL := fr_lt F
  have none₀ : ∀ a, s.heap.objs.size ≤ a → g.get? a = none := fun a ha => by
    cases q : g.get? a with
    | none => rfl
    | some o => exact absurd (Heap.lt_size (F.keep _ _ q)) (Nat.not_lt.mpr ha)
  have fresh : ∀ a, s.heap.objs.size ≤ a → a ≠ L ∧ g.get? a = none := fun a ha => ⟨Nat.ne_of_gt (Nat.lt_of_lt_of_le hL ha), none₀ a ha⟩
  refine k h' s.heap.objs.size o0 o1 o2 o3 o4 Z (fr_all F hk) (fun p hp => ?_) (by obtain ⟨_, e, _⟩ := h1; exact Heap.lt_size e) (by obtain ⟨_, e, _⟩ := h2; exact Heap.lt_size e) fun p hp => Heap.lt_size (N p hp).1
  rcases List.mem_cons.mp hp with rfl | hp
  · exact ⟨e0, fresh _ (Nat.le_refl _)⟩
  rcases List.mem_cons.mp hp with rfl | hp
  · exact ⟨e1, fresh _ (Nat.le_add_right _ _)⟩
  rcases List.mem_cons.mp hp with rfl | hp
  · exact ⟨e2, fresh _ (Nat.le_add_right _ _)⟩
  rcases List.mem_cons.mp hp with rfl | hp
  · exact ⟨e3, fresh _ (Nat.le_add_right _ _)⟩
  rcases List.mem_cons.mp hp with rfl | hp
  · exact ⟨e4, fresh _ (Nat.le_add_right _ _)⟩
  · exact ⟨hk _ _ (N p hp).1, (N p hp).2⟩
theorem led_frame {h h' : Heap} {b : Addr} {o ob : Obj} {W W' : List (Addr × Obj)} (N : News g L h W) (N' : News g L h' W') (h1 : (b, ob) ∈ W) (h2 : (b, ob) ∈ W') (e : h.get? b = some o) : h'.get? b = some o := by
  have e1 := (N _ h1).1
  simp only at e1
  rw [e] at e1
  cases e1
  exact (N' _ h2).1
/-- the ledger's five objects are changed by a turn of the zip -/
theorem five_step {h h' : Heap} {n : Addr} {o0 o1 o2 o3 o4 : Obj} {W : List (Addr × Obj)} (N : News g L h (five n o0 o1 o2 o3 o4 W)) (hW : ∀ p ∈ W, p.1 ∉ [n + 4, n + 3, n, n + 1])
    (hk : ∀ b o, b ∉ [n + 4, n + 3, n, n + 1] → h.get? b = some o → h'.get? b = some o) (l : ∃ q0 q1 q2 q3 q4, h'.get? n = some q0 ∧ h'.get? (n + 1) = some q1 ∧ h'.get? (n + 2) = some q2 ∧ h'.get? (n + 3) = some q3 ∧ h'.get? (n + 4) = some q4) :
    ∃ q0 q1 q2 q3 q4, News g L h' (five n q0 q1 q2 q3 q4 W) := by
  obtain ⟨q0, q1, q2, q3, q4, e0, e1, e2, e3, e4⟩ := l
  refine ⟨q0, q1, q2, q3, q4, fun p hp => ?_⟩
  rcases List.mem_cons.mp hp with rfl | hp
  · exact ⟨e0, (N (n, o0) (.head _)).2⟩
  rcases List.mem_cons.mp hp with rfl | hp
  · exact ⟨e1, (N (n + 1, o1) (.tail _ (.head _))).2⟩
  rcases List.mem_cons.mp hp with rfl | hp
  · exact ⟨e2, (N (n + 2, o2) (.tail _ (.tail _ (.head _)))).2⟩
  rcases List.mem_cons.mp hp with rfl | hp
  · exact ⟨e3, (N (n + 3, o3) (.tail _ (.tail _ (.tail _ (.head _))))).2⟩
  rcases List.mem_cons.mp hp with rfl | hp
  · exact ⟨e4, (N (n + 4, o4) (.tail _ (.tail _ (.tail _ (.tail _ (.head _)))))).2⟩
  · exact ⟨hk _ _ (hW p hp) (N p (.tail _ (.tail _ (.tail _ (.tail _ (.tail _ hp)))))).1, (N p (.tail _ (.tail _ (.tail _ (.tail _ (.tail _ hp)))))).2⟩
theorem five_fr {h h' : Heap} {n : Addr} {o0 o1 o2 o3 o4 : Obj} {W : List (Addr × Obj)} (F : Fr g L h m) (N : News g L h (five n o0 o1 o2 o3 o4 W)) (hk : ∀ b o, b ∉ [n + 4, n + 3, n, n + 1] → h.get? b = some o → h'.get? b = some o) : Fr g L h' m := by
  have x0 := (N (n, o0) (.head _)).2
  have x1 := (N (n + 1, o1) (.tail _ (.head _))).2
  have x3 := (N (n + 3, o3) (.tail _ (.tail _ (.tail _ (.head _))))).2
  have x4 := (N (n + 4, o4) (.tail _ (.tail _ (.tail _ (.tail _ (.head _)))))).2
  refine fr_keep F (wr := [n + 4, n + 3, n, n + 1]) ?_ ?_ hk
  · simp only [List.mem_cons, List.not_mem_nil, or_false, not_or]
    exact ⟨Ne.symm x4.1, Ne.symm x3.1, Ne.symm x0.1, Ne.symm x1.1⟩
  · intro b hb
    simp only [List.mem_cons, List.not_mem_nil, or_false] at hb
    rcases hb with rfl | rfl | rfl | rfl
    · exact x4.2
    · exact x3.2
    · exact x0.2
    · exact x1.2
theorem Assign_Z {elt iter : Expr} {x x₂ y : Str} {px px₂ tp py : Pos} {kk : Nat} {scope : Scope} {cl : List (Str × Addr)} {pos spos : Pos} {Q : Flow → Shared → Prop} {l1 l2 : Addr} {xs ys : List Value} (J : Nat → List Value → Prop)
    (hLe : env.locals = L) (hsw : swapsWith (.ListComp elt [⟨.Tuple [.Name x px, .Name x₂ px₂] kk tp, iter, [], 0⟩] scope pos) (some (.Name y py)) spos.line env = pure true)
    (hclos : closureFor scope env = pure cl) (hcell : ∀ z ∈ scope.names, z.2 ≠ .cell) (hkind : scope.kind = .function)
    (hnames : ∀ z ∈ scope.names, z.2 = .local → scope.names.lookup z.1 = some .local) (hx : scope.names.lookup x = some .local) (hx₂ : scope.names.lookup x₂ = some .local) (hxx : x ≠ x₂)
    (hy : env.kindOf y = some .local) (hp : (env.scope.kind == .class || (env.scope.kind == .module && env.locals != env.globals)) = false) (hh : A.handled = none)
    (h : wpAny (model prog w) A (eval iter env) (fun xv s₁ => ∃ h₁ tk₁ n o0 o1 o2 o3 o4, s₁ = { s with heap := h₁, toks := tk₁ } ∧ xv = .ref (n + 4) ∧ ZL h₁ n l1 l2 xs ys 0 ∧ Fr g L h₁ m ∧ News g L h₁ (five n o0 o1 o2 o3 o4 W) ∧ l1 < n ∧ l2 < n ∧ ∀ p ∈ W, p.1 < n) E s)
    (hl : xs.length = ys.length) (hW1 : ∃ o, (l1, o) ∈ W) (hW2 : ∃ o, (l2, o) ∈ W) (hsz : xs.length ≤ 1000)
    (turn : ∀ i zs np v₁ v₂ n o0 o1 o2 o3 o4 C oC D m₂ h tk (E' : Value → Shared → Prop), xs[i]? = some v₁ → ys[i]? = some v₂ → J i zs → LCg.NsObj oC m₂ → m₂ x = some v₁ → m₂ x₂ = some v₂ → Fr g L h m → News g L h (five n o0 o1 o2 o3 o4 ((C, oC) :: (D, listOf zs.toArray np) :: W)) →
      wpAny (model prog w) A (eval elt (compEnvC scope cl C env)) (fun v s' => EndK g L m s (five n o0 o1 o2 o3 o4 ((C, oC) :: (D, listOf zs.toArray np) :: W)) (J (i + 1) (zs ++ [v])) s') E' { s with heap := h, toks := tk })
    (h0 : J 0 [])
    (fin : ∀ zs np D h tk, J xs.length zs → Fr g L h (fun z => if z = y then some (.ref D) else m z) → News g L h ((D, listOf zs.toArray np) :: W) → Q .next { s with heap := h, toks := tk })
    (hs : ∀ x, foldedSetIterable iter env x = pure x := by intro _; rfl) :
    wpAny (model prog w) A (exec (.Assign [.Name y py] (.ListComp elt [⟨.Tuple [.Name x px, .Name x₂ px₂] kk tp, iter, [], 0⟩] scope pos) spos) env) Q E s := by
  subst hLe
  rw [exec_Assign_Name_used _ _ _ _ hsw]
  refine wpAny_bind (wpAny_standAt (wpAny_bind ?_))
  show wpAny _ A (do let _ ← comprehension (.ListComp elt [⟨.Tuple [.Name x px, .Name x₂ px₂] kk tp, iter, [], 0⟩] scope pos) scope env _ (newList []) false (eval iter env) (some (assign (.Name y py) env))) _ _ s
  refine wpAny_bind (wpAny_mono (wpAny_comprehension_free (use := some (assign (.Name y py) env)) (Q := fun _ s' => Q .next s') rfl hs hclos hkind hnames
    (wpAny_mono h (fun xv s₁ h₁ => ?_) fun _ _ e => e)) (fun _ s' hq => wpAny_pure (wpAny_pure hq)) fun _ _ e => e)
  obtain ⟨h₁, tk₁, n, o0, o1, o2, o3, o4, rfl, rfl, Z, F, N, lt1, lt2, lW⟩ := h₁
  refine wpAny_pyIter_zip Z.1 ?_
  refine comp_enter (cl := cl) hcell hkind F N fun D C h₂ tk₂ oC m₂ F₂ N₂ hoC off hCD old => ?_
  obtain ⟨Md, Wk⟩ := zl_turns (prog := prog) (w := w) (elts := [.Name x px, .Name x₂ px₂]) (kk := kk) (tp := tp) (xs := xs) (ys := ys) hh hl lt1 lt2
  have Z₂ : ZL h₂ n l1 l2 xs ys 0 := Z.mk fun b _ o e => old b o e
  have nW : ∀ p ∈ W, p.1 ∉ [n + 4, n + 3, n, n + 1] := fun p hp hm => by
    have := lW p hp
    simp only [List.mem_cons, List.not_mem_nil, or_false] at hm
    rcases hm with e | e | e | e <;> rw [e] at this
    · exact absurd this (Nat.not_lt.mpr (Nat.le_add_right _ _))
    · exact absurd this (Nat.not_lt.mpr (Nat.le_add_right _ _))
    · exact Nat.lt_irrefl _ this
    · exact absurd this (Nat.not_lt.mpr (Nat.le_add_right _ _))
  have m0 : (n, o0) ∈ five n o0 o1 o2 o3 o4 W := .head _
  have m1 : (n + 1, o1) ∈ five n o0 o1 o2 o3 o4 W := .tail _ (.head _)
  have m2 : (n + 2, o2) ∈ five n o0 o1 o2 o3 o4 W := .tail _ (.tail _ (.head _))
  have m3 : (n + 3, o3) ∈ five n o0 o1 o2 o3 o4 W := .tail _ (.tail _ (.tail _ (.head _)))
  have m4 : (n + 4, o4) ∈ five n o0 o1 o2 o3 o4 W := .tail _ (.tail _ (.tail _ (.tail _ (.head _))))
  have nCD : ∀ b, b ∈ [n + 4, n + 3, n, n + 1] → b ≠ C ∧ b ≠ D := fun b hb => by
    simp only [List.mem_cons, List.not_mem_nil, or_false] at hb
    rcases hb with rfl | rfl | rfl | rfl
    · exact off _ m4
    · exact off _ m3
    · exact off _ m0
    · exact off _ m1
  have offW : ∀ p ∈ W, p.1 ≠ C ∧ p.1 ≠ D := fun p hp => off p (.tail _ (.tail _ (.tail _ (.tail _ (.tail _ hp)))))
  have N₃ : News g env.locals h₂ (five n o0 o1 o2 o3 o4 ((C, oC) :: (D, listOf [].toArray 0) :: W)) := news_sub N₂ fun p hp => by
    simp only [List.mem_cons] at hp ⊢
    rcases hp with h | h | h | h | h | h | h | h <;> simp [h]
  have loop : codeAny (model prog w) A (.compLoop (.ListComp elt [⟨.Tuple [.Name x px, .Name x₂ px₂] kk tp, iter, [], 0⟩] scope pos) 0 (.ref (n + 4)) (.ref D) (compEnvC scope cl C env))
      (compPost (model prog w) A E (some (assign (.Name y py) env)) (fun _ s' => Q .next s') (.ref D) C) { s with heap := h₂, toks := tk₂ } := by
    refine comp1_raw Wk (fun i s' => ∃ h' tk' zs np q0 q1 q2 q3 q4 qC mC, s' = { s with heap := h', toks := tk' } ∧ Fr g env.locals h' m ∧ News g env.locals h' (five n q0 q1 q2 q3 q4 ((C, qC) :: (D, listOf zs.toArray np) :: W)) ∧ LCg.NsObj qC mC ∧ J i zs ∧ zs.length = i)
      Z₂ ⟨h₂, tk₂, [], 0, o0, o1, o2, o3, o4, oC, m₂, rfl, F₂, N₃, hoC, h0, rfl⟩ ?_ ?_
    · rintro i v s₀ h₃ tk₃ hi ⟨T, vals, rfl, ⟨v₁, v₂, hv₁, hv₂, rfl⟩, hT⟩ ⟨h', tk', zs, np, q0, q1, q2, q3, q4, qC, mC, rfl, F', N', hqC, hJ, hzl⟩ Z' Z₃ hk₃
      have F₃ := five_fr F' N' hk₃
      obtain ⟨r0, r1, r2, r3, r4, N₄⟩ := five_step N' (fun p hp => by
        rcases List.mem_cons.mp hp with rfl | hp
        · exact fun hm => (nCD C hm).1 rfl
        rcases List.mem_cons.mp hp with rfl | hp
        · exact fun hm => (nCD D hm).2 rfl
        · exact nW p hp) hk₃ Z₃.objs
      have hC := N₄ (C, qC) (.tail _ (.tail _ (.tail _ (.tail _ (.tail _ (.head _))))))
      refine kcp_assign hh hT (lookup_relabel_local hx) (lookup_relabel_local hx₂) (by simp [compEnvC, relabel, hkind]) (hqC.ns hC.1) fun h₅ tk₅ hn₅ hk₅ => ?_
      obtain ⟨oC₅, heC₅, hoC₅⟩ := LCg.ns_obj hn₅
      have F₅ : Fr g env.locals h₅ m := fr_but1 F₃ hC.2.1 hC.2.2 fun b o hb e => hk₅ b o hb e
      have N₅ : News g env.locals h₅ (five n r0 r1 r2 r3 r4 ((C, oC₅) :: (D, listOf zs.toArray np) :: W)) := news_chg N₄ (ch := [C]) (fun b o hb e => hk₅ b o (fun q => hb (List.mem_singleton.mpr q)) e) fun p hp => by
        rcases List.mem_cons.mp hp with rfl | hp
        · exact .inl ⟨.head _, by simpa using (off _ m0).1⟩
        rcases List.mem_cons.mp hp with rfl | hp
        · exact .inl ⟨.tail _ (.head _), by simpa using (off _ m1).1⟩
        rcases List.mem_cons.mp hp with rfl | hp
        · exact .inl ⟨.tail _ (.tail _ (.head _)), by simpa using (off _ m2).1⟩
        rcases List.mem_cons.mp hp with rfl | hp
        · exact .inl ⟨.tail _ (.tail _ (.tail _ (.head _))), by simpa using (off _ m3).1⟩
        rcases List.mem_cons.mp hp with rfl | hp
        · exact .inl ⟨.tail _ (.tail _ (.tail _ (.tail _ (.head _)))), by simpa using (off _ m4).1⟩
        rcases List.mem_cons.mp hp with rfl | hp
        · exact .inr ⟨heC₅, hC.2⟩
        rcases List.mem_cons.mp hp with rfl | hp
        · exact .inl ⟨.tail _ (.tail _ (.tail _ (.tail _ (.tail _ (.tail _ (.head _)))))), by simpa using Ne.symm hCD⟩
        · exact .inl ⟨.tail _ (.tail _ (.tail _ (.tail _ (.tail _ (.tail _ (.tail _ hp)))))), by simpa using (offW p hp).1⟩
      refine wpAny_mono (turn i zs np v₁ v₂ n r0 r1 r2 r3 r4 C oC₅ D _ h₅ tk₅ _ (by simpa using hv₁) (by simpa using hv₂) hJ hoC₅ (by simp [hxx]) (by simp) F₅ N₅) (fun v s₆ h₆ => ?_) fun _ _ e => e
      obtain ⟨h₆, tk₆, rfl, F₆, N₆, hJ₆⟩ := h₆
      refine app_at F₆ (np := np) (xs := zs) (W := five n r0 r1 r2 r3 r4 ((C, oC₅) :: W)) (news_sub N₆ fun p hp => by
        simp only [List.mem_cons] at hp ⊢
        rcases hp with h | h | h | h | h | h | h | h <;> simp [h]) (fun p hp => ?_) (by rw [hzl]; exact Nat.le_trans (Nat.le_of_lt hi) hsz) fun h₇ np₇ F₇ N₇ => ?_
      · rcases List.mem_cons.mp hp with rfl | hp
        · exact (off _ m0).2
        rcases List.mem_cons.mp hp with rfl | hp
        · exact (off _ m1).2
        rcases List.mem_cons.mp hp with rfl | hp
        · exact (off _ m2).2
        rcases List.mem_cons.mp hp with rfl | hp
        · exact (off _ m3).2
        rcases List.mem_cons.mp hp with rfl | hp
        · exact (off _ m4).2
        rcases List.mem_cons.mp hp with rfl | hp
        · exact hCD
        · exact (offW p hp).2
      · refine ⟨⟨h₇, tk₆, zs ++ [v], np₇, r0, r1, r2, r3, r4, oC₅, _, rfl, F₇, news_sub N₇ fun p hp => by
          simp only [List.mem_cons] at hp ⊢
          rcases hp with h | h | h | h | h | h | h | h <;> simp [h], hoC₅, hJ₆, by rw [List.length_append, hzl]; rfl⟩, Z₃.mk fun b hb o e => ?_⟩
        have step : ∀ ob, (b, ob) ∈ five n r0 r1 r2 r3 r4 W → b ≠ C → h₇.get? b = some o := fun ob hm hbC => by
          have e₅ := hk₅ b o hbC e
          refine led_frame N₅ N₇ (ob := ob) ?_ ?_ e₅
          · simp only [List.mem_cons] at hm ⊢
            rcases hm with h | h | h | h | h | h <;> simp [h]
          · simp only [List.mem_cons] at hm ⊢
            rcases hm with h | h | h | h | h | h <;> simp [h]
        simp only [List.mem_cons, List.not_mem_nil, or_false] at hb
        rcases hb with rfl | rfl | rfl | rfl | rfl | rfl | rfl
        · exact step r4 (.tail _ (.tail _ (.tail _ (.tail _ (.head _))))) (off _ m4).1
        · exact step r2 (.tail _ (.tail _ (.head _))) (off _ m2).1
        · exact step r3 (.tail _ (.tail _ (.tail _ (.head _)))) (off _ m3).1
        · exact step r0 (.head _) (off _ m0).1
        · exact step r1 (.tail _ (.head _)) (off _ m1).1
        · obtain ⟨ob, hob⟩ := hW1
          exact step ob (.tail _ (.tail _ (.tail _ (.tail _ (.tail _ hob))))) (offW _ hob).1
        · obtain ⟨ob, hob⟩ := hW2
          exact step ob (.tail _ (.tail _ (.tail _ (.tail _ (.tail _ hob))))) (offW _ hob).1
    · rintro s₀ h₃ tk₃ ⟨h', tk', zs, np, q0, q1, q2, q3, q4, qC, mC, rfl, F', N', hqC, hJ, hzl⟩ hk₃
      have F₃ := five_fr F' N' hk₃
      have hC := N' (C, qC) (.tail _ (.tail _ (.tail _ (.tail _ (.tail _ (.head _))))))
      have hC₃ : h₃.get? C = some qC := hk₃ _ _ (fun hm => (nCD C hm).1 rfl) hC.1
      have N₄ : News g env.locals h₃ ((D, listOf zs.toArray np) :: W) := fun p hp => by
        rcases List.mem_cons.mp hp with rfl | hp
        · have z := N' (D, listOf zs.toArray np) (.tail _ (.tail _ (.tail _ (.tail _ (.tail _ (.tail _ (.head _)))))))
          exact ⟨hk₃ _ _ (fun hm => (nCD D hm).2 rfl) z.1, z.2⟩
        · have z := N' p (.tail _ (.tail _ (.tail _ (.tail _ (.tail _ (.tail _ (.tail _ hp)))))))
          exact ⟨hk₃ _ _ (nW p hp) z.1, z.2⟩
      show wpAny _ A (assign (.Name y py) env (.ref D)) _ _ _
      refine wpAny_assign_Name (wpAny_storeName_local hy F₃.ns (fun h₄ hn₄ hs₄ => ?_) hp)
      have gL : g.get? env.locals = none := Heap.get?_none_of_le F₃.above
      have F₄ : Fr g env.locals h₄ (fun z => if z = y then some (.ref D) else m z) := ⟨hn₄, fun b o e => hs₄.extBut b o (fun q => by rw [q, gL] at e; cases e) (F₃.keep b o e), F₃.above⟩
      refine ⟨mC, (hqC.ns hC₃).sameBut hs₄ hC.2.1, fun h₅ hs₅ => fin zs np D h₅ _ hJ (F₄.change hs₅ hC.2.1 hC.2.2) fun p hp => ?_⟩
      refine ⟨hs₅.extBut _ _ ?_ (hs₄.extBut _ _ (N₄ p hp).2.1 (N₄ p hp).1), (N₄ p hp).2⟩
      rcases List.mem_cons.mp hp with rfl | hp
      · exact Ne.symm hCD
      · exact (offW p hp).1
  exact codeAny_compStart_list loop (wpAny_pyIter_zip Z₂.1 loop)
end
end Mine
end

section
open PySem PySem.W PyProof.Rows PySem.Calls
set_option Elab.async false
set_option maxRecDepth 100000
set_option maxHeartbeats 0
namespace Mine
section
variable {prog : Program} {w : World} {A : Around} {E : Value → Shared → Prop} {s : Shared} {g : Heap} {L : Addr} {m : Str → Option Value} {env : Env} {W : List (Addr × Obj)}
theorem five_fp {n l1 l2 b : Addr} {P : Addr → Prop} (hb : b ∈ [n + 4, n + 2, n + 3, n, n + 1, l1, l2]) (h0 : P n) (h1 : P (n + 1)) (h2 : P (n + 2)) (h3 : P (n + 3)) (h4 : P (n + 4)) (k1 : P l1) (k2 : P l2) : P b := by
  simp only [List.mem_cons, List.not_mem_nil, or_false] at hb
  rcases hb with rfl | rfl | rfl | rfl | rfl | rfl | rfl <;> assumption
/-- a comprehension over zip(l1, l2) and, within, over zip of two texts, whose test never holds -/
theorem ListComp_ZZ {elt i1 i2 ct : Expr} {x x₂ y₁ y₂ : Str} {px px₂ tp py₁ py₂ tp2 : Pos} {kk k2 : Nat} {scope : Scope} {cl : List (Str × Addr)} {pos : Pos} {Q : Value → Shared → Prop} {l1 l2 : Addr} {xs ys : List Value} (Good : Nat → Str → Str → Prop)
    (hclos : closureFor scope env = pure cl) (hcell : ∀ z ∈ scope.names, z.2 ≠ .cell) (hkind : scope.kind = .function)
    (hnames : ∀ z ∈ scope.names, z.2 = .local → scope.names.lookup z.1 = some .local) (hx : scope.names.lookup x = some .local) (hx₂ : scope.names.lookup x₂ = some .local) (hxx : x ≠ x₂)
    (hy₁ : scope.names.lookup y₁ = some .local) (hy₂ : scope.names.lookup y₂ = some .local) (hyy : y₁ ≠ y₂) (hh : A.handled = none)
    (h : wpAny (model prog w) A (eval i1 env) (fun xv s₁ => ∃ h₁ tk₁ n o0 o1 o2 o3 o4, s₁ = { s with heap := h₁, toks := tk₁ } ∧ xv = .ref (n + 4) ∧ ZL h₁ n l1 l2 xs ys 0 ∧ Fr g L h₁ m ∧ News g L h₁ (five n o0 o1 o2 o3 o4 W) ∧ l1 < n ∧ l2 < n ∧ ∀ p ∈ W, p.1 < n) E s)
    (hl : xs.length = ys.length) (hW1 : ∃ o, (l1, o) ∈ W) (hW2 : ∃ o, (l2, o) ∈ W)
    (turn1 : ∀ i v₁ v₂ n r0 r1 r2 r3 r4 C oC D m₂ h tk (E' : Value → Shared → Prop), xs[i]? = some v₁ → ys[i]? = some v₂ → LCg.NsObj oC m₂ → m₂ x = some v₁ → m₂ x₂ = some v₂ → Fr g L h m → News g L h (five n r0 r1 r2 r3 r4 ((C, oC) :: (D, listOf [].toArray 0) :: W)) →
      wpAny (model prog w) A (eval i2 (compEnvC scope cl C env)) (fun xv s' => ∃ h' tk' k a t b u, s' = { s with heap := h', toks := tk' } ∧ xv = .ref (k + 4) ∧ a.cps.size = b.cps.size ∧ Good i a b ∧ ZS h' k a t b u 0 .none ∧
        Fr g L h' m ∧ News g L h' (five n r0 r1 r2 r3 r4 ((C, oC) :: (D, listOf [].toArray 0) :: W)) ∧ (∀ p ∈ five n r0 r1 r2 r3 r4 ((C, oC) :: (D, listOf [].toArray 0) :: W), p.1 < k) ∧ L < k) E' { s with heap := h, toks := tk })
    (turn2 : ∀ (i : Nat) (a b : Str) (j c d : Nat) (t1 t2 : Tok) C oC m₂ h tk (E' : Value → Shared → Prop), Good i a b → a.cps[j]? = some c → b.cps[j]? = some d → LCg.NsObj oC m₂ → m₂ y₁ = some (.str ⟨#[c]⟩ t1) → m₂ y₂ = some (.str ⟨#[d]⟩ t2) → Fr g L h m → News g L h ((C, oC) :: W) →
      wpAny (model prog w) A (isTrue ct (compEnvC scope cl C env) (eval ct (compEnvC scope cl C env))) (fun ok s' => ok = false ∧ ∃ tk', s' = { s with heap := h, toks := tk' }) E' { s with heap := h, toks := tk })
    (fin : ∀ D h tk, Fr g L h m → News g L h ((D, listOf [].toArray 0) :: W) → Q (.ref D) { s with heap := h, toks := tk })
    (hs : ∀ x, foldedSetIterable i1 env x = pure x := by intro _; rfl)
    (hs2 : ∀ C x, foldedSetIterable i2 (compEnvC scope cl C env) x = pure x := by intro _ _; rfl) :
    wpAny (model prog w) A (eval (lc2 elt (.Tuple [.Name x px, .Name x₂ px₂] kk tp) i1 (.Tuple [.Name y₁ py₁, .Name y₂ py₂] k2 tp2) i2 ct scope pos) env) Q E s := by
  rw [eval_ListComp]
  refine wpAny_comprehension_free (use := none) rfl hs hclos hkind hnames (wpAny_mono h (fun xv s₁ h₁ => ?_) fun _ _ e => e)
  obtain ⟨h₁, tk₁, n, o0, o1, o2, o3, o4, rfl, rfl, Z, F, N, lt1, lt2, lW⟩ := h₁
  refine wpAny_pyIter_zip Z.1 ?_
  refine comp_enter (cl := cl) hcell hkind F N fun D C h₂ tk₂ oC m₂ F₂ N₂ hoC off hCD old => ?_
  obtain ⟨Md, Wk⟩ := zl_turns (prog := prog) (w := w) (elts := [.Name x px, .Name x₂ px₂]) (kk := kk) (tp := tp) (xs := xs) (ys := ys) hh hl lt1 lt2
  have Z₂ : ZL h₂ n l1 l2 xs ys 0 := Z.mk fun b _ o e => old b o e
  have nW : ∀ p ∈ W, p.1 ∉ [n + 4, n + 3, n, n + 1] := fun p hp hm => by
    have := lW p hp
    simp only [List.mem_cons, List.not_mem_nil, or_false] at hm
    rcases hm with e | e | e | e <;> rw [e] at this
    · exact absurd this (Nat.not_lt.mpr (Nat.le_add_right _ _))
    · exact absurd this (Nat.not_lt.mpr (Nat.le_add_right _ _))
    · exact Nat.lt_irrefl _ this
    · exact absurd this (Nat.not_lt.mpr (Nat.le_add_right _ _))
  have m0 : (n, o0) ∈ five n o0 o1 o2 o3 o4 W := .head _
  have m1 : (n + 1, o1) ∈ five n o0 o1 o2 o3 o4 W := .tail _ (.head _)
  have m2 : (n + 2, o2) ∈ five n o0 o1 o2 o3 o4 W := .tail _ (.tail _ (.head _))
  have m3 : (n + 3, o3) ∈ five n o0 o1 o2 o3 o4 W := .tail _ (.tail _ (.tail _ (.head _)))
  have m4 : (n + 4, o4) ∈ five n o0 o1 o2 o3 o4 W := .tail _ (.tail _ (.tail _ (.tail _ (.head _))))
  have nCD : ∀ b, b ∈ [n + 4, n + 3, n, n + 1] → b ≠ C ∧ b ≠ D := fun b hb => by
    simp only [List.mem_cons, List.not_mem_nil, or_false] at hb
    rcases hb with rfl | rfl | rfl | rfl
    · exact off _ m4
    · exact off _ m3
    · exact off _ m0
    · exact off _ m1
  have offW : ∀ p ∈ W, p.1 ≠ C ∧ p.1 ≠ D := fun p hp => off p (.tail _ (.tail _ (.tail _ (.tail _ (.tail _ hp)))))
  have N₃ : News g L h₂ (five n o0 o1 o2 o3 o4 ((C, oC) :: (D, listOf [].toArray 0) :: W)) := news_sub N₂ fun p hp => by
    simp only [List.mem_cons] at hp ⊢
    rcases hp with h | h | h | h | h | h | h | h <;> simp [h]
  -- the store of two names in the comprehension's frame
  have put : ∀ {h₃ h₅ : Heap} {r0 r1 r2 r3 r4 qC oC₅ : Obj} {mC : Str → Option Value}, Fr g L h₃ m → News g L h₃ (five n r0 r1 r2 r3 r4 ((C, qC) :: (D, listOf [].toArray 0) :: W)) → (∀ b o, b ≠ C → h₃.get? b = some o → h₅.get? b = some o) → h₅.get? C = some oC₅ →
      Fr g L h₅ m ∧ News g L h₅ (five n r0 r1 r2 r3 r4 ((C, oC₅) :: (D, listOf [].toArray 0) :: W)) := by
    intro h₃ h₅ r0 r1 r2 r3 r4 qC oC₅ mC F₃ N₄ hk₅ heC₅
    have hC := N₄ (C, qC) (.tail _ (.tail _ (.tail _ (.tail _ (.tail _ (.head _))))))
    refine ⟨fr_but1 F₃ hC.2.1 hC.2.2 fun b o hb e => hk₅ b o hb e, news_chg N₄ (ch := [C]) (fun b o hb e => hk₅ b o (fun q => hb (List.mem_singleton.mpr q)) e) fun p hp => ?_⟩
    rcases List.mem_cons.mp hp with rfl | hp
    · exact .inl ⟨.head _, by simpa using (off _ m0).1⟩
    rcases List.mem_cons.mp hp with rfl | hp
    · exact .inl ⟨.tail _ (.head _), by simpa using (off _ m1).1⟩
    rcases List.mem_cons.mp hp with rfl | hp
    · exact .inl ⟨.tail _ (.tail _ (.head _)), by simpa using (off _ m2).1⟩
    rcases List.mem_cons.mp hp with rfl | hp
    · exact .inl ⟨.tail _ (.tail _ (.tail _ (.head _))), by simpa using (off _ m3).1⟩
    rcases List.mem_cons.mp hp with rfl | hp
    · exact .inl ⟨.tail _ (.tail _ (.tail _ (.tail _ (.head _)))), by simpa using (off _ m4).1⟩
    rcases List.mem_cons.mp hp with rfl | hp
    · exact .inr ⟨heC₅, hC.2⟩
    rcases List.mem_cons.mp hp with rfl | hp
    · exact .inl ⟨.tail _ (.tail _ (.tail _ (.tail _ (.tail _ (.tail _ (.head _)))))), by simpa using Ne.symm hCD⟩
    · exact .inl ⟨.tail _ (.tail _ (.tail _ (.tail _ (.tail _ (.tail _ (.tail _ hp)))))), by simpa using (offW p hp).1⟩
  have small : ∀ {h₅ : Heap} {r0 r1 r2 r3 r4 qC : Obj}, News g L h₅ (five n r0 r1 r2 r3 r4 ((C, qC) :: (D, listOf [].toArray 0) :: W)) → News g L h₅ ((C, qC) :: W) := fun N' => news_sub N' fun p hp => by
    simp only [List.mem_cons] at hp ⊢
    rcases hp with h | h <;> simp [h]
  have loop : codeAny (model prog w) A (.compLoop (lc2 elt (.Tuple [.Name x px, .Name x₂ px₂] kk tp) i1 (.Tuple [.Name y₁ py₁, .Name y₂ py₂] k2 tp2) i2 ct scope pos) 0 (.ref (n + 4)) (.ref D) (compEnvC scope cl C env))
      (compPost (model prog w) A E none Q (.ref D) C) { s with heap := h₂, toks := tk₂ } := by
    refine out_raw Wk (fun i s' => ∃ h' tk' q0 q1 q2 q3 q4 qC mC, s' = { s with heap := h', toks := tk' } ∧ Fr g L h' m ∧ News g L h' (five n q0 q1 q2 q3 q4 ((C, qC) :: (D, listOf [].toArray 0) :: W)) ∧ LCg.NsObj qC mC)
      Z₂ ⟨h₂, tk₂, o0, o1, o2, o3, o4, oC, m₂, rfl, F₂, N₃, hoC⟩ (hs2 C) ?_ ?_
    · rintro i v s₀ h₃ tk₃ hi ⟨T, vals, rfl, ⟨v₁, v₂, hv₁, hv₂, rfl⟩, hT⟩ ⟨h', tk', q0, q1, q2, q3, q4, qC, mC, rfl, F', N', hqC⟩ Z' Z₃ hk₃
      have F₃ := five_fr F' N' hk₃
      obtain ⟨r0, r1, r2, r3, r4, N₄⟩ := five_step N' (fun p hp => by
        rcases List.mem_cons.mp hp with rfl | hp
        · exact fun hm => (nCD C hm).1 rfl
        rcases List.mem_cons.mp hp with rfl | hp
        · exact fun hm => (nCD D hm).2 rfl
        · exact nW p hp) hk₃ Z₃.objs
      have hC := N₄ (C, qC) (.tail _ (.tail _ (.tail _ (.tail _ (.tail _ (.head _))))))
      refine kcp_assign hh hT (lookup_relabel_local hx) (lookup_relabel_local hx₂) (by simp [compEnvC, relabel, hkind]) (hqC.ns hC.1) fun h₅ tk₅ hn₅ hk₅ => ?_
      obtain ⟨oC₅, heC₅, hoC₅⟩ := LCg.ns_obj hn₅
      obtain ⟨F₅, N₅⟩ := put (mC := mC) F₃ N₄ hk₅ heC₅
      refine wpAny_mono (turn1 i v₁ v₂ n r0 r1 r2 r3 r4 C oC₅ D _ h₅ tk₅ _ (by simpa using hv₁) (by simpa using hv₂) hoC₅ (by simp [hxx]) (by simp) F₅ N₅) (fun xv s₆ h₆ => ?_) fun _ _ e => e
      obtain ⟨h₆, tk₆, k, a, t, b, u, rfl, rfl, hab, hgood, ZS₆, F₆, N₆, ltk, Lltk⟩ := h₆
      have Cltk : C < k := ltk (C, oC₅) (.tail _ (.tail _ (.tail _ (.tail _ (.tail _ (.head _))))))
      have nin : ∀ b, b < k → b ∉ zsW k := fun b hb hm => by
        simp only [List.mem_cons, List.not_mem_nil, or_false] at hm
        rcases hm with e | e | e | e <;> rw [e] at hb
        · exact Nat.lt_irrefl _ hb
        · exact absurd hb (Nat.not_lt.mpr (Nat.le_add_right _ _))
        · exact absurd hb (Nat.not_lt.mpr (Nat.le_add_right _ _))
        · exact absurd hb (Nat.not_lt.mpr (Nat.le_add_right _ _))
      refine wpAny_pyIter_zip ZS₆.z ?_
      have inner : codeAny (model prog w) A (.compLoop (lc2 elt (.Tuple [.Name x px, .Name x₂ px₂] kk tp) i1 (.Tuple [.Name y₁ py₁, .Name y₂ py₂] k2 tp2) i2 ct scope pos) 1 (.ref (k + 4)) (.ref D) (compEnvC scope cl C env))
          (fun r s₅ => match r with
            | .ok _ => (∃ h' tk' q0 q1 q2 q3 q4 qC mC, s₅ = { s with heap := h', toks := tk' } ∧ Fr g L h' m ∧ News g L h' (five n q0 q1 q2 q3 q4 ((C, qC) :: (D, listOf [].toArray 0) :: W)) ∧ LCg.NsObj qC mC) ∧ ZL s₅.heap n l1 l2 xs ys (i + 1)
            | .error _ => False) { s with heap := h₆, toks := tk₆ } := by
        refine in_raw (zs_turns (elts := [.Name y₁ py₁, .Name y₂ py₂]) (kk := k2) (tp := tp2) (n := k) (t := t) (u := u) hh hab) (fun j s' => ∃ h' tk' qC mC, s' = { s with heap := h', toks := tk' } ∧ Fr g L h' m ∧ News g L h' (five n r0 r1 r2 r3 r4 ((C, qC) :: (D, listOf [].toArray 0) :: W)) ∧ LCg.NsObj qC mC ∧ k ≤ h'.objs.size)
          ZS₆ ⟨h₆, tk₆, oC₅, _, rfl, F₆, N₆, hoC₅, ?_⟩ ?_ ?_
        · exact Nat.le_of_lt (Nat.lt_of_le_of_lt (Nat.le_add_right _ _) (Heap.lt_size ZS₆.z))
        · rintro j v s₀ h₇ tk₇ hj ⟨T, c, d, t1, t2, rfl, hc, hd, hT₇⟩ ⟨h', tk', qC', mC', rfl, F', N', hqC', _⟩ _ Z₇ hk₇
          have F₇ : Fr g L h₇ m := fr_keep F' (wr := zsW k) (nin L Lltk) (fun b hb => by
            cases q : g.get? b with
            | none => rfl
            | some o =>
              exact absurd hb (nin b (Nat.lt_trans (Nat.lt_of_lt_of_le (Heap.lt_size q) F₅.above) Lltk))) hk₇
          have N₇ : News g L h₇ (five n r0 r1 r2 r3 r4 ((C, qC') :: (D, listOf [].toArray 0) :: W)) := fun p hp => by
            have lt : p.1 < k := by
              simp only [List.mem_cons] at hp
              rcases hp with e | e | e | e | e | e | e | e
              · rw [e]; exact ltk (n, r0) (by simp)
              · rw [e]; exact ltk (n + 1, r1) (by simp)
              · rw [e]; exact ltk (n + 2, r2) (by simp)
              · rw [e]; exact ltk (n + 3, r3) (by simp)
              · rw [e]; exact ltk (n + 4, r4) (by simp)
              · rw [e]; exact Cltk
              · rw [e]; exact ltk (D, listOf [].toArray 0) (by simp)
              · exact ltk p (by simp [e])
            exact ⟨hk₇ _ _ (nin _ lt) (N' p hp).1, (N' p hp).2⟩
          have hC₇ := N₇ (C, qC') (.tail _ (.tail _ (.tail _ (.tail _ (.tail _ (.head _))))))
          refine kcp_assign hh hT₇ (lookup_relabel_local hy₁) (lookup_relabel_local hy₂) (by simp [compEnvC, relabel, hkind]) (hqC'.ns hC₇.1) fun h₈ tk₈ hn₈ hk₈ => ?_
          obtain ⟨oC₈, heC₈, hoC₈⟩ := LCg.ns_obj hn₈
          obtain ⟨F₈, N₈⟩ := put (mC := mC') F₇ N₇ hk₈ heC₈
          have Z₈ : ZS h₈ k a t b u (j + 1) .none := (zs_turns (prog := prog) (w := w) (A := A) (elts := [.Name y₁ py₁, .Name y₂ py₂]) (kk := k2) (tp := tp2) (n := k) (t := t) (u := u) hh hab).frame _ _ _ Z₇ fun b hb o e => hk₈ b o (fun q => by
            rw [show b = C from q] at hb
            simp only [List.mem_cons, List.not_mem_nil, or_false] at hb
            have := Cltk
            rcases hb with e | e | e | e | e <;> rw [e] at this
            · exact Nat.lt_irrefl _ this
            all_goals exact absurd this (Nat.not_lt.mpr (Nat.le_add_right _ _))) e
          refine wpAny_mono (turn2 i a b j c d t1 t2 C oC₈ _ h₈ tk₈ _ hgood hc hd hoC₈ (by simp [hyy]) (by simp) F₈ (small N₈)) (fun ok s₉ h₉ => ?_) fun _ _ e => e
          obtain ⟨rfl, tk₉, rfl⟩ := h₉
          exact ⟨rfl, ⟨h₈, tk₉, oC₈, _, rfl, F₈, N₈, hoC₈, Nat.le_of_lt (Nat.lt_of_le_of_lt (Nat.le_add_right _ _) (Heap.lt_size Z₈.z))⟩, Z₈⟩
        · rintro s₀ h₇ tk₇ ⟨h', tk', qC', mC', rfl, F', N', hqC', _⟩ hk₇
          have F₇ : Fr g L h₇ m := fr_keep F' (wr := zsW k) (nin L Lltk) (fun b hb => by
            cases q : g.get? b with
            | none => rfl
            | some o =>
              exact absurd hb (nin b (Nat.lt_trans (Nat.lt_of_lt_of_le (Heap.lt_size q) F₅.above) Lltk))) hk₇
          have N₇ : News g L h₇ (five n r0 r1 r2 r3 r4 ((C, qC') :: (D, listOf [].toArray 0) :: W)) := fun p hp => by
            have lt : p.1 < k := by
              simp only [List.mem_cons] at hp
              rcases hp with e | e | e | e | e | e | e | e
              · rw [e]; exact ltk (n, r0) (by simp)
              · rw [e]; exact ltk (n + 1, r1) (by simp)
              · rw [e]; exact ltk (n + 2, r2) (by simp)
              · rw [e]; exact ltk (n + 3, r3) (by simp)
              · rw [e]; exact ltk (n + 4, r4) (by simp)
              · rw [e]; exact Cltk
              · rw [e]; exact ltk (D, listOf [].toArray 0) (by simp)
              · exact ltk p (by simp [e])
            exact ⟨hk₇ _ _ (nin _ lt) (N' p hp).1, (N' p hp).2⟩
          refine ⟨⟨h₇, tk₇, r0, r1, r2, r3, r4, qC', mC', rfl, F₇, N₇, hqC'⟩, Z₃.mk fun b hb o e => ?_⟩
          have step : ∀ b o ob, (b, ob) ∈ five n r0 r1 r2 r3 r4 W → b ≠ C → h₃.get? b = some o → h₇.get? b = some o := fun b o ob hm hbC e => by
            refine led_frame N₅ N₇ (ob := ob) ?_ ?_ (hk₅ b o hbC e)
            · simp only [List.mem_cons] at hm ⊢
              rcases hm with h | h | h | h | h | h <;> simp [h]
            · simp only [List.mem_cons] at hm ⊢
              rcases hm with h | h | h | h | h | h <;> simp [h]
          simp only [List.mem_cons, List.not_mem_nil, or_false] at hb
          rcases hb with rfl | rfl | rfl | rfl | rfl | rfl | rfl
          · exact step _ _ r4 (.tail _ (.tail _ (.tail _ (.tail _ (.head _))))) (off _ m4).1 e
          · exact step _ _ r2 (.tail _ (.tail _ (.head _))) (off _ m2).1 e
          · exact step _ _ r3 (.tail _ (.tail _ (.tail _ (.head _)))) (off _ m3).1 e
          · exact step _ _ r0 (.head _) (off _ m0).1 e
          · exact step _ _ r1 (.tail _ (.head _)) (off _ m1).1 e
          · obtain ⟨ob, hob⟩ := hW1
            exact step _ _ ob (.tail _ (.tail _ (.tail _ (.tail _ (.tail _ hob))))) (offW _ hob).1 e
          · obtain ⟨ob, hob⟩ := hW2
            exact step _ _ ob (.tail _ (.tail _ (.tail _ (.tail _ (.tail _ hob))))) (offW _ hob).1 e
      exact start_in inner (wpAny_pyIter_zip ZS₆.z inner)
    · rintro s₀ h₃ tk₃ ⟨h', tk', q0, q1, q2, q3, q4, qC, mC, rfl, F', N', hqC⟩ hk₃
      have F₃ := five_fr F' N' hk₃
      have hC := N' (C, qC) (.tail _ (.tail _ (.tail _ (.tail _ (.tail _ (.head _))))))
      have hC₃ : h₃.get? C = some qC := hk₃ _ _ (fun hm => (nCD C hm).1 rfl) hC.1
      have N₄ : News g L h₃ ((D, listOf [].toArray 0) :: W) := fun p hp => by
        rcases List.mem_cons.mp hp with rfl | hp
        · have z := N' (D, listOf [].toArray 0) (.tail _ (.tail _ (.tail _ (.tail _ (.tail _ (.tail _ (.head _)))))))
          exact ⟨hk₃ _ _ (fun hm => (nCD D hm).2 rfl) z.1, z.2⟩
        · have z := N' p (.tail _ (.tail _ (.tail _ (.tail _ (.tail _ (.tail _ (.tail _ hp)))))))
          exact ⟨hk₃ _ _ (nW p hp) z.1, z.2⟩
      refine ⟨mC, hqC.ns hC₃, fun h₅ hs₅ => fin D h₅ _ (F₃.change hs₅ hC.2.1 hC.2.2) fun p hp => ?_⟩
      refine ⟨hs₅.extBut _ _ ?_ (N₄ p hp).1, (N₄ p hp).2⟩
      rcases List.mem_cons.mp hp with rfl | hp
      · exact Ne.symm hCD
      · exact (offW p hp).1
  exact codeAny_compStart_list loop (wpAny_pyIter_zip Z₂.1 loop)
end
end Mine
end

section
open PySem PySem.W PyProof.Rows PySem.Calls PySem.Builtin.Str
set_option Elab.async false
set_option maxRecDepth 100000
set_option maxHeartbeats 0
namespace Mine
def wish (n : Nat) : Nat := (n % 64) &&& (63 - n / 64 % 64)
def modeN (n : Nat) : Nat := n / 4096 * 64 + wish n
theorem wish_lt (n : Nat) : wish n < 64 := Nat.lt_of_le_of_lt Nat.and_le_left (Nat.mod_lt _ (by decide))
theorem slice4 (x : Str) (hx : x.length = 10) : (Txt.slice x (some 4) none).cps.size = 6 ∧ ∀ p, p < 6 → (Txt.slice x (some 4) none).cps[p]? = x.cps[4 + p]? := by
  have e : strSliceIndices (some 4) none 1 10 = [4, 5, 6, 7, 8, 9] := by decide +kernel
  unfold Txt.slice
  rw [hx, e, if_neg (by decide)]
  obtain ⟨⟨l⟩⟩ := x
  match l, hx with
  | [a0, a1, a2, a3, a4, a5, a6, a7, a8, a9], _ =>
    refine ⟨rfl, six rfl rfl rfl rfl rfl rfl⟩
theorem fmText_len (mode : Nat) : (fmText mode).length = 10 := by
  show (fmText mode).cps.size = 10
  rw [← Array.length_toList, fmText_list]; rfl
theorem fmRow_ascii : ∀ (i : Nat) (p : Nat × Str), p ∈ fmRow i → p.2.cps.toList.all (· < 128) = true
  | 0, p, h | 1, p, h | 2, p, h | 3, p, h | 4, p, h | 5, p, h | 6, p, h | 7, p, h | 8, p, h | 9, p, h => by
    simp only [fmRow, List.mem_cons, List.not_mem_nil, or_false] at h
    (repeat (rcases h with rfl | h; decide +kernel)); (first | done | (subst h; decide +kernel))
  | n + 10, p, h => by simp [fmRow] at h
theorem fmC_ascii (mode i : Nat) : fmC mode i < 128 := by
  have : (fmChar mode i).cps.toList.all (· < 128) = true := by
    unfold fmChar
    split
    · rename_i p hp
      exact fmRow_ascii i p (List.mem_of_find?_eq_some hp)
    · split <;> decide +kernel
  rw [fmC_one] at this
  simpa using this
theorem row_ascii (mode : Nat) : (Txt.slice (fmText mode) (some 4) none).cps.all (· < 128) = true := by
  obtain ⟨hs, hg⟩ := slice4 (fmText mode) (fmText_len mode)
  rw [Array.all_eq_true]
  intro i hi
  have h6 : i < 6 := by rw [hs] at hi; exact hi
  have e := hg i h6
  rw [fmText_get mode (4 + i) (by omega), Array.getElem?_eq_getElem hi] at e
  rw [Option.some.inj e]
  simpa using fmC_ascii mode (4 + i)
/-- what the marks' text holds -/
structure MarkOk (n : Nat) (b : Str) : Prop where
  size : b.cps.size = 6
  ascii : b.cps.all (· < 128) = true
  get : ∀ p, p < 6 → b.cps[p]? = some (due (n / 4096) p)
def Good6 (_i : Nat) (a b : Str) : Prop := ∃ n, (∀ p, p < 6 → a.cps[p]? = some (fmC (modeN n) (4 + p))) ∧ a.cps.size = 6 ∧ MarkOk n b
theorem strs_at : ∀ {vs : List Value} {ys : List Str}, StrsAre vs ys → ∀ {j : Nat} {v : Value}, vs[j]? = some v → ∃ y t, ys[j]? = some y ∧ v = .str y t
  | _, _, .nil, j, v, h => by simp at h
  | _, _, .cons x t r, 0, v, h => by
    have : Value.str x t = v := by simpa using h
    exact ⟨x, t, rfl, this.symm⟩
  | _, _, .cons x t r, j + 1, v, h => by
    obtain ⟨y, u, h1, h2⟩ := strs_at r (j := j) (by simpa using h)
    exact ⟨y, u, by simpa using h1, h2⟩
end Mine
end

section
theorem Mine.reset15 : True := by
  w_top off
  exact True.intro
local macro_rules | `(tactic| walk_at "no such place") => `(tactic| skip)
local macro_rules | `(tactic| walk_at "no such place") => `(tactic| skip)
local macro_rules | `(tactic| walk_at "no such place") => `(tactic| skip)
local macro_rules | `(tactic| walk_at "no such place") => `(tactic| skip)
local macro_rules | `(tactic| walk_at "no such place") => `(tactic| skip)
local macro_rules | `(tactic| walk_at "no such place") => `(tactic| skip)
local macro_rules | `(tactic| walk_at "no such place") => `(tactic| skip)
local macro_rules | `(tactic| walk_at "no such place") => `(tactic| skip)
open PySem PySem.W PyProof.Rows PySem.Calls PySem.Builtin.Str
set_option Elab.async false
set_option maxRecDepth 100000
set_option maxHeartbeats 0
namespace Mine
theorem seg6 {loose : List Str} {mean : ExcName → Option Value} {mg mb : Str → Option Value} {g : Heap} {w : World} {s : Shared} {Q : Value → Shared → Prop} {E : Value → Shared → Prop} {L : Addr} {body : List Stmt} {env : Env} {m : Str → Option Value}
    {wl rl kl : Addr} {wV rowsV marksV : List Value} {Ns : List Nat} {MT : List Str} {nw nr nk : Nat} {o1 o2 o3 o4 : Obj} {v2 v3 v4 : Option Value}
    (X : (hd.heap_39 w.params).In g) (T : Top hd.view_39 loose mean mg mb g) (hb : LawAt w.params L body env)
    (F : Fr g L s.heap m) (N : News g L s.heap ((L + 1, o1) :: (L + 2, o2) :: (L + 3, o3) :: (L + 4, o4) :: (wl, listOf wV.toArray nw) :: (rl, listOf rowsV.toArray nr) :: (kl, listOf marksV.toArray nk) :: []))
    (d1 : o1.data = .cell (some (.ref wl))) (d2 : o2.data = .cell v2) (d3 : o3.data = .cell v3) (d4 : o4.data = .cell v4)
    (hm2 : m (Str.ofString "rows") = some (.ref rl)) (hm3 : m (Str.ofString "marks") = some (.ref kl)) (hW : IntsAre wV ((Ns.map wish).map Int.ofNat)) (hNl : Ns.length = 6)
    (hR : StrsAre rowsV (Ns.map fun n => fmText (modeN n))) (hK : StrsAre marksV MT) (hKl : MT.length = 6) (hM : ∀ (i n : Nat) (b : Str), Ns[i]? = some n → MT[i]? = some b → MarkOk n b)
    (hret : ∀ h' tk' m', Fr g L h' m' → Q (.bool true) { s with heap := h', toks := tk' }) :
    wpAny (model PySem.Challenge.rw_pe0235_01.row.prog w) (callerA.deeper env) (execs (body.drop 6) env) (RetOf Q) E s := by
  revert X
  k_fill
  intro X
  have hb₀ := hb
  obtain ⟨rfl, rfl⟩ := hb.eq (by k_is)
  have hh : callerA.handled = none := rfl
  clear hb
  obtain ⟨u, rfl⟩ := ex_map2 hm2 hm3
  dsimp only [List.drop]
  iterate 3 walk1
  have len1 : rowsV.length = 6 := by rw [hR.length, List.length_map, hNl]
  have len2 : marksV.length = 6 := by rw [hK.length, hKl]
  refine' ListComp_ZZ (m := fun z => if z = Str.ofString "rows" then some (.ref rl) else if z = Str.ofString "marks" then some (.ref kl) else u z) (g := g) (L := L) (W := (L + 1, o1) :: (L + 2, o2) :: (L + 3, o3) :: (L + 4, o4) :: (wl, listOf wV.toArray nw) :: (rl, listOf rowsV.toArray nr) :: (kl, listOf marksV.toArray nk) :: []) (xs := rowsV) (ys := marksV) (l1 := rl) (l2 := kl) Good6 rfl (by decide) rfl (by decide) rfl rfl (by decide) rfl rfl (by decide) hh ?_ (len1.trans len2.symm) ⟨_, by k_mem⟩ ⟨_, by k_mem⟩ ?_ ?_ ?_ (fun _ => rfl) (fun _ _ => rfl)
  · iterate 8 walk1
    refine call_zl F N (isL (n := nr) N (by k_mem)) (isL (n := nk) N (by k_mem)) fun h' n p0 p1 p2 p3 p4 Z F' N' l1 l2 lW => ?_
    exact ⟨h', _, n, p0, p1, p2, p3, p4, rfl, rfl, Z, F', N', l1, l2, lW⟩
  · intro i v₁ v₂ n r0 r1 r2 r3 r4 C oC D m₂ h tk E' hv₁ hv₂ hC hmx hmy F₁ N₁
    clear F N
    obtain ⟨a, ta, ha, rfl⟩ := strs_at hR hv₁
    obtain ⟨b, tb, hb, rfl⟩ := strs_at hK hv₂
    rw [List.getElem?_map, Option.map_eq_some_iff] at ha
    obtain ⟨nn, hnn, rfl⟩ := ha
    iterate 12 walk1
    have hmk := hM i nn b hnn hb
    obtain ⟨hs4, hg4⟩ := slice4 (fmText (modeN nn)) (fmText_len _)
    refine slice_strN_sn (i := 4) F₁ N₁ (fun h₂ t₂ k₂ F₂ N₂ => ?_) (hsz := by rw [fmText_len, sizeLine_eq]; decide)
    clear F₁ N₁
    iterate 3 walk1
    refine call_zs (row_ascii _) hmk.ascii fun h₃ Z hsz hk => ?_
    exact ⟨h₃, _, h₂.objs.size, _, _, _, _, rfl, rfl, hs4.trans hmk.size.symm, ⟨nn, fun p hp => (hg4 p hp).trans (fmText_get _ _ (by omega)), hs4, hmk⟩, Z, fr_all F₂ hk, news_all N₂ hk, fun p hp => Heap.lt_size (N₂ p hp).1, fr_lt F₂⟩
  · intro i a b j c d t1 t2 C oC m₂ h tk E' hgood ha hb hC hmx hmy F₁ N₁
    clear F N
    obtain ⟨nn, hga, hsa, hmk⟩ := hgood
    iterate 4 walk1
    have hj : j < 6 := by rw [← hsa]; exact (Array.getElem?_eq_some_iff.mp ha).1
    have ec := hga j hj
    rw [ha] at ec
    cases ec
    have ed := hmk.get j hj
    rw [hb] at ed
    cases ed
    refine in_word (l := [114, 119, 120, 115, 116]) (by decide +kernel) ?_
    have hdue := fm_due (nn / 4096) (wish nn) j (wish_lt nn) hj
    cases hct : ([114, 119, 120, 115, 116] : List Nat).contains (fmC (modeN nn) (4 + j)) with
    | false =>
      iterate 2 walk1
      exact ⟨rfl, _, rfl⟩
    | true =>
      have he : fmC (modeN nn) (4 + j) = due (nn / 4096) j := hdue hct
      rw [he] at hmx
      iterate 9 walk1
      · rename_i hne
        exact absurd hne (by simp)
      · exact ⟨rfl, _, rfl⟩
  · intro D h tk F₁ N₁
    clear F N
    iterate 7 walk1
    (rename Fr _ _ _ _ => F₂); (rename News _ _ _ _ => N₂)
    dsimp only
    refine seg7 (W := Ns.map wish) (wV := wV) (rowsV := rowsV) (wl := wl) (rl := rl) (nw := nw) (nr := nr) X T hb₀ F₂ (news_sub N₂ fun p hp => ?_) d1 d2 d3 d4 rfl hW (by rw [List.length_map, hNl]) (fun x hx => ?_) (fun k hk => ?_) (fun h' tk' m' F' => hret h' tk' m' F')
    · simp only [List.mem_cons] at hp ⊢
      rcases hp with h | h | h | h | h | h | h <;> simp [h]
    · obtain ⟨n, _, rfl⟩ := List.mem_map.mp hx
      exact wish_lt n
    · have hkn : k < Ns.length := by rw [hNl]; exact hk
      obtain ⟨t, ht⟩ := hR.at (j := k) (y := fmText (modeN Ns[k])) (by rw [List.getElem?_map, List.getElem?_eq_getElem hkn]; rfl)
      refine ⟨_, t, ht, fun p hp => ⟨_, fmText_get _ (4 + p) (by omega), ?_⟩⟩
      have e : (Ns.map wish).getD k 0 = wish Ns[k] := by
        rw [List.getD_eq_getElem?_getD, List.getElem?_map, List.getElem?_eq_getElem hkn]; rfl
      show _ = ((Ns.map wish).getD k 0).testBit (5 - p)
      rw [e]
      exact fm_sign _ _ p (wish_lt _) hp
end Mine
end

section
theorem Mine.reset16 : True := by
  w_top off
  exact True.intro
open PySem PySem.W PyProof.Rows PySem.Calls PySem.Builtin.Str
set_option Elab.async false
set_option maxRecDepth 100000
set_option maxHeartbeats 0
namespace Mine
def markT (n : Nat) : Str := Str.ofString "rw" ++ ⟨#[if (n / 4096).testBit 4 = true then 115 else 120]⟩ ++ Str.ofString "rw" ++ ⟨#[if (n / 4096).testBit 3 = true then 116 else 120]⟩
theorem markT_ok (n : Nat) : MarkOk n (markT n) := by
  unfold markT
  refine ⟨?_, ?_, ?_⟩
  · cases (n / 4096).testBit 4 <;> cases (n / 4096).testBit 3 <;> decide +kernel
  · cases (n / 4096).testBit 4 <;> cases (n / 4096).testBit 3 <;> decide +kernel
  · unfold due
    cases (n / 4096).testBit 4 <;> cases (n / 4096).testBit 3 <;> exact six (by decide +kernel) (by decide +kernel) (by decide +kernel) (by decide +kernel) (by decide +kernel) (by decide +kernel)
theorem strs_app1 {vs : List Value} {ns : List Str} {x : Str} {t : Tok} (h : StrsAre vs ns) : StrsAre (vs ++ [.str x t]) (ns ++ [x]) := strs_snoc h
theorem bit_at (n k : Nat) : (n / 4096).testBit k = decide (n / (4096 * 2 ^ k) % 2 = 1) := by
  rw [Nat.testBit_eq_decide_div_mod_eq, Nat.div_div_eq_div_mul]
theorem xs_at (n : Nat) : (Str.ofString "xs").cps[n / 65536 % 2]? = some (if (n / 4096).testBit 4 then 115 else 120) := by
  rw [bit_at, show 4096 * 2 ^ 4 = 65536 from rfl]
  rcases Nat.mod_two_eq_zero_or_one (n / 65536) with h | h <;> rw [h] <;> decide +kernel
theorem xt_at (n : Nat) : (Str.ofString "xt").cps[n / 32768 % 2]? = some (if (n / 4096).testBit 3 then 116 else 120) := by
  rw [bit_at, show 4096 * 2 ^ 3 = 32768 from rfl]
  rcases Nat.mod_two_eq_zero_or_one (n / 32768) with h | h <;> rw [h] <;> decide +kernel
theorem seg5 {loose : List Str} {mean : ExcName → Option Value} {mg mb : Str → Option Value} {g : Heap} {w : World} {s : Shared} {Q : Value → Shared → Prop} {E : Value → Shared → Prop} {L : Addr} {body : List Stmt} {env : Env} {m : Str → Option Value}
    {wl rl ml : Addr} {wV rowsV numsV : List Value} {Ns : List Nat} {nw nr nm' : Nat} {o1 o2 o3 o4 : Obj} {v2 v3 v4 : Option Value}
    (X : (hd.heap_39 w.params).In g) (T : Top hd.view_39 loose mean mg mb g) (hb : LawAt w.params L body env)
    (F : Fr g L s.heap m) (N : News g L s.heap ((L + 1, o1) :: (L + 2, o2) :: (L + 3, o3) :: (L + 4, o4) :: (wl, listOf wV.toArray nw) :: (rl, listOf rowsV.toArray nr) :: (ml, listOf numsV.toArray nm') :: []))
    (d1 : o1.data = .cell (some (.ref wl))) (d2 : o2.data = .cell v2) (d3 : o3.data = .cell v3) (d4 : o4.data = .cell v4)
    (hm1 : m (Str.ofString "numbers") = some (.ref ml)) (hm2 : m (Str.ofString "rows") = some (.ref rl)) (hW : IntsAre wV ((Ns.map wish).map Int.ofNat)) (hNl : Ns.length = 6) (hN22 : ∀ n ∈ Ns, n < 4194304)
    (hNs : IntsAre numsV (Ns.map Int.ofNat)) (hR : StrsAre rowsV (Ns.map fun n => fmText (modeN n)))
    (hret : ∀ h' tk' m', Fr g L h' m' → Q (.bool true) { s with heap := h', toks := tk' }) :
    wpAny (model PySem.Challenge.rw_pe0235_01.row.prog w) (callerA.deeper env) (execs (body.drop 5) env) (RetOf Q) E s := by
  revert X
  k_fill
  intro X
  have hb₀ := hb
  obtain ⟨rfl, rfl⟩ := hb.eq (by k_is)
  have hh : callerA.handled = none := rfl
  clear hb
  obtain ⟨u, rfl⟩ := ex_map2 hm1 hm2
  dsimp only [List.drop]
  iterate 1 walk1
  refine' LCg.Assign_ListComp_U F rfl ?sw (by with_unfolding_all rfl) (by decide) rfl (by decide) rfl rfl rfl ?_
  case sw => with_unfolding_all rfl
  iterate 1 walk1
  have hln : numsV.length = 6 := by rw [hNs.length, List.length_map, hNl]
  refine' LCg.CompSrc.ledger (ax := ml) (its := numsV.toArray) (k := nm') hh F N (by k_mem) (by rw [sizeLine_eq]; simp only [List.size_toArray]; omega) ?_
  intro g'
  refine rest_U (fun i ys => StrsAre ys ((Ns.take i).map markT)) (.inr ⟨_, (by k_mem), rfl, _, rfl⟩) ?_ ?_ .nil
  · rintro i v ys I oI C oC D m₂ h tk E' hi hJ hv hC hm F₁ N₁ off ne
    obtain ⟨z, tz, rfl, hz⟩ := hNs.at i v (by simpa using hv)
    rw [List.getElem?_map, Option.map_eq_some_iff] at hz
    obtain ⟨n, hn, rfl⟩ := hz
    iterate 10 walk1
    refine fdiv_nat (a := n) (b := 65536) (by decide) (by decide) ?_
    iterate 1 walk1
    refine mod_nat (b := 2) (by decide) ?_
    refine char_at (i := n / 65536 % 2) rfl (xs_at n) (by omega) ?_ (fun _ _ => by with_unfolding_all rfl)
    iterate 9 walk1
    refine fdiv_nat (a := n) (b := 32768) (by decide) (by decide) ?_
    iterate 1 walk1
    refine mod_nat (b := 2) (by decide) ?_
    refine char_at (i := n / 32768 % 2) rfl (xt_at n) (by omega) ?_ (fun _ _ => by with_unfolding_all rfl)
    iterate 1 walk1
    refine EndK.intro F₁ N₁ (fun p hp => hp) ?_
    rw [List.take_add_one, hn, List.map_append]
    exact strs_snoc hJ
  · rintro ys hys D h tk F₁ N₁ off
    clear F N
    rw [List.take_of_length_le (l := Ns) (by simp [hln, hNl])] at hys
    dsimp only
    refine seg6 (Ns := Ns) (MT := Ns.map markT) (wV := wV) (rowsV := rowsV) (marksV := ys) (wl := wl) (rl := rl) (kl := D) (nw := nw) (nr := nr) (nk := ys.length) X T hb₀ F₁ (news_sub N₁ fun p hp => ?_) d1 d2 d3 d4 rfl rfl hW hNl hR hys (by rw [List.length_map, hNl]) (fun i n b hn hb => ?_) (fun h' tk' m' F' => hret h' tk' m' F')
    · simp only [List.mem_cons] at hp ⊢
      rcases hp with h | h | h | h | h | h | h | h <;> simp [h]
    · rw [List.getElem?_map, hn] at hb
      cases hb
      exact markT_ok n
end Mine
end

section
theorem Mine.reset17 : True := by
  w_top off
  exact True.intro
local macro_rules | `(tactic| walk_at "no such place") => `(tactic| skip)
local macro_rules | `(tactic| walk_at "no such place") => `(tactic| skip)
local macro_rules | `(tactic| walk_at "no such place") => `(tactic| skip)
local macro_rules | `(tactic| walk_at "no such place") => `(tactic| skip)
local macro_rules | `(tactic| walk_at "no such place") => `(tactic| skip)
local macro_rules | `(tactic| walk_at "no such place") => `(tactic| skip)
local macro_rules | `(tactic| walk_at "no such place") => `(tactic| skip)
local macro_rules | `(tactic| walk_at "no such place") => `(tactic| skip)
open PySem PySem.W PyProof.Rows PySem.Calls PySem.Builtin.Str
set_option Elab.async false
set_option maxRecDepth 100000
set_option maxHeartbeats 0
namespace Mine
theorem seg4 {loose : List Str} {mean : ExcName → Option Value} {mg mb : Str → Option Value} {g : Heap} {w : World} {s : Shared} {Q : Value → Shared → Prop} {E : Value → Shared → Prop} {L : Addr} {body : List Stmt} {env : Env} {m : Str → Option Value}
    {wl ml : Addr} {wV numsV : List Value} {Ns : List Nat} {nw nm' : Nat} {o1 o2 o3 o4 : Obj} {v2 v3 v4 : Option Value}
    (X : (hd.heap_39 w.params).In g) (T : Top hd.view_39 loose mean mg mb g) (hb : LawAt w.params L body env)
    (F : Fr g L s.heap m) (N : News g L s.heap ((L + 1, o1) :: (L + 2, o2) :: (L + 3, o3) :: (L + 4, o4) :: (wl, listOf wV.toArray nw) :: (ml, listOf numsV.toArray nm') :: []))
    (d1 : o1.data = .cell (some (.ref wl))) (d2 : o2.data = .cell v2) (d3 : o3.data = .cell v3) (d4 : o4.data = .cell v4)
    (hm1 : m (Str.ofString "numbers") = some (.ref ml)) (hW : IntsAre wV ((Ns.map wish).map Int.ofNat)) (hNl : Ns.length = 6) (hN22 : ∀ n ∈ Ns, n < 4194304)
    (hNs : IntsAre numsV (Ns.map Int.ofNat))
    (hret : ∀ h' tk' m', Fr g L h' m' → Q (.bool true) { s with heap := h', toks := tk' }) :
    wpAny (model PySem.Challenge.rw_pe0235_01.row.prog w) (callerA.deeper env) (execs (body.drop 4) env) (RetOf Q) E s := by
  revert X
  k_fill
  intro X
  have hb₀ := hb
  obtain ⟨rfl, rfl⟩ := hb.eq (by k_is)
  have hh : callerA.handled = none := rfl
  clear hb
  obtain ⟨u, rfl⟩ := ex_map1 hm1
  dsimp only [List.drop]
  iterate 1 walk1
  have ln : numsV.length = 6 := by rw [hNs.length, List.length_map, hNl]
  have lw : wV.length = 6 := by rw [hW.length, List.length_map, List.length_map, hNl]
  refine' Assign_Z (m := fun z => if z = Str.ofString "numbers" then some (.ref ml) else u z) (g := g) (L := L) (W := (L + 1, o1) :: (L + 2, o2) :: (L + 3, o3) :: (L + 4, o4) :: (wl, listOf wV.toArray nw) :: (ml, listOf numsV.toArray nm') :: []) (xs := numsV) (ys := wV) (l1 := ml) (l2 := wl)
    (fun i zs => StrsAre zs ((Ns.take i).map fun n => fmText (modeN n))) rfl (by with_unfolding_all rfl) (by with_unfolding_all rfl) (by decide) rfl (by decide) rfl rfl (by decide) rfl rfl hh ?_ (ln.trans lw.symm) ⟨_, by k_mem⟩ ⟨_, by k_mem⟩ (by omega) ?_ .nil ?_ (fun _ => rfl)
  · iterate 8 walk1
    refine call_zl F N (isL (n := nm') N (by k_mem)) (isL (n := nw) N (by k_mem)) fun h' n p0 p1 p2 p3 p4 Z F' N' l1 l2 lW => ?_
    exact ⟨h', _, n, p0, p1, p2, p3, p4, rfl, rfl, Z, F', N', l1, l2, lW⟩
  · intro i zs np v₁ v₂ n r0 r1 r2 r3 r4 C oC D m₂ h tk E' hv₁ hv₂ hJ hC hmx hmy F₁ N₁
    clear F N
    obtain ⟨z, tz, rfl, hz⟩ := hNs.at i v₁ hv₁
    rw [List.getElem?_map, Option.map_eq_some_iff] at hz
    obtain ⟨q, hq, rfl⟩ := hz
    obtain ⟨z, tw, rfl, hz⟩ := hW.at i v₂ hv₂
    rw [List.getElem?_map, List.getElem?_map, hq] at hz
    cases hz
    iterate 10 walk1
    refine fdiv_nat (a := q) (b := 4096) (by decide) (by decide) ?_
    iterate 1 walk1
    have hq22 : q < 4194304 := hN22 q (List.mem_of_getElem? hq)
    iterate 4 walk1
    rw [show ((q / 4096 : Nat) : Int) * 64 + Int.ofNat (wish q) = ((modeN q : Nat) : Int) by unfold modeN; rw [Int.natCast_add, Int.natCast_mul]; rfl]
    iterate 1 walk1
    refine filemode_spec (mode := modeN q) X T F₁.keep (by k_room) rfl ?_
    intro h₂ tk₂ t₂ hk₂
    refine EndK.intro (fr_all F₁ hk₂) (news_all N₁ hk₂) (fun p hp => hp) ?_
    rw [List.take_add_one, hq, List.map_append]
    exact strs_snoc hJ
  · intro zs np D h tk hzs F₁ N₁
    clear F N
    rw [List.take_of_length_le (l := Ns) (by rw [ln, hNl]; exact Nat.le_refl _)] at hzs
    dsimp only
    refine seg5 (Ns := Ns) (wV := wV) (rowsV := zs) (numsV := numsV) (wl := wl) (rl := D) (ml := ml) (nw := nw) (nr := np) (nm' := nm') X T hb₀ F₁ (news_sub N₁ fun p hp => ?_) d1 d2 d3 d4 rfl rfl hW hNl hN22 hNs hzs (fun h' tk' m' F' => hret h' tk' m' F')
    simp only [List.mem_cons] at hp ⊢
    rcases hp with h | h | h | h | h | h | h | h <;> simp [h]
end Mine
end

section
theorem Mine.reset18 : True := by
  w_top off
  exact True.intro
open PySem PySem.W PyProof.Rows PySem.Calls PySem.Builtin.Str
set_option Elab.async false
set_option maxRecDepth 100000
set_option maxHeartbeats 0
namespace Mine
theorem seg3 {loose : List Str} {mean : ExcName → Option Value} {mg mb : Str → Option Value} {g : Heap} {w : World} {s : Shared} {Q : Value → Shared → Prop} {E : Value → Shared → Prop} {L : Addr} {body : List Stmt} {env : Env} {m : Str → Option Value}
    {ml : Addr} {numsV : List Value} {Ns : List Nat} {nm' : Nat} {o1 o2 o3 o4 : Obj} {v1 v2 v3 v4 : Option Value}
    (X : (hd.heap_39 w.params).In g) (T : Top hd.view_39 loose mean mg mb g) (hb : LawAt w.params L body env)
    (F : Fr g L s.heap m) (N : News g L s.heap ((L + 1, o1) :: (L + 2, o2) :: (L + 3, o3) :: (L + 4, o4) :: (ml, listOf numsV.toArray nm') :: []))
    (d1 : o1.data = .cell v1) (d2 : o2.data = .cell v2) (d3 : o3.data = .cell v3) (d4 : o4.data = .cell v4)
    (hm1 : m (Str.ofString "numbers") = some (.ref ml)) (hNl : Ns.length = 6) (hN22 : ∀ n ∈ Ns, n < 4194304)
    (hNs : IntsAre numsV (Ns.map Int.ofNat))
    (hret : ∀ h' tk' m', Fr g L h' m' → Q (.bool true) { s with heap := h', toks := tk' }) :
    wpAny (model PySem.Challenge.rw_pe0235_01.row.prog w) (callerA.deeper env) (execs (body.drop 3) env) (RetOf Q) E s := by
  revert X
  k_fill
  intro X
  have hb₀ := hb
  obtain ⟨rfl, rfl⟩ := hb.eq (by k_is)
  have hh : callerA.handled = none := rfl
  clear hb
  obtain ⟨u, rfl⟩ := ex_map1 hm1
  dsimp only [List.drop]
  iterate 1 walk1
  have ln : numsV.length = 6 := by rw [hNs.length, List.length_map, hNl]
  refine wpAny_Assign_Name ?_ (by with_unfolding_all rfl)
  refine' LCg.ListComp_U F (by with_unfolding_all rfl) (by decide) rfl (by decide) rfl ?_ (fun _ => rfl)
  iterate 1 walk1
  refine' LCg.CompSrc.ledger (ax := ml) (its := numsV.toArray) (k := nm') hh F N (by k_mem) (by rw [sizeLine_eq]; simp only [List.size_toArray]; omega) ?_
  intro g'
  refine rest_U (fun i ys => IntsAre ys (((Ns.take i).map wish).map Int.ofNat)) (.inr ⟨_, (by k_mem), rfl, _, rfl⟩) ?_ ?_ .nil
  · rintro i v ys I oI C oC D m₂ h tk E' hi hJ hv hC hm F₁ N₁ off ne
    obtain ⟨z, tz, rfl, hz⟩ := hNs.at i v (by simpa using hv)
    rw [List.getElem?_map, Option.map_eq_some_iff] at hz
    obtain ⟨q, hq, rfl⟩ := hz
    iterate 4 walk1
    refine mod_nat (a := q) (b := 64) (by decide) ?_
    iterate 6 walk1
    refine fdiv_nat (a := q) (b := 64) (by decide) (by decide) ?_
    iterate 1 walk1
    refine mod_nat (a := q / 64) (b := 64) (by decide) ?_
    iterate 1 walk1
    rw [show (63 : Int) - ((q / 64 % 64 : Nat) : Int) = ((63 - q / 64 % 64 : Nat) : Int) by omega]
    refine and_nat (a := q % 64) (b := 63 - q / 64 % 64) ?_
    refine EndK.intro F₁ N₁ (fun p hp => hp) ?_
    rw [List.take_add_one, hq, List.map_append, List.map_append]
    exact ints_snoc hJ
  · rintro ys hys D h tk F₁ N₁ off
    clear F N
    rw [List.take_of_length_le (l := Ns) (by simp [ln, hNl])] at hys
    have N₂ : News g L h ((L + 1, o1) :: (D, listOf ys.toArray ys.length) :: (L + 2, o2) :: (L + 3, o3) :: (L + 4, o4) :: (ml, listOf numsV.toArray nm') :: []) := news_sub N₁ fun p hp => by
      simp only [List.mem_cons] at hp ⊢
      rcases hp with h | h | h | h | h | h | h <;> simp [h]
    refine cell_set (c := L + 1) (oc := o1) rfl rfl rfl F₁ N₂ d1 (fun p hp => ?_) fun h₃ o1' F₃ N₃ d1' => ?_
    · have hp' := List.mem_cons_of_mem (L + 1, o1) hp
      simp only [List.mem_cons, List.not_mem_nil, or_false] at hp
      rcases hp with rfl | rfl | rfl | rfl | rfl
      · exact not_cell N₂ (by k_mem) hp' d1 fun v => nofun
      · exact fun e => absurd (Nat.add_left_cancel e) (by decide)
      · exact fun e => absurd (Nat.add_left_cancel e) (by decide)
      · exact fun e => absurd (Nat.add_left_cancel e) (by decide)
      · exact not_cell N₂ (by k_mem) hp' d1 fun v => nofun
    dsimp only
    refine seg4 (Ns := Ns) (wV := ys) (numsV := numsV) (wl := D) (ml := ml) (nw := ys.length) (nm' := nm') X T hb₀ F₃ (news_sub N₃ fun p hp => ?_) d1' d2 d3 d4 rfl hys hNl hN22 hNs (fun h' tk' m' F' => hret h' tk' m' F')
    simp only [List.mem_cons] at hp ⊢
    rcases hp with h | h | h | h | h | h | h <;> simp [h]
end Mine
end

section
theorem Mine.reset19 : True := by
  w_top off
  exact True.intro
local macro_rules | `(tactic| walk_at "no such place") => `(tactic| skip)
local macro_rules | `(tactic| walk_at "no such place") => `(tactic| skip)
local macro_rules | `(tactic| walk_at "no such place") => `(tactic| skip)
local macro_rules | `(tactic| walk_at "no such place") => `(tactic| skip)
local macro_rules | `(tactic| walk_at "no such place") => `(tactic| skip)
local macro_rules | `(tactic| walk_at "no such place") => `(tactic| skip)
local macro_rules | `(tactic| walk_at "no such place") => `(tactic| skip)
local macro_rules | `(tactic| walk_at "no such place") => `(tactic| skip)
open PySem PySem.W PyProof.Rows PySem.Calls PySem.Builtin.Str
set_option Elab.async false
set_option maxRecDepth 100000
set_option maxHeartbeats 0
namespace Mine
def spareN : List Nat := [2122934, 1144829, 2717805, 3196101, 496666, 1871359]
theorem pick6 (items : Array Value) : slicePick items none (some 6) none = (items.toList.take 6).toArray := by
  by_cases h : 6 ≤ items.size
  · exact slicePick_upto items 6 h
  · have e : sliceBounds none (some 6) none items.size = (((0 : Nat) : Int), (items.size : Int), 1) := by
      simp only [sliceBounds, Option.getD_none, show (1 : Int) > 0 by decide, if_true, show ¬ ((6 : Int) < 0) by decide, if_false]
      congr 1
      congr 1; omega
    unfold slicePick
    rw [e]
    simp only [sliceRange_one, pick_run]
    rw [List.take_of_length_le (l := items.toList) (i := 6) (by simp; omega)]
    simp only [List.drop_zero, Nat.sub_zero]
    rw [List.take_of_length_le (by simp)]
theorem pick6' (vs : List Value) : slicePick vs.toArray none (some 6) none = (vs.take 6).toArray := pick6 _
theorem ints_take : ∀ {vs : List Value} {xs : List Int}, IntsAre vs xs → ∀ k, IntsAre (vs.take k) (xs.take k)
  | _, _, .nil, k => by rw [List.take_nil, List.take_nil]; exact .nil
  | _, _, .cons n t r, 0 => .nil
  | _, _, .cons n t r, k + 1 => by rw [List.take_succ_cons, List.take_succ_cons]; exact .cons n t (ints_take r k)
theorem ints_drop : ∀ {vs : List Value} {xs : List Int}, IntsAre vs xs → ∀ k, IntsAre (vs.drop k) (xs.drop k)
  | _, _, .nil, k => by rw [List.drop_nil, List.drop_nil]; exact .nil
  | _, _, .cons n t r, 0 => .cons n t r
  | _, _, .cons n t r, k + 1 => by rw [List.drop_succ_cons, List.drop_succ_cons]; exact ints_drop r k
def red (x : Int) : Nat := (x % 4194304).toNat
theorem red_eq (x : Int) : x.fmod 4194304 = Int.ofNat (red x) := by
  rw [Int.fmod_eq_emod_of_nonneg _ (by decide)]
  exact (Int.toNat_of_nonneg (Int.emod_nonneg _ (by decide))).symm
theorem red_lt (x : Int) : red x < 4194304 := by
  have h1 := Int.emod_nonneg x (show (4194304 : Int) ≠ 0 by decide)
  have h2 := Int.emod_lt_of_pos x (show (0 : Int) < 4194304 by decide)
  unfold red
  omega
theorem pickFrom (vs : List Value) (k : Nat) (h : k ≤ vs.length) : slicePick vs.toArray (some ((k : Nat) : Int)) none none = (vs.drop k).toArray := slicePick_from _ k (by simpa using h)
section
variable {prog : Program} {w : World} {A : Around} {E : Value → Shared → Prop} {s : Shared} {g : Heap} {L : Addr} {m : Str → Option Value} {W : List (Addr × Obj)}
theorem slice_at {l : Addr} {xs : List Value} {vl vu : Value} {lo hi : Option Int} {value slice : Expr} {ops : List Value} {Q : Value → Shared → Prop} (F : Fr g L s.heap m) (N : News g L s.heap W) (hl : s.heap.IsList l xs.toArray) (pl : IsPart vl lo) (pu : IsPart vu hi) (hsz : xs.length ≤ 1000)
    (hs : subscripted slice false (.ref l) (.ref s.heap.objs.size) = operate ops (getItem (.ref l) (.ref s.heap.objs.size)))
    (h : ∀ h' D, Fr g L h' m → News g L h' ((D, listOf (slicePick xs.toArray lo hi none) 0) :: W) → Q (.ref D) { s with heap := h' }) :
    wpAny (model prog w) A (subscriptTail value slice (.ref l) (.ref s.heap.objs.size)) Q E { s with heap := s.heap.push { cls := .type "slice", data := .fields #[vl, vu, .none] } } := by
  obtain ⟨o, ho, hc, _⟩ := id hl
  refine tail_any (T := "list") ⟨_, Heap.get?_push_of_some _ ho, hc⟩ slot_list_getitem.lookup ?_ hs
  refine wpAny_getItem_list_slice (items := xs.toArray) (hl.push _) (Heap.IsSliceOf.new s.heap vl vu .none) pl pu .none (by simp) ?_ (by rw [sizeLine_eq]; simp only [List.size_toArray]; omega)
  refine h _ _ ((F.push _).push _) (news_add F N (fun b o e => Heap.get?_push_of_some _ (Heap.get?_push_of_some _ e)) ?_ (Heap.get?_push_size _ rfl))
  cases z : s.heap.get? (s.heap.push { cls := .type "slice", data := .fields #[vl, vu, .none] }).objs.size with
  | none => rfl
  | some o =>
    have z2 := Heap.lt_size z
    rw [Heap.size_push] at z2
    exact absurd z2 (Nat.not_lt.mpr (Nat.le_succ _))
end
theorem seg0 {loose : List Str} {mean : ExcName → Option Value} {mg mb : Str → Option Value} {g : Heap} {w : World} {s : Shared} {Q : Value → Shared → Prop} {E : Value → Shared → Prop} {L : Addr} {body : List Stmt} {env : Env} {m : Str → Option Value}
    {sl : Addr} {vs : List Value} {xs : List Int} {o1 o2 o3 o4 : Obj} {v1 v2 v3 v4 : Option Value}
    (X : (hd.heap_39 w.params).In g) (T : Top hd.view_39 loose mean mg mb g) (hb : LawAt w.params L body env)
    (F : Fr g L s.heap m) (N : News g L s.heap ((L + 1, o1) :: (L + 2, o2) :: (L + 3, o3) :: (L + 4, o4) :: []))
    (d1 : o1.data = .cell v1) (d2 : o2.data = .cell v2) (d3 : o3.data = .cell v3) (d4 : o4.data = .cell v4)
    (hm1 : m (Str.ofString "script") = some (.ref sl)) (hl : g.IsList sl vs.toArray) (hi : IntsAre vs xs) (hx63 : xs.length ≤ 63)
    (hret : ∀ h' tk' m', Fr g L h' m' → Q (.bool true) { s with heap := h', toks := tk' }) :
    wpAny (model PySem.Challenge.rw_pe0235_01.row.prog w) (callerA.deeper env) (execs body env) (RetOf Q) E s := by
  revert X
  k_fill
  intro X
  have hb₀ := hb
  obtain ⟨rfl, rfl⟩ := hb.eq (by k_is)
  have hh : callerA.handled = none := rfl
  clear hb
  obtain ⟨u, rfl⟩ := ex_map1 hm1
  iterate 18 walk1
  (rename Fr _ _ _ _ => F₁); (rename News _ _ _ _ => N₁)
  rename_i sp _ lsp _
  generalize hsV : (#[Value.int 2122934 s.toks, Value.int 1144829 (s.toks + 1), Value.int 2717805 (s.toks + 1 + 1), Value.int 3196101 (s.toks + 1 + 1 + 1), Value.int 496666 (s.toks + 1 + 1 + 1 + 1), Value.int 1871359 (s.toks + 1 + 1 + 1 + 1 + 1)] : Array Value) = sA at N₁
  obtain ⟨spV, rfl⟩ : ∃ v : List Value, sA = v.toArray := ⟨sA.toList, by simp⟩
  have hsp : IntsAre spV (spareN.map Int.ofNat) := by
    obtain ⟨t0, t1, t2, t3, t4, t5, e⟩ : ∃ t0 t1 t2 t3 t4 t5, spV = [Value.int 2122934 t0, Value.int 1144829 t1, Value.int 2717805 t2, Value.int 3196101 t3, Value.int 496666 t4, Value.int 1871359 t5] := ⟨_, _, _, _, _, _, (congrArg Array.toList hsV).symm⟩
    rw [e]
    exact .cons _ _ (.cons _ _ (.cons _ _ (.cons _ _ (.cons _ _ (.cons _ _ .nil)))))
  clear hsV
  iterate 1 walk1
  refine' LCg.Assign_ListComp_U F₁ rfl ?sw (by with_unfolding_all rfl) (by decide) rfl (by decide) rfl rfl rfl ?_
  case sw => with_unfolding_all rfl
  iterate 7 walk1
  have lvs : vs.length ≤ 63 := by rw [hi.length]; exact hx63
  refine slice_at F₁ N₁ (hl.at fun o e => F₁.keep _ _ e) .none (.int 6 _) (by omega) (by with_unfolding_all rfl) fun h₂ D₂ F₂ N₂ => ?_
  rw [pick6'] at N₂
  have l6 : (vs.take 6).length ≤ 6 := by rw [List.length_take]; exact Nat.min_le_left _ _
  refine' LCg.CompSrc.ledger (ax := D₂) (its := (vs.take 6).toArray) (k := 0) hh F₂ N₂ (by k_mem) (by rw [sizeLine_eq]; simp only [List.size_toArray]; omega) ?_
  intro g'
  have hi6 := ints_take hi 6
  refine rest_U (fun i ys => IntsAre ys ((((xs.take 6).take i).map red).map Int.ofNat)) (.inr ⟨_, (by k_mem), rfl, _, rfl⟩) ?_ ?_ .nil
  · rintro i v ys I oI C oC D m₂ h tk E' hii hJ hv hC hm F₃ N₃ off ne
    obtain ⟨z, tz, rfl, hz⟩ := hi6.at i v (by simpa using hv)
    iterate 3 walk1
    refine mod_int' (by decide) ?_
    rw [red_eq]
    refine EndK.intro F₃ N₃ (fun p hp => hp) ?_
    rw [List.take_add_one, hz, List.map_append, List.map_append]
    exact ints_snoc hJ
  rintro ys hys D₃ h₃ tk₃ F₃ N₃ off₃
  clear F₂ N₂ F₁ N₁
  rw [List.take_of_length_le (l := xs.take 6) (by rw [List.size_toArray, hi6.length]; exact Nat.le_refl _)] at hys
  dsimp only
  iterate 14 walk1
  have lys : ys.length = (xs.take 6).length := by rw [hys.length, List.length_map, List.length_map]
  have lys6 : ys.length ≤ 6 := by rw [lys, List.length_take]; exact Nat.min_le_left _ _
  have lsp6 : spV.length = 6 := by rw [hsp.length]; rfl
  have L3 : h₃.IsList D₃ ys.toArray := ⟨_, (N₃ (D₃, LCg.lst ys) (.head _)).1, rfl, _, rfl⟩
  refine PyProof.Rows.len_list L3 (by simp only [List.size_toArray]; omega) ?_
  iterate 2 walk1
  refine slice_at F₃ N₃ (l := sp) (xs := spV) (isL (n := 0) N₃ (by k_mem)) (.int _ _) .none (by omega) (by with_unfolding_all rfl) fun h₄ D₄ F₄ N₄ => ?_
  rw [show ((ys.toArray.size : Nat) : Int) = ((ys.length : Nat) : Int) by rw [List.size_toArray], pickFrom spV ys.length (by omega)] at N₄
  clear F₃ N₃
  refine add_arrays (its := ys.toArray) (its2 := (spV.drop ys.length).toArray) F₄ N₄ ⟨_, (N₄ (D₃, LCg.lst ys) (by k_mem)).1, rfl, _, rfl⟩ (isL (n := 0) N₄ (.head _)) (fun h₅ F₅ N₅ => ?_) (by rw [sizeLine_eq]; simp only [List.size_toArray, List.length_drop]; omega)
  dsimp only at N₅
  generalize h₄.objs.size = ml at *
  clear F₄ N₄
  iterate 1 walk1
  (rename Fr _ _ _ _ => F₆); (rename News _ _ _ _ => N₆)
  dsimp only
  refine seg3 (Ns := (xs.take 6).map red ++ spareN.drop ys.length) (numsV := ys ++ spV.drop ys.length) (ml := ml) (nm' := 0) X T hb₀ F₆ (news_sub N₆ fun p hp => ?_) d1 d2 d3 d4 rfl ?_ ?_ ?_ (fun h' tk' m' F' => hret h' tk' m' F')
  · simp only [List.mem_cons] at hp ⊢
    rcases hp with h | h | h | h | h | h <;> simp [h]
  · rw [List.length_append, List.length_map, List.length_drop, lys]
    have : spareN.length = 6 := rfl
    omega
  · intro n hn
    rcases List.mem_append.mp hn with hn | hn
    · obtain ⟨x, _, rfl⟩ := List.mem_map.mp hn
      exact red_lt x
    · have h2 := List.mem_of_mem_drop hn
      have h3 : spareN.all (· < 4194304) = true := by decide
      exact of_decide_eq_true (List.all_eq_true.mp h3 n h2)
  · rw [List.map_append, List.map_drop]
    exact ints_app hys (ints_drop hsp _)
end Mine
end

section
theorem Mine.reset20 : True := by
  w_top off
  exact True.intro
open PySem PySem.W PyProof.Rows PySem.Calls PySem.Builtin.Str
set_option Elab.async false
set_option maxRecDepth 100000
set_option maxHeartbeats 0
namespace Mine
local macro_rules | `(tactic| walk_at "mine enterC") => `(tactic| ((case ho => k_is); (case hcd => k_is); (case hbind => first | exact BindsTo.of_eq rfl | exact kp_binds (Frag.In.keeps (by assumption) (by assumption)) (fun _ => rfl)); (case hkind => exact rfl); (case hnd => decide +kernel); (case c2 => exact rfl); (case c3 => exact rfl); (case c4 => exact rfl)))
theorem law_spec : LawSpec := by
  intro loose mean mg mb hT w s Q E l vs xs X
  revert X
  k_fill
  intro X T st hl hi h63 hret
  refine wpAny_call ?_
  refine' raw_callC (binds := [(Str.ofString "script", .ref l)]) [] X T st (by simp) ?ho ?hcd (by decide) ?hbind ?hkind ?hnd ?_ ?c2 ?c3 ?c4
  walk_at "mine enterC"
  intro g L' h' tk' cells' hg F' N' Y' X' T' tg hlt
  clear X T
  k_cells Y'
  (try simp only [List.cons_append, List.nil_append] at N')
  rename_i o4 o3 o2 o1 d4 d3 d2 d1
  have N₁ : News g L' h' ((L' + 1, o1) :: (L' + 2, o2) :: (L' + 3, o3) :: (L' + 4, o4) :: []) := fun p hp => by
    rcases List.mem_cons.mp hp with rfl | hp
    · exact N' (L' + 1 + 1 + 1 + 1, o4) (.head _) |> fun _ => N' (L' + 1, o1) (.tail _ (.tail _ (.tail _ (.head _))))
    rcases List.mem_cons.mp hp with rfl | hp
    · exact N' (L' + 1 + 1, o2) (.tail _ (.tail _ (.head _)))
    rcases List.mem_cons.mp hp with rfl | hp
    · exact N' (L' + 1 + 1 + 1, o3) (.tail _ (.head _))
    rcases List.mem_cons.mp hp with rfl | hp
    · exact N' (L' + 1 + 1 + 1 + 1, o4) (.head _)
    · cases hp
  exact seg0 (Q := Q) X' T' ⟨_, _, _, _, _, _, _, _, _, _, _, _, _, _, by k_is, rfl⟩ F' N₁ d1 d2 d3 d4 rfl (hl.at fun o e => tg _ o e) hi h63 fun h₂ tk₂ m₂ F₂ => hret h₂ tk₂ fun b o e => F₂.keep b o (hg b o e (by simp))
theorem law_holds : PySem.Challenge.rw_pe0235_01.Holds := top_of law_spec
end Mine
end

theorem PySem.Challenge.cw_pe0235_01_holds : PySem.Challenge.rw_pe0235_01.Holds :=
  Mine.law_holds
