import PyProof.Rows.All
import Wide.All
import OpenK.AllK
import Wide.FinOn
import Lean
import PySem.Challenge.RW_tl0029_01
open PySem PySem.W PyProof.Rows
set_option Elab.async false
set_option maxRecDepth 100000
set_option maxHeartbeats 8000000
open_top hd for PySem.Challenge.rw_tl0029_01
open PySem PySem.W PyProof.Rows PySem.Calls
set_option Elab.async false
set_option maxRecDepth 100000
set_option maxHeartbeats 4000000
namespace Mine
section
open PySem.Builtin.Re

theorem owner_pat : Manifest.owners.lookup (String.ofList ['n', 'r', 'e', 't', 't', 'a', 'P', '.', 'e', 'r'].reverse) = some Manifest.sig_re_Pattern := by kernel_rfl
theorem plainAttrs_pat : PlainAttrs "re.Pattern" :=
  ⟨⟨"object.__getattribute__", by rw [typeLookup_type, builtinLookup_eq_fast]; kernel_rfl, by decide +kernel⟩, by rw [typeLookup_type, builtinLookup_eq_fast]; kernel_rfl⟩
theorem slot_pat_search : Slot "re.Pattern" "search" "re.Pattern.search" :=
  .of (owner := "re.Pattern") (n := "search") (by rw [typeLookup_type, builtinLookup_eq_fast]; kernel_rfl) (by decide +kernel) (by decide +kernel) (by decide +kernel)
    (by first | exact .inl (by decide +kernel) | exact .inr (by decide +kernel)) (by rw [isSubtype_type]; kernel_rfl)
theorem type_pat_search : typeOf (.builtin "re.Pattern.search") = pure (.type "method_descriptor") := by show builtinType _ = _; rw [builtinType_eq_fast]; kernel_rfl
theorem entry_pat_search : entryFor table "re.Pattern.search" = some Builtin.«re.Pattern.search» := entryFor_of_tree (by kernel_rfl)
theorem args_pat_search (a b : Value) : argsOk "re.Pattern.search" ⟨[a, b], []⟩ := by
  unfold argsOk; rw [signature?_of (id := "re.Pattern.search") (n := ['h', 'c', 'r', 'a', 'e', 's']) (o := ['n', 'r', 'e', 't', 't', 'a', 'P', '.', 'e', 'r']) (by kernel_rfl) owner_pat]; kernel_rfl
theorem slot_pat_sub : Slot "re.Pattern" "sub" "re.Pattern.sub" :=
  .of (owner := "re.Pattern") (n := "sub") (by rw [typeLookup_type, builtinLookup_eq_fast]; kernel_rfl) (by decide +kernel) (by decide +kernel) (by decide +kernel)
    (by first | exact .inl (by decide +kernel) | exact .inr (by decide +kernel)) (by rw [isSubtype_type]; kernel_rfl)
theorem type_pat_sub : typeOf (.builtin "re.Pattern.sub") = pure (.type "method_descriptor") := by show builtinType _ = _; rw [builtinType_eq_fast]; kernel_rfl
theorem entry_pat_sub : entryFor table "re.Pattern.sub" = some Builtin.«re.Pattern.sub» := entryFor_of_tree (by kernel_rfl)
theorem args_pat_sub (a b c : Value) : argsOk "re.Pattern.sub" ⟨[a, b, c], []⟩ := by
  unfold argsOk; rw [signature?_of (id := "re.Pattern.sub") (n := ['b', 'u', 's']) (o := ['n', 'r', 'e', 't', 't', 'a', 'P', '.', 'e', 'r']) (by kernel_rfl) owner_pat]; kernel_rfl
theorem entry_pat_loop : entryFor table "re.Pattern.sub.loop" = some Builtin.«re.Pattern.sub.loop» := entryFor_of_tree (by kernel_rfl)
theorem kind_pat_loop : builtinKind "re.Pattern.sub.loop" = none := by decide +kernel
theorem plain_pat_loop : plainId "re.Pattern.sub.loop" = true := by decide +kernel

-- the engine, as a plain function
noncomputable def drive : Nat → Sre.M → Option Sre.M
  | 0, _ => none
  | k + 1, m => if (m.runFor reTurnSteps).outcome.isSome then some (m.runFor reTurnSteps) else drive k (m.runFor reTurnSteps)

section
variable {M : Model} {A : Around} {E : Value → Shared → Prop} {s : Shared}
theorem wp_reDrive {Q : Sre.M → Shared → Prop} {m' : Sre.M} : ∀ (k : Nat) (m : Sre.M) (n : Nat), drive k m = some m' → Q m' s → wpAny M A (reDrive (k + n) m) Q E s
  | 0, _, _, h, _ => by cases h
  | k + 1, m, n, h, hq => by
    have e : k + 1 + n = (k + n) + 1 := by omega
    rw [e]
    unfold reDrive
    unfold drive at h
    dsimp only
    by_cases c : (m.runFor reTurnSteps).outcome.isSome = true
    · rw [if_pos c] at h ⊢
      cases h
      exact wpAny_pure hq
    · rw [if_neg c] at h ⊢
      exact wpAny_bind (wpAny_rule (wp_reDrive k _ n h hq))

theorem wp_reRunToEnd {Q : Option Sre.M → Shared → Prop} {m m' : Sre.M} {k : Nat} (hk : k ≤ 1000) (h : drive k m = some m')
    (hq : match m'.outcome with | some .matched => Q (some m') s | some .failed => Q none s | _ => False) : wpAny M A (reRunToEnd m) Q E s := by
  unfold reRunToEnd
  have e : 2 ^ 64 = k + (2 ^ 64 - k) := by omega
  rw [e]
  refine wpAny_bind (wp_reDrive k m _ h ?_)
  refine wpAny_bind (wpAny_forIn_list _ (fun _ _ s' => s' = s) _ ?_ ?_ _ _ rfl)
  · rintro x rest b s' rfl
    split
    · exact wpAny_bind (wpAny_rule (wpAny_pure rfl))
    · exact wpAny_pure rfl
  · rintro b s' rfl
    generalize m'.outcome = o at hq ⊢
    cases o with
    | none => exact hq.elim
    | some o => cases o with
      | matched => exact wpAny_pure hq
      | failed => exact wpAny_pure hq
      | stuck why => exact hq.elim
end


structure PatAt (h : Heap) (pat code : Addr) (items : Array Value) : Prop where
  pat : ∃ p0 p1, h.get? pat = some { cls := .type "re.Pattern", data := .fields #[p0, p1, .int 0 0, .none, .none, .ref code, .int 0 0] }
  code : ∃ n, h.get? code = some { cls := .type "tuple", data := .seq items n }
theorem PatAt.typeIs {s : Shared} {pat code : Addr} {items : Array Value} (P : PatAt s.heap pat code items) : s.TypeIs (.ref pat) "re.Pattern" := by
  obtain ⟨p0, p1, h⟩ := P.pat
  exact ⟨_, h, rfl⟩
noncomputable def codeOf (items : Array Value) : Array Nat := (items.map reRawOf).map (·.toNat)

theorem named_search (v : Str) (tk : Tok) : reNamed "re.Pattern.search" "search" ["string", "pos", "endpos"] 1 [.str v tk] [] = pure [some (.str v tk), none, none] := by kernel_rfl
theorem named_sub (r v : Str) (t1 t2 : Tok) : reNamed "re.Pattern.sub" "sub" ["repl", "string", "count"] 2 [.str r t1, .str v t2] [] = pure [some (.str r t1), some (.str v t2), none] := by kernel_rfl

section
variable {M : Model} {A : Around} {E : Value → Shared → Prop} {s : Shared} {pat code : Addr} {items : Array Value} {v : Str} {tk : Tok}
theorem wp_rawItems {Q : Array Int → Shared → Prop} (P : PatAt s.heap pat code items) (h : Q (items.map reRawOf) s) : wpAny M A (reRawItems (.ref code)) Q E s := by
  obtain ⟨n, hc⟩ := P.code
  unfold reRawItems
  exact wpAny_bind (wpAny_seqItems hc rfl (wpAny_pure h))
theorem wp_textOf {Q : Array Nat × Nat → Shared → Prop} (h : Q (v.cps, 0) s) : wpAny M A (reTextOf (.str v tk)) Q E s := by
  unfold reTextOf
  exact wpAny_bind (wpAny_of_eq rfl (wpAny_pure h))
theorem wp_noColl {Q : Unit → Shared → Prop} {x : Value} (h : Q () s) : wpAny M A (reNoCollectionInside x 0) Q E s := by
  unfold reNoCollectionInside
  exact wpAny_pure h
theorem wp_target {Q : ReTarget → Shared → Prop} (P : PatAt s.heap pat code items) (hv : v.cps.size < 2 ^ 62)
    (h : Q { pattern := .ref pat, string := .str v tk, code := codeOf items, text := v.cps, kind := 0, groups := 0, pos := 0, lim := v.cps.size } s) :
    wpAny M A (reTarget "re.Pattern.search" "search" ⟨[.ref pat, .str v tk], []⟩) Q E s := by
  obtain ⟨p0, p1, hp⟩ := P.pat
  unfold reTarget
  show wpAny M A (reNamed "re.Pattern.search" "search" ["string", "pos", "endpos"] 1 [.str v tk] [] >>= _) Q E s
  rw [named_search]
  refine wpAny_bind (wpAny_pure ?_)
  refine wpAny_bind (wpAny_pure ?_)
  refine wpAny_bind (wpAny_pure ?_)
  refine wpAny_bind (wpAny_fieldsOf hp rfl ?_)
  refine wpAny_bind (wp_textOf ?_)
  refine wpAny_bind (wpAny_pure ?_)
  refine wpAny_bind (wp_rawItems P (wpAny_pure ?_))
  have e : min (((2 : Int) ^ 63 - 1).toNat) v.cps.size = v.cps.size := by omega
  show Q { pattern := .ref pat, string := .str v tk, code := codeOf items, text := v.cps, kind := 0, groups := 0, pos := min (0 : Int).toNat v.cps.size, lim := min (((2 : Int) ^ 63 - 1).toNat) v.cps.size } s
  rw [e]
  have e0 : min (0 : Int).toNat v.cps.size = 0 := by simp
  rw [e0]
  exact h
theorem search_none {k : Nat} {m' : Sre.M} (hk : k ≤ 1000) (hd : drive k (Sre.forSearch (codeOf items) v.cps 0 0 v.cps.size false) = some m') (ho : m'.outcome = some .failed) (hv : v.cps.size < 2 ^ 62) :
    Meets (Builtin.«re.Pattern.search» ⟨[.ref pat, .str v tk], []⟩) (fun _ R s => PatAt s.heap pat code items ∧ R (.ok (.ret .none)) s) := by
  refine .of_wp fun prog w A R s hS => ?_
  obtain ⟨P, h⟩ := hS
  unfold Builtin.«re.Pattern.search»
  refine wpAny_bind (wp_target P hv ?_)
  unfold reAnswer
  dsimp only
  refine wpAny_bind (wp_reRunToEnd hk hd ?_)
  rw [ho]
  exact wpAny_pure ⟨_, rfl, h⟩
end

end
theorem enterW {prog : Program} {w : World} {A : Around} {s : Shared} {h₀ : Heap} {L : Addr} {m mg mb : Str → Option Value} {news : List (Addr × Obj)} {K : Frag} {p : Program} {loose : List Str} {mean : ExcName → Option Value}
    {R : Result → Shared → Prop} {name qual : Str} {params : Arguments} {body : List Stmt} {scope : Scope} {dV kV doc pm cdv ct oc : Value} {an od : Option Addr} {osl : Array (Option Value)} {f : Addr} {args : Args} {binds : List (Str × Value)}
    (F : Fr h₀ L s.heap m) (X₀ : K.In h₀) (N : News h₀ L s.heap news) (T : Top p loose mean mg mb h₀)
    (ho : K.lookup f = some ⟨oc, od, .func (fnOf name qual params body scope dV kV doc pm an cdv ct), osl⟩) (hcd : codeIn K cdv qual = true) (hroom : A.depth < recursionLimit)
    (hbind : BindsTo s (fnOf name qual params body scope dV kV doc pm an cdv ct) args binds) (hloc : ∀ y ∈ binds, scope.names.lookup y.1 = some .local)
    (h : ∀ g L' h₁, Fr h₀ L g m → Fr g L' h₁ (fun y => binds.reverse.lookup y) → News g L' h₁ news → (∀ p ∈ news, p.1 < L') → K.In g → Top p loose mean mg mb g →
      wpAny (model prog w) (A.deeper (envOf qual scope L' f cdv)) (execs body (envOf qual scope L' f cdv))
        (fun fl s' => LeaveK h₀ L m g R (match fl with | .ret v => v | _ => .none) s') (fun _ _ => False)
        { s with heap := h₁, toks := s.toks + binds.length })
    (hco : scope.isCoroutine = false) (hgen : scope.isGenerator = false) (hk : scope.kind = .function)
    (hcell : ∀ x ∈ scope.names, x.2 ≠ .cell) : codeAny (model prog w) A (.call (.ref f) args) R s := by
  obtain ⟨FG, _, st, lv⟩ := groundX (R := R) (A₀ := { frames := some [] }) (base := h₀) (outer := []) (A := { frames := some [envOf qual scope L f cdv] }) (env := envOf qual scope L f cdv) ⟨rfl, fun _ _ e => e, trivial⟩ F N rfl rfl hk
  refine codeAny_call_def (fd := fnOf name qual params body scope dV kV doc pm an cdv ct) (body := body) (binds := binds) hroom ((X₀.keeps F.keep) _ _ ho) rfl (T.nolimit.keeps F.keep) (codeRec_of (X₀.keeps F.keep) hcd) rfl hbind hcell hloc (fun h₁ hns hk₁ => ?_) hco hgen hk
  refine wpAny_mono (h _ s.heap.objs.size h₁ FG ⟨hns, fun b o e => hk₁ b o (of_hideAll _ e), Nat.le_of_eq (hideAll_size _ _)⟩
    (fun p hp => ⟨hk₁ _ _ (N p hp).1, Nat.ne_of_lt (Heap.lt_size (N p hp).1), hideAll_none _ (List.mem_map_of_mem hp)⟩) (fun p hp => Heap.lt_size (N p hp).1) (X₀.keeps st) (T.keeps st)) (fun fl s' hl => lv _ _ hl) fun _ _ y => y.elim

noncomputable abbrev patObj (p0 p1 : Value) (code : Addr) : Obj := { cls := .type "re.Pattern", data := .fields #[p0, p1, .int 0 0, .none, .none, .ref code, .int 0 0] }
noncomputable abbrev tupObj (items : Array Value) (n : Nat) : Obj := { cls := .type "tuple", data := .seq items n }
noncomputable def nameItems : { i : Array Value // ∀ P, ∃ n, (hd.heap_39 P).lookup 40 = some (tupObj i n) } := ⟨_, fun P => ⟨_, by k_is⟩⟩
noncomputable def valItems : { i : Array Value // ∀ P, ∃ n, (hd.heap_39 P).lookup 45 = some (tupObj i n) } := ⟨_, fun P => ⟨_, by k_is⟩⟩
noncomputable def dotItems : { i : Array Value // ∀ P, ∃ n, (hd.heap_39 P).lookup 211 = some (tupObj i n) } := ⟨_, fun P => ⟨_, by k_is⟩⟩
noncomputable def nlItems : { i : Array Value // ∀ P, ∃ n, (hd.heap_39 P).lookup 216 = some (tupObj i n) } := ⟨_, fun P => ⟨_, by k_is⟩⟩

theorem pat_name {P : Params} {h : Heap} (X : (hd.heap_39 P).In h) : PatAt h 41 40 nameItems.1 := by
  refine ⟨⟨_, _, X _ _ (by k_is)⟩, ?_⟩
  obtain ⟨n, e⟩ := nameItems.2 P
  exact ⟨n, X _ _ e⟩
theorem pat_val {P : Params} {h : Heap} (X : (hd.heap_39 P).In h) : PatAt h 46 45 valItems.1 := by
  refine ⟨⟨_, _, X _ _ (by k_is)⟩, ?_⟩
  obtain ⟨n, e⟩ := valItems.2 P
  exact ⟨n, X _ _ e⟩
theorem pat_dot {P : Params} {h : Heap} (X : (hd.heap_39 P).In h) : PatAt h 212 211 dotItems.1 := by
  refine ⟨⟨_, _, X _ _ (by k_is)⟩, ?_⟩
  obtain ⟨n, e⟩ := dotItems.2 P
  exact ⟨n, X _ _ e⟩
theorem pat_nl {P : Params} {h : Heap} (X : (hd.heap_39 P).In h) : PatAt h 217 216 nlItems.1 := by
  refine ⟨⟨_, _, X _ _ (by k_is)⟩, ?_⟩
  obtain ⟨n, e⟩ := nlItems.2 P
  exact ⟨n, X _ _ e⟩

noncomputable def fails (code t : Array Nat) : Bool := match drive 50 (Sre.forSearch code t 0 0 t.size false) with
  | some m => (match m.outcome with | some .failed => true | _ => false)
  | none => false
theorem fails_spec {code t : Array Nat} (h : fails code t = true) : ∃ m', drive 50 (Sre.forSearch code t 0 0 t.size false) = some m' ∧ m'.outcome = some .failed := by
  unfold fails at h
  split at h
  · rename_i m hm
    refine ⟨m, hm, ?_⟩
    split at h
    · assumption
    · cases h
  · cases h
noncomputable def nameOk (v : Str) : Bool := decide (v.cps.size < 1000) && fails (codeOf nameItems.1) v.cps
noncomputable def valOk (v : Str) : Bool := decide (v.cps.size < 1000) && fails (codeOf valItems.1) v.cps

example : nameOk (Str.ofString ".b") = true := by decide +kernel
example : valOk (Str.ofString "(") = true := by decide +kernel
example : nameOk (Str.ofString ".b\t") = false := by decide +kernel

section
variable {prog : Program} {w : World} {A : Around} {E : Value → Shared → Prop} {s : Shared} {h₀ : Heap} {L : Addr} {m : Str → Option Value} {v : Str} {tk : Tok}
theorem getMethod_search {pat code : Addr} {items : Array Value} {pl : Sem Bool} {Q : Value × List Value → Shared → Prop} (P : PatAt s.heap pat code items) (h : Q (.builtin "re.Pattern.search", [.ref pat]) s) :
    wpAny (model prog w) A (getMethod (.ref pat) "search" pl) Q E s := by
  refine getMethod_builtin P.typeIs plainAttrs_pat slot_pat_search type_pat_search (fun a e => ?_) h
  cases e
  obtain ⟨p0, p1, hp⟩ := P.pat
  exact ⟨_, hp, rfl⟩
theorem getMethod_sub {pat code : Addr} {items : Array Value} {pl : Sem Bool} {Q : Value × List Value → Shared → Prop} (P : PatAt s.heap pat code items) (h : Q (.builtin "re.Pattern.sub", [.ref pat]) s) :
    wpAny (model prog w) A (getMethod (.ref pat) "sub" pl) Q E s := by
  refine getMethod_builtin P.typeIs plainAttrs_pat slot_pat_sub type_pat_sub (fun a e => ?_) h
  cases e
  obtain ⟨p0, p1, hp⟩ := P.pat
  exact ⟨_, hp, rfl⟩
theorem search_name {P : Params} {Q : Value → Shared → Prop} (F : Fr h₀ L s.heap m) (X : (hd.heap_39 P).In h₀) (hv : nameOk v = true) (h : Q .none s) :
    wpAny (model prog w) A (call (.builtin "re.Pattern.search") [.ref 41, .str v tk]) Q E s := by
  obtain ⟨h1, h2⟩ := Bool.and_eq_true_iff.mp hv
  obtain ⟨m', e1, e2⟩ := fails_spec h2
  have h1 := of_decide_eq_true h1
  have P := pat_name (X.keeps F.keep)
  exact call_meets slot_pat_search P.typeIs entry_pat_search (args_pat_search _ _) (search_none (by omega) e1 e2 (by omega)) ⟨P, h⟩
theorem search_val {P : Params} {Q : Value → Shared → Prop} (F : Fr h₀ L s.heap m) (X : (hd.heap_39 P).In h₀) (hv : valOk v = true) (h : Q .none s) :
    wpAny (model prog w) A (call (.builtin "re.Pattern.search") [.ref 46, .str v tk]) Q E s := by
  obtain ⟨h1, h2⟩ := Bool.and_eq_true_iff.mp hv
  obtain ⟨m', e1, e2⟩ := fails_spec h2
  have h1 := of_decide_eq_true h1
  have P := pat_val (X.keeps F.keep)
  exact call_meets slot_pat_search P.typeIs entry_pat_search (args_pat_search _ _) (search_none (by omega) e1 e2 (by omega)) ⟨P, h⟩
end

noncomputable abbrev AR (dp : Nat) (fr : Option (List Env)) (gd : Option (List Code)) (un : Nat) : Around := { handled := none, depth := dp, frames := fr, guards := gd, units := un }
local macro_rules | `(tactic| walk_at "getMethod ref") => `(tactic| (k_here; (with_reducible show wpAny _ _ (getMethod (Value.ref 41) _ _) _ _ _); with_unfolding_all refine getMethod_search (pat_name (by k_in)) ?_))
local macro_rules | `(tactic| walk_at "getMethod ref") => `(tactic| (k_here; (with_reducible show wpAny _ _ (getMethod (Value.ref 46) _ _) _ _ _); with_unfolding_all refine getMethod_search (pat_val (by k_in)) ?_))
local macro_rules | `(tactic| walk_at "call builtin:re.Pattern.search") => `(tactic| (k_here; first
  | (refine search_name (by assumption) (by assumption) (by assumption) ?_)
  | (refine search_val (by assumption) (by assumption) (by assumption) ?_)))
theorem conv_name {prog : Program} {w : World} {dp un : Nat} {fr : Option (List Env)} {gd : Option (List Code)} {s : Shared} {h₀ : Heap} {L : Addr} {m mg mb : Str → Option Value} {news : List (Addr × Obj)} {p : Program} {loose : List Str} {mean : ExcName → Option Value}
    {Q E : Value → Shared → Prop} {self : Addr} {v : Str} {tk : Tok}
    (F : Fr h₀ L s.heap m) (X₀ : (hd.heap_39 w.params).In h₀) (N : News h₀ L s.heap news) (T : Top p loose mean mg mb h₀) (hroom : dp < 900) (hv : nameOk v = true)
    (hQ : ∀ h' tk', Fr h₀ L h' m → News h₀ L h' news → Q (.str v tk) { s with heap := h', toks := tk' }) :
    wpAny (model prog w) (AR dp fr gd un) (call (.ref 76) [.ref self, .str v tk] [(Str.ofString "name", .bool true)]) Q E s := by
  refine wpAny_call ?_
  refine' enterW F X₀ N T ?k6 ?k7 ?k8 ?k9 ?kB ?_ ?c2 ?c3 ?c4 ?c5
  case k6 => k_is
  case k7 => k_is
  case k8 => show dp < 1000; omega
  case k9 => exact BindsTo.of_eq rfl
  case kB => exact locs rfl
  case c2 => rfl
  case c3 => rfl
  case c4 => rfl
  case c5 => decide
  intro g L' h₁ FG F' N' lt X' T'
  clear FG F N
  (try dsimp only)
  k_fold
  k_steps
  exact hQ _ _ (by assumption) (by assumption)
theorem conv_val {prog : Program} {w : World} {dp un : Nat} {fr : Option (List Env)} {gd : Option (List Code)} {s : Shared} {h₀ : Heap} {L : Addr} {m mg mb : Str → Option Value} {news : List (Addr × Obj)} {p : Program} {loose : List Str} {mean : ExcName → Option Value}
    {Q E : Value → Shared → Prop} {self : Addr} {v : Str} {tk : Tok}
    (F : Fr h₀ L s.heap m) (X₀ : (hd.heap_39 w.params).In h₀) (N : News h₀ L s.heap news) (T : Top p loose mean mg mb h₀) (hroom : dp < 900) (hv : valOk v = true)
    (hQ : ∀ h' tk', Fr h₀ L h' m → News h₀ L h' news → Q (.str v tk) { s with heap := h', toks := tk' }) :
    wpAny (model prog w) (AR dp fr gd un) (call (.ref 76) [.ref self, .str v tk] [(Str.ofString "name", .bool false)]) Q E s := by
  refine wpAny_call ?_
  refine' enterW F X₀ N T ?k6 ?k7 ?k8 ?k9 ?kB ?_ ?c2 ?c3 ?c4 ?c5
  case k6 => k_is
  case k7 => k_is
  case k8 => show dp < 1000; omega
  case k9 => exact BindsTo.of_eq rfl
  case kB => exact locs rfl
  case c2 => rfl
  case c3 => rfl
  case c4 => rfl
  case c5 => decide
  intro g L' h₁ FG F' N' lt X' T'
  clear FG F N
  (try dsimp only)
  k_fold
  k_steps
  exact hQ _ _ (by assumption) (by assumption)
abbrev NoE : Value → Shared → Prop := fun _ _ => False

def Turns (prog : Program) (w : World) (A : Around) (target : Expr) (body : List Stmt) (env : Env) (Q : Flow → Shared → Prop) (it : Value) (s₂ : Shared) : Prop :=
  ∃ (I : Nat → Shared → Prop) (n : Nat), I n s₂ ∧ ∀ n s, I n s → wpAny (model prog w) A (pyNext it) (fun r s₁ => match r with
    | none => Q .next s₁
    | some v => wpAny (model prog w) A (letOwnedTupleGo target it v) (fun _ s₁' => wpAny (model prog w) A (assign target env v) (fun _ s₂ => wpAny (model prog w) A (execs body env) (fun f s₃ => match f with
        | .next | .cont => ∃ k, k < n ∧ I k s₃
        | .brk => Q .next s₃
        | .ret v => Q (.ret v) s₃) NoE s₂) NoE s₁') NoE s₁) NoE s

theorem for_any {prog : Program} {w : World} {A : Around} {E : Value → Shared → Prop} {s : Shared} {target iter : Expr} {body : List Stmt} {pos : Pos} {env : Env} {Q : Flow → Shared → Prop}
    (h : wpAny (model prog w) A (eval iter env) (fun x s₁ => wpAny (model prog w) A (pyIter x) (Turns prog w A target body env Q) NoE s₁) NoE s)
    (hs : ∀ x, foldedSetIterable iter env x = pure x := by intro _; rfl) :
    wpAny (model prog w) A (exec (.For target iter body [] pos) env) Q E s := by
  refine wpAny_For (wpAny_mono h (fun x s₁ h₁ => wpAny_mono h₁ (fun it s₂ h₂ => ?_) fun _ _ e => e.elim) fun _ _ e => e.elim) hs
  obtain ⟨I, n, hI, turn⟩ := h₂
  refine codeAny_forLoop_any I (fun n s hn => ?_) n hI
  refine wpAny_mono (turn n s hn) (fun r s₁ h₁ => ?_) fun _ _ e => e.elim
  cases r with
  | none => exact wpAny_execs_nil h₁
  | some v =>
    refine wpAny_mono h₁ (fun _ s₁' h₁' => wpAny_mono h₁' (fun _ s₂ h₂ => wpAny_mono h₂ (fun f s₃ h₃ => ?_) fun _ _ e => e.elim) fun _ _ e => e.elim) fun _ _ e => e.elim
    cases f <;> exact h₃

def IterO (o : Obj) (l : Addr) (i : Nat) : Prop := o.cls = .type "list_iterator" ∧ o.data = .fields #[.ref l, .int i 0]

theorem News.off {h₀ h : Heap} {L a : Addr} {o : Obj} {news : List (Addr × Obj)} (N : News h₀ L h ((a, o) :: news)) : News h₀ L h news := fun p hp => N p (.tail _ hp)

theorem for_list {prog : Program} {w : World} {A : Around} {s : Shared} {target : Expr} {body : List Stmt} {env : Env} {Q : Flow → Shared → Prop} {g : Heap} {L l : Addr} {m : Str → Option Value} {news : List (Addr × Obj)} {vs : List Value}
    (J : Nat → (Str → Option Value) → List (Addr × Obj) → Array GenState → Prop)
    (hh : A.handled = none) (F : Fr g L s.heap m) (N : News g L s.heap news) (hl : s.heap.IsList l vs.toArray) (hJ0 : J 0 m news s.gens)
    (hJl : ∀ i m₁ news₁ gs h, J i m₁ news₁ gs → Fr g L h m₁ → News g L h news₁ → h.IsList l vs.toArray)
    (hoff : ∀ i m₁ news₁ gs, J i m₁ news₁ gs → ∀ p ∈ news₁, p.1 ≠ s.heap.objs.size)
    (turn : ∀ i v o m₁ news₁ gs h tk, vs[i]? = some v → J i m₁ news₁ gs → IterO o l (i + 1) → Fr g L h m₁ → News g L h ((s.heap.objs.size, o) :: news₁) →
      wpAny (model prog w) A (letOwnedTupleGo target (.ref s.heap.objs.size) v) (fun _ s₁' => wpAny (model prog w) A (assign target env v) (fun _ s₂ => wpAny (model prog w) A (execs body env) (fun f s₃ => match f with
        | .next | .cont => ∃ h' tk' gs' m' news', s₃ = ⟨h', gs', s.drawn, tk', s.os⟩ ∧ Fr g L h' m' ∧ News g L h' ((s.heap.objs.size, o) :: news') ∧ J (i + 1) m' news' gs'
        | .brk => Q .next s₃
        | .ret v => Q (.ret v) s₃) NoE s₂) NoE s₁') NoE ⟨h, gs, s.drawn, tk, s.os⟩)
    (done : ∀ m₁ news₁ gs h tk, J vs.length m₁ news₁ gs → Fr g L h m₁ → News g L h news₁ → Q .next ⟨h, gs, s.drawn, tk, s.os⟩) :
    wpAny (model prog w) A (pyIter (.ref l)) (Turns prog w A target body env Q) NoE s := by
  refine wpAny_pyIter_list hl ?_
  refine ⟨fun n s' => ∃ i m₁ news₁ gs h tk o, s' = ⟨h, gs, s.drawn, tk, s.os⟩ ∧ n + i = vs.length ∧ J i m₁ news₁ gs ∧ IterO o l i ∧ Fr g L h m₁ ∧ News g L h ((s.heap.objs.size, o) :: news₁), vs.length,
    ⟨0, m, news, s.gens, _, s.toks, _, rfl, rfl, hJ0, ⟨rfl, rfl⟩, F.push _, News.push F N _⟩, ?_⟩
  rintro n s' ⟨i, m₁, news₁, gs, h, tk, o, rfl, hn, hJ, hO, F₁, N₁⟩
  have hit : h.IsListIter s.heap.objs.size l i := ⟨o, (N₁ _ (.head _)).1, hO.1, hO.2⟩
  have hl₁ := hJl _ _ _ _ _ hJ F₁ (News.off N₁)
  cases hv : vs[i]? with
  | none =>
    have : vs.length ≤ i := by simpa using hv
    have e : i = vs.length := by omega
    subst e
    refine wpAny_pyNext_list_end hh hit hl₁ (by simpa using hv) fun h' he => ?_
    refine done m₁ news₁ gs h' tk hJ ?_ ?_
    · refine ⟨F₁.ns.extBut he (Ne.symm (N₁ _ (.head _)).2.1), fun b o' e => he b o' (fun q => ?_) (F₁.keep b o' e), F₁.above⟩
      have := (N₁ _ (.head _)).2.2; rw [← q, e] at this; cases this
    · intro p hp
      have := N₁ p (.tail _ hp)
      exact ⟨he _ _ (hoff _ _ _ _ hJ p hp) this.1, this.2⟩
  | some v =>
    have hi : i < vs.length := (List.getElem?_eq_some_iff.mp hv).1
    refine wpAny_pyNext_list_item hit hl₁ (by simpa using hv) fun h' hit' hs' => ?_
    obtain ⟨o', ho', hc', hd'⟩ := hit'
    have F₂ : Fr g L h' m₁ := by
      refine ⟨F₁.ns.sameBut hs' (Ne.symm (N₁ _ (.head _)).2.1), fun b ob e => (hs'.2 b fun q => ?_).trans (F₁.keep b ob e), F₁.above⟩
      have := (N₁ _ (.head _)).2.2; rw [← q, e] at this; cases this
    have N₂ : News g L h' ((s.heap.objs.size, o') :: news₁) := by
      intro p hp
      rcases List.mem_cons.mp hp with rfl | hp
      · exact ⟨ho', (N₁ _ (.head _)).2⟩
      · have := N₁ p (.tail _ hp)
        exact ⟨(hs'.2 _ (hoff _ _ _ _ hJ p hp)).trans this.1, this.2⟩
    refine wpAny_mono (turn i v o' m₁ news₁ gs h' tk hv hJ ⟨hc', hd'⟩ F₂ N₂) (fun _ s₁' h₁' => wpAny_mono h₁' (fun _ s₂ h₂ => wpAny_mono h₂ (fun f s₃ h₃ => ?_) fun _ _ e => e) fun _ _ e => e) fun _ _ e => e
    have fin : (∃ h'' tk' gs' m' news', s₃ = ⟨h'', gs', s.drawn, tk', s.os⟩ ∧ Fr g L h'' m' ∧ News g L h'' ((s.heap.objs.size, o') :: news') ∧ J (i + 1) m' news' gs') →
        ∃ k, k < n ∧ ∃ i m₁ news₁ gs h tk o, s₃ = ⟨h, gs, s.drawn, tk, s.os⟩ ∧ k + i = vs.length ∧ J i m₁ news₁ gs ∧ IterO o l i ∧ Fr g L h m₁ ∧ News g L h ((s.heap.objs.size, o) :: news₁) := by
      rintro ⟨h'', tk', gs', m', news', rfl, F', N', hJ'⟩
      exact ⟨n - 1, by omega, i + 1, m', news', gs', h'', tk', o', rfl, by omega, hJ', ⟨hc', hd'⟩, F', N'⟩
    cases f with
    | next => exact fin h₃
    | cont => exact fin h₃
    | brk => exact h₃
    | ret v => exact h₃
inductive RowsIn (news : List (Addr × Obj)) : List Value → List (Str × Str) → Prop
  | nil : RowsIn news [] []
  | cons {t : Addr} {k v : Str} {tk tv : Tok} {n : Nat} {vs : List Value} {rows : List (Str × Str)} : (t, tupObj #[.str k tk, .str v tv] n) ∈ news → RowsIn news vs rows → RowsIn news (.ref t :: vs) ((k, v) :: rows)
theorem RowsIn.length {news : List (Addr × Obj)} {vs : List Value} {rows : List (Str × Str)} (h : RowsIn news vs rows) : vs.length = rows.length := by
  induction h with
  | nil => rfl
  | cons _ _ ih => simp [ih]
theorem RowsIn.at {news : List (Addr × Obj)} {vs : List Value} {rows : List (Str × Str)} (h : RowsIn news vs rows) : ∀ {i : Nat} {v : Value}, vs[i]? = some v →
    ∃ t k x tk tv n, v = .ref t ∧ (t, tupObj #[.str k tk, .str x tv] n) ∈ news ∧ rows[i]? = some (k, x) := by
  induction h with
  | nil => intro i v e; simp at e
  | cons hm _ ih =>
    intro i v e
    cases i with
    | zero =>
      simp only [List.getElem?_cons_zero, Option.some.injEq] at e
      subst e
      exact ⟨_, _, _, _, _, _, rfl, hm, rfl⟩
    | succ i =>
      simp only [List.getElem?_cons_succ] at e ⊢
      exact ih e
noncomputable def lookupRow : List (Str × Str) → Str → Option Str
  | [], _ => none
  | (k, v) :: r, x => if k = x then some v else lookupRow r x
theorem lookupRow_none {x : Str} : ∀ {rows : List (Str × Str)}, (∀ r ∈ rows, r.1 ≠ x) → lookupRow rows x = none
  | [], _ => rfl
  | (k, v) :: r, h => by
    unfold lookupRow
    rw [if_neg (h (k, v) (.head _))]
    exact lookupRow_none fun r hr => h r (.tail _ hr)
theorem lookupRow_at {x v : Str} : ∀ {pre post : List (Str × Str)}, (∀ r ∈ pre, r.1 ≠ x) → lookupRow (pre ++ (x, v) :: post) x = some v
  | [], _, _ => by simp [lookupRow]
  | (k, v) :: r, _, h => by
    show (if k = x then some v else lookupRow _ x) = _
    rw [if_neg (h (k, v) (.head _))]
    exact lookupRow_at fun r hr => h r (.tail _ hr)

def RowEnd (g : Heap) (L : Addr) (m : Str → Option Value) (x1 x2 : Str) (P : Prop) (news : List (Addr × Obj)) (s s₃ : Shared) : Prop :=
  P ∧ ∃ h' tk' m', s₃ = ⟨h', s.gens, s.drawn, tk', s.os⟩ ∧ Fr g L h' m' ∧ (∀ y, y ≠ x1 → y ≠ x2 → m' y = m y) ∧ News g L h' news
theorem RowEnd.intro {g h' : Heap} {L : Addr} {m m' : Str → Option Value} {x1 x2 : Str} {P : Prop} {news : List (Addr × Obj)} {s : Shared} {tk' : Nat} (F : Fr g L h' m') (N : News g L h' news)
    (hm : ∀ y, y ≠ x1 → y ≠ x2 → m' y = m y) (hP : P) : RowEnd g L m x1 x2 P news s ⟨h', s.gens, s.drawn, tk', s.os⟩ := ⟨hP, h', tk', m', rfl, F, hm, N⟩
inductive PredIs {α : Type} (P : α) : Prop | mk
inductive FnIs {α : Type} (P : α) : Prop | mk
theorem lookup_hit {rows pre post : List (Str × Str)} {k v x : Str} (hr : rows = pre ++ (k, v) :: post) (hP : ∀ r ∈ pre, r.1 ≠ x) (e : (k == x) = true) : lookupRow rows x = some v := by
  have := beq_iff_eq.mp e
  subst this hr
  exact lookupRow_at hP
theorem snoc_miss {pre : List (Str × Str)} {k v x : Str} (hP : ∀ r ∈ pre, r.1 ≠ x) (e : (k == x) = false) : ∀ r ∈ pre ++ [(k, v)], r.1 ≠ x := by
  intro r hr
  rcases List.mem_append.mp hr with h | h
  · exact hP r h
  · rw [List.mem_singleton.mp h]
    exact beq_eq_false_iff_ne.mp e
theorem for_rows {prog : Program} {w : World} {A : Around} {s : Shared} {elts : List Expr} {ctx : Nat} {tpos : Pos} {body : List Stmt} {env : Env} {Q : Flow → Shared → Prop} {g : Heap} {L l : Addr} {m : Str → Option Value} {news : List (Addr × Obj)} {vs : List Value} {n : Nat}
    {rows : List (Str × Str)} {P : List (Str × Str) → Prop} {G : Str → Str → Prop} (x1 x2 : Str) (_hP : PredIs P) (_hG : FnIs G) (hG : ∀ r ∈ rows, G r.1 r.2)
    (hh : A.handled = none) (F : Fr g L s.heap m) (N : News g L s.heap news) (hl : (l, listOf vs.toArray n) ∈ news) (hr : RowsIn news vs rows) (h0 : P [])
    (turn : ∀ pre k v post t tk tv nn it o h tks (u : Str → Option Value), rows = pre ++ (k, v) :: post → P pre → (t, tupObj #[.str k tk, .str v tv] nn) ∈ news → (∀ p ∈ news, p.1 ≠ it) → G k v →
      Fr g L h (fun y => if y = x2 then u x2 else if y = x1 then u x1 else m y) → News g L h ((it, o) :: news) →
      wpAny (model prog w) A (assign (.Tuple elts ctx tpos) env (.ref t)) (fun _ s₂ => wpAny (model prog w) A (execs body env) (fun f s₃ => match f with
        | .next | .cont => RowEnd g L m x1 x2 (P (pre ++ [(k, v)])) ((it, o) :: news) s s₃
        | .brk => Q .next s₃
        | .ret v => Q (.ret v) s₃) NoE s₂) NoE ⟨h, s.gens, s.drawn, tks, s.os⟩)
    (done : ∀ h tk (u : Str → Option Value), P rows → Fr g L h (fun y => if y = x2 then u x2 else if y = x1 then u x1 else m y) → News g L h news → Q .next ⟨h, s.gens, s.drawn, tk, s.os⟩) :
    wpAny (model prog w) A (pyIter (.ref l)) (Turns prog w A (.Tuple elts ctx tpos) body env Q) NoE s := by
  have hlen := hr.length
  have shape : ∀ m₁ : Str → Option Value, (∀ y, y ≠ x1 → y ≠ x2 → m₁ y = m y) → m₁ = fun y => if y = x2 then m₁ x2 else if y = x1 then m₁ x1 else m y := by
    intro m₁ hm
    funext y
    by_cases h2 : y = x2
    · simp [h2]
    · by_cases h1 : y = x1
      · by_cases h12 : x1 = x2
        · exact absurd (h1.trans h12) h2
        · simp [h1, h12]
      · simp [h1, h2, hm y h1 h2]
  refine for_list (fun i m₁ news₁ gs => news₁ = news ∧ gs = s.gens ∧ (∀ y, y ≠ x1 → y ≠ x2 → m₁ y = m y) ∧ P (rows.take i)) hh F N ⟨_, (N _ hl).1, rfl, _, rfl⟩ ⟨rfl, rfl, fun _ _ _ => rfl, h0⟩ ?_ ?_ ?_ ?_
  · rintro i m₁ news₁ gs h ⟨rfl, _⟩ _ N₁
    exact ⟨_, (N₁ _ hl).1, rfl, _, rfl⟩
  · rintro i m₁ news₁ gs ⟨rfl, _⟩ p hp
    exact Nat.ne_of_lt (Heap.lt_size (N p hp).1)
  · rintro i v o m₁ news₁ gs h tk hv ⟨rfl, rfl, hm, hP⟩ hO F₁ N₁
    obtain ⟨t, k, x, tk', tv, nn, rfl, hmem, hrow⟩ := hr.at hv
    have hi : i < rows.length := (List.getElem?_eq_some_iff.mp hrow).1
    have hri : rows[i] = (k, x) := (List.getElem?_eq_some_iff.mp hrow).2
    have split : rows = rows.take i ++ (k, x) :: rows.drop (i + 1) := by
      rw [← hri]; simp
    have tk1 : rows.take (i + 1) = rows.take i ++ [(k, x)] := by
      rw [List.take_add_one, hrow]; rfl
    refine wpAny_letOwnedTupleGo_listiter ⟨o, (N₁ _ (.head _)).1, hO.1, hO.2⟩ ?_
    refine wpAny_mono (turn (rows.take i) k x (rows.drop (i + 1)) t tk' tv nn _ o h tk m₁ split hP hmem (fun p hp => Nat.ne_of_lt (Heap.lt_size (N p hp).1)) (hG (k, x) (List.mem_of_getElem? hrow)) (shape m₁ hm ▸ F₁) N₁) (fun _ s₂ h₂ => wpAny_mono h₂ (fun f s₃ h₃ => ?_) fun _ _ e => e) fun _ _ e => e
    have fin : RowEnd g L m x1 x2 (P (rows.take i ++ [(k, x)])) ((s.heap.objs.size, o) :: news₁) s s₃ →
        ∃ h' tk' gs' m' news', s₃ = ⟨h', gs', s.drawn, tk', s.os⟩ ∧ Fr g L h' m' ∧ News g L h' ((s.heap.objs.size, o) :: news') ∧ news' = news₁ ∧ gs' = s.gens ∧ (∀ y, y ≠ x1 → y ≠ x2 → m' y = m y) ∧ P (rows.take (i + 1)) := by
      rintro ⟨hP', h', tk', m', rfl, F', hm', N'⟩
      exact ⟨h', tk', _, m', _, rfl, F', N', rfl, rfl, hm', tk1 ▸ hP'⟩
    cases f with
    | next => exact fin h₃
    | cont => exact fin h₃
    | brk => exact h₃
    | ret v => exact h₃
  · rintro m₁ news₁ gs h tk ⟨rfl, rfl, hm, hP⟩ F₁ N₁
    rw [hlen, List.take_length] at hP
    exact done h tk m₁ hP (shape m₁ hm ▸ F₁) N₁

def Low (v v' : Str) : Prop := Txt.lower v = v' ∧ PySem.Builtin.Str.tooLong (Txt.lower v).length = false
theorem low_call {prog : Program} {w : World} {A : Around} {E : Value → Shared → Prop} {s : Shared} {x y : Str} {t : Tok} {Q : Value → Shared → Prop} (e : Low x y) (h : ∀ t' k, Q (.str y t') { s with toks := k }) : wpAny (model prog w) A (call (.builtin "str.lower") [.str x t]) Q E s := SC.lower e.2 (by have := h s.toks (s.toks + 1); rw [← e.1] at this; exact this)

theorem depth_AR {dp un : Nat} {fr : Option (List Env)} {gd : Option (List Code)} : (AR dp fr gd un).depth = dp := rfl
local macro_rules | `(tactic| k_mem) => `(tactic| first | with_reducible assumption | exact List.Mem.head _ | (refine' List.mem_cons_of_mem _ ?_; k_mem))
local macro_rules | `(tactic| walk_at "call ref") => `(tactic| (k_here; (with_reducible show wpAny _ _ (call (Value.ref 76) _ _) _ _ _); first
  | (with_unfolding_all refine' conv_name ?cF ?cX ?cN ?cT ?cd ?cv ?_; (case cF => assumption); (case cX => assumption); (case cN => assumption); (case cT => assumption); (case cd => (simp only [depth_deeper, depth_AR]; omega)); (case cv => assumption); intro h' tk' F' N')
  | (with_unfolding_all refine' conv_val ?cF ?cX ?cN ?cT ?cd ?cv ?_; (case cF => assumption); (case cX => assumption); (case cN => assumption); (case cT => assumption); (case cd => (simp only [depth_deeper, depth_AR]; omega)); (case cv => assumption); intro h' tk' F' N')))
local macro_rules | `(tactic| walk_at "call builtin:str.lower") => `(tactic| (k_here; (with_reducible show wpAny _ _ (call (Value.builtin "str.lower") _) _ _ _); (with_unfolding_all refine low_call (by assumption) ?_); intro _ _))
local macro_rules | `(tactic| walk_at "exec For") => `(tactic| (k_here; k_dflt (refine for_any ?_)))
local macro_rules | `(tactic| walk_at "callWith ref") => `(tactic| (k_here; k_dflt (refine' callWith_KW ?k1 ?k2 ?k3 ?_; (case k1 => k_asm); (case k2 => k_is); (case k3 => exact rfl); k_whole)))
local macro_rules | `(tactic| walk_at "RowEnd") => `(tactic| (refine RowEnd.intro (by assumption) (by assumption) (by intro y h1 h2; simp [h1, h2]) ?_))
local macro_rules | `(tactic| walk_at "pyIter ref") => `(tactic| (k_here; walk_at "MY rows"))
section
local macro_rules | `(tactic| walk_at "MY rows") => `(tactic| (
  k_dflt refine' for_rows (Str.ofString "k") (Str.ofString "v") ?cP ?cG0 ?cG ?ch ?cF ?cN ?cl ?cr ?c0 (fun pre k v post t tk tv nn it o h tks u hrows hP hmem hoff hg F' N' => ?_) (fun h tk u hP F' N' => ?_)
  (case cP => assumption)
  (case cG0 => assumption)
  (case cG => assumption)
  (case ch => rfl)
  (case cF => assumption)
  (case cN => assumption)
  (case cl => assumption)
  (case cr => assumption)
  (case c0 => (intro r hr; cases hr))))
theorem get_ {prog : Program} {w : World} {dp un : Nat} {fr : Option (List Env)} {gd : Option (List Code)} {s : Shared} {h₀ : Heap} {L : Addr} {m mg mb : Str → Option Value} {news : List (Addr × Obj)} {p : Program} {loose : List Str} {mean : ExcName → Option Value}
    {Q E : Value → Shared → Prop} {a d l : Addr} {v : Str} {tk : Tok} {hs : Int} {t0 : Tok} {n0 n1 : Nat} {refs : List Value} {rows : List (Str × Str)}
    (F : Fr h₀ L s.heap m) (X₀ : (hd.heap_39 w.params).In h₀) (N : News h₀ L s.heap news) (T : Top p loose mean mg mb h₀) (hroom : dp < 800)
    (ha : (a, instObj 175 d) ∈ news) (hd1 : (d, dictOf [⟨hs, .str (Str.ofString "_headers") t0, .ref l⟩] n0) ∈ news) (hl : (l, listOf refs.toArray n1) ∈ news) (hr : RowsIn news refs rows) {v' : Str} (hP : PredIs fun pre : List (Str × Str) => ∀ r ∈ pre, r.1 ≠ v') (hG : FnIs fun (k _ : Str) => Low k k) (hk : ∀ r ∈ rows, Low r.1 r.1)
    (hlow : Low v v') (hok : nameOk v' = true)
    (hQ : ∀ h' tk' r, Fr h₀ L h' m → News h₀ L h' news → (match lookupRow rows v' with | some x => ∃ t, r = Value.str x t | none => r = .none) → Q r { s with heap := h', toks := tk' }) :
    wpAny (model prog w) (AR dp fr gd un) (call (.ref 122) [.ref a, .str v tk] []) Q E s := by
  refine wpAny_call ?_
  refine' enterW F X₀ N T ?k6 ?k7 ?k8 ?k9 ?kB ?_ ?c2 ?c3 ?c4 ?c5
  case k6 => k_is
  case k7 => k_is
  case k8 => show dp < 1000; omega
  case k9 => first | exact BindsTo.of_eq rfl | exact binds_K (X₀.keeps F.keep) rfl (by k_is) rfl rfl rfl
  case kB => exact locs rfl
  case c2 => rfl
  case c3 => rfl
  case c4 => rfl
  case c5 => decide
  intro g L' h₁ FG F' N' lt X' T'
  clear FG F N
  (try dsimp only)
  k_fold
  k_steps
  · refine hQ _ _ _ (by assumption) (News.off (by assumption)) ?_
    rw [lookup_hit (by assumption) (by assumption) (by assumption)]
    exact ⟨_, rfl⟩
  · exact snoc_miss (by assumption) (by assumption) _ (by assumption)
  · refine hQ _ _ _ (by assumption) (by assumption) ?_
    rw [lookupRow_none (by assumption)]
end
section
variable {prog : Program} {w : World} {dp un : Nat} {fr : Option (List Env)} {gd : Option (List Code)} {s : Shared} {h₀ : Heap} {L : Addr} {m mg mb : Str → Option Value} {news : List (Addr × Obj)} {p : Program} {loose : List Str} {mean : ExcName → Option Value}
    {Q E : Value → Shared → Prop} {a d l : Addr} {v v' y : Str} {tk : Tok} {hs : Int} {t0 : Tok} {n0 n1 : Nat} {refs : List Value} {rows : List (Str × Str)}
theorem get_none (F : Fr h₀ L s.heap m) (X₀ : (hd.heap_39 w.params).In h₀) (N : News h₀ L s.heap news) (T : Top p loose mean mg mb h₀) (hroom : dp < 800)
    (ha : (a, instObj 175 d) ∈ news) (hd1 : (d, dictOf [⟨hs, .str (Str.ofString "_headers") t0, .ref l⟩] n0) ∈ news) (hl : (l, listOf refs.toArray n1) ∈ news) (hr : RowsIn news refs rows) (hk : ∀ r ∈ rows, Low r.1 r.1)
    (hlow : Low v v') (hok : nameOk v' = true) (hlk : lookupRow rows v' = none)
    (hQ : ∀ h' tk', Fr h₀ L h' m → News h₀ L h' news → Q .none { s with heap := h', toks := tk' }) :
    wpAny (model prog w) (AR dp fr gd un) (call (.ref 122) [.ref a, .str v tk] []) Q E s :=
  get_ F X₀ N T hroom ha hd1 hl hr ⟨⟩ ⟨⟩ hk hlow hok fun h' tk' r F' N' e => by
    rw [hlk] at e
    subst e
    exact hQ _ _ F' N'
theorem get_some (F : Fr h₀ L s.heap m) (X₀ : (hd.heap_39 w.params).In h₀) (N : News h₀ L s.heap news) (T : Top p loose mean mg mb h₀) (hroom : dp < 800)
    (ha : (a, instObj 175 d) ∈ news) (hd1 : (d, dictOf [⟨hs, .str (Str.ofString "_headers") t0, .ref l⟩] n0) ∈ news) (hl : (l, listOf refs.toArray n1) ∈ news) (hr : RowsIn news refs rows) (hk : ∀ r ∈ rows, Low r.1 r.1)
    (hlow : Low v v') (hok : nameOk v' = true) (hlk : lookupRow rows v' = some y)
    (hQ : ∀ h' tk' t, Fr h₀ L h' m → News h₀ L h' news → Q (.str y t) { s with heap := h', toks := tk' }) :
    wpAny (model prog w) (AR dp fr gd un) (call (.ref 122) [.ref a, .str v tk] []) Q E s :=
  get_ F X₀ N T hroom ha hd1 hl hr ⟨⟩ ⟨⟩ hk hlow hok fun h' tk' r F' N' e => by
    rw [hlk] at e
    obtain ⟨t, e⟩ := e
    subst e
    exact hQ _ _ _ F' N'
end
theorem RowsIn.mono {news news' : List (Addr × Obj)} {vs : List Value} {rows : List (Str × Str)} (h : RowsIn news vs rows) (hs : ∀ p ∈ news, p ∈ news') : RowsIn news' vs rows := by
  induction h with
  | nil => exact .nil
  | cons hm _ ih => exact .cons (hs _ hm) ih
theorem RowsIn.skip {news : List (Addr × Obj)} {p : Addr × Obj} {vs : List Value} {rows : List (Str × Str)} (h : RowsIn news vs rows) : RowsIn (p :: news) vs rows := h.mono fun _ hq => .tail _ hq
theorem RowsIn.snoc {news : List (Addr × Obj)} {t : Addr} {k v : Str} {tk tv : Tok} {n : Nat} {vs : List Value} {rows : List (Str × Str)} (h : RowsIn news vs rows) (hm : (t, tupObj #[.str k tk, .str v tv] n) ∈ news) :
    RowsIn news (vs ++ [.ref t]) (rows ++ [(k, v)]) := by
  induction h with
  | nil => exact .cons hm .nil
  | cons h1 _ ih => exact .cons h1 ih

-- the ledger with one entry changed
noncomputable def putA (a : Addr) (o : Obj) (news : List (Addr × Obj)) : List (Addr × Obj) := news.map fun p => if p.1 = a then (a, o) else p
theorem putA_here {a : Addr} {o o₀ : Obj} {news : List (Addr × Obj)} (h : (a, o₀) ∈ news) : (a, o) ∈ putA a o news := List.mem_map.mpr ⟨_, h, by simp⟩
theorem putA_other {a x : Addr} {o ox : Obj} {news : List (Addr × Obj)} (h : (x, ox) ∈ news) (hx : x ≠ a) : (x, ox) ∈ putA a o news := List.mem_map.mpr ⟨_, h, by simp [hx]⟩
theorem putA_mem {a : Addr} {o : Obj} {news : List (Addr × Obj)} {q : Addr × Obj} (h : q ∈ putA a o news) : ∃ q₀ ∈ news, q₀.1 = q.1 := by
  obtain ⟨p, hp, e⟩ := List.mem_map.mp h
  refine ⟨p, hp, ?_⟩
  split at e
  · rename_i h; rw [← e]; exact h
  · rw [← e]
theorem News.put {g h h' : Heap} {L a : Addr} {o o₀ : Obj} {news : List (Addr × Obj)} (N : News g L h news) (ha : (a, o₀) ∈ news) (hs : Heap.SameBut a h h') (ho : h'.get? a = some o) : News g L h' (putA a o news) := by
  intro q hq
  obtain ⟨p, hp, e⟩ := List.mem_map.mp hq
  split at e
  · rename_i h
    subst e
    exact ⟨ho, (N _ ha).2⟩
  · rename_i h
    subst e
    exact ⟨(hs.2 _ h).trans (N p hp).1, (N p hp).2⟩
theorem Fr.putF {g h h' : Heap} {L a : Addr} {m : Str → Option Value} {o₀ : Obj} {news : List (Addr × Obj)} (F : Fr g L h m) (N : News g L h news) (ha : (a, o₀) ∈ news) (hs : Heap.SameBut a h h') : Fr g L h' m := by
  refine ⟨F.ns.sameBut hs (Ne.symm (N _ ha).2.1), fun b ob e => (hs.2 b fun q => ?_).trans (F.keep b ob e), F.above⟩
  have := (N _ ha).2.2
  rw [← q, e] at this
  cases this
theorem append_W {prog : Program} {w : World} {A : Around} {E : Value → Shared → Prop} {s : Shared} {g : Heap} {L l : Addr} {m : Str → Option Value} {news : List (Addr × Obj)} {its : Array Value} {n : Nat} {v : Value} {Q : Value → Shared → Prop}
    (F : Fr g L s.heap m) (N : News g L s.heap news) (hl : (l, listOf its n) ∈ news) (hsz : its.size ≤ sizeLine)
    (h : ∀ h', Fr g L h' m → News g L h' (putA l (listOf (its.push v) (n + 1)) news) → Q .none { s with heap := h' }) :
    wpAny (model prog w) A (call (.builtin "list.append") [.ref l, v]) Q E s :=
  append_at (hsz := hsz) (N.get hl) fun h' hs ho' => h h' (Fr.putF F N hl hs) (News.put N hl hs ho')
theorem allLt_ne {d : Addr} {l : List (Addr × Obj)} (h : AllLt d l) : ∀ p ∈ l, p.1 ≠ d := by
  induction l with
  | nil => intro p hp; cases hp
  | cons q r ih =>
    intro p hp
    have h' : @LT.lt Nat _ q.1 d ∧ AllLt d r := h
    rcases List.mem_cons.mp hp with e | hp
    · rw [e]; exact Nat.ne_of_lt h'.1
    · exact ih h'.2 p hp
local macro_rules | `(tactic| walk_at "MY rowsin") => `(tactic| first | with_reducible assumption | (refine RowsIn.skip ?_; walk_at "MY rowsin"))
local macro_rules | `(tactic| walk_at "MY room") => `(tactic| (simp only [depth_deeper, depth_AR, depth_in1]; omega))
local macro_rules | `(tactic| walk_at "call ref") => `(tactic| (k_here; (with_reducible show wpAny _ _ (call (Value.ref 122) _ _) _ _ _); k_dflt (first
  | (refine' get_none ?cF ?cX ?cN ?cT ?cd ?ca ?cd1 ?cl ?cr ?ck ?clow ?cok ?clk ?_; (case cF => assumption); (case cX => assumption); (case cN => assumption); (case cT => assumption); (case cd => walk_at "MY room"); (case ca => k_mem); (case cd1 => k_mem); (case cl => k_mem); (case cr => walk_at "MY rowsin"); (case clow => assumption); (case clk => assumption); (case ck => assumption); (case cok => assumption); intro h' tk' F' N')
  | (refine' get_some ?cF ?cX ?cN ?cT ?cd ?ca ?cd1 ?cl ?cr ?ck ?clow ?cok ?clk ?_; (case cF => assumption); (case cX => assumption); (case cN => assumption); (case cT => assumption); (case cd => walk_at "MY room"); (case ca => k_mem); (case cd1 => k_mem); (case cl => k_mem); (case cr => walk_at "MY rowsin"); (case clow => assumption); (case clk => assumption); (case ck => assumption); (case cok => assumption); intro h' tk' t' F' N'))))
local macro_rules | `(tactic| k_all) => `(tactic| first | exact allLt_ne (by assumption) | exact allLt_ne (And.right (by assumption)) | exact allLt_ne (And.right (And.right (by assumption))) | exact allLt_ne (And.right (And.right (And.right (by assumption)))))
local macro_rules | `(tactic| walk_at "call builtin:list.append") => `(tactic| (k_here; k_dflt (first
  | (refine' append_K ?k1 ?k2 ?k3 ?_ ?z; (case k1 => k_asm); (case k2 => k_asm); (case k3 => k_upd); (case z => size_fits); intro h' F' N')
  | (refine' append_W ?k1 ?k2 ?k3 ?k4 ?_; (case k1 => k_asm); (case k2 => k_asm); (case k3 => k_mem); (case k4 => first | assumption | size_fits); intro h' F' N'))))
section
variable {prog : Program} {w : World} {dp un : Nat} {fr : Option (List Env)} {gd : Option (List Code)} {s : Shared} {h₀ : Heap} {L : Addr} {m mg mb : Str → Option Value} {news : List (Addr × Obj)} {p : Program} {loose : List Str} {mean : ExcName → Option Value}
    {Q E : Value → Shared → Prop} {a d l : Addr} {v v' x y : Str} {tk tkx : Tok} {hs : Int} {t0 : Tok} {n0 n1 : Nat} {refs : List Value} {rows : List (Str × Str)}
theorem setdef_some (F : Fr h₀ L s.heap m) (X₀ : (hd.heap_39 w.params).In h₀) (N : News h₀ L s.heap news) (T : Top p loose mean mg mb h₀) (hroom : dp < 700)
    (ha : (a, instObj 175 d) ∈ news) (hd1 : (d, dictOf [⟨hs, .str (Str.ofString "_headers") t0, .ref l⟩] n0) ∈ news) (hl : (l, listOf refs.toArray n1) ∈ news) (hr : RowsIn news refs rows) (hk : ∀ r ∈ rows, Low r.1 r.1)
    (hlow : Low v v') (hok : nameOk v' = true) (hlk : lookupRow rows v' = some y)
    (hQ : ∀ h' tk' t, Fr h₀ L h' m → News h₀ L h' news → Q (.str y t) { s with heap := h', toks := tk' }) :
    wpAny (model prog w) (AR dp fr gd un) (call (.ref 165) [.ref a, .str v tk, .str x tkx] []) Q E s := by
  refine wpAny_call ?_
  refine' enterW F X₀ N T ?k6 ?k7 ?k8 ?k9 ?kB ?_ ?c2 ?c3 ?c4 ?c5
  case k6 => k_is
  case k7 => k_is
  case k8 => show dp < 1000; omega
  case k9 => exact BindsTo.of_eq rfl
  case kB => exact locs rfl
  case c2 => rfl
  case c3 => rfl
  case c4 => rfl
  case c5 => decide
  intro g L' h₁ FG F' N' lt X' T'
  clear FG F N
  (try dsimp only)
  k_fold
  k_steps
  exact hQ _ _ _ (by assumption) (by assumption)
theorem setdef_none (F : Fr h₀ L s.heap m) (X₀ : (hd.heap_39 w.params).In h₀) (N : News h₀ L s.heap news) (T : Top p loose mean mg mb h₀) (hroom : dp < 700)
    (ha : (a, instObj 175 d) ∈ news) (hd1 : (d, dictOf [⟨hs, .str (Str.ofString "_headers") t0, .ref l⟩] n0) ∈ news) (hl : (l, listOf refs.toArray n1) ∈ news) (hr : RowsIn news refs rows) (hk : ∀ r ∈ rows, Low r.1 r.1)
    (hlow : Low v v') (hok : nameOk v' = true) (hokv : nameOk v = true) (hokx : valOk x = true) (hlk : lookupRow rows v' = none) (hsz : refs.toArray.size ≤ sizeLine)
    (hQ : ∀ h' tk' t, (∀ p ∈ news, p.1 < t) → Fr h₀ L h' m → News h₀ L h' (putA l (listOf (refs ++ [Value.ref t]).toArray (n1 + 1)) ((t, tupObj #[.str v tk, .str x tkx] 0) :: news)) → Q (.str x tkx) { s with heap := h', toks := tk' }) :
    wpAny (model prog w) (AR dp fr gd un) (call (.ref 165) [.ref a, .str v tk, .str x tkx] []) Q E s := by
  refine wpAny_call ?_
  refine' enterW F X₀ N T ?k6 ?k7 ?k8 ?k9 ?kB ?_ ?c2 ?c3 ?c4 ?c5
  case k6 => k_is
  case k7 => k_is
  case k8 => show dp < 1000; omega
  case k9 => exact BindsTo.of_eq rfl
  case kB => exact locs rfl
  case c2 => rfl
  case c3 => rfl
  case c4 => rfl
  case c5 => decide
  intro g L' h₁ FG F' N' lt X' T'
  clear FG F N
  (try dsimp only)
  k_fold
  k_steps
  refine hQ _ _ _ (by assumption) (by assumption) ?_
  rw [← List.push_toArray]
  assumption
end
section
variable {prog : Program} {w : World} {A : Around} {s : Shared} {h₀ : Heap} {L : Addr} {m mg mb : Str → Option Value} {news : List (Addr × Obj)} {K : Frag} {p : Program} {loose : List Str} {mean : ExcName → Option Value}
    {R : Result → Shared → Prop} {name qual : Str} {params : Arguments} {body : List Stmt} {scope : Scope} {dV kV doc pm cdv ct oc : Value} {an od : Option Addr} {osl : Array (Option Value)} {f : Addr} {args : Args} {binds : List (Str × Value)}
theorem gnd (F : Fr h₀ L s.heap m) (N : News h₀ L s.heap news) (scope : Scope) (hk : scope.kind = .function) :
    Fr h₀ L (hideAll s.heap (news.map (·.1))) m ∧ h₀.StaysIn (hideAll s.heap (news.map (·.1))) ∧ ∀ v s', LeaveK h₀ L m (hideAll s.heap (news.map (·.1))) R v s' → R (.ok (.ret v)) s' := by
  obtain ⟨FG, _, st, lv⟩ := groundX (R := R) (A₀ := { frames := some [] }) (base := h₀) (outer := []) (A := { frames := some [envOf "" scope L 0 .none] }) (env := envOf "" scope L 0 .none) ⟨rfl, fun _ _ e => e, trivial⟩ F N rfl rfl hk
  exact ⟨FG, st, lv⟩
theorem enterC (F : Fr h₀ L s.heap m) (X₀ : K.In h₀) (N : News h₀ L s.heap news) (T : Top p loose mean mg mb h₀)
    (ho : K.lookup f = some ⟨oc, od, .func (fnOf name qual params body scope dV kV doc pm an cdv ct), osl⟩) (hcd : codeIn K cdv qual = true) (hroom : A.depth < recursionLimit)
    (hbind : BindsTo s (fnOf name qual params body scope dV kV doc pm an cdv ct) args binds) (hkind : (binds.all fun y => scope.names.lookup y.1 == some .local || scope.names.lookup y.1 == some .cell) = true)
    (hnd : ((cellsFrom 0 scope.names []).map (·.1)).Nodup)
    (h : ∀ g L' h₁ tk cells, Fr h₀ L g m → Fr g L' h₁ (bindL (envOfC qual scope L' f cdv).kindOf binds fun _ => none) → News g L' h₁ (cells ++ news) →
      CellsAre (bindC (envOfC qual scope L' f cdv).kindOf binds fun _ => none) (cellsFrom (L' + 1) scope.names []) cells → (∀ p ∈ news, p.1 < L') → K.In g → Top p loose mean mg mb g →
      wpAny (model prog w) (A.deeper (envOfC qual scope L' f cdv)) (execs body (envOfC qual scope L' f cdv))
        (fun fl s' => LeaveK h₀ L m g R (match fl with | .ret v => v | _ => .none) s') (fun _ _ => False)
        { s with heap := h₁, toks := tk })
    (hco : scope.isCoroutine = false) (hgen : scope.isGenerator = false) (hk : scope.kind = .function) : codeAny (model prog w) A (.call (.ref f) args) R s := by
  obtain ⟨FG, st, lv⟩ := gnd (R := R) F N scope hk
  refine codeAny_call_function (fd := fnOf name qual params body scope dV kV doc pm an cdv ct) (body := body) hroom ((X₀.keeps F.keep) _ _ ho) rfl hco hgen rfl (codeRec_of (X₀.keeps F.keep) hcd) (hbind _ _ _ _ ?_)
  refine wpAny_newFunctionEnv_cells hk (kindsX hkind _) fun env' he s' x => ?_
  subst he
  refine ⟨(T.nolimit.keeps F.keep).keeps x.toInCall.keep, codeAny_func ?_⟩
  obtain ⟨h₁, tk, rfl, _⟩ := x.done
  have hk₁ := x.toInCall.keep
  obtain ⟨cells, NC, Y⟩ := Cl.news (h₀ := s.heap) (Nat.le_refl _) fun n c hm => ⟨x.cell n c (lookup_of_mem_nodup (cellsFrom_names scope.names 0 (s.heap.objs.size + 1) [] [] rfl ▸ hnd) hm), x.above n c hm⟩
  refine wpAny_mono (h _ s.heap.objs.size h₁ tk cells FG ⟨x.toInCall.ns, fun b o e => hk₁ b o (of_hideAll _ e), Nat.le_of_eq (hideAll_size _ _)⟩ (fun p hp => ?_) Y (fun p hp => Heap.lt_size (N p hp).1) (X₀.keeps st) (T.keeps st)) (fun fl s' hl => lv _ _ hl) fun _ _ y => y.elim
  rcases List.mem_append.mp hp with hp | hp
  · refine ⟨(NC p hp).1, (NC p hp).2.1, ?_⟩
    cases q : (hideAll s.heap (news.map (·.1))).get? p.1 with
    | none => rfl
    | some o => have := of_hideAll _ q; rw [(NC p hp).2.2] at this; cases this
  · exact ⟨hk₁ _ _ (N p hp).1, Nat.ne_of_lt (Heap.lt_size (N p hp).1), hideAll_none _ (List.mem_map_of_mem hp)⟩
theorem frameW {E : Value → Shared → Prop} (F : Fr h₀ L s.heap m) (N : News h₀ L s.heap news) (hlim : h₀.NoLimit)
    (hloc : ∀ y ∈ binds, scope.names.lookup y.1 = some .local)
    (h : ∀ g L' h₁, Fr h₀ L g m → Fr g L' h₁ (fun y => binds.reverse.lookup y) → News g L' h₁ news → (∀ p ∈ news, p.1 < L') → h₀.StaysIn g →
      wpAny (model prog w) (A.deeper (envOf qual scope L' f cdv)) (execs body (envOf qual scope L' f cdv))
        (fun fl s' => LeaveK h₀ L m g R (match fl with | .ret v => v | _ => .none) s') (fun _ _ => False)
        { s with heap := h₁, toks := s.toks + binds.length })
    (hcell : ∀ x ∈ scope.names, x.2 ≠ .cell) (hk : scope.kind = .function) :
    wpAny (model prog w) A.in1 (newFunctionEnv scope mainGlobals [] binds (qual ++ ".<locals>.") (some f) cdv none builtinsNs) (fun env' s₂ => s₂.heap.NoLimit ∧ codeAny (model prog w) A (.func body env') R s₂) E s := by
  obtain ⟨FG, st, lv⟩ := gnd (R := R) F N scope hk
  refine wpAny_newFunctionEnv hcell hloc (fun h₁ hns hsb => ⟨(hlim.keeps F.keep).fresh _ hsb, codeAny_func ?_⟩) hk
  have hk₁ : ∀ b o, s.heap.get? b = some o → h₁.get? b = some o := fun b o e => hsb.extBut b o (Nat.ne_of_lt (Heap.lt_size e)) (Heap.get?_push_of_some _ e)
  show wpAny (model prog w) (A.deeper (envOf qual scope s.heap.objs.size f cdv)) (execs body (envOf qual scope s.heap.objs.size f cdv)) _ _ _
  exact wpAny_mono (h _ s.heap.objs.size h₁ FG ⟨hns, fun b o e => hk₁ b o (of_hideAll _ e), Nat.le_of_eq (hideAll_size _ _)⟩
    (fun p hp => ⟨hk₁ _ _ (N p hp).1, Nat.ne_of_lt (Heap.lt_size (N p hp).1), hideAll_none _ (List.mem_map_of_mem hp)⟩) (fun p hp => Heap.lt_size (N p hp).1) st) (fun fl s' hl => lv _ _ hl) fun _ _ y => y.elim
theorem enterMore {bindsD : Addr → List (Str × Value)} {g₁ : Addr → Sem (List (Str × Value))}
    (F : Fr h₀ L s.heap m) (X₀ : K.In h₀) (N : News h₀ L s.heap news) (T : Top p loose mean mg mb h₀)
    (ho : K.lookup f = some ⟨oc, od, .func (fnOf name qual params body scope dV kV doc pm an cdv ct), osl⟩) (hcd : codeIn K cdv qual = true) (hroom : A.depth < recursionLimit)
    (hp : peekA K ⟨prog, w.params⟩ (bindArgs (fnOf name qual params body scope dV kV doc pm an cdv ct) args) = some (dictOf [] 0, g₁))
    (hk₁ : ∀ D, g₁ D = pure (bindsD D)) (hloc : ∀ D, ∀ y ∈ bindsD D, scope.names.lookup y.1 = some .local)
    (h : ∀ D g L' h₁, (∀ p ∈ news, p.1 < D) → (D == sysModules) = false → Fr h₀ L g m → Fr g L' h₁ (fun y => (bindsD D).reverse.lookup y) → News g L' h₁ ((D, dictOf [] 0) :: news) → (∀ p ∈ (D, dictOf [] 0) :: news, p.1 < L') → K.In g → Top p loose mean mg mb g →
      wpAny (model prog w) (A.deeper (envOf qual scope L' f cdv)) (execs body (envOf qual scope L' f cdv))
        (fun fl s' => LeaveK h₀ L m g R (match fl with | .ret v => v | _ => .none) s') (fun _ _ => False)
        { s with heap := h₁, toks := s.toks + (bindsD D).length })
    (hco : scope.isCoroutine = false) (hgen : scope.isGenerator = false) (hk : scope.kind = .function)
    (hcell : ∀ x ∈ scope.names, x.2 ≠ .cell) : codeAny (model prog w) A (.call (.ref f) args) R s := by
  refine codeAny_call_function (fd := fnOf name qual params body scope dV kV doc pm an cdv ct) (body := body) hroom ((X₀.keeps F.keep) _ _ ho) rfl hco hgen rfl (codeRec_of (X₀.keeps F.keep) hcd) ?_
  refine wp_of_peekA (o := dictOf [] 0) F N (X₀.keeps F.keep) rfl _ g₁ hp fun h' F' N' l => ?_
  rw [hk₁]
  refine wpAny_pure ?_
  exact frameW (s := { s with heap := h' }) F' N' T.nolimit (hloc _) (fun g L' h₁ FG FL NG lt st => h _ g L' h₁ l (F.notModules (modules_low T.nolimit)) FG FL NG lt (X₀.keeps st) (T.keeps st)) hcell hk
end
theorem emptyDict {prog : Program} {w : World} {n : Nat} : (dictOf [] n).IsDictOf (strKind prog w) ([] : List (Str × Value)) :=
  ⟨#[], n, ⟨rfl, rfl, rfl⟩, rfl, fun e he => by simp at he, Pairs.nil, List.nodup_nil⟩
theorem for_items_nil {prog : Program} {w : World} {A : Around} {s : Shared} {target : Expr} {body : List Stmt} {env : Env} {Q : Flow → Shared → Prop} {g : Heap} {L vw D : Addr} {m : Str → Option Value} {news : List (Addr × Obj)} {n : Nat}
    (hh : A.handled = none) (F : Fr g L s.heap m) (N : News g L s.heap news) (hv : ∃ ov, s.heap.get? vw = some ov ∧ ov.cls = .type "dict_items" ∧ ov.data = .fields #[.ref D]) (hm : (D, dictOf [] n) ∈ news)
    (done : ∀ h', Fr g L h' m → News g L h' news → Q .next { s with heap := h' }) :
    wpAny (model prog w) A (pyIter (.ref vw)) (Turns prog w A target body env Q) NoE s := by
  have hd : ∀ h : Heap, h.get? D = some (dictOf [] n) → h.DictAt (strKind prog w) D ([] : List (Str × Value)) n := fun h e => ⟨_, #[], e, ⟨rfl, rfl, rfl⟩, rfl, fun e he => by simp at he, Pairs.nil, List.nodup_nil⟩
  refine wpAny_pyIter_items (knd := strKind prog w) hv (hd _ (N _ hm).1) ?_
  refine ⟨fun k s' => s' = { s with heap := s.heap.push { cls := .type "dict_itemiterator", data := .fields #[.none, .bool false, .ref D, .int 0 0, .int (([] : List (Str × Value)).length) 0, .int n 0, .none, .none] } }, 0, rfl, ?_⟩
  rintro k s' rfl
  have N' := (News.push F N { cls := .type "dict_itemiterator", data := .fields #[.none, .bool false, .ref D, .int 0 0, .int (([] : List (Str × Value)).length) 0, .int n 0, .none, .none] })
  have F' := F.push { cls := .type "dict_itemiterator", data := .fields #[.none, .bool false, .ref D, .int 0 0, .int (([] : List (Str × Value)).length) 0, .int n 0, .none, .none] }
  refine wpAny_pyNext_items_end (knd := strKind prog w) (kvs := []) hh (N' _ (.head _)).1 (hd _ (N' _ (.tail _ hm)).1) rfl fun h' he => ?_
  refine done h' ⟨F'.ns.extBut he (Ne.symm (N' _ (.head _)).2.1), fun b o e => he b o (fun q => ?_) (F'.keep b o e), F'.above⟩ fun p hp => ⟨he _ _ (Nat.ne_of_lt (Heap.lt_size (N p hp).1)) (N' p (.tail _ hp)).1, (N p hp).2⟩
  have := (N' _ (.head _)).2.2
  rw [← q, e] at this
  cases this
theorem getMethod_items {prog : Program} {w : World} {A : Around} {E : Value → Shared → Prop} {s : Shared} {g : Heap} {L D : Addr} {news : List (Addr × Obj)} {es : List DictEntry} {n : Nat} {pl : Sem Bool} {Q : Value × List Value → Shared → Prop}
    (N : News g L s.heap news) (hm : (D, dictOf es n) ∈ news) (h : Q (.builtin "dict.items", [.ref D]) s) : wpAny (model prog w) A (getMethod (.ref D) "items" pl) Q E s :=
  getMethod_builtin ⟨_, (N _ hm).1, rfl⟩ PySem.F.plainAttrs_dict PySem.F.slot_dict_items PySem.F.type_dict_items (fun a e => by cases e; exact ⟨_, (N _ hm).1, rfl⟩) h
theorem News.sub {g h : Heap} {L : Addr} {A B : List (Addr × Obj)} (N : News g L h B) (hs : ∀ p ∈ A, p ∈ B) : News g L h A := fun p hp => N p (hs p hp)
theorem putA_sub {a : Addr} {o : Obj} {A B : List (Addr × Obj)} (hs : ∀ p ∈ A, p ∈ B) : ∀ p ∈ putA a o A, p ∈ putA a o B := fun p hp => by
  obtain ⟨q, hq, e⟩ := List.mem_map.mp hp
  exact List.mem_map.mpr ⟨q, hs q hq, e⟩
theorem allLt_lt {d : Addr} {l : List (Addr × Obj)} (h : AllLt d l) : ∀ p ∈ l, p.1 < d := by
  induction l with
  | nil => intro p hp; cases hp
  | cons q r ih =>
    intro p hp
    have h' : @LT.lt Nat _ q.1 d ∧ AllLt d r := h
    rcases List.mem_cons.mp hp with e | hp
    · rw [e]; exact h'.1
    · exact ih h'.2 p hp
theorem addh_fin {h₀ h : Heap} {L l D : Addr} {refs : List Value} {k : Nat} {o : Obj} {e1 e2 : Addr × Obj} {news : List (Addr × Obj)} (N : News h₀ L h (putA l (listOf (refs.toArray.push (.ref D)) k) ((D, o) :: e1 :: e2 :: news))) :
    News h₀ L h (putA l (listOf (refs ++ [Value.ref D]).toArray k) ((D, o) :: news)) := by
  rw [← List.push_toArray]
  refine News.sub N (putA_sub fun q hq => ?_)
  rcases List.mem_cons.mp hq with e | hq
  · exact e ▸ .head _
  · exact .tail _ (.tail _ (.tail _ hq))
theorem valOk_len {x : Str} (h : valOk x = true) : x.length < 1000 := of_decide_eq_true (Bool.and_eq_true_iff.mp h).1
theorem nameOk_len {x : Str} (h : nameOk x = true) : x.length < 1000 := of_decide_eq_true (Bool.and_eq_true_iff.mp h).1
theorem join_one {prog : Program} {w : World} {A : Around} {E : Value → Shared → Prop} {s : Shared} {g : Heap} {L D : Addr} {news : List (Addr × Obj)} {sep x : Str} {t tx : Tok} {n : Nat} {Q : Value → Shared → Prop}
    (N : News g L s.heap news) (hm : (D, listOf #[.str x tx] n) ∈ news) (hsep : sep.length ≤ 16) (hx : valOk x = true) (h : ∀ t' k, Q (.str x t') { s with toks := k }) :
    wpAny (model prog w) A (call (.builtin "str.join") [.str sep t, .ref D]) Q E s := by
  have hl := valOk_len hx
  refine join_listW (ys := [x]) ⟨_, (N _ hm).1, rfl, _, rfl⟩ ?_ hsep (by simp; omega) fun t' k => ?_
  · first | exact .cons .nil | exact ⟨_, rfl, trivial⟩ | exact .cons rfl .nil | exact .cons _ _ .nil
  · have e : Txt.join sep [x] = x := by
      first | rfl | simp [Txt.join, PySem.Builtin.Str.glued]
    rw [e]
    exact h t' k
section
variable {prog : Program} {w : World} {dp un : Nat} {fr : Option (List Env)} {gd : Option (List Code)} {s : Shared} {h₀ : Heap} {L : Addr} {m mg mb : Str → Option Value} {news : List (Addr × Obj)} {p : Program} {loose : List Str} {mean : ExcName → Option Value}
    {Q E : Value → Shared → Prop} {a d l : Addr} {v v' x y : Str} {tk tkx : Tok} {hs : Int} {t0 : Tok} {n0 n1 : Nat} {refs : List Value} {rows : List (Str × Str)}
local macro_rules | `(tactic| walk_at "getMethod ref") => `(tactic| (k_here; k_dflt (refine' getMethod_items ?cN ?cm ?_; (case cN => assumption); (case cm => k_mem))))
local macro_rules | `(tactic| walk_at "call builtin:dict.items") => `(tactic| (k_here; k_dflt (refine' kta_callItems (knd := strKind _ _) ?cF ?cN ?cm ?cd ?clo ?_; (case cF => assumption); (case cN => assumption); (case cm => k_mem); (case cd => exact emptyDict); (case clo => assumption); intro h' hv' F' N')))
local macro_rules | `(tactic| walk_at "MY rows") => `(tactic| (k_dflt (refine' for_items_nil ?ch ?cF ?cN ?cv ?cm ?_; (case ch => exact rfl); (case cF => assumption); (case cN => assumption); (case cv => assumption); (case cm => k_mem); intro h' F' N')))
local macro_rules | `(tactic| walk_at "call builtin:str.join") => `(tactic| (k_here; k_dflt (refine' join_one ?cN ?cm ?cs ?cx ?_; (case cN => assumption); (case cm => k_mem); (case cs => decide); (case cx => assumption); intro t' k')))
theorem addh (F : Fr h₀ L s.heap m) (X₀ : (hd.heap_39 w.params).In h₀) (N : News h₀ L s.heap news) (T : Top p loose mean mg mb h₀) (hroom : dp < 700)
    (ha : (a, instObj 175 d) ∈ news) (hd1 : (d, dictOf [⟨hs, .str (Str.ofString "_headers") t0, .ref l⟩] n0) ∈ news) (hl : (l, listOf refs.toArray n1) ∈ news)
    (hokv : nameOk v = true) (hokx : valOk x = true) (hsz : refs.toArray.size ≤ sizeLine)
    (hQ : ∀ h' tk' t tkx', (∀ p ∈ news, p.1 < t) → Fr h₀ L h' m → News h₀ L h' (putA l (listOf (refs ++ [Value.ref t]).toArray (n1 + 1)) ((t, tupObj #[.str v tk, .str x tkx'] 0) :: news)) → Q .none { s with heap := h', toks := tk' }) :
    wpAny (model prog w) (AR dp fr gd un) (call (.ref 172) [.ref a, .str v tk, .str x tkx] []) Q E s := by
  refine wpAny_call ?_
  refine' enterMore F X₀ N T ?k6 ?k7 ?k8 ?kP ?kT ?kB ?_ ?c2 ?c3 ?c4 ?c5
  case k6 => k_is
  case k7 => k_is
  case k8 => show dp < 1000; omega
  case kP => exact rfl
  case kT => exact fun _ => rfl
  case kB => exact fun _ => locs rfl
  case c2 => rfl
  case c3 => rfl
  case c4 => rfl
  case c5 => decide
  intro D g L' h₁ lD hD FG F' N' lt X' T'
  clear FG F N
  (try dsimp only)
  k_fold
  k_steps
  rename News h₀ L _ _ => kN
  refine hQ _ _ _ _ ?_ (by assumption) (addh_fin kN)
  first | exact allLt_lt (by assumption) | exact allLt_lt (And.right (by assumption)) | exact allLt_lt (And.right (And.right (by assumption)))
end
section
variable {prog : Program} {w : World} {dp un : Nat} {fr : Option (List Env)} {gd : Option (List Code)} {s : Shared} {h₀ : Heap} {L : Addr} {m mg mb : Str → Option Value} {news : List (Addr × Obj)} {p : Program} {loose : List Str} {mean : ExcName → Option Value}
    {Q E : Value → Shared → Prop} {x a b c : Str} {tk : Tok}
theorem split3 {A : Around} {y : Str} {u v : Tok} {k : Int} (F : Fr h₀ L s.heap m) (N : News h₀ L s.heap news) (hy : (y.length == 0) = false) (hk : (decide (k < -(2 ^ 63 : Int)) || decide (k ≥ 2 ^ 63)) = false) (hs : Txt.splitMax x y k = [a, b, c]) (hx : x.length ≤ 1000)
    (h : ∀ l h' tk' t1 t2 t3, (∀ p ∈ news, p.1 < l) → Fr h₀ L h' m → News h₀ L h' ((l, listOf #[.str a t1, .str b t2, .str c t3] 0) :: news) → Q (.ref l) { s with heap := h', toks := tk' }) :
    wpAny (model prog w) A (call (.builtin "str.split") [.str x tk, .str y u, .int k v]) Q E s := by
  refine splitN2A F N hy hk (fun l h' tk' e _ _ _ F' N' => ?_) (by rw [sizeLine_eq]; omega)
  rw [hs] at e
  obtain ⟨t1, l1, rfl, e1⟩ := KSpl.cons_of e
  obtain ⟨t2, l2, rfl, e2⟩ := KSpl.cons_of e1
  obtain ⟨t3, l3, rfl, e3⟩ := KSpl.cons_of e2
  have := KSpl.nil_of e3
  subst this
  exact h _ h' tk' t1 t2 t3 (fun p hp => Heap.lt_size (N p hp).1) F' N'
local macro_rules | `(tactic| walk_at "call builtin:str.split") => `(tactic| (k_here; k_dflt (refine' split3 ?cF ?cN ?cy ?ck ?cs ?cx ?_; (case cF => assumption); (case cN => assumption); (case cs => assumption); (case cx => assumption); (case cy => decide); (case ck => decide); intro l' h' tk' t1' t2' t3' l1 F' N')))
theorem decode_ (F : Fr h₀ L s.heap m) (X₀ : (hd.heap_39 w.params).In h₀) (N : News h₀ L s.heap news) (T : Top p loose mean mg mb h₀) (hroom : dp < 700)
    (hs : Txt.splitMax x (Str.ofString "'") 2 = [a, b, c]) (hx : x.length ≤ 1000)
    (hQ : ∀ l h' tk' t1 t2 t3, (∀ p ∈ news, p.1 < l) → Fr h₀ L h' m → News h₀ L h' ((l, listOf #[.str a t1, .str b t2, .str c t3] 0) :: news) → Q (.ref l) { s with heap := h', toks := tk' }) :
    wpAny (model prog w) (AR dp fr gd un) (call (.ref 207) [.str x tk] []) Q E s := by
  refine wpAny_call ?_
  refine' enterW F X₀ N T ?k6 ?k7 ?k8 ?k9 ?kB ?_ ?c2 ?c3 ?c4 ?c5
  case k6 => k_is
  case k7 => k_is
  case k8 => show dp < 1000; omega
  case k9 => exact BindsTo.of_eq rfl
  case kB => exact locs rfl
  case c2 => rfl
  case c3 => rfl
  case c4 => rfl
  case c5 => decide
  intro g L' h₁ FG F' N' lt X' T'
  clear FG F N
  (try dsimp only)
  k_fold
  k_steps
  exact hQ _ _ _ _ _ _ (by assumption) (by assumption) (by assumption)
end
open LCg in
def CmpEnd (g : Heap) (L : Addr) (m : Str → Option Value) (s : Shared) (led : List (Addr × Obj)) (P : Prop) (s₂ : Shared) : Prop :=
  ∃ h' tk, s₂ = { s with heap := h', toks := tk } ∧ Fr g L h' m ∧ News g L h' led ∧ P
theorem CmpEnd.intro {g : Heap} {L : Addr} {m : Str → Option Value} {s : Shared} {led : List (Addr × Obj)} {P : Prop} {h' : Heap} {tk : Nat} (F : Fr g L h' m) (N : News g L h' led) (hP : P) : CmpEnd g L m s led P { s with heap := h', toks := tk } := ⟨h', tk, rfl, F, N, hP⟩

theorem comp_loop {prog : Program} {w : World} {A : Around} {s : Shared} {elt target iter : Expr} {ifs : List Expr} {scope : Scope} {pos : Pos} {it acc : Value} {env : Env} {R : Result → Shared → Prop} (I : Nat → Shared → Prop)
    (turn : ∀ n s, I n s → wpAny (model prog w) A (pyNext it) (fun r s₁ => match r with
      | none => R (.ok .next) s₁
      | some v => wpAny (model prog w) A (letOwnedTupleGo target it v) (fun _ s₀ => wpAny (model prog w) A (assign target env v) (fun _ s₂ =>
          wpAny (model prog w) A (forIn ifs true fun c r => if r = true then do let ok ← isTrue c env (eval c env); pure (ForInStep.yield ok) else pure (ForInStep.yield r)) (fun ok s₃ =>
            if ok = true then wpAny (model prog w) A (eval elt env) (fun x s₄ =>
              wpAny (model prog w) A (call (.builtin "list.append") [acc, x]) (fun _ s₅ => ∃ m, m < n ∧ I m s₅) NoE s₄) NoE s₃
            else ∃ m, m < n ∧ I m s₃) NoE s₂) NoE s₀) NoE s₁) NoE s)
    (n : Nat) (h : I n s) : codeAny (model prog w) A (.compLoop (.ListComp elt [⟨target, iter, ifs, 0⟩] scope pos) 0 it acc env) R s := by
  refine codeAny_loop rfl I (fun n s hI => ?_) n h
  show wpAny _ A ((compTurn (.ListComp elt [⟨target, iter, ifs, 0⟩] scope pos) 0 it acc env).onRaise (fun x => do noteFrame x env; theTreesLotGoes x)) _ _ s
  refine wpAny_noted ?_
  rw [compTurn_list]
  refine wpAny_bind (wpAny_standAt (wpAny_bind (wpAny_mono (turn n s hI) (fun r s₁ h₁ => ?_) fun _ _ h' => h'.elim)))
  cases r with
  | none => exact wpAny_pure h₁
  | some v =>
    refine wpAny_bind (wpAny_mono h₁ (fun _ s₀ h₀' => ?_) fun _ _ h' => h'.elim)
    refine wpAny_bind (wpAny_mono h₀' (fun _ s₂ h₂ => ?_) fun _ _ h' => h'.elim)
    refine wpAny_bind (wpAny_mono h₂ (fun okb s₃ h₃ => ?_) fun _ _ h' => h'.elim)
    cases okb with
    | false => exact wpAny_pure ⟨rfl, h₃⟩
    | true => exact wpAny_bind (wpAny_bind (wpAny_mono h₃ (fun x s₄ h₄ => wpAny_bind (wpAny_mono h₄ (fun _ s₅ h₅ => wpAny_pure (wpAny_pure ⟨rfl, h₅⟩)) fun _ _ h' => h'.elim)) fun _ _ h' => h'.elim))

section
variable {prog : Program} {w : World} {A : Around} {E : Value → Shared → Prop} {s : Shared} {g : Heap} {L : Addr} {m : Str → Option Value} {env : Env} {news : List (Addr × Obj)}
open LCg in
theorem comp_blk {elt target iter : Expr} {ifs : List Expr} {scope : Scope} {cl : List (Str × Addr)} {pos : Pos} {s₂ : Shared} {I : Addr} {fp : List Addr} {n : Nat} {P : Nat → Value → Prop} {St : Nat → Heap → Prop}
    {RR : Value → Addr → Result → Shared → Prop} (J : Nat → List Value → Prop) (G : Value → (Str → Option Value) → Prop)
    (W : Walks prog w A I fp [I] n P St) (hsz : n ≤ sizeLine) (hIo : ∀ i h, St i h → ∃ o, h.get? I = some o)
    (hSt : ∀ i h h' o, St i h → h.get? I = some o → h'.get? I = some o → News g L h' news → St i h')
    (hown : ∀ i v (s : Shared) (Q : Unit → Shared → Prop), St i s.heap → P (i - 1) v → Q () s → wpAny (model prog w) A (letOwnedTupleGo target (.ref I) v) Q NoE s)
    (hasg : ∀ i v C (s : Shared) m' (Q : Unit → Shared → Prop), P i v → News g L s.heap news → s.heap.Ns C m' → (∀ h' tk m₂, h'.Ns C m₂ → G v m₂ → (∀ b o, b ≠ C → s.heap.get? b = some o → h'.get? b = some o) → Q () { s with heap := h', toks := tk }) →
      wpAny (model prog w) A (assign target (compEnvC scope cl C env) v) Q NoE s)
    (hcell : ∀ y ∈ scope.names, y.2 ≠ .cell) (hkind : scope.kind = .function) (hst : St 0 s₂.heap) (hfp : ∀ b ∈ fp, b < s₂.heap.objs.size)
    (F : Fr g L s₂.heap m) (N : News g L s₂.heap news) (hIL : L ≠ I) (hI₀ : g.get? I = none) (off : ∀ p ∈ news, p.1 ≠ I)
    (hJ0 : J 0 []) (hJl : ∀ i ys, J i ys → ys.length ≤ i)
    (turn : ∀ i v ys oI C oC D m₂ h tk, i < n → P i v → J i ys → NsObj oC m₂ → G v m₂ → Fr g L h m → News g L h ((I, oI) :: (C, oC) :: (D, lst ys) :: news) →
      wpAny (model prog w) A (forIn ifs true fun c r => if r = true then do let ok ← isTrue c (compEnvC scope cl C env) (eval c (compEnvC scope cl C env)); pure (ForInStep.yield ok) else pure (ForInStep.yield r)) (fun ok s₃ =>
        if ok = true then wpAny (model prog w) A (eval elt (compEnvC scope cl C env)) (fun y s₄ => CmpEnd g L m s₂ ((I, oI) :: (C, oC) :: (D, lst ys) :: news) (J (i + 1) (ys ++ [y])) s₄) NoE s₃
        else CmpEnd g L m s₂ ((I, oI) :: (C, oC) :: (D, lst ys) :: news) (J (i + 1) ys) s₃) NoE { s₂ with heap := h, toks := tk })
    (hRR : ∀ D C h tk m' ys, Fr g L h m → News g L h ((D, lst ys) :: news) → h.Ns C m' → g.get? C = none → C ≠ L → C ≠ D → (∀ p ∈ news, p.1 ≠ C) → (∀ p ∈ news, p.1 < D) → J n ys → RR (.ref D) C (.ok .next) { s₂ with heap := h, toks := tk }) :
    wpAny (model prog w) A (newList []) (fun acc s₃ => wpAny (model prog w) A (newFunctionEnv scope env.globals cl [] env.qual none .none (some env)) (fun cenv s₄ =>
      codeAny (model prog w) A (.compStart (.ListComp elt [⟨target, iter, ifs, 0⟩] scope pos) 0 (.ref I) acc { cenv with scope := relabel scope env }) (RR acc cenv.locals) s₄) E s₃) E s₂ := by
  refine wpAny_newObj_type (wpAny_newFunctionEnv hcell (by intro y hy; simp at hy) (fun h₁ hns₁ hsb₁ => ?_) hkind)
  dsimp only at hns₁ hsb₁ ⊢
  generalize hH2 : s₂.heap.push { cls := .type "list", dict := none, data := .seq ([] : List Value).toArray } = H2 at hns₁ hsb₁ ⊢
  have hC : H2.objs.size = s₂.heap.objs.size + 1 := by rw [← hH2, Heap.size_push]
  have hDC : s₂.heap.objs.size ≠ H2.objs.size := by rw [hC]; exact Nat.ne_of_lt (Nat.lt_succ_self _)
  have below : ∀ b, b < s₂.heap.objs.size → b ≠ H2.objs.size ∧ b ≠ s₂.heap.objs.size := fun b hb => ⟨by rw [hC]; exact Nat.ne_of_lt (Nat.lt_succ_of_lt hb), Nat.ne_of_lt hb⟩
  have hDf : s₂.heap.objs.size ∉ fp := fun hm => Nat.lt_irrefl _ (hfp _ hm)
  have hCf : H2.objs.size ∉ fp := fun hm => by have := hfp _ hm; rw [hC] at this; exact Nat.lt_irrefl _ (Nat.lt_of_succ_lt this)
  have hIf : I ∈ fp := W.sub I (List.mem_singleton.mpr rfl)
  have hIlt : I < s₂.heap.objs.size := hfp I hIf
  have old : ∀ b o, s₂.heap.get? b = some o → h₁.get? b = some o := fun b o e => hsb₁.extBut b o (below b (Heap.lt_size e)).1 (Heap.get?_push_of_some _ (hH2 ▸ Heap.get?_push_of_some _ e))
  have hacc : h₁.get? s₂.heap.objs.size = some (lst []) := hsb₁.extBut _ _ hDC (Heap.get?_push_of_some _ (hH2 ▸ Heap.get?_push_size _ rfl))
  have hst₁ : St 0 h₁ := W.frame _ _ _ hst fun b _ o e => old b o e
  have fresh : ∀ a, s₂.heap.objs.size ≤ a → s₂.heap.get? a = none := fun a ha => by
    cases e : s₂.heap.get? a with
    | none => rfl
    | some o' => exact absurd (Heap.lt_size e) (Nat.not_lt.mpr ha)
  have fresh₀ : ∀ a, s₂.heap.objs.size ≤ a → g.get? a = none := fun a ha => by
    cases e : g.get? a with
    | none => rfl
    | some o' => have := F.keep a o' e; rw [fresh a ha] at this; cases this
  have hD₀ : g.get? s₂.heap.objs.size = none := fresh₀ _ (Nat.le_refl _)
  have hC₀ : g.get? H2.objs.size = none := fresh₀ _ (by rw [hC]; exact Nat.le_succ _)
  have hLlt : L < s₂.heap.objs.size := F.ns.lt
  have hDL : s₂.heap.objs.size ≠ L := Ne.symm (below L hLlt).2
  have hCL : H2.objs.size ≠ L := Ne.symm (below L hLlt).1
  have hCI : I ≠ H2.objs.size := (below I hIlt).1
  have hDI : I ≠ s₂.heap.objs.size := (below I hIlt).2
  have offC : ∀ p ∈ news, p.1 ≠ H2.objs.size := fun p hp => (below _ (Heap.lt_size (N p hp).1)).1
  have offD : ∀ p ∈ news, p.1 ≠ s₂.heap.objs.size := fun p hp => (below _ (Heap.lt_size (N p hp).1)).2
  have ltD : ∀ p ∈ news, p.1 < s₂.heap.objs.size := fun p hp => Heap.lt_size (N p hp).1
  have loop : ∀ s₃ : Shared, s₃ = { s₂ with heap := h₁, toks := s₂.toks + ([] : List (Str × Value)).length } →
      codeAny (model prog w) A (.compLoop (.ListComp elt [⟨target, iter, ifs, 0⟩] scope pos) 0 (.ref I) (.ref s₂.heap.objs.size) (compEnvC scope cl H2.objs.size env))
        (RR (.ref s₂.heap.objs.size) H2.objs.size) s₃ := by
    rintro s₃ rfl
    refine comp_loop
      (fun k s' => ∃ h' tk i ys m', s' = { s₂ with heap := h', toks := tk } ∧ i ≤ n ∧ k = n + 1 - i ∧ St i h' ∧ Fr g L h' m ∧ h'.Ns H2.objs.size m' ∧ News g L h' ((s₂.heap.objs.size, lst ys) :: news) ∧ J i ys) ?_ (n + 1)
      ⟨h₁, _, 0, [], _, rfl, Nat.zero_le _, rfl, hst₁, F.keeps old, hns₁, fun p hp => ?_, hJ0⟩
    · rintro k s' ⟨h', tk, i, ys, m', rfl, hi, rfl, hst', F', hn', N', hJ⟩
      by_cases hlt : i < n
      · refine W.item i _ _ _ hlt hst' fun v h₂ tk₂ hPv hst₂ hk₂ => ?_
        refine hown (i + 1) v _ _ hst₂ hPv ?_
        have N₂ : News g L h₂ ((s₂.heap.objs.size, lst ys) :: news) := news_but N' hk₂ fun p hp => by
          rcases List.mem_cons.mp hp with rfl | hp
          · exact Ne.symm hDI
          · exact off p hp
        refine hasg i v H2.objs.size _ _ _ hPv (News.off N₂) (hn'.at' fun o e => hk₂ _ o (by simpa using Ne.symm hCI) e) fun h₃ tk₃ m₃ hn₃ hG hs₃ => ?_
        have hst₃ : St (i + 1) h₃ := W.frame _ _ _ hst₂ fun b hb o e => hs₃ b o (fun q => hCf (by have q' : b = H2.objs.size := q; rw [← q']; exact hb)) e
        obtain ⟨oI, heI⟩ := hIo _ _ hst₃
        obtain ⟨oC, heC, hoC⟩ := ns_obj hn₃
        have F₃ : Fr g L h₃ m := by
          have F₂ := fr_but F' hk₂ hIL hI₀
          refine ⟨F₂.ns.at' fun o e => hs₃ _ o (Ne.symm hCL) e, fun b o e => hs₃ b o (fun q => ?_) (F₂.keep b o e), F₂.above⟩
          rw [q, hC₀] at e; cases e
        have N₃ : News g L h₃ ((I, oI) :: (H2.objs.size, oC) :: (s₂.heap.objs.size, lst ys) :: news) := fun p hp => by
          rcases List.mem_cons.mp hp with rfl | hp
          · exact ⟨heI, Ne.symm hIL, hI₀⟩
          · rcases List.mem_cons.mp hp with rfl | hp
            · exact ⟨heC, hCL, hC₀⟩
            · have z := N₂ p hp
              refine ⟨hs₃ _ _ ?_ z.1, z.2⟩
              rcases List.mem_cons.mp hp with rfl | hp
              · exact hDC
              · exact offC p hp
        refine wpAny_mono (turn i v ys oI H2.objs.size oC s₂.heap.objs.size m₃ h₃ tk₃ hlt hPv hJ hoC hG F₃ N₃) (fun ok s₄ h₄ => ?_) fun _ _ e => e
        have back : ∀ {ys'} {s₄ : Shared}, CmpEnd g L m s₂ ((I, oI) :: (H2.objs.size, oC) :: (s₂.heap.objs.size, lst ys) :: news) (J (i + 1) ys') s₄ → ∃ h₄ tk₄, s₄ = { s₂ with heap := h₄, toks := tk₄ } ∧ Fr g L h₄ m ∧ News g L h₄ ((s₂.heap.objs.size, lst ys) :: news) ∧ h₄.Ns H2.objs.size m₃ ∧ St (i + 1) h₄ ∧ J (i + 1) ys' := by
          rintro ys' s₄ ⟨h₄, tk₄, rfl, F₄, N₄, hJ₄⟩
          have zI := (N₄ (I, oI) List.mem_cons_self).1
          have zC := (N₄ (H2.objs.size, oC) (List.mem_cons_of_mem _ List.mem_cons_self)).1
          have N₄' : News g L h₄ news := fun p hp => N₄ p (List.mem_cons_of_mem _ (List.mem_cons_of_mem _ (List.mem_cons_of_mem _ hp)))
          exact ⟨h₄, tk₄, rfl, F₄, fun p hp => N₄ p (List.mem_cons_of_mem _ (List.mem_cons_of_mem _ hp)), hoC.ns zC, hSt _ _ _ _ hst₃ heI zI N₄', hJ₄⟩
        cases ok with
        | false =>
          obtain ⟨hp₄, tk₄, rfl, F₄, N₄, hn₄, hst₄, hJ₄⟩ := back h₄
          exact ⟨n + 1 - (i + 1), by omega, hp₄, tk₄, i + 1, ys, _, rfl, hlt, rfl, hst₄, F₄, hn₄, N₄, hJ₄⟩
        | true =>
          refine wpAny_mono h₄ (fun y s₅ h₅ => ?_) fun _ _ e => e
          obtain ⟨hp₄, tk₄, rfl, F₄, N₄, hn₄, hst₄, hJ₄⟩ := back h₅
          have hyl : ys.length ≤ i := hJl _ _ hJ
          refine append_at (hsz := by show ys.toArray.size ≤ sizeLine; rw [List.size_toArray]; omega) (N₄ _ (.head _)).1 fun h₅ hs₅ hD₅ => ?_
          refine ⟨n + 1 - (i + 1), by omega, h₅, tk₄, i + 1, ys ++ [y], _, rfl, hlt, rfl, W.frame _ _ _ hst₄ fun b hb o e => hs₅.extBut b o (fun q => hDf (q ▸ hb)) e, F₄.change hs₅ hDL hD₀,
            hn₄.sameBut hs₅ (Ne.symm hDC), fun p hp => ?_, hJ₄⟩
          rcases List.mem_cons.mp hp with rfl | hp
          · exact ⟨hD₅.trans (congrArg some (lst_snoc ys y)), hDL, hD₀⟩
          · exact ⟨hs₅.extBut _ _ (offD p hp) (N₄ p (.tail _ hp)).1, (N₄ p (.tail _ hp)).2⟩
      · obtain rfl : i = n := Nat.le_antisymm hi (Nat.not_lt.mp hlt)
        refine W.done _ _ _ hst' fun h₂ tk₂ hk₂ => ?_
        exact hRR _ _ h₂ tk₂ _ ys (fr_but F' hk₂ hIL hI₀) (news_but N' hk₂ fun p hp => by
          rcases List.mem_cons.mp hp with rfl | hp
          · exact Ne.symm hDI
          · exact off p hp) (hn'.at' fun o e => hk₂ _ o (by simpa using Ne.symm hCI) e) hC₀ hCL (Ne.symm hDC) offC ltD hJ
    · rcases List.mem_cons.mp hp with rfl | hp
      · exact ⟨hacc, hDL, hD₀⟩
      · exact ⟨old _ _ (N p hp).1, (N p hp).2⟩
  exact codeAny_compStart_list (loop _ rfl) (W.self 0 _ _ _ hst₁ (loop _ rfl))
end
section
open LCg
def CSrc (prog : Program) (w : World) (A : Around) (g : Heap) (L : Addr) (m : Str → Option Value) (env : Env) (elt target : Expr) (ifs : List Expr) (scope : Scope) (cl : List (Str × Addr)) (Fin : Shared → Addr → List Value → List (Addr × Obj) → Prop) (it : Value) (s₂ : Shared) : Prop :=
  ∃ (I : Addr) (fp : List Addr) (n : Nat) (P : Nat → Value → Prop) (St : Nat → Heap → Prop) (news : List (Addr × Obj)) (J : Nat → List Value → Prop) (G : Value → (Str → Option Value) → Prop),
    it = .ref I ∧ Walks prog w A I fp [I] n P St ∧ n ≤ sizeLine ∧ (∀ i h, St i h → ∃ o, h.get? I = some o) ∧
    (∀ i h h' o, St i h → h.get? I = some o → h'.get? I = some o → News g L h' news → St i h') ∧
    (∀ i v (s : Shared) (Q : Unit → Shared → Prop), St i s.heap → P (i - 1) v → Q () s → wpAny (model prog w) A (letOwnedTupleGo target (.ref I) v) Q NoE s) ∧
    (∀ i v C (s : Shared) m' (Q : Unit → Shared → Prop), P i v → News g L s.heap news → s.heap.Ns C m' → (∀ h' tk m₂, h'.Ns C m₂ → G v m₂ → (∀ b o, b ≠ C → s.heap.get? b = some o → h'.get? b = some o) → Q () { s with heap := h', toks := tk }) →
      wpAny (model prog w) A (assign target (compEnvC scope cl C env) v) Q NoE s) ∧
    St 0 s₂.heap ∧ (∀ b ∈ fp, b < s₂.heap.objs.size) ∧ Fr g L s₂.heap m ∧ News g L s₂.heap news ∧ L ≠ I ∧ g.get? I = none ∧ (∀ p ∈ news, p.1 ≠ I) ∧ J 0 [] ∧ (∀ i ys, J i ys → ys.length ≤ i) ∧
    (∀ i v ys oI C oC D m₂ h tk, i < n → P i v → J i ys → NsObj oC m₂ → G v m₂ → Fr g L h m → News g L h ((I, oI) :: (C, oC) :: (D, lst ys) :: news) →
      wpAny (model prog w) A (forIn ifs true fun c r => if r = true then do let ok ← isTrue c (compEnvC scope cl C env) (eval c (compEnvC scope cl C env)); pure (ForInStep.yield ok) else pure (ForInStep.yield r)) (fun ok s₃ =>
        if ok = true then wpAny (model prog w) A (eval elt (compEnvC scope cl C env)) (fun y s₄ => CmpEnd g L m s₂ ((I, oI) :: (C, oC) :: (D, lst ys) :: news) (J (i + 1) (ys ++ [y])) s₄) NoE s₃
        else CmpEnd g L m s₂ ((I, oI) :: (C, oC) :: (D, lst ys) :: news) (J (i + 1) ys) s₃) NoE { s₂ with heap := h, toks := tk }) ∧
    (∀ D ys, J n ys → Fin s₂ D ys news)
variable {prog : Program} {w : World} {A : Around} {E : Value → Shared → Prop} {s : Shared} {g : Heap} {L : Addr} {m : Str → Option Value} {env : Env}

theorem lcomp_val {elt target iter : Expr} {ifs : List Expr} {scope : Scope} {cl : List (Str × Addr)} {pos : Pos} {Q : Value → Shared → Prop} (_F₀ : Fr g L s.heap m)
    (hclos : closureFor scope env = pure cl) (hcell : ∀ y ∈ scope.names, y.2 ≠ .cell) (hkind : scope.kind = .function)
    (hnames : ∀ y ∈ scope.names, y.2 = .local → scope.names.lookup y.1 = some .local)
    (h : wpAny (model prog w) A (eval iter env) (fun x s₁ => wpAny (model prog w) A (pyIter x) (CSrc prog w A g L m env elt target ifs scope cl
      (fun s₂ D ys news => ∀ h tk, Fr g L h m → News g L h ((D, lst ys) :: news) → (∀ p ∈ news, p.1 < D) → Q (.ref D) { s₂ with heap := h, toks := tk })) NoE s₁) NoE s)
    (hs : ∀ x, foldedSetIterable iter env x = pure x := by intro _; rfl) :
    wpAny (model prog w) A (eval (.ListComp elt [⟨target, iter, ifs, 0⟩] scope pos) env) Q E s := by
  rw [eval_ListComp]
  refine wpAny_comprehension_free (use := none) rfl hs hclos hkind hnames (wpAny_mono h (fun xv s₁ h₁ => wpAny_mono h₁ (fun it s₂ h₂ => ?_) fun _ _ e => e.elim) fun _ _ e => e.elim)
  obtain ⟨I, fp, n, P, St, news, J, G, rfl, W, hsz, hIo, hSt, hown, hasg, hst, hfp, F, N, hIL, hI₀, off, hJ0, hJl, turn, fin⟩ := h₂
  refine comp_blk (RR := fun acc C => compPost (model prog w) A E none Q acc C) J G W hsz hIo hSt hown hasg hcell hkind hst hfp F N hIL hI₀ off hJ0 hJl turn ?_
  intro D C h tk m' ys F' N' hn hC₀ hCL hCD offC ltD hJ
  refine ⟨m', hn, fun h'' hs'' => fin D ys hJ h'' tk (F'.change hs'' hCL hC₀) (fun p hp => ?_) ltD⟩
  refine ⟨hs''.extBut _ _ ?_ (N' p hp).1, (N' p hp).2⟩
  rcases List.mem_cons.mp hp with rfl | hp
  · exact Ne.symm hCD
  · exact offC p hp
theorem lcomp_assign {elt target iter : Expr} {ifs : List Expr} {y : Str} {py : Pos} {scope : Scope} {cl : List (Str × Addr)} {pos spos : Pos} {Q : Flow → Shared → Prop} (_F₀ : Fr g L s.heap m) (hLe : env.locals = L)
    (hsw : swapsWith (.ListComp elt [⟨target, iter, ifs, 0⟩] scope pos) (some (.Name y py)) spos.line env = pure true)
    (hclos : closureFor scope env = pure cl) (hcell : ∀ y ∈ scope.names, y.2 ≠ .cell) (hkind : scope.kind = .function)
    (hnames : ∀ y ∈ scope.names, y.2 = .local → scope.names.lookup y.1 = some .local)
    (hy : env.kindOf y = some .local) (hp : (env.scope.kind == .class || (env.scope.kind == .module && env.locals != env.globals)) = false)
    (h : wpAny (model prog w) A (eval iter env) (fun x s₁ => wpAny (model prog w) A (pyIter x) (CSrc prog w A g L m env elt target ifs scope cl
      (fun s₂ D ys news => ∀ h tk, Fr g L h (fun z => if z = y then some (.ref D) else m z) → News g L h ((D, lst ys) :: news) → (∀ p ∈ news, p.1 < D) → Q .next { s₂ with heap := h, toks := tk })) NoE s₁) NoE s)
    (hs : ∀ x, foldedSetIterable iter env x = pure x := by intro _; rfl) :
    wpAny (model prog w) A (exec (.Assign [.Name y py] (.ListComp elt [⟨target, iter, ifs, 0⟩] scope pos) spos) env) Q E s := by
  subst hLe
  rw [exec_Assign_Name_used _ _ _ _ hsw]
  refine wpAny_bind (wpAny_standAt (wpAny_bind ?_))
  show wpAny _ A (do let _ ← comprehension (.ListComp elt [⟨target, iter, ifs, 0⟩] scope pos) scope env _ (newList []) false (eval iter env) (some (assign (.Name y py) env))) _ _ s
  refine wpAny_bind (wpAny_mono (wpAny_comprehension_free (use := some (assign (.Name y py) env)) (Q := fun _ s' => Q .next s') rfl hs hclos hkind hnames
    (wpAny_mono h (fun xv s₁ h₁ => wpAny_mono h₁ (fun it s₂ h₂ => ?_) fun _ _ e => e.elim) fun _ _ e => e.elim)) (fun _ s' hq => wpAny_pure (wpAny_pure hq)) fun _ _ e => e)
  obtain ⟨I, fp, n, P, St, news, J, G, rfl, W, hsz, hIo, hSt, hown, hasg, hst, hfp, F, N, hIL, hI₀, off, hJ0, hJl, turn, fin⟩ := h₂
  refine comp_blk (RR := fun acc C => compPost (model prog w) A _ (some (assign (.Name y py) env)) (fun _ s' => Q .next s') acc C) J G W hsz hIo hSt hown hasg hcell hkind hst hfp F N hIL hI₀ off hJ0 hJl turn ?_
  intro D C h tk m' ys F' N' hn hC₀ hCL hCD offC ltD hJ
  show wpAny _ A (assign (.Name y py) env (.ref D)) _ _ _
  refine wpAny_assign_Name (wpAny_storeName_local hy F'.ns (fun h₂ hn₂ hs₂ => ?_) hp)
  have hL₀ : g.get? env.locals = none := Heap.get?_none_of_le F'.above
  have F₂ : Fr g env.locals h₂ (fun z => if z = y then some (.ref D) else m z) := ⟨hn₂, fun b o e => hs₂.extBut b o (fun q => by rw [q, hL₀] at e; cases e) (F'.keep b o e), F'.above⟩
  refine ⟨m', hn.sameBut hs₂ hCL, fun h'' hs'' => fin D ys hJ h'' _ (F₂.change hs'' hCL hC₀) (fun p hp => ?_) ltD⟩
  have z : h₂.get? p.1 = some p.2 := hs₂.extBut _ _ (N' p hp).2.1 (N' p hp).1
  refine ⟨hs''.extBut _ _ ?_ z, (N' p hp).2⟩
  rcases List.mem_cons.mp hp with rfl | hp
  · exact Ne.symm hCD
  · exact offC p hp

/-- a list of rows as a comprehension's source -/
theorem src_rowsG {elt target : Expr} {ifs : List Expr} {scope : Scope} {cl : List (Str × Addr)} {Fin : Shared → Addr → List Value → List (Addr × Obj) → Prop} {news : List (Addr × Obj)} {l : Addr} {vs : List Value} {n : Nat} {rows : List (Str × Str)}
    (J : List (Str × Str) → List Value → Prop) (G : Value → (Str → Option Value) → Prop)
    (hh : A.handled = none) (F : Fr g L s.heap m) (N : News g L s.heap news) (hl : (l, listOf vs.toArray n) ∈ news) (hr : RowsIn news vs rows) (hsz : vs.length ≤ sizeLine)
    (hown : ∀ I T i (s : Shared) (Q : Unit → Shared → Prop), s.heap.IsListIter I l i → Q () s → wpAny (model prog w) A (letOwnedTupleGo target (.ref I) (.ref T)) Q NoE s)
    (hasg : ∀ t k x tk tv nn C (s : Shared) m' (Q : Unit → Shared → Prop), (t, tupObj #[.str k tk, .str x tv] nn) ∈ news → News g L s.heap news → s.heap.Ns C m' →
      (∀ h' tk m₂, h'.Ns C m₂ → G (.ref t) m₂ → (∀ b o, b ≠ C → s.heap.get? b = some o → h'.get? b = some o) → Q () { s with heap := h', toks := tk }) →
      wpAny (model prog w) A (assign target (compEnvC scope cl C env) (.ref t)) Q NoE s)
    (h0 : J [] []) (hlen : ∀ pre ys, J pre ys → ys.length ≤ pre.length)
    (turn : ∀ pre k v post t tk tv nn I oI C oC D m₂ ys h tks, rows = pre ++ (k, v) :: post → J pre ys → (t, tupObj #[.str k tk, .str v tv] nn) ∈ news → NsObj oC m₂ → G (.ref t) m₂ → Fr g L h m → News g L h ((I, oI) :: (C, oC) :: (D, lst ys) :: news) →
      wpAny (model prog w) A (forIn ifs true fun c r => if r = true then do let ok ← isTrue c (compEnvC scope cl C env) (eval c (compEnvC scope cl C env)); pure (ForInStep.yield ok) else pure (ForInStep.yield r)) (fun ok s₃ =>
        if ok = true then wpAny (model prog w) A (eval elt (compEnvC scope cl C env)) (fun y s₄ => CmpEnd g L m s ((I, oI) :: (C, oC) :: (D, lst ys) :: news) (J (pre ++ [(k, v)]) (ys ++ [y])) s₄) NoE s₃
        else CmpEnd g L m s ((I, oI) :: (C, oC) :: (D, lst ys) :: news) (J (pre ++ [(k, v)]) ys) s₃) NoE ⟨h, s.gens, s.drawn, tks, s.os⟩)
    (done : ∀ D ys h, J rows ys → Fin { s with heap := h } D ys news) :
    wpAny (model prog w) A (pyIter (.ref l)) (CSrc prog w A g L m env elt target ifs scope cl Fin) NoE s := by
  have hlen' := hr.length
  have hL : s.heap.IsList l vs.toArray := ⟨_, (N _ hl).1, rfl, _, rfl⟩
  have hlt : l < s.heap.objs.size := Heap.lt_size (N _ hl).1
  refine wpAny_pyIter_list hL ?_
  refine ⟨s.heap.objs.size, [s.heap.objs.size, l], vs.toArray.size, _, _, news, fun i ys => i ≤ rows.length ∧ J (rows.take i) ys, G, rfl, Walks.list hh s.heap.objs.size l (Nat.ne_of_lt hlt) vs.toArray, by rw [List.size_toArray]; exact hsz,
    fun i h st => by obtain ⟨o, e, _⟩ := st.1; exact ⟨o, e⟩, fun i h h' o st e e' N' => ?_, fun i v s Q st hP q => by
      have hP' : vs[i - 1]? = some v := by simpa using hP
      obtain ⟨t, k, x, tk', tv, nn, rfl, _, _⟩ := hr.at hP'
      exact hown _ _ i _ _ st.1 q, fun i v C s₁ m' Q hP N' hn q => ?_, ⟨⟨_, Heap.get?_push_size _ rfl, rfl, rfl⟩, hL.push _⟩, fun b hb => ?_, F.push _,
    fun p hp => ⟨Heap.get?_push_of_some _ (N p hp).1, (N p hp).2⟩, Nat.ne_of_lt F.ns.lt, next_is_new F, fun p hp => Nat.ne_of_lt (Heap.lt_size (N p hp).1), ⟨Nat.zero_le _, h0⟩, fun i ys hj => ?_, fun i v ys oI C oC D m₂ h tk hi hP hj hoC hG F' N' => ?_, fun D ys hj => ?_⟩
  · obtain ⟨⟨o₁, e1, hc, hd⟩, _⟩ := st
    rw [e] at e1; cases e1
    exact ⟨⟨_, e', hc, hd⟩, ⟨_, (N' _ hl).1, rfl, _, rfl⟩⟩
  · have hP' : vs[i]? = some v := by simpa using hP
    obtain ⟨t, k, x, tk', tv, nn, rfl, hmem, hrow⟩ := hr.at hP'
    exact hasg t k x tk' tv nn C s₁ m' Q hmem N' hn q
  · show b < (s.heap.push _).objs.size
    rw [Heap.size_push]
    rcases List.mem_cons.mp hb with rfl | hb
    · exact Nat.lt_succ_self _
    · rw [List.mem_singleton.mp hb]; exact Nat.lt_succ_of_lt hlt
  · have := hlen _ _ hj.2
    rw [List.length_take] at this
    omega
  · have hP' : vs[i]? = some v := by simpa using hP
    obtain ⟨t, k, x, tk', tv, nn, rfl, hmem, hrow⟩ := hr.at hP'
    have hi' : i < rows.length := (List.getElem?_eq_some_iff.mp hrow).1
    have hri : rows[i] = (k, x) := (List.getElem?_eq_some_iff.mp hrow).2
    have split : rows = rows.take i ++ (k, x) :: rows.drop (i + 1) := by
      rw [← hri]; simp
    have tk1 : rows.take (i + 1) = rows.take i ++ [(k, x)] := by
      rw [List.take_add_one, hrow]; rfl
    refine wpAny_mono (turn (rows.take i) k x (rows.drop (i + 1)) t tk' tv nn _ oI C oC D m₂ ys h tk split hj.2 hmem hoC hG F' N') (fun ok s₃ h₃ => ?_) fun _ _ e => e
    have fin : ∀ {ys' s₄}, CmpEnd g L m s ((s.heap.objs.size, oI) :: (C, oC) :: (D, lst ys) :: news) (J (rows.take i ++ [(k, x)]) ys') s₄ →
        CmpEnd g L m { s with heap := s.heap.push { cls := .type "list_iterator", data := .fields #[.ref l, .int 0 0] } } ((s.heap.objs.size, oI) :: (C, oC) :: (D, lst ys) :: news) (i + 1 ≤ rows.length ∧ J (rows.take (i + 1)) ys') s₄ := by
      rintro ys' s₄ ⟨h', tk, rfl, F₄, N₄, hJ⟩
      exact ⟨h', tk, rfl, F₄, N₄, hi', tk1 ▸ hJ⟩
    cases ok with
    | false => exact fin h₃
    | true => exact wpAny_mono h₃ (fun y s₄ h₄ => fin h₄) fun _ _ e => e
  · rw [List.size_toArray, hlen', List.take_length] at hj
    exact done D ys _ hj.2
theorem src_rows1 {elt ct : Expr} {x : Str} {px : Pos} {scope : Scope} {cl : List (Str × Addr)} {Fin : Shared → Addr → List Value → List (Addr × Obj) → Prop} {news : List (Addr × Obj)} {l : Addr} {vs : List Value} {n : Nat} {rows : List (Str × Str)}
    {J : List (Str × Str) → List Value → Prop} {G : Str → Str → Prop} (_hJ : PredIs J) (_hG : FnIs G) (hG : ∀ r ∈ rows, G r.1 r.2)
    (hkind : scope.kind = .function) (hx : scope.names.lookup x = some .local)
    (hh : A.handled = none) (F : Fr g L s.heap m) (N : News g L s.heap news) (hl : (l, listOf vs.toArray n) ∈ news) (hr : RowsIn news vs rows) (hsz : vs.length ≤ sizeLine)
    (h0 : J [] []) (hlen : ∀ pre ys, J pre ys → ys.length ≤ pre.length)
    (turn : ∀ pre k v post t tk tv nn I oI C oC D m₂ ys h tks, rows = pre ++ (k, v) :: post → J pre ys → (t, tupObj #[.str k tk, .str v tv] nn) ∈ news → NsObj oC m₂ → m₂ x = some (.ref t) → G k v → Fr g L h m → News g L h ((I, oI) :: (C, oC) :: (D, lst ys) :: news) →
      wpAny (model prog w) A (isTrue ct (compEnvC scope cl C env) (eval ct (compEnvC scope cl C env))) (fun ok s₃ =>
        if ok = true then wpAny (model prog w) A (eval elt (compEnvC scope cl C env)) (fun y s₄ => CmpEnd g L m s ((I, oI) :: (C, oC) :: (D, lst ys) :: news) (J (pre ++ [(k, v)]) (ys ++ [y])) s₄) NoE s₃
        else CmpEnd g L m s ((I, oI) :: (C, oC) :: (D, lst ys) :: news) (J (pre ++ [(k, v)]) ys) s₃) NoE ⟨h, s.gens, s.drawn, tks, s.os⟩)
    (done : ∀ D ys h, J rows ys → Fin { s with heap := h } D ys news) :
    wpAny (model prog w) A (pyIter (.ref l)) (CSrc prog w A g L m env elt (.Name x px) [ct] scope cl Fin) NoE s := by
  refine src_rowsG J (fun v m₂ => m₂ x = some v) hh F N hl hr hsz (fun _ _ _ _ _ _ q => wpAny_pure q) ?_ h0 hlen ?_ done
  · intro t k x' tk tv nn C s₁ m' Q _ _ hn q
    exact wpAny_assign_Name (wpAny_storeName_local (lookup_relabel_local hx) hn (fun h₃ hn₃ hs₃ => q _ _ _ hn₃ (by simp) fun b o hb e => hs₃.extBut b o hb e) (by simp [compEnvC, relabel, hkind]))
  · intro pre k v post t tk tv nn I oI C oC D m₂ ys h tks e hJ hmem hoC hm F' N'
    exact wpAny_tests_one (turn pre k v post t tk tv nn I oI C oC D m₂ ys h tks e hJ hmem hoC hm (hG (k, v) (by rw [e]; exact List.mem_append_right _ (.head _))) F' N')
theorem src_asg2 {a b : Str} {pa pb tp : Pos} {kk : Nat} {scope : Scope} {cl : List (Str × Addr)} {news : List (Addr × Obj)}
    (hkind : scope.kind = .function) (ha : scope.names.lookup a = some .local) (hb : scope.names.lookup b = some .local) (hab : ¬ a = b)
    (hh : A.handled = none) : ∀ t k x tk tv nn C (s : Shared) m' (Q : Unit → Shared → Prop), (t, tupObj #[.str k tk, .str x tv] nn) ∈ news → News g L s.heap news → s.heap.Ns C m' →
      (∀ h' tk m₂, h'.Ns C m₂ → (∀ k x tk tv nn, (t, tupObj #[.str k tk, .str x tv] nn) ∈ news → m₂ a = some (.str k tk) ∧ m₂ b = some (.str x tv)) → (∀ b o, b ≠ C → s.heap.get? b = some o → h'.get? b = some o) → Q () { s with heap := h', toks := tk }) →
      wpAny (model prog w) A (assign (.Tuple [.Name a pa, .Name b pb] kk tp) (compEnvC scope cl C env) (.ref t)) Q NoE s := by
  intro t k x tk tv nn C s₁ m' Q hmem N hn q
  refine kcp_assign (env := compEnvC scope cl C env) (x := .str k tk) (y := .str x tv) hh ⟨_, (N _ hmem).1, rfl, _, rfl⟩ (lookup_relabel_local ha) (lookup_relabel_local hb) (by simp [compEnvC, relabel, hkind]) hn fun h₄ tk₄ hn₄ hs₄ => q h₄ tk₄ _ hn₄ (fun k' x' tk' tv' nn' hm' => ?_) hs₄
  have e := (N _ hm').1
  rw [(N _ hmem).1] at e
  injection e with e
  simp only [Obj.mk.injEq, Data.seq.injEq, Array.mk.injEq, List.cons.injEq, Value.str.injEq, true_and, and_true] at e
  obtain ⟨⟨⟨rfl, rfl⟩, ⟨rfl, rfl⟩⟩, rfl⟩ := e
  simp [hab]
theorem src_rows2 {elt : Expr} {a b : Str} {pa pb tp : Pos} {kk : Nat} {scope : Scope} {cl : List (Str × Addr)} {Fin : Shared → Addr → List Value → List (Addr × Obj) → Prop} {news : List (Addr × Obj)} {l : Addr} {vs : List Value} {n : Nat} {rows : List (Str × Str)}
    {J : List (Str × Str) → List Value → Prop} {G : Str → Str → Prop} (_hJ : PredIs J) (_hG : FnIs G) (hG : ∀ r ∈ rows, G r.1 r.2)
    (hkind : scope.kind = .function) (ha : scope.names.lookup a = some .local) (hb : scope.names.lookup b = some .local) (hab : ¬ a = b)
    (hh : A.handled = none) (F : Fr g L s.heap m) (N : News g L s.heap news) (hl : (l, listOf vs.toArray n) ∈ news) (hr : RowsIn news vs rows) (hsz : vs.length ≤ sizeLine)
    (h0 : J [] []) (hlen : ∀ pre ys, J pre ys → ys.length ≤ pre.length)
    (turn : ∀ pre k v post t tk tv nn I oI C oC D m₂ ys h tks, rows = pre ++ (k, v) :: post → J pre ys → (t, tupObj #[.str k tk, .str v tv] nn) ∈ news → NsObj oC m₂ → m₂ a = some (.str k tk) → m₂ b = some (.str v tv) → G k v → Fr g L h m → News g L h ((I, oI) :: (C, oC) :: (D, lst ys) :: news) →
      wpAny (model prog w) A (eval elt (compEnvC scope cl C env)) (fun y s₄ => CmpEnd g L m s ((I, oI) :: (C, oC) :: (D, lst ys) :: news) (J (pre ++ [(k, v)]) (ys ++ [y])) s₄) NoE ⟨h, s.gens, s.drawn, tks, s.os⟩)
    (done : ∀ D ys h, J rows ys → Fin { s with heap := h } D ys news) :
    wpAny (model prog w) A (pyIter (.ref l)) (CSrc prog w A g L m env elt (.Tuple [.Name a pa, .Name b pb] kk tp) [] scope cl Fin) NoE s := by
  refine src_rowsG J (fun v m₂ => ∀ t, v = .ref t → ∀ k x tk tv nn, (t, tupObj #[.str k tk, .str x tv] nn) ∈ news → m₂ a = some (.str k tk) ∧ m₂ b = some (.str x tv)) hh F N hl hr hsz (fun _ v _ _ _ st q => ?_) ?_ h0 hlen ?_ done
  · exact wpAny_letOwnedTupleGo_listiter st q
  · intro t k x tk tv nn C s₁ m' Q hmem N' hn q
    exact src_asg2 hkind ha hb hab hh t k x tk tv nn C s₁ m' Q hmem N' hn fun h' tk m₂ hn' hm hk => q h' tk m₂ hn' (fun t' e => by cases e; exact hm) hk
  · intro pre k v post t tk tv nn I oI C oC D m₂ ys h tks e hJ hmem hoC hm F' N'
    have := hm t rfl _ _ _ _ _ hmem
    exact wpAny_tests_nil (turn pre k v post t tk tv nn I oI C oC D m₂ ys h tks e hJ hmem hoC this.1 this.2 (hG (k, v) (by rw [e]; exact List.mem_append_right _ (.head _))) F' N')
theorem src_rows3 {elt ct : Expr} {a b : Str} {pa pb tp : Pos} {kk : Nat} {scope : Scope} {cl : List (Str × Addr)} {Fin : Shared → Addr → List Value → List (Addr × Obj) → Prop} {news : List (Addr × Obj)} {l : Addr} {vs : List Value} {n : Nat} {rows : List (Str × Str)}
    {J : List (Str × Str) → List Value → Prop} {G : Str → Str → Prop} (_hJ : PredIs J) (_hG : FnIs G) (hG : ∀ r ∈ rows, G r.1 r.2)
    (hkind : scope.kind = .function) (ha : scope.names.lookup a = some .local) (hb : scope.names.lookup b = some .local) (hab : ¬ a = b)
    (hh : A.handled = none) (F : Fr g L s.heap m) (N : News g L s.heap news) (hl : (l, listOf vs.toArray n) ∈ news) (hr : RowsIn news vs rows) (hsz : vs.length ≤ sizeLine)
    (h0 : J [] []) (hlen : ∀ pre ys, J pre ys → ys.length ≤ pre.length)
    (turn : ∀ pre k v post t tk tv nn I oI C oC D m₂ ys h tks, rows = pre ++ (k, v) :: post → J pre ys → (t, tupObj #[.str k tk, .str v tv] nn) ∈ news → NsObj oC m₂ → m₂ a = some (.str k tk) → m₂ b = some (.str v tv) → G k v → Fr g L h m → News g L h ((I, oI) :: (C, oC) :: (D, lst ys) :: news) →
      wpAny (model prog w) A (isTrue ct (compEnvC scope cl C env) (eval ct (compEnvC scope cl C env))) (fun ok s₃ =>
        if ok = true then wpAny (model prog w) A (eval elt (compEnvC scope cl C env)) (fun y s₄ => CmpEnd g L m s ((I, oI) :: (C, oC) :: (D, lst ys) :: news) (J (pre ++ [(k, v)]) (ys ++ [y])) s₄) NoE s₃
        else CmpEnd g L m s ((I, oI) :: (C, oC) :: (D, lst ys) :: news) (J (pre ++ [(k, v)]) ys) s₃) NoE ⟨h, s.gens, s.drawn, tks, s.os⟩)
    (done : ∀ D ys h, J rows ys → Fin { s with heap := h } D ys news) :
    wpAny (model prog w) A (pyIter (.ref l)) (CSrc prog w A g L m env elt (.Tuple [.Name a pa, .Name b pb] kk tp) [ct] scope cl Fin) NoE s := by
  refine src_rowsG J (fun v m₂ => ∀ t, v = .ref t → ∀ k x tk tv nn, (t, tupObj #[.str k tk, .str x tv] nn) ∈ news → m₂ a = some (.str k tk) ∧ m₂ b = some (.str x tv)) hh F N hl hr hsz (fun _ v _ _ _ st q => ?_) ?_ h0 hlen ?_ done
  · exact wpAny_letOwnedTupleGo_listiter st q
  · intro t k x tk tv nn C s₁ m' Q hmem N' hn q
    exact src_asg2 hkind ha hb hab hh t k x tk tv nn C s₁ m' Q hmem N' hn fun h' tk m₂ hn' hm hk => q h' tk m₂ hn' (fun t' e => by cases e; exact hm) hk
  · intro pre k v post t tk tv nn I oI C oC D m₂ ys h tks e hJ hmem hoC hm F' N'
    have := hm t rfl _ _ _ _ _ hmem
    exact wpAny_tests_one (turn pre k v post t tk tv nn I oI C oC D m₂ ys h tks e hJ hmem hoC this.1 this.2 (hG (k, v) (by rw [e]; exact List.mem_append_right _ (.head _))) F' N')
end
theorem cell_ne {news : List (Addr × Obj)} {L k : Nat} (h : ∀ p ∈ news, @LT.lt Nat _ p.1 L) : ∀ p ∈ news, p.1 ≠ L + k := fun p hp => Nat.ne_of_lt (Nat.lt_of_lt_of_le (h p hp) (Nat.le_add_right _ _))
theorem lt_tail {news : List (Addr × Obj)} {e : Addr × Obj} {D : Nat} (h : ∀ p ∈ e :: news, @LT.lt Nat _ p.1 D) : ∀ p ∈ news, @LT.lt Nat _ p.1 D := fun p hp => h p (.tail _ hp)
theorem News.drop2 {g h : Heap} {L : Addr} {e1 e2 : Addr × Obj} {news : List (Addr × Obj)} (N : News g L h (e1 :: e2 :: news)) : News g L h (e1 :: news) := fun p hp => by
  rcases List.mem_cons.mp hp with rfl | hp
  · exact N _ (.head _)
  · exact N p (.tail _ (.tail _ hp))
local macro_rules | `(tactic| k_all) => `(tactic| first | assumption | exact cell_ne (by assumption))
local macro_rules | `(tactic| walk_at "eval ListComp") => `(tactic| (k_here; k_dflt (refine' lcomp_val ?cF (by rfl) (by decide) (by rfl) (by decide) ?_; (case cF => assumption))))
section
variable {prog : Program} {w : World} {dp un : Nat} {fr : Option (List Env)} {gd : Option (List Code)} {s : Shared} {h₀ : Heap} {L : Addr} {m mg mb : Str → Option Value} {news : List (Addr × Obj)} {p : Program} {loose : List Str} {mean : ExcName → Option Value}
    {Q E : Value → Shared → Prop} {a d l : Addr} {v v' y : Str} {tk : Tok} {hs : Int} {t0 : Tok} {n0 n1 : Nat} {refs : List Value} {rows : List (Str × Str)}
noncomputable def valsOf (rows : List (Str × Str)) (x : Str) : List Str := (rows.filter fun r => r.1 == x).map (·.2)
local macro_rules | `(tactic| walk_at "MY rows") => `(tactic| (k_dflt (refine' src_rows1 ?cJ ?cG0 ?cG ?ck ?cx ?ch ?cF ?cN ?cl ?cr ?cs ?c0 ?cn ?_ ?_; (case cJ => assumption); (case cG0 => assumption); (case cG => assumption); (case ck => rfl); (case cx => rfl); (case ch => rfl); (case cF => assumption); (case cN => assumption); (case cl => k_mem); (case cr => walk_at "MY rowsin"); (case cs => assumption))))
theorem valsOf_hit {pre : List (Str × Str)} {ys : List Value} {k v x : Str} {tk : Tok} (h : StrsAre ys (valsOf pre x)) (e : (k == x) = true) : StrsAre (ys ++ [.str v tk]) (valsOf (pre ++ [(k, v)]) x) := by
  have : valsOf (pre ++ [(k, v)]) x = valsOf pre x ++ [v] := by simp [valsOf, List.filter_cons, e]
  rw [this]
  exact StrsAre.append' h (by first | exact .cons .nil | exact ⟨rfl, trivial⟩ | exact ⟨_, rfl, trivial⟩ | constructor <;> constructor)
theorem valsOf_miss {pre : List (Str × Str)} {ys : List Value} {k v x : Str} (h : StrsAre ys (valsOf pre x)) (e : (k == x) = false) : StrsAre ys (valsOf (pre ++ [(k, v)]) x) := by
  have : valsOf (pre ++ [(k, v)]) x = valsOf pre x := by simp [valsOf, List.filter_cons, e]
  rw [this]
  exact h
theorem valsOf_len {pre : List (Str × Str)} {ys : List Value} {x : Str} (h : StrsAre ys (valsOf pre x)) : ys.length ≤ pre.length := by
  rw [h.len_eq, valsOf, List.length_map]
  exact List.length_filter_le _ _
set_option maxHeartbeats 800000 in
theorem get_all (F : Fr h₀ L s.heap m) (X₀ : (hd.heap_39 w.params).In h₀) (N : News h₀ L s.heap news) (T : Top p loose mean mg mb h₀) (hroom : dp < 700)
    (ha : (a, instObj 175 d) ∈ news) (hd1 : (d, dictOf [⟨hs, .str (Str.ofString "_headers") t0, .ref l⟩] n0) ∈ news) (hl : (l, listOf refs.toArray n1) ∈ news) (hr : RowsIn news refs rows) (hk : ∀ r ∈ rows, Low r.1 r.1)
    (hsz : refs.length ≤ sizeLine)
    (hP : PredIs fun (pre : List (Str × Str)) (ys : List Value) => StrsAre ys (valsOf pre v')) (hG : FnIs fun (k _ : Str) => Low k k)
    (hlow : Low v v') (hok : nameOk v' = true)
    (hQ : ∀ h' tk' D ys, (∀ p ∈ news, p.1 < D) → Fr h₀ L h' m → News h₀ L h' ((D, LCg.lst ys) :: news) → StrsAre ys (valsOf rows v') → Q (.ref D) { s with heap := h', toks := tk' }) :
    wpAny (model prog w) (AR dp fr gd un) (call (.ref 114) [.ref a, .str v tk] []) Q E s := by
  refine wpAny_call ?_
  refine' enterC (binds := [(Str.ofString "self", .ref a), (Str.ofString "name", .str v tk)]) F X₀ N T ?k6 ?k7 ?k8 ?k9 ?kB ?kn ?_ ?c2 ?c3 ?c4
  case k6 => k_is
  case k7 => k_is
  case k8 => show dp < 1000; omega
  case k9 => exact BindsTo.of_eq rfl
  case kB => rfl
  case kn => decide
  case c2 => rfl
  case c3 => rfl
  case c4 => rfl
  intro g L' h₁ tk₁ cells FG F' N' Y lt X' T'
  clear FG F N

  k_cells Y
  (try simp only [List.cons_append, List.nil_append] at N')
  (try dsimp only)
  (with_reducible show wpAny _ _ _ _ _ _)
  k_fold
  k_steps
  · first | exact .nil | exact trivial | constructor
  · exact valsOf_len (by assumption)
  · exact CmpEnd.intro (by assumption) (by assumption) (valsOf_hit (by assumption) (by assumption))
  · exact CmpEnd.intro (by assumption) (by assumption) (valsOf_miss (by assumption) (by assumption))
  · exact hQ _ _ _ _ (lt_tail (by assumption)) (by assumption) (News.drop2 (by assumption)) (by assumption)
end
section
variable {prog : Program} {w : World} {dp un : Nat} {fr : Option (List Env)} {gd : Option (List Code)} {s : Shared} {h₀ : Heap} {L : Addr} {m mg mb : Str → Option Value} {news : List (Addr × Obj)} {p : Program} {loose : List Str} {mean : ExcName → Option Value}
    {Q E : Value → Shared → Prop} {a d l : Addr} {v v' y : Str} {tk : Tok} {hs : Int} {t0 : Tok} {n0 n1 : Nat} {refs : List Value} {rows : List (Str × Str)}
theorem slice_all {A : Around} {value slice : Expr} {refs : List Value} {n : Nat} {Q : Value → Shared → Prop} (F : Fr h₀ L s.heap m) (N : News h₀ L s.heap news) (hm : (l, listOf refs.toArray n) ∈ news) (hz : refs.length ≤ sizeLine)
    (h : ∀ D h', Fr h₀ L h' m → News h₀ L h' ((D, listOf refs.toArray 0) :: news) → (∀ p ∈ news, p.1 < D) → Q (.ref D) { s with heap := h' })
    (hs : subscripted slice false (.ref l) (.ref s.heap.objs.size) = operate [.ref s.heap.objs.size, .ref l] (getItem (.ref l) (.ref s.heap.objs.size))) (ht : ∀ r, letTemporaryGo value (.ref l) r = pure ()) :
    wpAny (model prog w) A (subscriptTail value slice (.ref l) (.ref s.heap.objs.size)) Q E { s with heap := s.heap.push { cls := .type "slice", data := .fields #[.none, .none, .none] } } := by
  refine kmk_slice_lit F N ⟨_, (N _ hm).1, rfl, _, rfl⟩ .none .none ?_ h hs ht (by rw [List.size_toArray]; exact hz)
  have e : sliceBounds none none none refs.toArray.size = (((0 : Nat) : Int), ((refs.toArray.size : Nat) : Int), 1) := by
    simp [sliceBounds]
  rw [kmk_pick_nat _ e]
  simp
theorem len_list {A : Around} {refs : List Value} {n : Nat} {Q : Value → Shared → Prop} (N : News h₀ L s.heap news) (hm : (l, listOf refs.toArray n) ∈ news) (hz : refs.length ≤ sizeLine)
    (h : ∀ k, Q (.int refs.length (s.toks + 1)) { s with toks := k }) : wpAny (model prog w) A (call (.builtin "len") [.ref l]) Q E s := by
  refine call_len_list ⟨_, (N _ hm).1, rfl, _, rfl⟩ ?_ ?_
  · rw [List.size_toArray]
    rw [sizeLine_eq] at hz
    omega
  · rw [List.size_toArray]; exact h _
local macro_rules | `(tactic| walk_at "subscriptTail") => `(tactic| (k_here; k_dflt (refine' slice_all (s := ⟨_, _, _, _, _⟩) ?cF ?cN ?cm ?cz ?_ ?cs ?ct; (case cF => assumption); (case cN => assumption); (case cm => k_mem); (case cz => assumption); (case cs => (with_unfolding_all rfl)); (case ct => (intro _; with_unfolding_all rfl)); intro D' h' F' N' l1)))
local macro_rules | `(tactic| walk_at "call builtin:len") => `(tactic| (k_here; k_dflt (refine' len_list ?cN ?cm ?cz ?_; (case cN => assumption); (case cm => k_mem); (case cz => assumption); intro k')))
local macro_rules | `(tactic| walk_at "MY rows") => `(tactic| (k_dflt (refine' src_rows2 ?cJ ?cG0 ?cG ?ck ?ca ?cb ?cab ?ch ?cF ?cN ?cl ?cr ?cs ?c0 ?cn ?_ ?_; (case cJ => assumption); (case cG0 => assumption); (case cG => assumption); (case ck => rfl); (case ca => rfl); (case cb => rfl); (case cab => decide); (case ch => rfl); (case cF => assumption); (case cN => assumption); (case cl => k_mem); (case cr => walk_at "MY rowsin"); (case cs => assumption))))
theorem keys_snoc {pre : List (Str × Str)} {ys : List Value} {k v : Str} {tk : Tok} (h : StrsAre ys (pre.map (·.1))) : StrsAre (ys ++ [.str k tk]) ((pre ++ [(k, v)]).map (·.1)) := by
  rw [List.map_append]
  exact StrsAre.append' h (by first | exact .cons .nil | exact ⟨rfl, trivial⟩ | exact ⟨_, rfl, trivial⟩ | constructor <;> constructor)
theorem keys_len {pre : List (Str × Str)} {ys : List Value} (h : StrsAre ys (pre.map (·.1))) : ys.length ≤ pre.length := by
  rw [h.len_eq, List.length_map]; exact Nat.le_refl _
set_option maxHeartbeats 800000 in
theorem keys (F : Fr h₀ L s.heap m) (X₀ : (hd.heap_39 w.params).In h₀) (N : News h₀ L s.heap news) (T : Top p loose mean mg mb h₀) (hroom : dp < 700)
    (ha : (a, instObj 175 d) ∈ news) (hd1 : (d, dictOf [⟨hs, .str (Str.ofString "_headers") t0, .ref l⟩] n0) ∈ news) (hl : (l, listOf refs.toArray n1) ∈ news) (hr : RowsIn news refs rows)
    (hsz : refs.length ≤ sizeLine)
    (hP : PredIs fun (pre : List (Str × Str)) (ys : List Value) => StrsAre ys (pre.map (·.1))) (hG : FnIs fun (_ _ : Str) => True) (hg : ∀ r ∈ rows, True)
    (hQ : ∀ h' tk' D ys, (∀ p ∈ news, p.1 < D) → Fr h₀ L h' m → News h₀ L h' ((D, LCg.lst ys) :: news) → StrsAre ys (rows.map (·.1)) → Q (.ref D) { s with heap := h', toks := tk' }) :
    wpAny (model prog w) (AR dp fr gd un) (call (.ref 127) [.ref a] []) Q E s := by
  refine wpAny_call ?_
  refine' enterW F X₀ N T ?k6 ?k7 ?k8 ?k9 ?kB ?_ ?c2 ?c3 ?c4 ?c5
  case k6 => k_is
  case k7 => k_is
  case k8 => show dp < 1000; omega
  case k9 => exact BindsTo.of_eq rfl
  case kB => exact locs rfl
  case c2 => rfl
  case c3 => rfl
  case c4 => rfl
  case c5 => decide
  intro g L' h₁ FG F' N' lt X' T'
  clear FG F N
  (try dsimp only)
  k_fold
  k_steps
  · first | exact .nil | exact trivial | constructor
  · exact keys_len (by assumption)
  · exact CmpEnd.intro (by assumption) (by assumption) (keys_snoc (by assumption))
  · exact hQ _ _ _ _ (by assumption) (by assumption) (by assumption) (by assumption)
set_option maxHeartbeats 800000 in
theorem items (F : Fr h₀ L s.heap m) (X₀ : (hd.heap_39 w.params).In h₀) (N : News h₀ L s.heap news) (T : Top p loose mean mg mb h₀) (hroom : dp < 700)
    (ha : (a, instObj 175 d) ∈ news) (hd1 : (d, dictOf [⟨hs, .str (Str.ofString "_headers") t0, .ref l⟩] n0) ∈ news) (hl : (l, listOf refs.toArray n1) ∈ news)
    (hsz : refs.length ≤ sizeLine)
    (hQ : ∀ h' tk' D k, (∀ p ∈ news, p.1 < D) → Fr h₀ L h' m → News h₀ L h' ((D, listOf refs.toArray k) :: news) → Q (.ref D) { s with heap := h', toks := tk' }) :
    wpAny (model prog w) (AR dp fr gd un) (call (.ref 139) [.ref a] []) Q E s := by
  refine wpAny_call ?_
  refine' enterW F X₀ N T ?k6 ?k7 ?k8 ?k9 ?kB ?_ ?c2 ?c3 ?c4 ?c5
  case k6 => k_is
  case k7 => k_is
  case k8 => show dp < 1000; omega
  case k9 => exact BindsTo.of_eq rfl
  case kB => exact locs rfl
  case c2 => rfl
  case c3 => rfl
  case c4 => rfl
  case c5 => decide
  intro g L' h₁ FG F' N' lt X' T'
  clear FG F N
  (try dsimp only)
  k_fold
  k_steps
  exact hQ _ _ _ _ (by assumption) (by assumption) (by assumption)
set_option maxHeartbeats 800000 in
theorem len_ (F : Fr h₀ L s.heap m) (X₀ : (hd.heap_39 w.params).In h₀) (N : News h₀ L s.heap news) (T : Top p loose mean mg mb h₀) (hroom : dp < 700)
    (ha : (a, instObj 175 d) ∈ news) (hd1 : (d, dictOf [⟨hs, .str (Str.ofString "_headers") t0, .ref l⟩] n0) ∈ news) (hl : (l, listOf refs.toArray n1) ∈ news)
    (hsz : refs.length ≤ sizeLine)
    (hQ : ∀ h' tk' t, Fr h₀ L h' m → News h₀ L h' news → Q (.int refs.length t) { s with heap := h', toks := tk' }) :
    wpAny (model prog w) (AR dp fr gd un) (call (.ref 83) [.ref a] []) Q E s := by
  refine wpAny_call ?_
  refine' enterW F X₀ N T ?k6 ?k7 ?k8 ?k9 ?kB ?_ ?c2 ?c3 ?c4 ?c5
  case k6 => k_is
  case k7 => k_is
  case k8 => show dp < 1000; omega
  case k9 => exact BindsTo.of_eq rfl
  case kB => exact locs rfl
  case c2 => rfl
  case c3 => rfl
  case c4 => rfl
  case c5 => decide
  intro g L' h₁ FG F' N' lt X' T'
  clear FG F N
  (try dsimp only)
  k_fold
  k_steps
  exact hQ _ _ _ (by assumption) (by assumption)
end
section
variable {prog : Program} {w : World} {dp un : Nat} {fr : Option (List Env)} {gd : Option (List Code)} {s : Shared} {h₀ : Heap} {L : Addr} {m mg mb : Str → Option Value} {news : List (Addr × Obj)} {p : Program} {loose : List Str} {mean : ExcName → Option Value}
    {Q E : Value → Shared → Prop} {a d l : Addr} {v v' y : Str} {tk : Tok} {hs : Int} {t0 : Tok} {n0 n1 : Nat} {refs : List Value} {rows : List (Str × Str)}
theorem set_all {A : Around} {D : Addr} {items new : Array Value} {n k : Nat} {Q : Unit → Shared → Prop} (F : Fr h₀ L s.heap m) (N : News h₀ L s.heap news) (hl : (l, listOf items n) ∈ news) (hD : (D, listOf new k) ∈ news) (hne : l ≠ D)
    (hz : items.size + new.size ≤ sizeLine) (h : ∀ h' j, Fr h₀ L h' m → News h₀ L h' (putA l (listOf new j) news) → Q () { s with heap := h' }) :
    wpAny (model prog w) A (setItem (.ref l) (.ref s.heap.objs.size) (.ref D)) Q E { s with heap := s.heap.push { cls := .type "slice", data := .fields #[.none, .none, .none] } } := by
  have F' := F.push { cls := .type "slice", data := .fields #[.none, .none, .none] }
  have N' : News h₀ L (s.heap.push { cls := .type "slice", data := .fields #[.none, .none, .none] }) news := N.grown fun _ _ e => Heap.get?_push_of_some _ e
  have hl' : Heap.IsList (s.heap.push { cls := .type "slice", data := .fields #[.none, .none, .none] }) l items := ⟨_, (N' _ hl).1, rfl, _, rfl⟩
  have hD' : Heap.IsList (s.heap.push { cls := .type "slice", data := .fields #[.none, .none, .none] }) D new := ⟨_, (N' _ hD).1, rfl, _, rfl⟩
  have hos : (s.heap.push { cls := .type "slice", data := .fields #[.none, .none, .none] }).get? s.heap.objs.size = some { cls := .type "slice", data := .fields #[.none, .none, .none] } := Heap.get?_push_size _ rfl
  generalize hG : (s.heap.push { cls := .type "slice", data := .fields #[.none, .none, .none] }) = G at F' N' hl' hD' hos ⊢
  have hTs : Shared.TypeIs { s with heap := G } (.ref s.heap.objs.size) "slice" := ⟨_, hos, rfl⟩
  have hTl : Shared.TypeIs { s with heap := G } (.ref l) "list" := Heap.IsList.typeIs (s := { s with heap := G }) hl'
  have hTD : Shared.TypeIs { s with heap := G } (.ref D) "list" := Heap.IsList.typeIs (s := { s with heap := G }) hD'
  unfold setItem
  try with_reducible refine wpAny_holding ?_
  refine wpAny_bind (wpAny_sequenceKey hTl (by decide) ?_)
  refine wpAny_bind (wpAny_callSpecial?_slot (name := Str.ofString "__setitem__") hTl PySem.F.slot_list_setitem
    (wpAny_call_entry PySem.F.slot_list_setitem hTl PySem.F.entry_list_setitem ?_ (PySem.F.args_list_setitem_3 _ _ _)))
  show wpAny _ _ (Builtin.List.listSubscript? (.ref s.heap.objs.size) >>= _) _ _ _
  refine wpAny_bind ?_
  unfold Builtin.List.listSubscript?
  refine wpAny_bind (wpAny_specialOf hTs slice_no_index ?_)
  simp only [Option.isNone_none, if_true]
  refine wpAny_pure ?_
  show wpAny _ _ (typeOf (.ref s.heap.objs.size) >>= _) _ _ _
  refine wpAny_bind (wpAny_typeOf hTs ?_)
  rw [if_neg (by decide)]
  rw [listSliceParts_eq]
  refine wpAny_bind (wpAny_bind (wpAny_field hos rfl (x := .none) rfl (wpAny_bind (wpAny_listPart .none ?_))))
  rw [if_neg (by decide)]
  refine wpAny_bind (wpAny_field hos rfl (x := .none) rfl (wpAny_bind (wpAny_listPart .none ?_)))
  refine wpAny_bind (wpAny_field hos rfl (x := .none) rfl (wpAny_bind (wpAny_listPart .none (wpAny_pure ?_))))
  have hsame : Builtin.List.listSameRef (.ref l) (.ref D) = false := beq_eq_false_iff_ne.mpr hne
  dsimp only
  rw [hsame]
  simp only [Bool.false_eq_true, if_false]
  refine wpAny_bind (m := Builtin.List.listAllItems (.ref D) _) ?_
  unfold Builtin.List.listAllItems
  refine wpAny_bind (wpAny_typeOf hTD ?_)
  rw [if_pos (by decide)]
  unfold Builtin.List.listItems
  refine wpAny_bind (wpAny_seqItems (N' _ hD).1 rfl (wpAny_pure ?_))
  refine wpAny_bind (m := (do match ← seqItems? (Value.ref l) with | some xs => pure xs | none => unsupported "internal:list-without-items")) ?_
  refine wpAny_bind (wpAny_seqItems (N' _ hl).1 rfl (wpAny_pure ?_))
  refine wpAny_bind (wpAny_of_eq (sliceIndices_raw none none none items.size (by simp)) ?_)
  have e : sliceBounds none none none items.size = (((0 : Nat) : Int), ((items.size : Nat) : Int), 1) := by
    simp [sliceBounds]
  rw [e]
  dsimp only
  rw [if_pos (by decide)]
  refine wpAny_bind (wpAny_rule ?_)
  rw [if_neg (by show ¬ ((decide (items.size + new.size > sizeLine)) = true); simp; omega)]
  have ef : (fun xs : Array Value => xs.extract 0 (Int.toNat ((0 : Nat) : Int)) ++ new ++ xs.extract (Int.toNat (max ((0 : Nat) : Int) ((items.size : Nat) : Int)))) items = new := by
    simp
  obtain ⟨n', hd'⟩ := Obj.data_mapSeq (o := listOf items n) rfl (fun xs : Array Value => xs.extract 0 (Int.toNat ((0 : Nat) : Int)) ++ new ++ xs.extract (Int.toNat (max ((0 : Nat) : Int) ((items.size : Nat) : Int))))
  have hd' : _ = Data.seq ((fun xs : Array Value => xs.extract 0 (Int.toNat ((0 : Nat) : Int)) ++ new ++ xs.extract (Int.toNat (max ((0 : Nat) : Int) ((items.size : Nat) : Int)))) items) n' := hd'
  rw [ef] at hd'
  have ho : (G.update l (Obj.mapSeq fun xs : Array Value => xs.extract 0 (Int.toNat ((0 : Nat) : Int)) ++ new ++ xs.extract (Int.toNat (max ((0 : Nat) : Int) ((items.size : Nat) : Int))))).get? l = some (listOf new n') := by
    rw [Heap.get?_update_self _ (N' _ hl).1 (Obj.isFreed_of_seq hd')]
    congr 1
    simp only [Obj.mapSeq] at hd' ⊢
    simp_all
  refine wpAny_bind (m := updateSeq l _) (wpAny_updateSeq (N' _ hl).1 rfl ?_ (by omega) (by have := congrArg Array.size ef; dsimp only at this; rw [this]; omega))
  refine wpAny_bind (wpAny_letGo (wpAny_pure ⟨.none, rfl, wpAny_pure ?_⟩))
  exact h _ _ (Fr.putF F' N' hl (Heap.SameBut.update ..)) (News.put N' hl (Heap.SameBut.update ..) ho)
noncomputable def without (rows : List (Str × Str)) (x : Str) : List (Str × Str) := rows.filter fun r => !(r.1 == x)
theorem lt_ne_mem {news : List (Addr × Obj)} {D l : Addr} {o : Obj} (h : ∀ p ∈ news, @LT.lt Nat _ p.1 D) (hm : (l, o) ∈ news) : l ≠ D := Nat.ne_of_lt (h _ hm)
theorem without_len (pre : List (Str × Str)) (x : Str) : (without pre x).length ≤ pre.length := List.length_filter_le _ _
theorem del_size {ys : List Value} (hsz : refs.length + refs.length ≤ sizeLine) (hr : RowsIn news refs rows) (h : RowsIn news ys (without rows v')) : refs.toArray.size + ys.toArray.size ≤ sizeLine := by
  have := without_len rows v'
  have h1 := h.length
  have h2 := hr.length
  rw [List.size_toArray, List.size_toArray]
  omega
theorem mem_off_cell {c t : Addr} {o : Obj} {x : Option Value} {its : Array Value} {n : Nat} (hm : (t, tupObj its n) ∈ (c, o) :: news) (hd : o.data = .cell x) : (t, tupObj its n) ∈ news := by
  rcases List.mem_cons.mp hm with e | h
  · injection e with _ e
    rw [← e] at hd
    cases hd
  · exact h
theorem without_hit {pre : List (Str × Str)} {ys : List Value} {t : Addr} {k x v : Str} {tk tv : Tok} {nn : Nat} (h : RowsIn news ys (without pre x)) (hm : (t, tupObj #[.str k tk, .str v tv] nn) ∈ news) (e : (k != x) = true) : RowsIn news (ys ++ [.ref t]) (without (pre ++ [(k, v)]) x) := by
  have : without (pre ++ [(k, v)]) x = without pre x ++ [(k, v)] := by
    have e' : (k == x) = false := by simpa using e
    simp [without, e']
  rw [this]
  exact h.snoc hm
theorem without_miss {pre : List (Str × Str)} {ys : List Value} {k x v : Str} (h : RowsIn news ys (without pre x)) (e : (k != x) = false) : RowsIn news ys (without (pre ++ [(k, v)]) x) := by
  have : without (pre ++ [(k, v)]) x = without pre x := by
    have e' : (k == x) = true := by simpa using e
    simp [without, e']
  rw [this]
  exact h
local macro_rules | `(tactic| walk_at "setItem") => `(tactic| (k_here; k_dflt (refine' set_all (s := ⟨_, _, _, _, _⟩) ?cF ?cN ?cl ?cD ?cne ?cz ?_; (case cF => assumption); (case cN => assumption); (case cl => k_mem); (case cD => k_mem); (case cne => exact lt_ne_mem (by assumption) (by k_mem)); (case cz => exact del_size (by assumption) (by assumption) (by assumption)); intro h' j' F' N')))
local macro_rules | `(tactic| walk_at "MY rows") => `(tactic| (k_dflt (refine' src_rows1 ?cJ ?cG0 ?cG ?ck ?cx ?ch ?cF ?cN ?cl ?cr ?cs ?c0 ?cn ?_ ?_; (case cJ => assumption); (case cG0 => assumption); (case cG => assumption); (case ck => rfl); (case cx => rfl); (case ch => rfl); (case cF => assumption); (case cN => assumption); (case cl => k_mem); (case cr => walk_at "MY rowsin"); (case cs => assumption))))
set_option maxHeartbeats 800000 in
theorem delitem (F : Fr h₀ L s.heap m) (X₀ : (hd.heap_39 w.params).In h₀) (N : News h₀ L s.heap news) (T : Top p loose mean mg mb h₀) (hroom : dp < 700)
    (ha : (a, instObj 175 d) ∈ news) (hd1 : (d, dictOf [⟨hs, .str (Str.ofString "_headers") t0, .ref l⟩] n0) ∈ news) (hl : (l, listOf refs.toArray n1) ∈ news) (hr : RowsIn news refs rows) (hk : ∀ r ∈ rows, Low r.1 r.1)
    (hsz : refs.length ≤ sizeLine) (hsz2 : refs.length + refs.length ≤ sizeLine)
    (hP : PredIs fun (pre : List (Str × Str)) (ys : List Value) => RowsIn news ys (without pre v')) (hG : FnIs fun (k _ : Str) => Low k k)
    (hlow : Low v v') (hok : nameOk v' = true)
    (hQ : ∀ h' tk' k ys, Fr h₀ L h' m → News h₀ L h' (putA l (listOf ys.toArray k) news) → RowsIn news ys (without rows v') → Q .none { s with heap := h', toks := tk' }) :
    wpAny (model prog w) (AR dp fr gd un) (call (.ref 95) [.ref a, .str v tk] []) Q E s := by
  refine wpAny_call ?_
  refine' enterC (binds := [(Str.ofString "self", .ref a), (Str.ofString "name", .str v tk)]) F X₀ N T ?k6 ?k7 ?k8 ?k9 ?kB ?kn ?_ ?c2 ?c3 ?c4
  case k6 => k_is
  case k7 => k_is
  case k8 => show dp < 1000; omega
  case k9 => exact BindsTo.of_eq rfl
  case kB => rfl
  case kn => decide
  case c2 => rfl
  case c3 => rfl
  case c4 => rfl
  intro g L' h₁ tk₁ cells FG F' N' Y lt X' T'
  clear FG F N
  k_cells Y
  (try simp only [List.cons_append, List.nil_append] at N')
  (try dsimp only)
  (with_reducible show wpAny _ _ _ _ _ _)
  k_fold
  k_steps
  · exact .nil
  · rw [RowsIn.length (by assumption)]; exact without_len _ _
  · exact CmpEnd.intro (by assumption) (by assumption) (without_hit (by assumption) (mem_off_cell (by assumption) (by assumption)) (by assumption))
  · exact CmpEnd.intro (by assumption) (by assumption) (without_miss (by assumption) (by assumption))
  · exact hQ _ _ _ _ (by assumption) (News.sub (by assumption) (putA_sub fun p hp => .tail _ (.tail _ hp))) (by assumption)
end
section
open PySem.Builtin.Re
noncomputable def subSteps (code text : Array Nat) (repl : Str) : Nat → Nat → Nat → Bool → List Str → Option (List Str)
  | 0, _, _, _, _ => none
  | k + 1, start, done, must, ps => match drive 50 (Sre.forSearch code text 0 start text.size must) with
    | none => none
    | some m => match m.outcome with
      | some .matched => subSteps code text repl k m.handed m.handed (m.handed == m.start) ((if done < m.start then ps ++ [⟨text.extract done m.start⟩] else ps) ++ [repl])
      | some .failed => some (if done < text.size then ps ++ [⟨text.extract done text.size⟩] else ps)
      | _ => none
variable {prog : Program} {w : World} {A : Around} {E : Value → Shared → Prop} {s : Shared} {g : Heap} {L : Addr} {m : Str → Option Value} {news : List (Addr × Obj)} {pat code : Addr} {items : Array Value} {v : Str} {tk : Tok}
theorem wp_whole {M : Model} {Q : ReTarget → Shared → Prop} (P : PatAt s.heap pat code items) (h : Q { pattern := .ref pat, string := .str v tk, code := codeOf items, text := v.cps, kind := 0, groups := 0, pos := 0, lim := v.cps.size } s) :
    wpAny M A (reWholeTarget (.ref pat) (.str v tk)) Q E s := by
  obtain ⟨p0, p1, hp⟩ := P.pat
  unfold reWholeTarget
  refine wpAny_bind (wpAny_fieldsOf hp rfl ?_)
  refine wpAny_bind (wp_textOf ?_)
  refine wpAny_bind (wp_noColl ?_)
  exact wpAny_bind (wp_rawItems P (wpAny_pure h))
theorem slice_len {v : Str} {a b : Nat} (hv : v.cps.size ≤ 1000) : (⟨v.cps.extract a b⟩ : Str).length ≤ sizeLine := by
  show (v.cps.extract a b).size ≤ _
  rw [sizeLine_eq, Array.size_extract]
  omega
theorem push_at {M : Model} {D : Addr} {its : List Value} {n : Nat} {x : Value} {Q : Unit → Shared → Prop} (F : Fr g L s.heap m) (N : News g L s.heap ((D, listOf its.toArray n) :: news)) (hD : ∀ p ∈ news, p.1 ≠ D) (hz : its.length ≤ 1000)
    (h : ∀ h', Fr g L h' m → News g L h' ((D, listOf (its ++ [x]).toArray (n + 1)) :: news) → Q () { s with heap := h' }) : wpAny M A (updateSeq D (·.push x)) Q E s := by
  refine wpAny_updateSeq (N _ (.head _)).1 rfl ?_ (by rw [List.size_toArray, sizeLine_eq]; omega) (by rw [Array.size_push, List.size_toArray, sizeLine_eq]; omega)
  have ho : (s.heap.update D (Obj.mapSeq (·.push x))).get? D = some (listOf (its ++ [x]).toArray (n + 1)) := by
    rw [Heap.get?_update_self _ (N _ (.head _)).1 (by rw [mapSeq_push]; rfl), mapSeq_push, List.push_toArray]
  exact h _ (F.change (Heap.SameBut.update ..) (N _ (.head _)).2.1 (N _ (.head _)).2.2) (N.setHead hD (Heap.SameBut.update ..) ho)
theorem wp_slice {M : Model} {a b : Nat} {Q : Value → Shared → Prop} (hv : v.cps.size ≤ 1000) (h : ∀ t, Q (.str ⟨v.cps.extract a b⟩ t) { s with toks := s.toks + 1 }) : wpAny M A (reSlice v.cps 0 a b) Q E s := by
  unfold reSlice
  rw [if_pos (by decide)]
  exact wpAny_mkStr (h _) (slice_len hv)
theorem strs1 (x : Str) (t : Tok) : StrsAre [.str x t] [x] := by
  first | exact .cons .nil | exact ⟨rfl, trivial⟩ | exact ⟨_, rfl, trivial⟩ | constructor <;> constructor
theorem sub_loop {R : Result → Shared → Prop} {repl : Str} {tr : Tok} {D : Addr} {out : List Str} (P : ∀ h, Fr g L h m → PatAt h pat code items) (hv : v.cps.size ≤ 1000) (hD : ∀ p ∈ news, p.1 ≠ D) (hne : out ≠ []) (hw : (out.map (·.length)).sum + out.length ≤ 1048576)
    (hr : repl.length ≤ 1000) :
    ∀ (k start done : Nat) (must : Bool) (ps : List Str) (its : List Value) (n : Nat) (i : Int) (s : Shared), subSteps (codeOf items) v.cps repl k start done must ps = some out → its.length + 2 * k + 2 ≤ 1000 → StrsAre its ps →
      Fr g L s.heap m → News g L s.heap ((D, listOf its.toArray n) :: news) →
      (∀ h' tk u, Fr g L h' m → News g L h' news → R (.ok (.ret (.str (Txt.join Str.empty out) u))) { s with heap := h', toks := tk }) →
      codeAny (model prog w) A (.builtin "re.Pattern.sub.loop" ⟨[.ref pat, .str v tk, .str repl tr, .int 0 0, .int 0 0, .int i 0, .int done 0, .int start 0, .bool must, .ref D, .bool false], []⟩) R s
  | 0, _, _, _, _, _, _, _, _, h, _, _, _, _, _ => by cases h
  | k + 1, start, done, must, ps, its, n, i, s, h, hz, hps, F, N, hR => by
    refine codeAny_builtin entry_pat_loop ?_
    unfold Builtin.«re.Pattern.sub.loop»
    dsimp only
    refine wpAny_bind (wp_whole (P _ F) ?_)
    dsimp only
    rw [if_pos (by decide)]
    refine wpAny_bind ?_
    unfold reLiteralCannotBeTurned
    refine wpAny_bind (wpAny_of_eq (show asStr? (Value.str repl tr) = pure (some repl) from rfl) (wpAny_pure ?_))
    rw [if_neg (by simp)]
    refine wpAny_bind ?_
    unfold subSteps at h
    unfold reNextFound
    rw [Int.toNat_natCast]
    cases hd : drive 50 (Sre.forSearch (codeOf items) v.cps 0 start v.cps.size must) with
    | none => rw [hd] at h; cases h
    | some m' =>
      rw [hd] at h
      dsimp only at h
      refine wp_reRunToEnd (m' := m') (k := 50) (by omega) hd ?_
      cases ho : m'.outcome with
      | none => rw [ho] at h; cases h
      | some o =>
        rw [ho] at h
        cases o with
        | stuck why => cases h
        | matched =>
          dsimp only at h ⊢
          simp only [Int.toNat_natCast]
          by_cases hlt : done < m'.start
          · rw [if_pos hlt] at h ⊢
            refine wpAny_bind (wp_slice hv fun t1 => ?_)
            refine wpAny_bind (push_at F N hD (by omega) fun h1 F1 N1 => ?_)
            rw [if_pos (by decide)]
            refine wpAny_bind (wpAny_pure ?_)
            rw [if_pos (by rfl)]
            refine wpAny_bind (push_at F1 N1 hD (by simp; omega) fun h2 F2 N2 => ?_)
            refine wpAny_pure ⟨Code.quiet_builtin _ (by decide +kernel), ?_⟩
            exact sub_loop P hv hD hne hw hr k m'.handed m'.handed _ _ _ _ _ _ h (by simp; omega) (StrsAre.append' (StrsAre.append' hps (strs1 _ _)) (strs1 _ _)) F2 N2 hR
          · rw [if_neg hlt] at h ⊢
            rw [if_pos (by decide)]
            refine wpAny_bind (wpAny_pure ?_)
            rw [if_pos (by rfl)]
            refine wpAny_bind (push_at F N hD (by omega) fun h2 F2 N2 => ?_)
            refine wpAny_pure ⟨Code.quiet_builtin _ (by decide +kernel), ?_⟩
            exact sub_loop P hv hD hne hw hr k m'.handed m'.handed _ _ _ _ _ _ h (by simp; omega) (StrsAre.append' hps (strs1 _ _)) F2 N2 hR
        | failed =>
          dsimp only at h ⊢
          simp only [Int.toNat_natCast]
          have fin : ∀ (its : List Value) (n : Nat) (s : Shared), (Fr g L s.heap m) → News g L s.heap ((D, listOf its.toArray n) :: news) → StrsAre its out → (∀ h' tk u, Fr g L h' m → News g L h' news → R (.ok (.ret (.str (Txt.join Str.empty out) u))) { s with heap := h', toks := tk }) →
              wpAny (model prog w) (A.under (Code.builtin "re.Pattern.sub.loop" { pos := [Value.ref pat, Value.str v tk, Value.str repl tr, Value.int 0 0, Value.int 0 0, Value.int i 0, Value.int (↑done) 0, Value.int (↑start) 0, Value.bool must, Value.ref D, Value.bool false] })) (do
                let joiner ← reSlice v.cps 0 0 0
                let text ← if ((← seqItems? (Value.ref D)).getD #[]).isEmpty then pure joiner
                  else call (.builtin (if (0 : Nat) == 0 then "str.join" else "bytes.join")) [joiner, Value.ref D]
                if false then ret (← holding [text] do newTuple [text, ← mkInt i]) else ret text)
              (fun fin s' => match fin with | .done f => R (.ok f) s' | .again c' => c'.quiet = true ∧ codeAny (model prog w) A c' R s') (fun e s' => R (.error e) s') s := by
            intro its n s F N hs hR
            refine wpAny_bind (wp_slice hv fun t1 => ?_)
            refine wpAny_bind (wpAny_seqItems (N _ (.head _)).1 rfl ?_)
            have hne' : its ≠ [] := by
              rintro rfl
              exact hne (List.eq_nil_of_length_eq_zero (hs.len_eq ▸ rfl))
            rw [if_neg (by simpa using hne')]
            rw [show (v.cps.extract 0 0) = #[] by simp]
            refine wpAny_bind ?_
            rw [if_pos (by decide)]
            refine join_listW (x := ⟨#[]⟩) ⟨_, (N _ (.head _)).1, rfl, _, rfl⟩ (ys := out) hs (by decide) hw fun t' k => ?_
            dsimp only
            rw [if_neg (by decide)]
            exact wpAny_pure (hR _ _ _ F (News.off N))
          by_cases hlt : done < v.cps.size
          · rw [if_pos hlt] at h ⊢
            injection h with h
            subst h
            refine wpAny_bind (wp_slice hv fun t1 => ?_)
            refine wpAny_bind (push_at F N hD (by omega) fun h1 F1 N1 => ?_)
            exact fin _ _ _ F1 N1 (StrsAre.append' hps (strs1 _ _)) hR
          · rw [if_neg hlt] at h ⊢
            injection h with h
            subst h
            exact fin _ _ _ F N hps hR
theorem str_no_call : typeLookup (.type "str") "__call__" = pure none := by rw [typeLookup_type, builtinLookup_eq_fast]; kernel_rfl
theorem sub_call {Q : Value → Shared → Prop} {repl : Str} {tr : Tok} {out : List Str} {k : Nat} (F : Fr g L s.heap m) (N : News g L s.heap news) (P : ∀ h, Fr g L h m → PatAt h pat code items) (hv : v.cps.size ≤ 1000) (hne : out ≠ []) (hw : (out.map (·.length)).sum + out.length ≤ 1048576)
    (hr : repl.length ≤ 1000) (hb : repl.cps.contains 92 = false) (hk : k ≤ 400) (ho : subSteps (codeOf items) v.cps repl k 0 0 false [] = some out)
    (h : ∀ h' tk' u, Fr g L h' m → News g L h' news → Q (.str (Txt.join Str.empty out) u) { s with heap := h', toks := tk' }) :
    wpAny (model prog w) A (call (.builtin "re.Pattern.sub") [.ref pat, .str repl tr, .str v tk]) Q E s := by
  refine call_meetsIn slot_pat_sub (P _ F).typeIs entry_pat_sub (args_pat_sub _ _ _) (S := fun _ R s' => s' = s ∧ R = wants Q E) ?_ ⟨rfl, rfl⟩
  rintro A R _ ⟨rfl, rfl⟩
  unfold Builtin.«re.Pattern.sub» reSubstitute
  dsimp only
  rw [named_sub]
  refine wpAny_bind (wpAny_pure ?_)
  refine wpAny_bind (wpAny_pure ?_)
  refine wpAny_bind (wpAny_specialOf (typeIs_str _ _ _) str_no_call ?_)
  rw [if_neg (by simp)]
  refine wpAny_bind (wpAny_of_eq (show asStr? (Value.str repl tr) = pure (some repl) from rfl) ?_)
  dsimp only
  refine wpAny_bind (wpAny_pure ?_)
  rw [if_neg (by simp), hb, if_pos (by rfl)]
  refine wpAny_bind (wpAny_pure ?_)
  refine wpAny_bind (wpAny_holding (wp_whole (P _ F) ?_))
  dsimp only
  rw [if_neg (by decide)]
  refine wpAny_bind (wpAny_newObj_type (wpAny_pure ⟨Code.quiet_builtin _ (by decide +kernel), ?_⟩))
  exact sub_loop (its := []) (ps := []) (n := 0) (start := 0) (done := 0) P hv (fun p hp => Nat.ne_of_lt (Heap.lt_size (N p hp).1)) hne hw hr k false 0 _ ho (by show 0 + 2 * k + 2 ≤ 1000; omega) (by first | exact .nil | exact trivial | constructor) (F.push (listOf #[] 0)) (News.push F N (listOf #[] 0)) fun h' tk' u F' N' => h h' tk' u F' N'
end
noncomputable def subOf (items : Array Value) (repl x : Str) : Option Str := match subSteps (codeOf items) x.cps repl 60 0 0 false [] with
  | some out => if x.cps.size ≤ 1000 ∧ out ≠ [] ∧ (out.map (·.length)).sum + out.length ≤ 1048576 then some (Txt.join Str.empty out) else none
  | none => none
theorem subOf_spec {items : Array Value} {repl x y : Str} (h : subOf items repl x = some y) : x.cps.size ≤ 1000 ∧ ∃ out, subSteps (codeOf items) x.cps repl 60 0 0 false [] = some out ∧ out ≠ [] ∧ (out.map (·.length)).sum + out.length ≤ 1048576 ∧ y = Txt.join Str.empty out := by
  unfold subOf at h
  split at h
  · rename_i out e
    split at h
    · rename_i hc
      injection h with h
      exact ⟨hc.1, out, e, hc.2.1, hc.2.2, h.symm⟩
    · cases h
  · cases h
section
variable {prog : Program} {w : World} {A : Around} {E : Value → Shared → Prop} {s : Shared} {h₀ : Heap} {L : Addr} {m : Str → Option Value} {news : List (Addr × Obj)} {v y : Str} {tk tr : Tok} {Q : Value → Shared → Prop} {P : Params}
theorem sub_nl (F : Fr h₀ L s.heap m) (X : (hd.heap_39 P).In h₀) (N : News h₀ L s.heap news) (hv : subOf nlItems.1 (Str.ofString "\r\n") v = some y)
    (h : ∀ h' tk' u, Fr h₀ L h' m → News h₀ L h' news → Q (.str y u) { s with heap := h', toks := tk' }) :
    wpAny (model prog w) A (call (.builtin "re.Pattern.sub") [.ref 217, .str (Str.ofString "\r\n") tr, .str v tk]) Q E s := by
  obtain ⟨h1, out, h2, h3, h4, rfl⟩ := subOf_spec hv
  exact sub_call F N (fun _ F => pat_nl (X.keeps F.keep)) h1 h3 h4 (by decide +kernel) (by decide +kernel) (by decide +kernel) h2 h
theorem sub_dot (F : Fr h₀ L s.heap m) (X : (hd.heap_39 P).In h₀) (N : News h₀ L s.heap news) (hv : subOf dotItems.1 (Str.ofString "..") v = some y)
    (h : ∀ h' tk' u, Fr h₀ L h' m → News h₀ L h' news → Q (.str y u) { s with heap := h', toks := tk' }) :
    wpAny (model prog w) A (call (.builtin "re.Pattern.sub") [.ref 212, .str (Str.ofString "..") tr, .str v tk]) Q E s := by
  obtain ⟨h1, out, h2, h3, h4, rfl⟩ := subOf_spec hv
  exact sub_call F N (fun _ F => pat_dot (X.keeps F.keep)) h1 h3 h4 (by decide +kernel) (by decide +kernel) (by decide +kernel) h2 h
end
section
variable {prog : Program} {w : World} {dp un : Nat} {fr : Option (List Env)} {gd : Option (List Code)} {s : Shared} {h₀ : Heap} {L : Addr} {m mg mb : Str → Option Value} {news : List (Addr × Obj)} {p : Program} {loose : List Str} {mean : ExcName → Option Value}
    {Q E : Value → Shared → Prop} {x y z : Str} {tk : Tok}
local macro_rules | `(tactic| walk_at "getMethod ref") => `(tactic| (k_here; (with_reducible show wpAny _ _ (getMethod (Value.ref 217) _ _) _ _ _); with_unfolding_all refine getMethod_sub (pat_nl (by k_in)) ?_))
local macro_rules | `(tactic| walk_at "getMethod ref") => `(tactic| (k_here; (with_reducible show wpAny _ _ (getMethod (Value.ref 212) _ _) _ _ _); with_unfolding_all refine getMethod_sub (pat_dot (by k_in)) ?_))
local macro_rules | `(tactic| walk_at "call builtin:re.Pattern.sub") => `(tactic| (k_here; k_dflt (first
  | (refine' sub_nl ?cF ?cX ?cN ?cv ?_; (case cF => assumption); (case cX => assumption); (case cN => assumption); (case cv => assumption); intro h' tk' u' F' N')
  | (refine' sub_dot ?cF ?cX ?cN ?cv ?_; (case cF => assumption); (case cX => assumption); (case cN => assumption); (case cv => assumption); intro h' tk' u' F' N'))))
set_option maxHeartbeats 800000 in
theorem quotedata (F : Fr h₀ L s.heap m) (X₀ : (hd.heap_39 w.params).In h₀) (N : News h₀ L s.heap news) (T : Top p loose mean mg mb h₀) (hroom : dp < 700)
    (h1 : subOf nlItems.1 (Str.ofString "\r\n") x = some y) (h2 : subOf dotItems.1 (Str.ofString "..") y = some z)
    (hQ : ∀ h' tk' u, Fr h₀ L h' m → News h₀ L h' news → Q (.str z u) { s with heap := h', toks := tk' }) :
    wpAny (model prog w) (AR dp fr gd un) (call (.ref 224) [.str x tk] []) Q E s := by
  refine wpAny_call ?_
  refine' enterW F X₀ N T ?k6 ?k7 ?k8 ?k9 ?kB ?_ ?c2 ?c3 ?c4 ?c5
  case k6 => k_is
  case k7 => k_is
  case k8 => show dp < 1000; omega
  case k9 => exact BindsTo.of_eq rfl
  case kB => exact locs rfl
  case c2 => rfl
  case c3 => rfl
  case c4 => rfl
  case c5 => decide
  intro g L' h₁ FG F' N' lt X' T'
  clear FG F N
  (try dsimp only)
  k_fold
  k_steps
  exact hQ _ _ _ (by assumption) (by assumption)
end
example : subOf nlItems.1 (Str.ofString "\r\n") (Str.ofString ".b'.c'?'\r") = some (Str.ofString ".b'.c'?'\r\n") := by decide +kernel
noncomputable def nm : Fin 4 → Str
  | 0 => Str.ofString "."
  | 1 => Str.ofString ".b"
  | 2 => Str.ofString ".c"
  | 3 => Str.ofString ".d"
noncomputable def wd : Bool → Str
  | true => Str.ofString "?'"
  | false => Str.ofString "!'"
noncomputable def line (w g : Fin 4) (k : Bool) : Str := Txt.join (Str.ofString "'") [nm w, nm g, wd k]
noncomputable def wire (w g : Fin 4) (k : Bool) : Str := Str.ofString "." ++ line w g k ++ Str.ofString "\r\n"
noncomputable def eol : Fin 3 → Str
  | 0 => Str.ofString "\r\n"
  | 1 => Str.ofString "\n"
  | 2 => Str.ofString "\r"
theorem quote_nl : ∀ (w g : Fin 4) (k : Bool) (e : Fin 3), subOf nlItems.1 (Str.ofString "\r\n") (line w g k ++ eol e) = some (line w g k ++ Str.ofString "\r\n") := by decide +kernel
theorem quote_dot : ∀ (w g : Fin 4) (k : Bool), subOf dotItems.1 (Str.ofString "..") (line w g k ++ Str.ofString "\r\n") = some (wire w g k) := by decide +kernel
theorem split_wire : ∀ (w g : Fin 4) (k : Bool), Txt.splitMax (line w g k) (Str.ofString "'") 2 = [nm w, nm g, wd k] := by decide +kernel
theorem nm_len : ∀ i, (nm i).length ≤ 2 := by decide
theorem wd_len : ∀ i, (wd i).length ≤ 2 := by decide
theorem line_len : ∀ w g k, (line w g k).length ≤ 8 := by decide +kernel
theorem join_mail {prog : Program} {w : World} {A : Around} {E : Value → Shared → Prop} {s : Shared} {g : Heap} {L D : Addr} {news : List (Addr × Obj)} {sw sg : Fin 4} {k : Bool} {t t1 t2 t3 : Tok} {n : Nat} {Q : Value → Shared → Prop}
    (N : News g L s.heap news) (hm : (D, listOf #[.str (nm sw) t1, .str (nm sg) t2, .str (wd k) t3] n) ∈ news) (h : ∀ t' k', Q (.str (line sw sg k) t') { s with toks := k' }) :
    wpAny (model prog w) A (call (.builtin "str.join") [.str (Str.ofString "'") t, .ref D]) Q E s := by
  have h1 := nm_len sw
  have h2 := nm_len sg
  have h3 := wd_len k
  refine join_listW (ys := [nm sw, nm sg, wd k]) ⟨_, (N _ hm).1, rfl, _, rfl⟩ ?_ (by decide) (by simp; omega) h
  first | exact .cons (.cons (.cons .nil)) | exact ⟨rfl, rfl, rfl, trivial⟩ | exact ⟨_, rfl, _, rfl, _, rfl, trivial⟩ | (repeat constructor)
theorem eol_len : ∀ e, (eol e).length ≤ 2 := by decide
theorem add_line {prog : Program} {w : World} {A : Around} {E : Value → Shared → Prop} {s : Shared} {sw sg : Fin 4} {k : Bool} {e : Fin 3} {t u : Tok} {Q : Value → Shared → Prop} (h : ∀ t' k', Q (.str (line sw sg k ++ eol e) t') { s with toks := k' }) :
    wpAny (model prog w) A (binaryOp .Add (.str (line sw sg k) t) (.str (eol e) u)) Q E s := by
  have h1 := line_len sw sg k
  have h2 := eol_len e
  exact add_str h (by rw [sizeLine_eq]; omega)
theorem fmod3 (n : Int) : n.fmod 3 = 0 ∨ n.fmod 3 = 1 ∨ n.fmod 3 = 2 := by
  have h1 := Int.fmod_nonneg_of_pos n (show (0 : Int) < 3 by decide)
  have h2 := Int.fmod_lt_of_pos n (show (0 : Int) < 3 by decide)
  omega
theorem pick_eol {prog : Program} {w : World} {A : Around} {E : Value → Shared → Prop} {s : Shared} {g : Heap} {L D : Addr} {news : List (Addr × Obj)} {value slice : Expr} {k : Int} {t1 t2 t3 u : Tok} {n : Nat} {Q : Value → Shared → Prop}
    (N : News g L s.heap news) (hm : (D, listOf #[.str (Str.ofString "\r\n") t1, .str (Str.ofString "\n") t2, .str (Str.ofString "\r") t3] n) ∈ news) (h : ∀ e t, Q (.str (eol e) t) s)
    (hs : subscripted slice false (.ref D) (.int (k.fmod 3) u) = operate [.ref D, .int (k.fmod 3) u] (getItem (.ref D) (.int (k.fmod 3) u))) :
    wpAny (model prog w) A (subscriptTail value slice (.ref D) (.int (k.fmod 3) u)) Q E s := by
  refine tail_any (PySem.IsL.isList (n := n) (N _ hm).1).typeIs slot_list_getitem.lookup ?_ hs
  rcases fmod3 k with e | e | e
  · rw [e]; exact wpAny_getItem_list (PySem.IsL.isList (n := n) (N _ hm).1) (by decide) (by decide) rfl (h 0 t1)
  · rw [e]; exact wpAny_getItem_list (PySem.IsL.isList (n := n) (N _ hm).1) (by decide) (by decide) rfl (h 1 t2)
  · rw [e]; exact wpAny_getItem_list (PySem.IsL.isList (n := n) (N _ hm).1) (by decide) (by decide) rfl (h 2 t3)
section
variable {prog : Program} {w : World} {dp un : Nat} {fr : Option (List Env)} {gd : Option (List Code)} {s : Shared} {h₀ : Heap} {L : Addr} {m mg mb : Str → Option Value} {news : List (Addr × Obj)} {p : Program} {loose : List Str} {mean : ExcName → Option Value}
    {Q E : Value → Shared → Prop} {x y z : Str} {tk : Tok}
local macro_rules | `(tactic| walk_at "call builtin:str.join") => `(tactic| (k_here; k_dflt (refine' join_mail ?cN ?cm ?_; (case cN => assumption); (case cm => k_mem); intro t' k')))
local macro_rules | `(tactic| walk_at "subscriptTail") => `(tactic| (k_here; k_dflt (refine' pick_eol ?cN ?cm ?_ ?cs; (case cN => assumption); (case cm => k_mem); (case cs => (with_unfolding_all rfl)); intro e' t')))
local macro_rules | `(tactic| walk_at "binaryOp Add str str") => `(tactic| (k_here; k_dflt (refine add_line ?_; intro t' k')))
local macro_rules | `(tactic| walk_at "call ref") => `(tactic| (k_here; (with_reducible show wpAny _ _ (call (Value.ref 224) _ _) _ _ _); k_dflt (refine' quotedata ?cF ?cX ?cN ?cT ?cd (quote_nl _ _ _ _) (quote_dot _ _ _) ?_; (case cF => assumption); (case cX => assumption); (case cN => assumption); (case cT => assumption); (case cd => walk_at "MY room"); intro h' tk' u' F' N')))
set_option maxHeartbeats 800000 in
theorem mail (F : Fr h₀ L s.heap m) (X₀ : (hd.heap_39 w.params).In h₀) (N : News h₀ L s.heap news) (T : Top p loose mean mg mb h₀) (hroom : dp < 690) {sw sg : Fin 4} {k : Bool} {n : Int} {t1 t2 t3 t4 : Tok}
    (hQ : ∀ h' tk' u, Fr h₀ L h' m → News h₀ L h' news → Q (.str (wire sw sg k) u) { s with heap := h', toks := tk' }) :
    wpAny (model prog w) (AR dp fr gd un) (call (.ref 231) [.str (nm sw) t1, .str (nm sg) t2, .str (wd k) t3, .int n t4] []) Q E s := by
  refine wpAny_call ?_
  refine' enterW F X₀ N T ?k6 ?k7 ?k8 ?k9 ?kB ?_ ?c2 ?c3 ?c4 ?c5
  case k6 => k_is
  case k7 => k_is
  case k8 => show dp < 1000; omega
  case k9 => exact BindsTo.of_eq rfl
  case kB => exact locs rfl
  case c2 => rfl
  case c3 => rfl
  case c4 => rfl
  case c5 => decide
  intro g L' h₁ FG F' N' lt X' T'
  clear FG F N
  (try dsimp only)
  k_fold
  k_steps
  refine hQ _ _ _ (by assumption) (News.sub (by assumption) fun p hp => ?_)
  first | exact .tail _ (.tail _ hp) | exact .tail _ hp | exact hp
end
section
variable {M : Model} {A : Around} {R : GenEnd} {Y : Protocol} {n : Nat} {s₀ : Shared} {c : Code} {fs : List Frame} {s : Shared} {env : Env}
  {K : Flow → Sem PySem.Fin} {H : Value → Sem PySem.Fin} {gd : Bool → Bool} {lv : List Value → List Value}
theorem seg_If {test : Expr} {body orelse : List Stmt} {pos : Pos}
    (h : wpAny M (A.over c fs) (isTrue test env (eval test env)) (fun b s' => if b = true then Seg M A R Y n s₀ c ((execs body env).wrap K H gd lv) fs s' else Seg M A R Y n s₀ c ((execs orelse env).wrap K H gd lv) fs s') NoE s) :
    Seg M A R Y n s₀ c ((exec (.If test body orelse pos) env).wrap K H gd lv) fs s := by
  rw [exec_If]
  show Seg M A R Y n s₀ c (.at pos fun _ => ((isTrue test env (eval test env)) >>= fun b => if b = true then execs body env else execs orelse env).wrap K H gd lv) fs s
  refine seg_at ?_
  rw [Sem.bind_eq_wrap', Sem.wrap_wrap]
  refine seg_wrap (wpAny_mono h (fun b s' hb => ?_) fun _ _ e => e.elim)
  cases b with
  | true => rw [if_pos rfl] at hb ⊢; exact hb
  | false => rw [if_neg Bool.false_ne_true] at hb ⊢; exact hb
theorem seg_stmt {st : Stmt} (h : wpAny M (A.over c fs) (exec st env) (fun f s' => Seg M A R Y n s₀ c (K f) fs s') NoE s) : Seg M A R Y n s₀ c ((exec st env).wrap K H gd lv) fs s :=
  seg_wrap (wpAny_mono h (fun _ _ h => h) fun _ _ e => e.elim)
theorem seg_For {target iter : Expr} {body orelse : List Stmt} {pos : Pos}
    (h : wpAny M (A.over c fs) (eval iter env) (fun x s₁ => wpAny M (A.over c fs) (pyIter x) (fun it s₂ => ∀ p, Seg M A R Y n s₀ (.forLoop target it body orelse env) (M.den (.forLoop target it body orelse env))
      (.ret (fun r => ((match r with | .ok f => (.pure f : Sem Flow) | .error e => .raise e).onRaise fun (x : Value) => do
        if (← field x 1) == Value.none then unsupported "frame.own-activation:exception-without-traceback"
        setFlight x env.frame).wrap K H gd lv) none (gd false) (lv []) c p [] :: fs) s₂) NoE s₁) NoE s)
    (hs : ∀ x, foldedSetIterable iter env x = pure x := by intro _; rfl) :
    Seg M A R Y n s₀ c ((exec (.For target iter body orelse pos) env).wrap K H gd lv) fs s := by
  rw [exec_For]
  show Seg M A R Y n s₀ c (.at pos fun _ => ((eval iter env) >>= fun x => foldedSetIterable iter env x >>= fun x => standAt iter.pos >>= fun _ => holding [x] (pyIter x) >>= fun it => runOwn (.forLoop target it body orelse env) env).wrap K H gd lv) fs s
  refine seg_at ?_
  rw [Sem.bind_eq_wrap', Sem.wrap_wrap]
  refine seg_wrap (wpAny_mono h (fun x s₁ h₁ => ?_) fun _ _ e => e.elim)
  rw [hs x]
  show Seg M A R Y n s₀ c (.at iter.pos fun _ => (holding [x] (pyIter x) >>= fun it => runOwn (.forLoop target it body orelse env) env).wrap K H gd lv) fs s₁
  refine seg_at ?_
  rw [Sem.bind_eq_wrap', Sem.wrap_wrap]
  refine seg_wrap (wpAny_holding (wpAny_mono h₁ (fun it s₂ h₂ => ?_) fun _ _ e => e.elim))
  exact seg_call h₂
end
section
variable {prog : Program} {w : World} {A : Around} {R : GenEnd} {Y : Protocol} {n : Nat} {s₀ : Shared} {fs : List Frame} {s : Shared} {env : Env}
theorem seg_forLoop {target : Expr} {it : Value} {body : List Stmt}
    (h : wpAny (model prog w) (A.over (.forLoop target it body [] env) fs) (pyNext it) (fun r s₁ => match r with
      | none => Seg (model prog w) A R Y n s₀ (.block [] env) ((model prog w).den (.block [] env)) fs s₁
      | some v => wpAny (model prog w) (A.over (.forLoop target it body [] env) fs) (letOwnedTupleGo target it v) (fun _ s₂ => wpAny (model prog w) (A.over (.forLoop target it body [] env) fs) (assign target env v) (fun _ s₃ =>
          Seg (model prog w) A R Y n s₀ (.forLoop target it body [] env) ((execs body env).wrap (fun f => match f with
            | .next | .cont => .pure (.again (.forLoop target it body [] env))
            | .brk => .pure (.done .next)
            | .ret v => .pure (.done (.ret v))) (fun e => (do noteFrame e env; theTreesLotGoes e : Sem Unit).wrap (fun _ => .raise e) .raise id id) id id) fs s₃) NoE s₂) NoE s₁) NoE s) :
    Seg (model prog w) A R Y n s₀ (.forLoop target it body [] env) ((model prog w).den (.forLoop target it body [] env)) fs s := by
  show Seg _ A R Y n s₀ _ ((forTurn target it body [] env).onRaise (fun x => do noteFrame x env; theTreesLotGoes x)) fs s
  unfold forTurn
  rw [Sem.onRaise_eq_wrap]
  show Seg _ A R Y n s₀ _ (.at target.pos fun _ => Sem.wrap _ _ _ _ (((pyNext it).onRaise _) >>= _)) fs s
  refine seg_at ?_
  rw [Sem.bind_eq_wrap', Sem.wrap_wrap]
  refine seg_wrap (wpAny_onRaise (wpAny_mono h (fun r s₁ h₁ => ?_) fun _ _ e => e.elim))
  cases r with
  | none => exact seg_again rfl h₁
  | some v =>
    dsimp only at h₁ ⊢
    rw [Sem.bind_eq_wrap', Sem.wrap_wrap]
    refine seg_wrap (wpAny_mono h₁ (fun _ s₂ h₂ => ?_) fun _ _ e => e.elim)
    rw [Sem.bind_eq_wrap', Sem.wrap_wrap]
    refine seg_wrap (wpAny_mono h₂ (fun _ s₃ h₃ => ?_) fun _ _ e => e.elim)
    rw [Sem.bind_eq_wrap', Sem.wrap_wrap]
    rw [Sem.wrap_congr (execs body env) _ _ (K' := fun f => match f with
            | .next | .cont => .pure (.again (.forLoop target it body [] env))
            | .brk => .pure (.done .next)
            | .ret v => .pure (.done (.ret v))) (H' := (fun e => (do noteFrame e env; theTreesLotGoes e : Sem Unit).wrap (fun _ => .raise e) .raise id id))
        (fun f => by cases f <;> rfl)
        (fun e => by first | exact Sem.bind_eq_wrap _ _ | (show (do noteFrame e env; theTreesLotGoes e : Sem Unit).bind (fun _ => .raise e) = _; rw [Sem.bind_eq_wrap]))]
    exact h₃
end
noncomputable abbrev enumO (S : Addr) (i : Int) (old : Value) : Obj := { cls := .type "enumerate", dict := none, data := .fields #[.none, .bool false, .ref S, rawInt i, .none, old], slots := #[] }
def StrO (o : Obj) (x : Str) (t : Tok) (i : Nat) : Prop := o.cls = .type "str_ascii_iterator" ∧ o.data = .fields #[.str x t, .int i 0]
section
variable {prog : Program} {w : World} {A : Around} {E' : Value → Shared → Prop} {s : Shared} {g : Heap} {L E S : Addr} {m : Str → Option Value} {led : List (Addr × Obj)} {x : Str} {t : Tok} {oS : Obj} {i : Nat} {old : Value}
theorem enum_make {Q : Value → Shared → Prop} (F : Fr g L s.heap m) (N : News g L s.heap led) (ha : x.cps.all (· < 128) = true)
    (h : ∀ E S oS h', E ≠ S → (∀ p ∈ led, p.1 < S) → (∀ p ∈ led, p.1 < E) → StrO oS x t 0 → Fr g L h' m → News g L h' ((E, enumO S 0 .none) :: (S, oS) :: led) → Q (.ref E) { s with heap := h' }) :
    wpAny (model prog w) A (call (.type "enumerate") [.str x t]) Q E' s := by
  refine call_enumerate_str fun h' he hit hz hk => ?_
  obtain ⟨oS, ho, hc, hd⟩ := hit
  have ety : strIterType x = "str_ascii_iterator" := by simp [strIterType, ha]
  rw [ety] at hc
  have new0 : ∀ a, s.heap.objs.size ≤ a → g.get? a = none := fun a h1 => by
    cases e : g.get? a with
    | none => rfl
    | some o => exact absurd (Heap.lt_size (F.keep a o e)) (Nat.not_lt.mpr h1)
  refine h _ _ oS h' (Nat.succ_ne_self _) (fun p hp => Heap.lt_size (N p hp).1) (fun p hp => Nat.lt_succ_of_lt (Heap.lt_size (N p hp).1)) ⟨hc, hd⟩ (F.keeps hk) fun p hp => ?_
  rcases List.mem_cons.mp hp with rfl | hp
  · exact ⟨he, Ne.symm (Nat.ne_of_lt (Nat.lt_succ_of_lt F.ns.lt)), new0 _ (Nat.le_succ _)⟩
  · rcases List.mem_cons.mp hp with rfl | hp
    · exact ⟨ho, Ne.symm (Nat.ne_of_lt F.ns.lt), new0 _ (Nat.le_refl _)⟩
    · exact ⟨hk _ _ (N p hp).1, (N p hp).2⟩
theorem enum_item {elts : List Expr} {kk : Nat} {pos : Pos} {c : Nat} {Pn : Shared → Prop} {Qs : Value → Shared → Prop} (hh : A.handled = none) (F : Fr g L s.heap m) (N : News g L s.heap ((E, enumO S i old) :: (S, oS) :: led)) (hES : E ≠ S)
    (hE : ∀ p ∈ led, p.1 ≠ E) (hS : ∀ p ∈ led, p.1 ≠ S) (hO : StrO oS x t i) (hc : x.cps[i]? = some c)
    (h : ∀ T oS' u v old' h' tk', (∀ p ∈ led, p.1 < T) → StrO oS' x t (i + 1) → Fr g L h' m → News g L h' ((T, tupObj #[.int i u, .str ⟨#[c]⟩ v] 0) :: (E, enumO S ((i + 1 : Nat) : Int) old') :: (S, oS') :: led) → Qs (.ref T) { s with heap := h', toks := tk' }) :
    wpAny (model prog w) A (pyNext (.ref E)) (fun r s₁ => match r with
      | none => Pn s₁
      | some v => wpAny (model prog w) A (letOwnedTupleGo (.Tuple elts kk pos) (.ref E) v) (fun _ s₂ => Qs v s₂) NoE s₁) NoE s := by
  have zE := N _ (.head _)
  have zS := N _ (.tail _ (.head _))
  have hi : i < x.cps.size := (Array.getElem?_eq_some_iff.mp hc).1
  have D := Draws.strAscii (prog := prog) (w := w) (A := A.in1) hh S x t
  have hEf : E ∉ [S] := by simpa using hES
  refine wpAny_pyNext_enum_itemD D zE.1 ⟨oS, zS.1, hO.1, hO.2⟩ hi hES hEf fun y h' tk hP heo hst hT hz hk => ?_
  obtain ⟨c', u, hc', rfl⟩ := hP
  rw [hc] at hc'
  injection hc' with hc'
  subst hc'
  refine wpAny_letOwnedTupleGo_enum heo fun h₂ he₂ hs₂ => ?_
  obtain ⟨oS', ho', hcl, hd⟩ := hst
  have hlt : ∀ p ∈ (E, enumO S i old) :: (S, oS) :: led, p.1 < s.heap.objs.size := fun p hp => Heap.lt_size (N p hp).1
  have up : ∀ b o, b ≠ E → b ≠ S → s.heap.get? b = some o → h₂.get? b = some o := fun b o h1 h2 e => (hs₂.2 b h1).trans (hk b o h1 h2 e)
  have new0 : g.get? s.heap.objs.size = none := by
    cases e : g.get? s.heap.objs.size with
    | none => rfl
    | some o => exact absurd (Heap.lt_size (F.keep _ o e)) (Nat.lt_irrefl _)
  refine h s.heap.objs.size oS' tk u (.str ⟨#[c]⟩ u) h₂ (tk + 1) (fun (p : Addr × Obj) hp => hlt p (.tail _ (.tail _ hp))) ⟨hcl, hd⟩ ⟨F.ns.at' fun o e => up _ o (Ne.symm zE.2.1) (Ne.symm zS.2.1) e, fun b o e => up b o (fun q => ?_) (fun q => ?_) (F.keep b o e), F.above⟩ fun p hp => ?_
  · rw [q, zE.2.2] at e; cases e
  · rw [q, zS.2.2] at e; cases e
  · rcases List.mem_cons.mp hp with rfl | hp
    · refine ⟨(hs₂.2 _ (Nat.ne_of_gt (hlt _ (.head _)))).trans hT, Ne.symm (Nat.ne_of_lt F.ns.lt), new0⟩
    · rcases List.mem_cons.mp hp with rfl | hp
      · exact ⟨he₂, zE.2⟩
      · rcases List.mem_cons.mp hp with rfl | hp
        · exact ⟨(hs₂.2 _ (Ne.symm hES)).trans ho', zS.2⟩
        · exact ⟨up _ _ (hE p hp) (hS p hp) (N p (.tail _ (.tail _ hp))).1, (N p (.tail _ (.tail _ hp))).2⟩
theorem enum_end {Q : Option Value → Shared → Prop} (hh : A.handled = none) (F : Fr g L s.heap m) (N : News g L s.heap ((E, enumO S i old) :: (S, oS) :: led)) (hES : E ≠ S)
    (hS : ∀ p ∈ led, p.1 ≠ S) (hO : StrO oS x t i) (hc : i = x.cps.size)
    (h : ∀ h', Fr g L h' m → News g L h' led → Q none { s with heap := h' }) :
    wpAny (model prog w) A (pyNext (.ref E)) Q NoE s := by
  have zE := N _ (.head _)
  have zS := N _ (.tail _ (.head _))
  subst hc
  have D := Draws.strAscii (prog := prog) (w := w) (A := A.in1) hh S x t
  refine wpAny_pyNext_enum_endD D zE.1 ⟨oS, zS.1, hO.1, hO.2⟩ fun h' hx => ?_
  refine h h' ⟨F.ns.at' fun o e => hx _ o (Ne.symm zS.2.1) e, fun b o e => hx b o (fun q => ?_) (F.keep b o e), F.above⟩ fun p hp => ⟨hx _ _ (hS p hp) (N p (.tail _ (.tail _ hp))).1, (N p (.tail _ (.tail _ hp))).2⟩
  rw [q, zS.2.2] at e; cases e
end
-- the def 186, its parts by unification
noncomputable def genDef : { q : Str × Arguments × List Stmt × Scope × Value × Value × Value // ∀ P, ∃ oc od doc pm an ct osl, (hd.heap_39 P).lookup 186 = some ⟨oc, od, .func (fnOf q.1 q.1 q.2.1 q.2.2.1 q.2.2.2.1 q.2.2.2.2.2.1 q.2.2.2.2.2.2 doc pm an q.2.2.2.2.1 ct), osl⟩ ∧ codeIn (hd.heap_39 P) q.2.2.2.2.1 q.1 = true } :=
  ⟨(_, _, _, _, _, _, _), fun P => ⟨_, _, _, _, _, _, _, by k_is, by k_is⟩⟩
noncomputable def genEnvAt (Lg : Addr) : Env := envOf genDef.1.1 genDef.1.2.2.2.1 Lg 186 genDef.1.2.2.2.2.1
-- what the generator leaves alone
def Kept (h₀ : Heap) (dom : List Addr) (s₀ s' : Shared) : Prop := ∃ h tk, s' = { s₀ with heap := h, toks := tk } ∧ (∀ b o, b ∈ dom → s₀.heap.get? b = some o → h.get? b = some o) ∧ ∀ b o, h₀.get? b = some o → h.get? b = some o
def Live (dom : List Addr) (h : Heap) : Prop := ∀ b ∈ dom, ∃ o, h.get? b = some o
noncomputable def GY (h₀ : Heap) (x : Str) (dom : List Addr) : Protocol := fun n s₀ v s' kap => ∃ (T : Addr) (i : Nat) (u u' : Tok) (c : Nat) (PL : List (Addr × Obj)), v = .ref T ∧ i + n + 1 = x.cps.size ∧ x.cps[i]? = some c ∧ Kept h₀ dom s₀ s' ∧ s'.heap.get? T = some (tupObj #[.int i u, .str ⟨#[c]⟩ u'] 0) ∧ T ∉ dom ∧ h₀.get? T = none ∧
  (∀ p ∈ PL, s'.heap.get? p.1 = some p.2 ∧ p.1 ∉ dom ∧ h₀.get? p.1 = none) ∧ ∀ s'', (∀ p ∈ PL, s''.heap.get? p.1 = some p.2) → Live dom s''.heap → (∀ b o, h₀.get? b = some o → s''.heap.get? b = some o) → kap (.send .none) s''
def GP (h₀ : Heap) (dom : List Addr) : Nat → Shared → Shared → Prop := fun n s₀ s' => n = 0 ∧ Kept h₀ dom s₀ s'
noncomputable def GR (h₀ : Heap) (dom : List Addr) : GenEnd := fun n s₀ r s' => r = .ok (.ret .none) ∧ GP h₀ dom n s₀ s'
example : genDef.1.2.2.2.1.isGenerator = true := rfl
/-- the things of dom, as a ledger -/
noncomputable def ledOf (h : Heap) (dom : List Addr) : List (Addr × Obj) := dom.filterMap fun b => (h.get? b).map fun o => (b, o)
theorem ledOf_mem {h : Heap} {dom : List Addr} {p : Addr × Obj} : p ∈ ledOf h dom ↔ p.1 ∈ dom ∧ h.get? p.1 = some p.2 := by
  unfold ledOf
  rw [List.mem_filterMap]
  constructor
  · rintro ⟨b, hb, e⟩
    obtain ⟨o, ho, rfl⟩ := Option.map_eq_some_iff.mp e
    exact ⟨hb, ho⟩
  · rintro ⟨h1, h4⟩
    refine ⟨p.1, h1, ?_⟩
    rw [h4]
    rfl
theorem ledOf_kept {h₀ : Heap} {dom : List Addr} {s₀ : Shared} {h : Heap} {tk : Nat} {L : Addr} {m : Str → Option Value} (F : Fr h₀ L h m) (N : News h₀ L h (ledOf s₀.heap dom)) : Kept h₀ dom s₀ { s₀ with heap := h, toks := tk } :=
  ⟨h, tk, rfl, fun b o h1 e => (N (b, o) (ledOf_mem.mpr ⟨h1, e⟩)).1, F.keep⟩
def DomOk (h₀ : Heap) (Lg : Addr) (dom : List Addr) : Prop := ∀ b ∈ dom, b ≠ Lg ∧ h₀.get? b = none
theorem ledOf_news {h₀ h : Heap} {Lg : Addr} {dom : List Addr} (hd : DomOk h₀ Lg dom) : News h₀ Lg h (ledOf h dom) := fun p hp => by
  have := ledOf_mem.mp hp
  exact ⟨this.2, hd _ this.1⟩
section
variable {prog : Program} {w : World} {A : Around} {h₀ : Heap} {Lg : Addr} {dom : List Addr} {x : Str} {t : Tok} {mg mb : Str → Option Value} {p : Program} {loose : List Str} {mean : ExcName → Option Value}
noncomputable def genFor : { q : Expr × Expr × List Stmt × Stmt // ∃ a b pos, genDef.1.2.2.1 = [a, b, .For q.1 q.2.1 q.2.2.1 [] pos, q.2.2.2] } := ⟨(_, _, _, _), _, _, _, rfl⟩
noncomputable def Kfor (Lg : Addr) (E : Addr) : Flow → Sem PySem.Fin := fun f => match f with
            | .next | .cont => .pure (.again (.forLoop genFor.1.1 (.ref E) genFor.1.2.2.1 [] (genEnvAt Lg)))
            | .brk => .pure (.done .next)
            | .ret v => .pure (.done (.ret v))
set_option maxHeartbeats 1600000 in
theorem gen_loop (hh : A.handled = none) (X₀ : (hd.heap_39 w.params).In h₀) (T₀ : Top p loose mean mg mb h₀) (hx : ∀ c ∈ x.cps, c ≠ 92) {E S : Addr} {fs : List Frame} (hES : E ≠ S) (hB : E ∉ dom ∧ S ∉ dom) (hd : DomOk h₀ Lg dom) (hfs : splitAtGen fs = none) (hfg : fs.any Frame.guarded = false)
    (hmk : (marksOver fs (A.handled, A.handled)).1 = none)
    (hend : ∀ (s₀ s : Shared) (m : Str → Option Value) (tk : Nat), (∀ b o, h₀.get? b = some o → s₀.heap.get? b = some o) → Fr h₀ Lg s.heap (fun y => if y = Str.ofString "escape" then some (.bool false) else m y) → News h₀ Lg s.heap (ledOf s₀.heap dom) → s = { s₀ with heap := s.heap, toks := tk } →
      Seg (model prog w) A (GR h₀ dom) (GY h₀ x dom) 0 s₀ (.block [] (genEnvAt Lg)) ((model prog w).den (.block [] (genEnvAt Lg))) fs s) :
    ∀ (k i : Nat) (s₀ s : Shared) (m : Str → Option Value) (tk : Nat) (oS : Obj) (old : Value), i + k = x.cps.size → (∀ b o, h₀.get? b = some o → s₀.heap.get? b = some o) → Live dom s₀.heap →
      Fr h₀ Lg s.heap (fun y => if y = Str.ofString "escape" then some (.bool false) else m y) → News h₀ Lg s.heap ((E, enumO S i old) :: (S, oS) :: ledOf s₀.heap dom) → StrO oS x t i → s = { s₀ with heap := s.heap, toks := tk } →
      Seg (model prog w) A (GR h₀ dom) (GY h₀ x dom) k s₀ (.forLoop genFor.1.1 (.ref E) genFor.1.2.2.1 [] (genEnvAt Lg)) ((model prog w).den (.forLoop genFor.1.1 (.ref E) genFor.1.2.2.1 [] (genEnvAt Lg))) fs s
  | 0, i, s₀, s, m, tk, oS, old, hi, hk, hlv, F, N, hO, hs => by
    refine seg_forLoop ?_
    refine enum_end hmk F N hES (fun q hq => ?_) hO hi fun h' F' N' => ?_
    · exact fun e => hB.2 (e ▸ (ledOf_mem.mp hq).1)
    · refine hend s₀ _ m tk hk F' N' ?_
      rw [hs]
  | k + 1, i, s₀, s, m, tk, oS, old, hi, hk, hlv, F, N, hO, hs => by
    obtain ⟨hp, gs, dr, tk0, os⟩ := s
    simp only [Shared.mk.injEq] at hs
    obtain ⟨_, rfl, rfl, _, rfl⟩ := hs
    refine seg_forLoop ?_
    have hlt : i < x.cps.size := by omega
    have hc : x.cps[i]? = some x.cps[i] := Array.getElem?_eq_getElem hlt
    generalize hcc : x.cps[i] = c at hc
    have hc92 : c ≠ 92 := hx c (hcc ▸ Array.getElem_mem hlt)
    refine enum_item hmk F N hES (fun q hq => ?_) (fun q hq => ?_) hO hc fun T oS' u v old' h' tk' hT hO' F' N' => ?_
    · exact fun e => hB.1 (e ▸ (ledOf_mem.mp hq).1)
    · exact fun e => hB.2 (e ▸ (ledOf_mem.mp hq).1)
    refine kcp_assign (env := genEnvAt Lg) (x := .int i u) (y := .str ⟨#[c]⟩ v) hmk ⟨_, (N' _ (.head _)).1, rfl, _, rfl⟩ rfl rfl rfl F'.ns fun h₃ tk₃ hn₃ hs₃ => ?_
    have F₃ : Fr h₀ Lg h₃ (fun z => if z = Str.ofString "ch" then some (.str ⟨#[c]⟩ v) else if z = Str.ofString "pos" then some (.int i u) else if z = Str.ofString "escape" then some (.bool false) else m z) :=
      ⟨hn₃, fun b o e => hs₃ b o (fun q => by have q' : b = Lg := q; rw [q', Heap.get?_none_of_le F'.above] at e; cases e) (F'.keep b o e), F'.above⟩
    have N₃ : News h₀ Lg h₃ ((T, tupObj #[.int i u, .str ⟨#[c]⟩ v] 0) :: (E, enumO S ((i + 1 : Nat) : Int) old') :: (S, oS') :: ledOf s₀.heap dom) := fun p hp => ⟨hs₃ _ _ (N' p hp).2.1 (N' p hp).1, (N' p hp).2⟩
    clear N F N' F'
    have X' := X₀
    have T' := T₀
    refine seg_execs_cons (seg_If ?_)
    dsimp only [genEnvAt, genDef]
    k_steps
    refine seg_execs_cons (seg_If ?_)
    k_steps
    · rename_i ecmp
      have e1 : (⟨#[c]⟩ : Str) = Str.ofString "\\" := beq_iff_eq.mp ecmp
      have e2 : Str.ofString "\\" = ⟨#[92]⟩ := by decide +kernel
      rw [e2] at e1
      injection e1 with e1
      exact absurd (by simpa using e1) hc92
    · refine seg_execs_cons (seg_Expr_Yield hfs rfl hfg ?_)
      k_steps
      rename_i ecmp D h4 F4 N4 l1 kap hkap
      obtain ⟨oL, heL, hoL⟩ := LCg.ns_obj F4.ns
      have nE := N4 _ (.tail _ (.tail _ (.head _)))
      have nS := N4 _ (.tail _ (.tail _ (.tail _ (.head _))))
      have hL₀ : h₀.get? Lg = none := Heap.get?_none_of_le F4.above
      refine ⟨D, i, u, v, c, [(Lg, oL), (E, enumO S ((i + 1 : Nat) : Int) old'), (S, oS')], rfl, by omega, hc, ledOf_kept F4 (News.sub N4 fun p hp => .tail _ (.tail _ (.tail _ (.tail _ hp)))), (N4 _ (.head _)).1, fun hm => ?_, (N4 _ (.head _)).2.2, ?_, fun s'' hPL hlv'' hk'' => hkap _ _ ?_⟩
      · obtain ⟨o, ho⟩ := hlv D hm
        exact Nat.lt_irrefl _ (allLt_lt l1.2.2.2 (D, o) (ledOf_mem.mpr ⟨hm, ho⟩))
      · intro p hp
        rcases List.mem_cons.mp hp with rfl | hp
        · exact ⟨heL, fun hm => (hd _ hm).1 rfl, hL₀⟩
        · rcases List.mem_cons.mp hp with rfl | hp
          · exact ⟨nE.1, hB.1, nE.2.2⟩
          · rcases List.mem_cons.mp hp with rfl | hp
            · exact ⟨nS.1, hB.2, nS.2.2⟩
            · cases hp
      · show Seg _ _ _ _ k s'' _ (Sem.wrap _ _ _ _ (execs [] _)) fs s''
        refine seg_execs_nil ?_
        show Seg _ _ _ _ k s'' _ (Sem.wrap _ _ _ _ (execs [] _)) fs s''
        refine seg_execs_nil ?_
        show Seg _ _ _ _ k s'' _ (Sem.wrap _ _ _ _ (execs [] _)) fs s''
        refine seg_execs_nil ?_
        refine seg_again rfl ?_
        have eqm : (fun z => if z = Str.ofString "ch" then some (Value.str ⟨#[c]⟩ v) else if z = Str.ofString "pos" then some (.int i u) else if z = Str.ofString "escape" then some (.bool false) else m z) =
            fun y => if y = Str.ofString "escape" then some (Value.bool false) else (fun z => if z = Str.ofString "ch" then some (.str ⟨#[c]⟩ v) else if z = Str.ofString "pos" then some (.int i u) else m z) y := by
          funext z
          dsimp only
          by_cases h1 : z = Str.ofString "ch"
          · subst h1; rfl
          · by_cases h2 : z = Str.ofString "pos"
            · subst h2; rfl
            · simp only [h1, h2, if_false]
        exact gen_loop hh X₀ T₀ hx hES hB hd hfs hfg hmk hend k (i + 1) s'' s'' (fun z => if z = Str.ofString "ch" then some (.str ⟨#[c]⟩ v) else if z = Str.ofString "pos" then some (.int i u) else m z) s''.toks oS' old' (by omega) hk'' hlv''
          ⟨eqm ▸ hoL.ns (hPL _ (.head _)), hk'', F4.above⟩
          (fun p hp => by
            rcases List.mem_cons.mp hp with rfl | hp
            · exact ⟨hPL _ (.tail _ (.head _)), nE.2⟩
            · rcases List.mem_cons.mp hp with rfl | hp
              · exact ⟨hPL _ (.tail _ (.tail _ (.head _))), nS.2⟩
              · exact ledOf_news hd p hp) hO' rfl
end
section
variable {prog : Program} {w : World} {A : Around} {h₀ : Heap} {Lg : Addr} {dom : List Addr} {x : Str} {t : Tok} {mg mb : Str → Option Value} {p : Program} {loose : List Str} {mean : ExcName → Option Value}
local macro_rules | `(tactic| walk_at "call type:enumerate") => `(tactic| (k_here; k_dflt (refine' enum_make ?cF ?cN ?ca ?_; (case cF => assumption); (case cN => assumption); (case ca => assumption); intro E' S' oS' h' hES' lS' lE' hO' F' N')))
set_option maxHeartbeats 1600000 in
theorem gen_start (hh : A.handled = none) (X₀ : (hd.heap_39 w.params).In h₀) (T₀ : Top p loose mean mg mb h₀) (hx : ∀ c ∈ x.cps, c ≠ 92) (ha : x.cps.all (· < 128) = true) {s₀ : Shared} (hd : DomOk h₀ Lg dom) (hlv : Live dom s₀.heap)
    (F : Fr h₀ Lg s₀.heap (fun y => if y = Str.ofString "addr" then some (.str x t) else none)) :
    Seg (model prog w) A (GR h₀ dom) (GY h₀ x dom) x.cps.size s₀ (.func genDef.1.2.2.1 (genEnvAt Lg)) ((model prog w).den (.func genDef.1.2.2.1 (genEnvAt Lg))) [] s₀ := by
  refine seg_func ?_
  have N : News h₀ Lg s₀.heap (ledOf s₀.heap dom) := ledOf_news hd
  have hk := F.keep
  have X' := X₀
  have T' := T₀
  refine seg_execs_cons (seg_stmt ?_)
  dsimp only [genEnvAt, genDef]
  k_steps
  refine seg_execs_cons (seg_stmt ?_)
  k_steps
  refine seg_execs_cons (seg_For ?_)
  k_steps
  rename_i E S oS hE hES lS lE hO F4 N4
  have out : ∀ {b : Addr}, (∀ p ∈ ledOf s₀.heap dom, p.1 < b) → b ∉ dom := fun {b} hl hm => by
    obtain ⟨o, ho⟩ := hlv b hm
    exact Nat.lt_irrefl _ (hl (b, o) (ledOf_mem.mpr ⟨hm, ho⟩))
  refine wpAny_pyIter_enum (N4 _ (.head _)).1 fun pp => ?_
  refine gen_loop hh X₀ T₀ hx hES ⟨out lE, out lS⟩ hd ?ha1 ?ha2 ?ha3 ?_ x.cps.size 0 s₀ _ (fun y => if y = Str.ofString "pos" then some (Value.int 0 s₀.toks) else if y = Str.ofString "addr" then some (.str x t) else none) _ oS .none (Nat.zero_add _) hk hlv F4 N4 hO rfl
  case ha1 => rfl
  case ha2 => rfl
  case ha3 => exact hh
  clear N4 F4 hlv
  intro s₁ s₂ m₂ tk₂ hk₂ F₂ N₂ hs₂
  obtain ⟨hp, gs, dr, tk0, os⟩ := s₂
  simp only [Shared.mk.injEq] at hs₂
  obtain ⟨_, rfl, rfl, _, rfl⟩ := hs₂
  show Seg _ _ _ _ 0 s₁ _ (leafOf (.ok .next)) _ _
  refine seg_leaf _ ?_
  show Seg _ _ _ _ 0 s₁ _ (Sem.wrap _ _ _ _ (execs [_] _)) [] _
  refine seg_execs_cons (seg_If ?_)
  dsimp only at F₂ N₂
  k_steps
  show Seg _ _ _ _ 0 s₁ _ (Sem.wrap _ _ _ _ (execs [] _)) [] _
  refine seg_execs_nil ?_
  exact seg_end (r := .ok (.ret .none)) ⟨rfl, rfl, ledOf_kept F₂ N₂⟩
end
noncomputable abbrev genO (g : Nat) (nm qn : Value) : Obj := { cls := .type "generator", data := .fields #[.int g 0, nm, qn] }
section
variable {prog : Program} {w : World} {A : Around} {s : Shared} {h₀ : Heap} {L : Addr} {m mg mb : Str → Option Value} {news : List (Addr × Obj)} {p : Program} {loose : List Str} {mean : ExcName → Option Value}
    {Q : Value → Shared → Prop} {E : Value → Shared → Prop} {x : Str} {t : Tok}
theorem call_gen (F : Fr h₀ L s.heap m) (X₀ : (hd.heap_39 w.params).In h₀) (N : News h₀ L s.heap news) (T : Top p loose mean mg mb h₀) (hroom : A.depth < recursionLimit)
    (h : ∀ a Lg oL nm qn h' tk', (∀ p ∈ news, p.1 < Lg) → (∀ p ∈ news, p.1 < a) → Lg ≠ a → h₀.objs.size ≤ Lg → LCg.NsObj oL (fun y => if y = Str.ofString "addr" then some (.str x t) else none) → Fr h₀ L h' m → News h₀ L h' ((a, genO s.gens.size nm qn) :: (Lg, oL) :: news) →
      Q (.ref a) { s with heap := h', gens := s.gens.push (.fresh (.func genDef.1.2.2.1 (genEnvAt Lg))), toks := tk' }) :
    wpAny (model prog w) A (call (.ref 186) [.str x t] []) Q E s := by
  obtain ⟨oc, od, doc, pm, an, ct, osl, hlk, hcd⟩ := genDef.2 w.params
  refine wpAny_call ?_
  refine codeAny_call_generator (fd := fnOf genDef.1.1 genDef.1.1 genDef.1.2.1 genDef.1.2.2.1 genDef.1.2.2.2.1 genDef.1.2.2.2.2.2.1 genDef.1.2.2.2.2.2.2 doc pm an genDef.1.2.2.2.2.1 ct) (body := genDef.1.2.2.1) hroom ((X₀.keeps F.keep) _ _ hlk) rfl rfl rfl rfl (codeRec_of (X₀.keeps F.keep) hcd) ?_
  have hb : BindsTo s (fnOf genDef.1.1 genDef.1.1 genDef.1.2.1 genDef.1.2.2.1 genDef.1.2.2.2.1 genDef.1.2.2.2.2.2.1 genDef.1.2.2.2.2.2.2 doc pm an genDef.1.2.2.2.2.1 ct) ⟨[.str x t], []⟩ [(Str.ofString "addr", .str x t)] := by
    dsimp only [genDef]
    exact BindsTo.of_eq rfl
  refine hb _ _ _ _ ?_
  have hcell : ∀ y ∈ genDef.1.2.2.2.1.names, y.2 ≠ .cell := by decide
  have hloc : ∀ y ∈ [(Str.ofString "addr", Value.str x t)], genDef.1.2.2.2.1.names.lookup y.1 = some .local := locs rfl
  refine wpAny_newFunctionEnv hcell hloc (fun h₁ hns hsb => ?_) rfl
  have hk₁ : ∀ b o, s.heap.get? b = some o → h₁.get? b = some o := fun b o e => hsb.extBut b o (Nat.ne_of_lt (Heap.lt_size e)) (Heap.get?_push_of_some _ e)
  have hz : h₁.objs.size = s.heap.objs.size + 1 := by rw [hsb.1, Heap.size_push]
  obtain ⟨oL, heL, hoL⟩ := LCg.ns_obj hns
  have new0 : ∀ a, s.heap.objs.size ≤ a → h₀.get? a = none := fun a h1 => by
    cases e : h₀.get? a with
    | none => rfl
    | some o => exact absurd (Heap.lt_size (F.keep a o e)) (Nat.not_lt.mpr h1)
  have hsz0 : h₀.objs.size ≤ s.heap.objs.size := Nat.le_trans F.above (Nat.le_of_lt F.ns.lt)
  have eqm : (fun y => List.lookup y [(Str.ofString "addr", Value.str x t)].reverse) = fun y => if y = Str.ofString "addr" then some (.str x t) else none := by
    funext y
    by_cases e : y = Str.ofString "addr"
    · subst e; simp
    · simp [e, List.lookup, beq_eq_false_iff_ne.mpr e]
  refine ⟨((T.nolimit.keeps F.keep)).keeps hk₁, ?_⟩
  have keep₂ : ∀ b o, s.heap.get? b = some o → (h₁.push (genO s.gens.size (.str genDef.1.1 (s.toks + 1)) (.str genDef.1.1 (s.toks + 1 + 1)))).get? b = some o := fun b o e => Heap.get?_push_of_some _ (hk₁ b o e)
  refine h h₁.objs.size s.heap.objs.size oL (.str genDef.1.1 (s.toks + 1)) (.str genDef.1.1 (s.toks + 1 + 1)) (h₁.push (genO s.gens.size (.str genDef.1.1 (s.toks + 1)) (.str genDef.1.1 (s.toks + 1 + 1)))) (s.toks + 1 + 1 + 1) (fun p hp => Heap.lt_size (N p hp).1) (fun p hp => by rw [hz]; exact Nat.lt_succ_of_lt (Heap.lt_size (N p hp).1)) (by rw [hz]; exact Nat.ne_of_lt (Nat.lt_succ_self _)) hsz0 (eqm ▸ hoL) (F.keeps keep₂) fun p hp => ?_
  rcases List.mem_cons.mp hp with rfl | hp
  · exact ⟨Heap.get?_push_size _ rfl, Ne.symm (by rw [hz]; exact Nat.ne_of_lt (Nat.lt_succ_of_lt F.ns.lt)), new0 _ (by rw [hz]; exact Nat.le_succ _)⟩
  · rcases List.mem_cons.mp hp with rfl | hp
    · exact ⟨Heap.get?_push_of_some _ heL, Ne.symm (Nat.ne_of_lt F.ns.lt), new0 _ (Nat.le_refl _)⟩
    · exact ⟨keep₂ _ _ (N p hp).1, (N p hp).2⟩
end
section
variable {prog : Program} {w : World} {A : Around} {s : Shared} {h₀ : Heap} {L : Addr} {m mg mb : Str → Option Value} {news : List (Addr × Obj)} {p : Program} {loose : List Str} {mean : ExcName → Option Value}
    {x : Str} {t : Tok}
theorem letGo_gen {E : Value → Shared → Prop} {elts : List Expr} {kk : Nat} {pos : Pos} {a T : Addr} {n : Nat} {nm qn : Value} {Q : Unit → Shared → Prop} (ho : s.heap.get? a = some (genO n nm qn)) (hQ : Q () s) :
    wpAny (model prog w) A (letOwnedTupleGo (.Tuple elts kk pos) (.ref a) (.ref T)) Q E s := by
  unfold letOwnedTupleGo
  refine wpAny_bind (wpAny_load ho ?_)
  show wpAny _ A (if (["enumerate", "zip", "dict_itemiterator", "dict_reverseitemiterator", "odict_iterator", "itertools.zip_longest", "itertools.pairwise"].contains "generator" &&
      (#[.int n 0, nm, qn] : Array Value)[0]? == some (rawInt T)) = true then _ else _) Q E s
  rw [if_neg (by
    intro h
    rw [show (["enumerate", "zip", "dict_itemiterator", "dict_reverseitemiterator", "odict_iterator", "itertools.zip_longest", "itertools.pairwise"].contains "generator") = false from by decide, Bool.false_and] at h
    cases h)]
  exact wpAny_pure hQ
theorem set2_at {gs : Array GenState} {g : Nat} {v v' w' : GenState} (h : gs[g]? = some w') : ((gs.setIfInBounds g v).setIfInBounds g v')[g]? = some v' := by
  have hl := (Array.getElem?_eq_some_iff.mp h).1
  simp [hl]
theorem set2_off {gs : Array GenState} {g j : Nat} {v v' : GenState} (h : j ≠ g) : ((gs.setIfInBounds g v).setIfInBounds g v')[j]? = gs[j]? := by
  rw [Array.getElem?_setIfInBounds, if_neg (Ne.symm h), Array.getElem?_setIfInBounds, if_neg (Ne.symm h)]
theorem for_gen {elts : List Expr} {kk : Nat} {pos : Pos} {body : List Stmt} {env : Env} {Q : Flow → Shared → Prop} {a Lg : Addr} {oL : Obj} {g : Nat} {nm qn : Value}
    (J : Nat → (Str → Option Value) → Prop) (hh : A.handled = none) (hroom : A.depth < recursionLimit) (X₀ : (hd.heap_39 w.params).In h₀) (T₀ : Top p loose mean mg mb h₀)
    (hx : ∀ c ∈ x.cps, c ≠ 92) (ha : x.cps.all (· < 128) = true) (F : Fr h₀ L s.heap m) (N : News h₀ L s.heap ((a, genO g nm qn) :: (Lg, oL) :: news))
    (hne : Lg ≠ a) (hlt : ∀ p ∈ news, p.1 < Lg) (habove : h₀.objs.size ≤ Lg) (hoL : LCg.NsObj oL (fun y => if y = Str.ofString "addr" then some (.str x t) else none))
    (hg : s.gens[g]? = some (.fresh (.func genDef.1.2.2.1 (genEnvAt Lg)))) (hJ0 : J 0 m)
    (turn : ∀ i c T u u' m₁ PL h tk gs, x.cps[i]? = some c → J i m₁ → Fr h₀ L h m₁ → News h₀ L h ((T, tupObj #[.int i u, .str ⟨#[c]⟩ u'] 0) :: (a, genO g nm qn) :: (PL ++ news)) →
      wpAny (model prog w) A (assign (.Tuple elts kk pos) env (.ref T)) (fun _ s₂ => wpAny (model prog w) A (execs body env) (fun f s₃ => match f with
        | .next | .cont => ∃ h' tk' m', s₃ = ⟨h', gs, s.drawn, tk', s.os⟩ ∧ Fr h₀ L h' m' ∧ News h₀ L h' ((a, genO g nm qn) :: (PL ++ news)) ∧ J (i + 1) m'
        | .brk => False
        | .ret _ => False) NoE s₂) NoE ⟨h, gs, s.drawn, tk, s.os⟩)
    (done : ∀ m₁ h tk gs, J x.cps.size m₁ → Fr h₀ L h m₁ → News h₀ L h news → gs[g]? = some .finished → (∀ j, j ≠ g → gs[j]? = s.gens[j]?) → Q .next ⟨h, gs, s.drawn, tk, s.os⟩) :
    wpAny (model prog w) A (pyIter (.ref a)) (Turns prog w A (.Tuple elts kk pos) body env Q) NoE s := by
  have hIs : ∀ h, News h₀ L h ((a, genO g nm qn) :: news) → h.IsGen a g := fun h N => ⟨_, _, _, (N _ (.head _)).1, rfl, rfl, rfl⟩
  have N₀ : News h₀ L s.heap ((a, genO g nm qn) :: news) := News.drop2 N
  refine wpAny_pyIter_gen (hIs _ N₀) ?_
  let dom : List Addr := L :: a :: news.map (·.1)
  have hLg : L ≠ Lg := Ne.symm (N _ (.tail _ (.head _))).2.1
  have hL₀ : h₀.get? L = none := Heap.get?_none_of_le F.above
  have hd : DomOk h₀ Lg dom := by
    intro b hb
    rcases List.mem_cons.mp hb with rfl | hb
    · exact ⟨hLg, hL₀⟩
    · rcases List.mem_cons.mp hb with rfl | hb
      · exact ⟨Ne.symm hne, (N _ (.head _)).2.2⟩
      · obtain ⟨q, hq, rfl⟩ := List.mem_map.mp hb
        exact ⟨Nat.ne_of_lt (hlt q hq), (N q (.tail _ (.tail _ hq))).2.2⟩
  have live : ∀ h m₁, Fr h₀ L h m₁ → News h₀ L h ((a, genO g nm qn) :: news) → Live dom h := by
    intro h m₁ F N b hb
    rcases List.mem_cons.mp hb with rfl | hb
    · obtain ⟨o, e, _⟩ := LCg.ns_obj F.ns
      exact ⟨o, e⟩
    · rcases List.mem_cons.mp hb with rfl | hb
      · exact ⟨_, (N _ (.head _)).1⟩
      · obtain ⟨q, hq, rfl⟩ := List.mem_map.mp hb
        exact ⟨_, (N q (.tail _ hq)).1⟩
  have moved : ∀ (s₁ s₂ : Shared) m₁, Kept h₀ dom s₁ s₂ → Fr h₀ L s₁.heap m₁ → News h₀ L s₁.heap ((a, genO g nm qn) :: news) → Fr h₀ L s₂.heap m₁ ∧ News h₀ L s₂.heap ((a, genO g nm qn) :: news) := by
    rintro s₁ _ m₁ ⟨h, tk, rfl, hk, hk0⟩ F N
    refine ⟨⟨F.ns.at' fun o e => hk L o (.head _) e, hk0, F.above⟩, fun q hq => ?_⟩
    rcases List.mem_cons.mp hq with rfl | hq
    · exact ⟨hk _ _ (.tail _ (.head _)) (N _ (.head _)).1, (N _ (.head _)).2⟩
    · exact ⟨hk _ _ (.tail _ (.tail _ (List.mem_map_of_mem hq))) (N q (.tail _ hq)).1, (N q (.tail _ hq)).2⟩
  refine ⟨fun k s' => ∃ i m₁ h tk gs PL G, s' = ⟨h, gs, s.drawn, tk, s.os⟩ ∧ i + k = x.cps.size ∧ J i m₁ ∧ Fr h₀ L h m₁ ∧ News h₀ L h ((a, genO g nm qn) :: (PL ++ news)) ∧ gs[g]? = some G ∧ (∀ j, j ≠ g → gs[j]? = s.gens[j]?) ∧
    ∀ s'' : Shared, (∀ q ∈ PL, s''.heap.get? q.1 = some q.2) → Live dom s''.heap → (∀ b o, h₀.get? b = some o → s''.heap.get? b = some o) → G.Goes (model prog w) A.in1 (GR h₀ dom) (GY h₀ x dom) k (.send .none) s'', x.cps.size,
    ⟨0, m, s.heap, s.toks, s.gens, [(Lg, oL)], _, rfl, Nat.zero_add _, hJ0, F, fun q hq => ?_, hg, fun _ _ => rfl, fun s'' hPL hlv hk => ⟨rfl, ?_⟩⟩, ?_⟩
  · exact N q hq
  · refine gen_start (A := A.in1) hh X₀ T₀ hx ha hd hlv ⟨hoL.ns (hPL _ (.head _)), hk, habove⟩
  · rintro k s' ⟨i, m₁, h, tk, gs, PL, G, rfl, hik, hJ, F₁, N₁, hG, hoff, hgo⟩
    have N₁' : News h₀ L h ((a, genO g nm qn) :: news) := News.sub N₁ fun q hq => by
      rcases List.mem_cons.mp hq with rfl | hq
      · exact .head _
      · exact .tail _ (List.mem_append_right _ hq)
    refine wpAny_pyNext_gen (P := GP h₀ dom) (Y := GY h₀ x dom) (n := k) hh (T₀.nolimit.keeps F₁.keep) hroom (hIs _ N₁') hG
      (hgo _ (fun q hq => (N₁ q (.tail _ (List.mem_append_left _ hq))).1) (live _ _ F₁ N₁') F₁.keep) (fun v s₁ gs' hY => ?_) (fun s₁ hP h' hk' => ?_)
    · obtain ⟨T, i', u, u', c, PL', rfl, hi', hc, hKept, hT, hTd, hT0, hPL', hkap⟩ := hY
      obtain ⟨F₂, N₂⟩ := moved _ _ m₁ hKept F₁ N₁'
      obtain ⟨h₂, tk₂, rfl, hk₂, hk0⟩ := hKept
      cases k with
      | zero => exact (hkap ⟨h₂, _, _, _, _⟩ (fun q hq => (hPL' q hq).1) (live _ _ F₂ N₂) hk0).elim
      | succ k =>
        have ei : i' = i := by omega
        subst ei
        dsimp only at F₂ N₂
        refine letGo_gen (N₂ _ (.head _)).1 ?_
        have N₃ : News h₀ L h₂ ((T, tupObj #[.int i' u, .str ⟨#[c]⟩ u'] 0) :: (a, genO g nm qn) :: (PL' ++ news)) := fun q hq => by
          rcases List.mem_cons.mp hq with rfl | hq
          · exact ⟨hT, fun e => hTd (by have e' : T = L := e; rw [e']; exact .head _), hT0⟩
          · rcases List.mem_cons.mp hq with rfl | hq
            · exact N₂ _ (.head _)
            · rcases List.mem_append.mp hq with hq | hq
              · have := hPL' q hq
                exact ⟨this.1, fun e => this.2.1 (by have e' : q.1 = L := e; rw [e']; exact .head _), this.2.2⟩
              · exact N₂ q (.tail _ hq)
        refine wpAny_mono (turn i' c T u u' m₁ PL' h₂ _ _ hc hJ F₂ N₃) (fun _ s₂ h₄ => wpAny_mono h₄ (fun f s₃ h₃ => ?_) fun _ _ e => e) fun _ _ e => e
        have fin : (∃ h' tk' m', s₃ = ⟨h', (gs.setIfInBounds g .running).setIfInBounds g gs', s.drawn, tk', s.os⟩ ∧ Fr h₀ L h' m' ∧ News h₀ L h' ((a, genO g nm qn) :: (PL' ++ news)) ∧ J (i' + 1) m') → ∃ kk, kk < k + 1 ∧ ∃ i m₁ h tk gs PL G, s₃ = ⟨h, gs, s.drawn, tk, s.os⟩ ∧ i + kk = x.cps.size ∧ J i m₁ ∧ Fr h₀ L h m₁ ∧ News h₀ L h ((a, genO g nm qn) :: (PL ++ news)) ∧ gs[g]? = some G ∧ (∀ j, j ≠ g → gs[j]? = s.gens[j]?) ∧
            ∀ s'' : Shared, (∀ q ∈ PL, s''.heap.get? q.1 = some q.2) → Live dom s''.heap → (∀ b o, h₀.get? b = some o → s''.heap.get? b = some o) → G.Goes (model prog w) A.in1 (GR h₀ dom) (GY h₀ x dom) kk (.send .none) s'' := by
          rintro ⟨h', tk', m', rfl, F', N', hJ'⟩
          refine ⟨k, Nat.lt_succ_self _, i' + 1, m', h', tk', _, PL', gs', rfl, by omega, hJ', F', N', set2_at hG, fun j hj => ?_, fun s'' hPL hlv hk => hkap s'' hPL hlv hk⟩
          exact (set2_off hj).trans (hoff j hj)
        cases f with
        | next => exact fin h₃
        | cont => exact fin h₃
        | brk => exact h₃.elim
        | ret v => exact h₃.elim
    · obtain ⟨rfl, hKept⟩ := hP
      obtain ⟨F₂, N₂⟩ := moved _ _ m₁ hKept F₁ N₁'
      obtain ⟨h₂, tk₂, rfl, hk₂, hk0⟩ := hKept
      have ei : i = x.cps.size := hik
      subst ei
      refine done m₁ h' _ _ hJ (F₂.keeps hk') (News.off fun q hq => ⟨hk' _ _ (N₂ q hq).1, (N₂ q hq).2⟩) (set2_at hG) fun j hj => ?_
      exact (set2_off hj).trans (hoff j hj)
end
def Par (x : Str) : Prop := ∀ c ∈ x.cps, c = 40 ∨ c = 41
theorem occ_none {x y : Str} {hi : Nat} (h : ∀ i, Builtin.Str.subAt x y i = false) : Builtin.Str.occurrences x y 0 hi 1 = [] := by
  unfold Builtin.Str.occurrences
  simp [h, Id.run]
  have : ∀ (l : List Nat) (b : Array Nat × Nat), List.foldl (fun (b : Array Nat × Nat) (_ : Nat) => (b.fst, b.snd)) b l = b := by
    intro l
    induction l with
    | nil => intro b; rfl
    | cons a l ih => intro b; exact ih b
  rw [this]
  rfl
theorem no_quote {x : Str} (hx : Par x) (i : Nat) : Builtin.Str.subAt x (Str.ofString "\"") i = false := by
  have e : Str.ofString "\"" = ⟨#[34]⟩ := by decide +kernel
  rw [e]
  show (x.cps.extract i (i + 1) == #[34]) = false
  rw [beq_eq_false_iff_ne]
  intro h
  have hm : 34 ∈ x.cps.extract i (i + 1) := by rw [h]; simp
  have : 34 ∈ x.cps := by
    have := Array.mem_iff_getElem.mp hm
    obtain ⟨j, hj, e⟩ := this
    rw [Array.getElem_extract] at e
    exact e ▸ Array.getElem_mem _
  rcases hx 34 this with h | h <;> cases h
theorem no_quote' {x : Str} (hx : Par x) : (Builtin.Str.occurrences x (Str.ofString "\"") 0 x.length 1).isEmpty = true := by
  rw [occ_none (no_quote hx)]; rfl
section
variable {prog : Program} {w : World} {dp un : Nat} {fr : Option (List Env)} {gd : Option (List Code)} {s : Shared} {h₀ : Heap} {L : Addr} {m mg mb : Str → Option Value} {news : List (Addr × Obj)} {p : Program} {loose : List Str} {mean : ExcName → Option Value}
    {Q E : Value → Shared → Prop} {x : Str} {tk : Tok}
set_option maxHeartbeats 800000 in
theorem strip (F : Fr h₀ L s.heap m) (X₀ : (hd.heap_39 w.params).In h₀) (N : News h₀ L s.heap news) (T : Top p loose mean mg mb h₀) (hroom : dp < 700) (hx : Par x) (hl : x.length ≤ 1000)
    (hQ : ∀ h' tk' u, Fr h₀ L h' m → News h₀ L h' news → Q (.str x u) { s with heap := h', toks := tk' }) :
    wpAny (model prog w) (AR dp fr gd un) (call (.ref 193) [.str x tk] []) Q E s := by
  refine wpAny_call ?_
  refine' enterW F X₀ N T ?k6 ?k7 ?k8 ?k9 ?kB ?_ ?c2 ?c3 ?c4 ?c5
  case k6 => k_is
  case k7 => k_is
  case k8 => show dp < 1000; omega
  case k9 => exact BindsTo.of_eq rfl
  case kB => exact locs rfl
  case c2 => rfl
  case c3 => rfl
  case c4 => rfl
  case c5 => decide
  intro g L' h₁ FG F' N' lt X' T'
  clear FG F N
  (try dsimp only)
  k_fold
  k_steps
  · exact hQ _ _ _ (by assumption) (by assumption)
  · rename (_ = false) => hbad
    rw [no_quote' hx] at hbad
    cases hbad
end
noncomputable def lev : List Nat → Int
  | [] => 0
  | c :: r => (if c = 40 then 1 else -1) + lev r
theorem lev_append : ∀ (a b : List Nat), lev (a ++ b) = lev a + lev b
  | [], b => by simp [lev]
  | c :: r, b => by
    show (if c = 40 then 1 else -1) + lev (r ++ b) = (if c = 40 then 1 else -1) + lev r + lev b
    rw [lev_append r b]; omega
noncomputable def level (x : Str) (i : Nat) : Int := lev (x.cps.toList.take i)
theorem level_succ {x : Str} {i c : Nat} (h : x.cps[i]? = some c) : level x (i + 1) = level x i + (if c = 40 then 1 else -1) := by
  unfold level
  have h' : x.cps.toList[i]? = some c := by simpa using h
  rw [List.take_add_one, h', lev_append]
  show _ + ((if c = 40 then 1 else -1) + 0) = _
  omega
def GTE (h₀ : Heap) (L : Addr) (x : Str) (i : Nat) (led : List (Addr × Obj)) (s : Shared) (gs : Array GenState) (s₃ : Shared) : Prop :=
  ∃ (h' : Heap) (tk' : Nat) (tk : Tok) (mm : Str → Option Value), s₃ = ⟨h', gs, s.drawn, tk', s.os⟩ ∧ Fr h₀ L h' (fun y => if y = Str.ofString "opens" then some (.int (level x i) tk) else mm y) ∧ News h₀ L h' led
theorem GTE.intro {h₀ : Heap} {L : Addr} {x : Str} {i : Nat} {led : List (Addr × Obj)} {s : Shared} {gs : Array GenState} {h' : Heap} {tk' : Nat} {tk : Tok} {v : Int} {mm : Str → Option Value}
    (F : Fr h₀ L h' (fun y => if y = Str.ofString "opens" then some (.int v tk) else mm y)) (N : News h₀ L h' led) (hv : v = level x i) : GTE h₀ L x i led s gs ⟨h', gs, s.drawn, tk', s.os⟩ := by
  subst hv
  exact ⟨h', tk', tk, mm, rfl, F, N⟩
section
variable {prog : Program} {w : World} {A : Around} {s : Shared} {h₀ : Heap} {L : Addr} {m mg mb : Str → Option Value} {news : List (Addr × Obj)} {p : Program} {loose : List Str} {mean : ExcName → Option Value}
    {x : Str} {t : Tok}
theorem for_level {elts : List Expr} {kk : Nat} {pos : Pos} {body : List Stmt} {env : Env} {Q : Flow → Shared → Prop} {a Lg : Addr} {oL : Obj} {g : Nat} {nm qn : Value} {tk0 : Tok}
    (hh : A.handled = none) (hroom : A.depth < recursionLimit) (X₀ : (hd.heap_39 w.params).In h₀) (T₀ : Top p loose mean mg mb h₀)
    (hx : Par x) (F : Fr h₀ L s.heap (fun y => if y = Str.ofString "opens" then some (.int 0 tk0) else m y)) (N : News h₀ L s.heap ((a, genO g nm qn) :: (Lg, oL) :: news))
    (hne : Lg ≠ a) (hlt : ∀ p ∈ news, p.1 < Lg) (habove : h₀.objs.size ≤ Lg) (hoL : LCg.NsObj oL (fun y => if y = Str.ofString "addr" then some (.str x t) else none))
    (hg : s.gens[g]? = some (.fresh (.func genDef.1.2.2.1 (genEnvAt Lg))))
    (turn : ∀ i c T u u' tk PL h tks gs (mm : Str → Option Value), x.cps[i]? = some c → Fr h₀ L h (fun y => if y = Str.ofString "opens" then some (.int (level x i) tk) else mm y) → News h₀ L h ((T, tupObj #[.int i u, .str ⟨#[c]⟩ u'] 0) :: (a, genO g nm qn) :: (PL ++ news)) →
      wpAny (model prog w) A (assign (.Tuple elts kk pos) env (.ref T)) (fun _ s₂ => wpAny (model prog w) A (execs body env) (fun f s₃ => match f with
        | .next | .cont => GTE h₀ L x (i + 1) ((a, genO g nm qn) :: (PL ++ news)) s gs s₃
        | .brk => False
        | .ret _ => False) NoE s₂) NoE ⟨h, gs, s.drawn, tks, s.os⟩)
    (done : ∀ tk h tks gs (mm : Str → Option Value), Fr h₀ L h (fun y => if y = Str.ofString "opens" then some (.int (level x x.cps.size) tk) else mm y) → News h₀ L h news → gs[g]? = some .finished → (∀ j, j ≠ g → gs[j]? = s.gens[j]?) → Q .next ⟨h, gs, s.drawn, tks, s.os⟩) :
    wpAny (model prog w) A (pyIter (.ref a)) (Turns prog w A (.Tuple elts kk pos) body env Q) NoE s := by
  refine for_gen (x := x) (t := t) (fun i m₁ => ∃ (tk : Tok) (mm : Str → Option Value), m₁ = fun y => if y = Str.ofString "opens" then some (.int (level x i) tk) else mm y) hh hroom X₀ T₀ (fun c hc => ?_) ?_ F N hne hlt habove hoL hg ⟨tk0, m, rfl⟩ ?_ ?_
  · rcases hx c hc with rfl | rfl <;> decide
  · rw [Array.all_eq_true_iff_forall_mem]
    intro c hc
    rcases hx c hc with rfl | rfl <;> decide
  · rintro i c T u u' m₁ PL h tks gs hc ⟨tk, mm, rfl⟩ F₁ N₁
    refine wpAny_mono (turn i c T u u' tk PL h tks gs mm hc F₁ N₁) (fun _ s₂ h₂ => wpAny_mono h₂ (fun f s₃ h₃ => ?_) fun _ _ e => e) fun _ _ e => e
    have fin : GTE h₀ L x (i + 1) ((a, genO g nm qn) :: (PL ++ news)) s gs s₃ → ∃ h' tk' m', s₃ = ⟨h', gs, s.drawn, tk', s.os⟩ ∧ Fr h₀ L h' m' ∧ News h₀ L h' ((a, genO g nm qn) :: (PL ++ news)) ∧ ∃ (tk : Tok) (mm : Str → Option Value), m' = fun y => if y = Str.ofString "opens" then some (.int (level x (i + 1)) tk) else mm y := by
      rintro ⟨h', tk', tk, mm, rfl, F', N'⟩
      exact ⟨h', tk', _, rfl, F', N', tk, mm, rfl⟩
    cases f with
    | next => exact fin h₃
    | cont => exact fin h₃
    | brk => exact h₃
    | ret v => exact h₃
  · rintro m₁ h tks gs ⟨tk, mm, rfl⟩ F₁ N₁ h1 h2
    exact done tk h tks gs mm F₁ N₁ h1 h2
end
def GensOk (a b : Array GenState) : Prop := (∀ y ∈ a, y.bare = true) → ∀ y ∈ b, y.bare = true
theorem GensOk.refl (a : Array GenState) : GensOk a a := fun h => h
theorem GensOk.trans {a b c : Array GenState} (h1 : GensOk a b) (h2 : GensOk b c) : GensOk a c := fun h => h2 (h1 h)
theorem gens_done {a gs : Array GenState} {G : GenState} (h1 : gs[a.size]? = some .finished) (h2 : ∀ j, j ≠ a.size → gs[j]? = (a.push G)[j]?) : GensOk a gs := by
  intro h y hy
  obtain ⟨j, hj, rfl⟩ := Array.mem_iff_getElem.mp hy
  by_cases e : j = a.size
  · subst e
    rw [Array.getElem?_eq_getElem hj] at h1
    injection h1 with h1
    rw [h1]; rfl
  · have := h2 j e
    rw [Array.getElem?_eq_getElem hj] at this
    obtain ⟨hj', e'⟩ := Array.getElem?_eq_some_iff.mp this.symm
    have hlt : j < a.size := by rw [Array.size_push] at hj'; omega
    rw [Array.getElem_push_lt hlt] at e'
    rw [← e']
    exact h _ (Array.getElem_mem hlt)
theorem chr_is {c d : Nat} {y : Str} (hy : y = ⟨#[d]⟩) : ((⟨#[c]⟩ : Str) == y) = true ↔ c = d := by
  subst hy
  rw [beq_iff_eq]
  constructor
  · intro h
    injection h with h
    simpa using h
  · rintro rfl; rfl
theorem opn : Str.ofString "(" = ⟨#[40]⟩ := by decide +kernel
theorem cls : Str.ofString ")" = ⟨#[41]⟩ := by decide +kernel
theorem lev_open {x : Str} {i c : Nat} (hc : x.cps[i]? = some c) (e : ((⟨#[c]⟩ : Str) == Str.ofString "(") = true) : level x i + 1 = level x (i + 1) := by
  rw [level_succ hc, if_pos ((chr_is opn).mp e)]
theorem lev_close {x : Str} {i c : Nat} (hc : x.cps[i]? = some c) (e : ((⟨#[c]⟩ : Str) == Str.ofString ")") = true) : level x i - 1 = level x (i + 1) := by
  have := (chr_is cls).mp e
  subst this
  rw [level_succ hc]
  show level x i - 1 = level x i + -1
  omega
theorem lev_bad {x : Str} {i c : Nat} (hpos : ∀ i, i ≤ x.cps.size → 0 ≤ level x i) (hc : x.cps[i]? = some c) (e : ((⟨#[c]⟩ : Str) == Str.ofString ")") = true) (h1 : level x i - 1 < 0) : False := by
  rw [lev_close hc e] at h1
  have hi := (Array.getElem?_eq_some_iff.mp hc).1
  have := hpos (i + 1) hi
  omega
theorem lev_none {x : Str} {i c : Nat} (hx : Par x) (hc : x.cps[i]? = some c) (e1 : ((⟨#[c]⟩ : Str) == Str.ofString "(") = false) (e2 : ((⟨#[c]⟩ : Str) == Str.ofString ")") = false) : False := by
  obtain ⟨hi, e⟩ := Array.getElem?_eq_some_iff.mp hc
  rcases hx c (e ▸ Array.getElem_mem hi) with rfl | rfl
  · rw [(chr_is opn).mpr rfl] at e1; cases e1
  · rw [(chr_is cls).mpr rfl] at e2; cases e2
section
variable {prog : Program} {w : World} {dp un : Nat} {fr : Option (List Env)} {gd : Option (List Code)} {s : Shared} {h₀ : Heap} {L : Addr} {m mg mb : Str → Option Value} {news : List (Addr × Obj)} {p : Program} {loose : List Str} {mean : ExcName → Option Value}
    {Q E : Value → Shared → Prop} {x : Str} {tk : Tok}
local macro_rules | `(tactic| walk_at "call ref") => `(tactic| (k_here; (with_reducible show wpAny _ _ (call (Value.ref 193) _ _) _ _ _); k_dflt (refine' strip ?cF ?cX ?cN ?cT ?cd ?cx ?cl ?_; (case cF => assumption); (case cX => assumption); (case cN => assumption); (case cT => assumption); (case cd => walk_at "MY room"); (case cx => assumption); (case cl => assumption); intro h' tk' u' F' N')))
local macro_rules | `(tactic| walk_at "call ref") => `(tactic| (k_here; (with_reducible show wpAny _ _ (call (Value.ref 186) _ _) _ _ _); k_dflt (refine' call_gen ?cF ?cX ?cN ?cT ?cd ?_; (case cF => assumption); (case cX => assumption); (case cN => assumption); (case cT => assumption); (case cd => (show _ < 1000; walk_at "MY room")); intro a' Lg' oL' nm' qn' h' tk' l1 l2 ne' ab' hoL' F' N')))
local macro_rules | `(tactic| walk_at "MY rows") => `(tactic| (k_dflt (refine' for_level ?ch ?cd ?cX ?cT ?cx ?cF ?cN ?cne ?clt ?cab ?coL ?cg ?_ ?_; (case ch => rfl); (case cd => (show _ < 1000; walk_at "MY room")); (case cX => assumption); (case cT => assumption); (case cx => assumption); (case cF => assumption); (case cN => assumption); (case cne => assumption); (case clt => assumption); (case cab => assumption); (case coL => assumption); (case cg => exact Array.getElem?_push_size ..))))
set_option maxHeartbeats 1600000 in
theorem check (F : Fr h₀ L s.heap m) (X₀ : (hd.heap_39 w.params).In h₀) (N : News h₀ L s.heap news) (T : Top p loose mean mg mb h₀) (hroom : dp < 690) (hx : Par x) (hl : x.length ≤ 1000) (hpos : ∀ i, i ≤ x.cps.size → 0 ≤ level x i)
    (hQ : ∀ h' tk' gs, Fr h₀ L h' m → News h₀ L h' news → GensOk s.gens gs → Q (.bool (level x x.cps.size == 0)) { s with heap := h', gens := gs, toks := tk' }) :
    wpAny (model prog w) (AR dp fr gd un) (call (.ref 200) [.str x tk] []) Q E s := by
  refine wpAny_call ?_
  refine' enterW F X₀ N T ?k6 ?k7 ?k8 ?k9 ?kB ?_ ?c2 ?c3 ?c4 ?c5
  case k6 => k_is
  case k7 => k_is
  case k8 => show dp < 1000; omega
  case k9 => exact BindsTo.of_eq rfl
  case kB => exact locs rfl
  case c2 => rfl
  case c3 => rfl
  case c4 => rfl
  case c5 => decide
  intro g L' h₁ FG F' N' lt X' T'
  clear FG F N
  (try dsimp only)
  k_fold
  k_steps
  · exact GTE.intro (by assumption) (News.off (by assumption)) (lev_open (by assumption) (by assumption))
  · exact (lev_bad hpos (by assumption) (by assumption) (by first | assumption | exact of_decide_eq_true (by assumption))).elim
  · exact GTE.intro (by assumption) (News.off (by assumption)) (lev_close (by assumption) (by assumption))
  · exact (lev_none hx (by assumption) (by assumption) (by assumption)).elim
  · exact hQ _ _ _ (by assumption) (by assumption) (gens_done (by assumption) (by assumption))
end
noncomputable def up : Fin 4 → Str
  | 0 => Str.ofString "."
  | 1 => Str.ofString ".B"
  | 2 => Str.ofString ".C"
  | 3 => Str.ofString ".D"
theorem up_eq : ∀ i, Txt.upper (nm i) = up i := by decide +kernel
theorem up_low : ∀ i, Txt.lower (up i) = nm i := by decide +kernel
theorem nm_low : ∀ i, Txt.lower (nm i) = nm i := by decide +kernel
theorem nm_ok : ∀ i, nameOk (nm i) = true := by decide +kernel
theorem short_len {x : Str} (h : x.length ≤ 1000) : PySem.Builtin.Str.tooLong x.length = false := by
  unfold PySem.Builtin.Str.tooLong
  first | (rw [decide_eq_false_iff_not]; rw [sizeLine_eq]; omega) | (simp; omega)
theorem up_len : ∀ i, (up i).length ≤ 2 := by decide
theorem low_up (i : Fin 4) : Low (up i) (nm i) := ⟨up_low i, by rw [up_low]; exact short_len (by have := nm_len i; omega)⟩
theorem low_nm (i : Fin 4) : Low (nm i) (nm i) := ⟨nm_low i, by rw [nm_low]; exact short_len (by have := nm_len i; omega)⟩
section
variable {prog : Program} {w : World} {dp un : Nat} {fr : Option (List Env)} {gd : Option (List Code)} {s : Shared} {h₀ : Heap} {L : Addr} {m mg mb : Str → Option Value} {news : List (Addr × Obj)} {p : Program} {loose : List Str} {mean : ExcName → Option Value}
    {Q E : Value → Shared → Prop} {a d l : Addr} {v v' y : Str} {tk : Tok} {hs : Int} {t0 : Tok} {n0 n1 : Nat} {refs : List Value} {rows : List (Str × Str)}
theorem up_call {A : Around} {i : Fin 4} {t : Tok} (h : ∀ t' k, Q (.str (up i) t') { s with toks := k }) : wpAny (model prog w) A (call (.builtin "str.upper") [.str (nm i) t]) Q E s := by
  refine SC.upper ?_ ?_
  · rw [up_eq]; exact short_len (by have := up_len i; omega)
  · have := h s.toks (s.toks + 1)
    rw [up_eq]
    exact this
end
section
variable {prog : Program} {w : World} {dp un : Nat} {fr : Option (List Env)} {gd : Option (List Code)} {s : Shared} {h₀ : Heap} {L : Addr} {m mg mb : Str → Option Value} {news : List (Addr × Obj)} {p : Program} {loose : List Str} {mean : ExcName → Option Value}
    {Q E : Value → Shared → Prop} {a d l : Addr} {v v' y : Str} {tk : Tok} {hs : Int} {t0 : Tok} {n0 n1 : Nat} {refs : List Value} {rows : List (Str × Str)}
theorem join_vals {A : Around} {D : Addr} {ys : List Value} {xs : List Str} {n : Nat} {t : Tok} (N : News h₀ L s.heap news) (hm : (D, listOf ys.toArray n) ∈ news) (hy : StrsAre ys xs) (hw : (xs.map (·.length)).sum + xs.length ≤ 1000)
    (h : ∀ t' k, Q (.str (Txt.join (Str.ofString "") xs) t') { s with toks := k }) : wpAny (model prog w) A (call (.builtin "str.join") [.str (Str.ofString "") t, .ref D]) Q E s :=
  join_listW ⟨_, (N _ hm).1, rfl, _, rfl⟩ hy (by decide) (by omega) h
local macro_rules | `(tactic| walk_at "call builtin:str.upper") => `(tactic| (k_here; k_dflt (refine up_call ?_; intro t' k')))
local macro_rules | `(tactic| walk_at "call builtin:str.join") => `(tactic| (k_here; k_dflt (refine' join_vals ?cN ?cm ?cy ?cw ?_; (case cN => assumption); (case cm => k_mem); (case cy => assumption); (case cw => assumption); intro t' k')))
local macro_rules | `(tactic| walk_at "call ref") => `(tactic| (k_here; (with_reducible show wpAny _ _ (call (Value.ref 114) _ _) _ _ _); k_dflt (refine' get_all ?cF ?cX ?cN ?cT ?cd ?ca ?cd1 ?cl ?cr ?ck ?cs (PredIs.mk) (FnIs.mk) ?clow ?cok ?_; (case cF => assumption); (case cX => assumption); (case cN => assumption); (case cT => assumption); (case cd => walk_at "MY room"); (case ca => k_mem); (case cd1 => k_mem); (case cl => k_mem); (case cr => walk_at "MY rowsin"); (case ck => assumption); (case cs => assumption); (case clow => exact low_up _); (case cok => exact nm_ok _); intro h' tk' D' ys' l1 F' N' hys')))
local macro_rules | `(tactic| walk_at "call ref") => `(tactic| (k_here; (with_reducible show wpAny _ _ (call (Value.ref 200) _ _) _ _ _); k_dflt (refine' check ?cF ?cX ?cN ?cT ?cd ?cx ?cl ?cp ?_; (case cF => assumption); (case cX => assumption); (case cN => assumption); (case cT => assumption); (case cd => walk_at "MY room"); (case cx => assumption); (case cl => assumption); (case cp => assumption); intro h' tk' gs' F' N' hgs')))
set_option maxHeartbeats 1600000 in
theorem taken {i : Fin 4} (F : Fr h₀ L s.heap m) (X₀ : (hd.heap_39 w.params).In h₀) (N : News h₀ L s.heap news) (T : Top p loose mean mg mb h₀) (hroom : dp < 680)
    (ha : (a, instObj 175 d) ∈ news) (hd1 : (d, dictOf [⟨hs, .str (Str.ofString "_headers") t0, .ref l⟩] n0) ∈ news) (hl : (l, listOf refs.toArray n1) ∈ news) (hr : RowsIn news refs rows) (hk : ∀ r ∈ rows, Low r.1 r.1)
    (hsz : refs.length ≤ sizeLine) (hw : ((valsOf rows (nm i)).map (·.length)).sum + (valsOf rows (nm i)).length ≤ 1000)
    (hx : Par (Txt.join (Str.ofString "") (valsOf rows (nm i)))) (hlen : (Txt.join (Str.ofString "") (valsOf rows (nm i))).length ≤ 1000) (hpos : ∀ j, j ≤ (Txt.join (Str.ofString "") (valsOf rows (nm i))).cps.size → 0 ≤ level (Txt.join (Str.ofString "") (valsOf rows (nm i))) j)
    (hQ : ∀ h' tk' gs, Fr h₀ L h' m → News h₀ L h' news → GensOk s.gens gs → Q (.bool (level (Txt.join (Str.ofString "") (valsOf rows (nm i))) (Txt.join (Str.ofString "") (valsOf rows (nm i))).cps.size == 0)) { s with heap := h', gens := gs, toks := tk' }) :
    wpAny (model prog w) (AR dp fr gd un) (call (.ref 238) [.ref a, .str (nm i) tk] []) Q E s := by
  refine wpAny_call ?_
  refine' enterW F X₀ N T ?k6 ?k7 ?k8 ?k9 ?kB ?_ ?c2 ?c3 ?c4 ?c5
  case k6 => k_is
  case k7 => k_is
  case k8 => show dp < 1000; omega
  case k9 => exact BindsTo.of_eq rfl
  case kB => exact locs rfl
  case c2 => rfl
  case c3 => rfl
  case c4 => rfl
  case c5 => decide
  intro g L' h₁ FG F' N' lt X' T'
  clear FG F N
  (try dsimp only)
  k_fold
  k_steps
  exact hQ _ _ _ (by assumption) (by first | assumption | exact News.off (by assumption) | exact News.off (News.off (by assumption))) (by assumption)
end
theorem lt_all_ne {news : List (Addr × Obj)} {D : Nat} (h : ∀ p ∈ news, @LT.lt Nat _ p.1 D) : ∀ p ∈ news, p.1 ≠ D := fun p hp => Nat.ne_of_lt (h p hp)
section
local macro_rules | `(tactic| k_all) => `(tactic| exact lt_all_ne (by assumption))
local macro_rules | `(tactic| k_ne) => `(tactic| first | exact Nat.ne_of_gt (by assumption) | exact Nat.ne_of_lt (by assumption))
variable {prog : Program} {w : World} {dp un : Nat} {fr : Option (List Env)} {gd : Option (List Code)} {s : Shared} {h₀ : Heap} {L : Addr} {m mg mb : Str → Option Value} {news : List (Addr × Obj)} {p : Program} {loose : List Str} {mean : ExcName → Option Value}
    {Q E : Value → Shared → Prop} {a d l : Addr} {n1 : Nat}
local macro_rules | `(tactic| walk_at "MY rows") => `(tactic| (k_dflt refine' for_rows (Str.ofString "k") (Str.ofString "v") (rows := []) (PredIs.mk (P := fun _ => True)) (FnIs.mk (P := fun _ _ => True)) (fun _ _ => trivial) ?ch ?cF ?cN ?cl .nil trivial (fun pre k v post t tk tv nn it o h tks u hrows => by simp at hrows) (fun h tk u hP F' N' => ?_); (case ch => rfl); (case cF => assumption); (case cN => assumption); (case cl => k_mem)))
set_option maxHeartbeats 800000 in
theorem make (F : Fr h₀ L s.heap m) (X₀ : (hd.heap_39 w.params).In h₀) (N : News h₀ L s.heap news) (T : Top p loose mean mg mb h₀) (hroom : dp < 700) (hl : (l, listOf ([] : List Value).toArray n1) ∈ news)
    (hQ : ∀ x dx h' tk' hs t0 n0, (∀ p ∈ news, p.1 < dx) → dx < x → Fr h₀ L h' m → News h₀ L h' ((x, instObj 175 dx) :: (dx, dictOf [⟨hs, .str (Str.ofString "_headers") t0, .ref l⟩] n0) :: news) → Q (.ref x) { s with heap := h', toks := tk' }) :
    wpAny (model prog w) (AR dp fr gd un) (call (.ref 175) [.ref l] []) Q E s := by
  refine' call_cls (fI := 69) F X₀ N ?ka ?kb ?kc ?_
  case ka => k_is
  case kb => k_is
  case kc => k_is
  intro x dx h' F N l1 l2
  refine' enterW F X₀ N T ?k6 ?k7 ?k8 ?k9 ?kB ?_ ?c2 ?c3 ?c4 ?c5
  case k6 => k_is
  case k7 => k_is
  case k8 => show dp + 1 < 1000; omega
  case k9 => first | exact BindsTo.of_eq rfl | exact binds_K (X₀.keeps F.keep) rfl (by k_is) rfl rfl rfl
  case kB => exact locs rfl
  case c2 => rfl
  case c3 => rfl
  case c4 => rfl
  case c5 => decide
  intro g L' h₁ FG F' N' lt X' T'
  clear FG F N
  (try dsimp only)
  k_fold
  k_steps
  exact hQ _ _ _ _ _ _ _ l1 l2 (by assumption) (by assumption)
end
noncomputable def runDef : { q : Str × Arguments × List Stmt × Scope × Value × Value × Value // ∀ P, ∃ oc od doc pm an ct osl, (hd.heap_39 P).lookup 243 = some ⟨oc, od, .func (fnOf q.1 q.1 q.2.1 q.2.2.1 q.2.2.2.1 q.2.2.2.2.2.1 q.2.2.2.2.2.2 doc pm an q.2.2.2.2.1 ct), osl⟩ ∧ codeIn (hd.heap_39 P) q.2.2.2.2.1 q.1 = true } :=
  ⟨(_, _, _, _, _, _, _), fun P => ⟨_, _, _, _, _, _, _, by k_is, by k_is⟩⟩
noncomputable abbrev runEnv (L : Addr) : Env := envOfC runDef.1.1 runDef.1.2.2.2.1 L 243 runDef.1.2.2.2.2.1
noncomputable def runTop : { q : Stmt × Stmt × Stmt × Stmt × Stmt × Stmt // runDef.1.2.2.1 = [q.1, q.2.1, q.2.2.1, q.2.2.2.1, q.2.2.2.2.1, q.2.2.2.2.2] } := ⟨(_, _, _, _, _, _), rfl⟩
noncomputable def runMain : { q : Expr × Expr × List Stmt × Pos // runTop.1.2.2.1 = .For q.1 q.2.1 q.2.2.1 [] q.2.2.2 } := ⟨(_, _, _, _), rfl⟩
noncomputable def st1 : { q : Stmt // runMain.1.2.2.1[0]? = some q } := ⟨_, rfl⟩
noncomputable def st2 : { q : Stmt // runMain.1.2.2.1[1]? = some q } := ⟨_, rfl⟩
noncomputable def st3 : { q : Stmt // runMain.1.2.2.1[2]? = some q } := ⟨_, rfl⟩
noncomputable def st4 : { q : Stmt // runMain.1.2.2.1[3]? = some q } := ⟨_, rfl⟩
noncomputable def st5 : { q : Stmt // runMain.1.2.2.1[4]? = some q } := ⟨_, rfl⟩
noncomputable def st6 : { q : Stmt // runMain.1.2.2.1[5]? = some q } := ⟨_, rfl⟩
noncomputable def st7 : { q : Stmt // runMain.1.2.2.1[6]? = some q } := ⟨_, rfl⟩
noncomputable def st8 : { q : Stmt // runMain.1.2.2.1[7]? = some q } := ⟨_, rfl⟩
noncomputable def st9 : { q : Stmt // runMain.1.2.2.1[8]? = some q } := ⟨_, rfl⟩
noncomputable def st10 : { q : Stmt // runMain.1.2.2.1[9]? = some q } := ⟨_, rfl⟩
noncomputable def st11 : { q : Stmt // runMain.1.2.2.1[10]? = some q } := ⟨_, rfl⟩
noncomputable def st12 : { q : Stmt // runMain.1.2.2.1[11]? = some q } := ⟨_, rfl⟩
theorem turn_is : runMain.1.2.2.1 = [st1.1, st2.1, st3.1, st4.1, st5.1, st6.1, st7.1, st8.1, st9.1, st10.1, st11.1, st12.1] := rfl
noncomputable def st6w : { q : Expr × Stmt × Stmt × Stmt × List Stmt × Pos // st6.1 = .If q.1 [q.2.1, q.2.2.1, q.2.2.2.1] q.2.2.2.2.1 q.2.2.2.2.2 } := ⟨(_, _, _, _, _, _), rfl⟩
noncomputable def st6f : { q : Expr × Expr × List Stmt × Pos // st6w.1.2.2.1 = .For q.1 q.2.1 q.2.2.1 [] q.2.2.2 } := ⟨(_, _, _, _), rfl⟩
noncomputable def stSt : { q : Expr × Expr × List Stmt × Pos // runTop.1.2.1 = .For q.1 q.2.1 q.2.2.1 [] q.2.2.2 } := ⟨(_, _, _, _), rfl⟩
noncomputable def stEnd : { q : Expr × Expr × List Stmt × Pos // runTop.1.2.2.2.1 = .For q.1 q.2.1 q.2.2.1 [] q.2.2.2 } := ⟨(_, _, _, _), rfl⟩
noncomputable def wk : Fin 4 → Str
  | 0 => Str.ofString ""
  | 1 => Str.ofString "b"
  | 2 => Str.ofString "c"
  | 3 => Str.ofString "d"
noncomputable def brk : Bool → Str
  | true => Str.ofString "("
  | false => Str.ofString ")"
theorem wk_ok : ∀ i, valOk (wk i) = true := by decide +kernel
theorem brk_ok : ∀ i, valOk (brk i) = true := by decide +kernel
theorem nm_inj : ∀ i j, nm i = nm j → i = j := by decide +kernel
abbrev Mail := Fin 4 × Fin 4 × Bool
structure PS where
  mails : List Mail
  busy : List (Fin 4 × Fin 4)
  book : List (Fin 4 × Bool)
  debts : List (Fin 4 × Int)
  wishes : Int
noncomputable def brow (p : Fin 4 × Fin 4) : Str × Str := (nm p.1, wk p.2)
noncomputable def krow (p : Fin 4 × Bool) : Str × Str := (nm p.1, brk p.2)
noncomputable def mtxt (p : Mail) : Str := wire p.1 p.2.1 p.2.2
inductive DebtsAre : List (Str × Value) → List (Fin 4 × Int) → Prop
  | nil : DebtsAre [] []
  | cons {i : Fin 4} {n : Int} {t : Tok} {kvs : List (Str × Value)} {ds : List (Fin 4 × Int)} : DebtsAre kvs ds → DebtsAre ((nm i, .int n t) :: kvs) ((i, n) :: ds)
structure Ad where
  (aB dB lB aK dK lK lM dD : Addr)
structure Apart (c : Ad) : Prop where
  B : ∀ x ∈ [c.aB, c.dB, c.aK, c.dK, c.lK, c.lM, c.dD], x ≠ c.lB
  K : ∀ x ∈ [c.aB, c.dB, c.lB, c.aK, c.dK, c.lM, c.dD], x ≠ c.lK
  M : ∀ x ∈ [c.aB, c.dB, c.lB, c.aK, c.dK, c.lK, c.dD], x ≠ c.lM
  D : ∀ x ∈ [c.aB, c.dB, c.lB, c.aK, c.dK, c.lK, c.lM], x ≠ c.dD
structure St (prog : Program) (w : World) (led : List (Addr × Obj)) (c : Ad) (keep : List (Addr × Obj)) (s : PS) : Prop where
  bi : (c.aB, instObj 175 c.dB) ∈ led
  bd : ∃ hs t0 n0, (c.dB, dictOf [⟨hs, .str (Str.ofString "_headers") t0, .ref c.lB⟩] n0) ∈ led
  bl : ∃ refs n, (c.lB, listOf (refs : List Value).toArray n) ∈ led ∧ RowsIn led refs (s.busy.map brow)
  ki : (c.aK, instObj 175 c.dK) ∈ led
  kd : ∃ hs t0 n0, (c.dK, dictOf [⟨hs, .str (Str.ofString "_headers") t0, .ref c.lK⟩] n0) ∈ led
  kl : ∃ refs n, (c.lK, listOf (refs : List Value).toArray n) ∈ led ∧ RowsIn led refs (s.book.map krow)
  ml : ∃ vs n, (c.lM, listOf (vs : List Value).toArray n) ∈ led ∧ StrsAre vs (s.mails.map mtxt)
  dd : ∃ o kvs, (c.dD, o) ∈ led ∧ o.IsDictOf (strKind prog w) kvs ∧ DebtsAre kvs s.debts
  lo : (c.dD == sysModules) = false
  ne : Apart c
  kp : ∀ p ∈ keep, p ∈ led ∧ p.1 ≠ c.lB ∧ p.1 ≠ c.lK ∧ p.1 ≠ c.lM ∧ p.1 ≠ c.dD
def NoTup (a : Addr) (led : List (Addr × Obj)) : Prop := ∀ t its n, (t, tupObj its n) ∈ led → t ≠ a
theorem NoTup.of {g h : Heap} {L a : Addr} {led : List (Addr × Obj)} {o : Obj} (N : News g L h led) (hm : (a, o) ∈ led) (ho : o.cls ≠ .type "tuple") : NoTup a led := fun t its n ht e => by
  have h1 := (N _ ht).1
  have h2 := (N _ hm).1
  dsimp only at h1 h2
  rw [e, h2] at h1
  injection h1 with h1
  exact ho (by rw [h1])
theorem NoTup.cons {a t : Addr} {o ob : Obj} {led : List (Addr × Obj)} (h : NoTup a led) (hl : ∀ p ∈ led, @LT.lt Nat _ p.1 t) (hm : (a, o) ∈ led) : NoTup a ((t, ob) :: led) := fun t' its n ht e => by
  rcases List.mem_cons.mp ht with q | ht
  · injection q with q _
    have := hl _ hm
    rw [← e, q] at this
    exact Nat.lt_irrefl _ this
  · exact h _ _ _ ht e
theorem RowsIn.put {a : Addr} {o : Obj} {led : List (Addr × Obj)} {vs : List Value} {rows : List (Str × Str)} (h : RowsIn led vs rows) (hT : NoTup a led) : RowsIn (putA a o led) vs rows := by
  induction h with
  | nil => exact .nil
  | cons hm _ ih => exact .cons (putA_other hm (hT _ _ _ hm)) ih
section
variable {prog : Program} {w : World} {led : List (Addr × Obj)} {c : Ad} {keep : List (Addr × Obj)} {s : PS}
theorem St.sub {led' : List (Addr × Obj)} (S : St prog w led c keep s) (hs : ∀ p ∈ led, p ∈ led') : St prog w led' c keep s where
  bi := hs _ S.bi
  bd := let ⟨a, b, d, h⟩ := S.bd; ⟨a, b, d, hs _ h⟩
  bl := let ⟨a, b, h, r⟩ := S.bl; ⟨a, b, hs _ h, r.mono hs⟩
  ki := hs _ S.ki
  kd := let ⟨a, b, d, h⟩ := S.kd; ⟨a, b, d, hs _ h⟩
  kl := let ⟨a, b, h, r⟩ := S.kl; ⟨a, b, hs _ h, r.mono hs⟩
  ml := let ⟨a, b, h, r⟩ := S.ml; ⟨a, b, hs _ h, r⟩
  dd := let ⟨a, b, h, r⟩ := S.dd; ⟨a, b, hs _ h, r⟩
  lo := S.lo
  ne := S.ne
  kp := fun p hp => ⟨hs _ (S.kp p hp).1, (S.kp p hp).2⟩
theorem St.skip {e : Addr × Obj} (S : St prog w led c keep s) : St prog w (e :: led) c keep s := S.sub fun _ h => .tail _ h
theorem St.putB {refs : List Value} {n : Nat} {b : List (Fin 4 × Fin 4)} (S : St prog w led c keep s) (hT : NoTup c.lB led) (hr : RowsIn led refs (b.map brow)) : St prog w (putA c.lB (listOf refs.toArray n) led) c keep { s with busy := b } where
  bi := putA_other S.bi (S.ne.B _ (by simp))
  bd := let ⟨a, b, d, h⟩ := S.bd; ⟨a, b, d, putA_other h (S.ne.B _ (by simp))⟩
  bl := let ⟨_, _, h, _⟩ := S.bl; ⟨refs, n, putA_here h, hr.put hT⟩
  ki := putA_other S.ki (S.ne.B _ (by simp))
  kd := let ⟨a, b, d, h⟩ := S.kd; ⟨a, b, d, putA_other h (S.ne.B _ (by simp))⟩
  kl := let ⟨a, b, h, r⟩ := S.kl; ⟨a, b, putA_other h (S.ne.B _ (by simp)), r.put hT⟩
  ml := let ⟨a, b, h, r⟩ := S.ml; ⟨a, b, putA_other h (S.ne.B _ (by simp)), r⟩
  dd := let ⟨a, b, h, r⟩ := S.dd; ⟨a, b, putA_other h (S.ne.B _ (by simp)), r⟩
  lo := S.lo
  ne := S.ne
  kp := fun p hp => ⟨putA_other (S.kp p hp).1 (S.kp p hp).2.1, (S.kp p hp).2⟩
theorem St.putK {refs : List Value} {n : Nat} {b : List (Fin 4 × Bool)} (S : St prog w led c keep s) (hT : NoTup c.lK led) (hr : RowsIn led refs (b.map krow)) : St prog w (putA c.lK (listOf refs.toArray n) led) c keep { s with book := b } where
  bi := putA_other S.bi (S.ne.K _ (by simp))
  bd := let ⟨a, b, d, h⟩ := S.bd; ⟨a, b, d, putA_other h (S.ne.K _ (by simp))⟩
  bl := let ⟨a, b, h, r⟩ := S.bl; ⟨a, b, putA_other h (S.ne.K _ (by simp)), r.put hT⟩
  ki := putA_other S.ki (S.ne.K _ (by simp))
  kd := let ⟨a, b, d, h⟩ := S.kd; ⟨a, b, d, putA_other h (S.ne.K _ (by simp))⟩
  kl := let ⟨_, _, h, _⟩ := S.kl; ⟨refs, n, putA_here h, hr.put hT⟩
  ml := let ⟨a, b, h, r⟩ := S.ml; ⟨a, b, putA_other h (S.ne.K _ (by simp)), r⟩
  dd := let ⟨a, b, h, r⟩ := S.dd; ⟨a, b, putA_other h (S.ne.K _ (by simp)), r⟩
  lo := S.lo
  ne := S.ne
  kp := fun p hp => ⟨putA_other (S.kp p hp).1 (S.kp p hp).2.2.1, (S.kp p hp).2⟩
theorem St.putM {vs : List Value} {n : Nat} {b : List Mail} (S : St prog w led c keep s) (hT : NoTup c.lM led) (hr : StrsAre vs (b.map mtxt)) : St prog w (putA c.lM (listOf vs.toArray n) led) c keep { s with mails := b } where
  bi := putA_other S.bi (S.ne.M _ (by simp))
  bd := let ⟨a, b, d, h⟩ := S.bd; ⟨a, b, d, putA_other h (S.ne.M _ (by simp))⟩
  bl := let ⟨a, b, h, r⟩ := S.bl; ⟨a, b, putA_other h (S.ne.M _ (by simp)), r.put hT⟩
  ki := putA_other S.ki (S.ne.M _ (by simp))
  kd := let ⟨a, b, d, h⟩ := S.kd; ⟨a, b, d, putA_other h (S.ne.M _ (by simp))⟩
  kl := let ⟨a, b, h, r⟩ := S.kl; ⟨a, b, putA_other h (S.ne.M _ (by simp)), r.put hT⟩
  ml := let ⟨_, _, h, _⟩ := S.ml; ⟨vs, n, putA_here h, hr⟩
  dd := let ⟨a, b, h, r⟩ := S.dd; ⟨a, b, putA_other h (S.ne.M _ (by simp)), r⟩
  lo := S.lo
  ne := S.ne
  kp := fun p hp => ⟨putA_other (S.kp p hp).1 (S.kp p hp).2.2.2.1, (S.kp p hp).2⟩
theorem St.putD {o : Obj} {kvs : List (Str × Value)} {b : List (Fin 4 × Int)} {wi : Int} (S : St prog w led c keep s) (hT : NoTup c.dD led) (ho : o.IsDictOf (strKind prog w) kvs) (hr : DebtsAre kvs b) : St prog w (putA c.dD o led) c keep { s with debts := b, wishes := wi } where
  bi := putA_other S.bi (S.ne.D _ (by simp))
  bd := let ⟨a, b, d, h⟩ := S.bd; ⟨a, b, d, putA_other h (S.ne.D _ (by simp))⟩
  bl := let ⟨a, b, h, r⟩ := S.bl; ⟨a, b, putA_other h (S.ne.D _ (by simp)), r.put hT⟩
  ki := putA_other S.ki (S.ne.D _ (by simp))
  kd := let ⟨a, b, d, h⟩ := S.kd; ⟨a, b, d, putA_other h (S.ne.D _ (by simp))⟩
  kl := let ⟨a, b, h, r⟩ := S.kl; ⟨a, b, putA_other h (S.ne.D _ (by simp)), r.put hT⟩
  ml := let ⟨a, b, h, r⟩ := S.ml; ⟨a, b, putA_other h (S.ne.D _ (by simp)), r⟩
  dd := let ⟨_, _, h, _⟩ := S.dd; ⟨o, kvs, putA_here h, ho, hr⟩
  lo := S.lo
  ne := S.ne
  kp := fun p hp => ⟨putA_other (S.kp p hp).1 (S.kp p hp).2.2.2.2, (S.kp p hp).2⟩
theorem St.keepOne {e : Addr × Obj} (S : St prog w led c keep s) (h : e ∈ led) (h1 : e.1 ≠ c.lB ∧ e.1 ≠ c.lK ∧ e.1 ≠ c.lM ∧ e.1 ≠ c.dD) : St prog w led c (e :: keep) s :=
  ⟨S.bi, S.bd, S.bl, S.ki, S.kd, S.kl, S.ml, S.dd, S.lo, S.ne, fun p hp => (List.mem_cons.mp hp).elim (fun q => q ▸ ⟨h, h1⟩) (S.kp p)⟩
theorem St.unkeep {keep' : List (Addr × Obj)} (S : St prog w led c keep s) (hs : ∀ p ∈ keep', p ∈ keep) : St prog w led c keep' s :=
  ⟨S.bi, S.bd, S.bl, S.ki, S.kd, S.kl, S.ml, S.dd, S.lo, S.ne, fun p hp => S.kp p (hs p hp)⟩
theorem St.set_wishes {wi : Int} (S : St prog w led c keep s) : St prog w led c keep { s with wishes := wi } :=
  ⟨S.bi, S.bd, S.bl, S.ki, S.kd, S.kl, S.ml, S.dd, S.lo, S.ne, S.kp⟩
end
noncomputable def offA (a : Addr) (led : List (Addr × Obj)) : List (Addr × Obj) := led.filter fun p => p.1 != a
theorem offA_mem {a : Addr} {led : List (Addr × Obj)} {p : Addr × Obj} : p ∈ offA a led ↔ p ∈ led ∧ p.1 ≠ a := by
  unfold offA
  rw [List.mem_filter]
  simp
theorem RowsIn.off {a : Addr} {led : List (Addr × Obj)} {vs : List Value} {rows : List (Str × Str)} (h : RowsIn led vs rows) (hT : NoTup a led) : RowsIn (offA a led) vs rows := by
  induction h with
  | nil => exact .nil
  | cons hm _ ih => exact .cons (offA_mem.mpr ⟨hm, hT _ _ _ hm⟩) ih
theorem News.apart2 {g h : Heap} {L a b : Addr} {led : List (Addr × Obj)} {o ob : Obj} (N : News g L h led) (ha : (a, o) ∈ led) (hb : (b, ob) ∈ led) (hne : ob.cls ≠ o.cls) : b ≠ a := fun e => by
  have h1 := (N _ ha).1
  have h2 := (N _ hb).1
  dsimp only at h1 h2
  rw [e, h1] at h2
  injection h2 with h2
  exact hne (by rw [h2])
theorem St.off {prog : Program} {w : World} {g h : Heap} {L a : Addr} {led keep : List (Addr × Obj)} {c : Ad} {s : PS} {o : Obj} (S : St prog w led c keep s) (N : News g L h led) (ha : (a, o) ∈ led) (hc : o.cls = .type "list_iterator") (hk : a ≠ c.lB ∧ a ≠ c.lK ∧ a ≠ c.lM ∧ a ≠ c.dD) (hkp : ∀ p ∈ keep, p.1 ≠ a) : St prog w (offA a led) c keep s := by
  have hT : NoTup a led := NoTup.of N ha (by rw [hc]; decide)
  refine ⟨?_, ?_, ?_, ?_, ?_, ?_, ?_, ?_, S.lo, S.ne, fun p hp => ⟨offA_mem.mpr ⟨(S.kp p hp).1, hkp p hp⟩, (S.kp p hp).2⟩⟩
  · exact offA_mem.mpr ⟨S.bi, News.apart2 N ha S.bi (by rw [hc]; first | decide | (intro e; cases e; done) | (intro e; injection e with e; exact absurd e (by decide)))⟩
  · obtain ⟨a, b, d, h⟩ := S.bd
    exact ⟨a, b, d, offA_mem.mpr ⟨h, News.apart2 N ha h (by rw [hc]; first | decide | (intro e; cases e; done) | (intro e; injection e with e; exact absurd e (by decide)))⟩⟩
  · obtain ⟨a, b, h, r⟩ := S.bl
    exact ⟨a, b, offA_mem.mpr ⟨h, Ne.symm hk.1⟩, r.off hT⟩
  · exact offA_mem.mpr ⟨S.ki, News.apart2 N ha S.ki (by rw [hc]; first | decide | (intro e; cases e; done) | (intro e; injection e with e; exact absurd e (by decide)))⟩
  · obtain ⟨a, b, d, h⟩ := S.kd
    exact ⟨a, b, d, offA_mem.mpr ⟨h, News.apart2 N ha h (by rw [hc]; first | decide | (intro e; cases e; done) | (intro e; injection e with e; exact absurd e (by decide)))⟩⟩
  · obtain ⟨a, b, h, r⟩ := S.kl
    exact ⟨a, b, offA_mem.mpr ⟨h, Ne.symm hk.2.1⟩, r.off hT⟩
  · obtain ⟨a, b, h, r⟩ := S.ml
    exact ⟨a, b, offA_mem.mpr ⟨h, Ne.symm hk.2.2.1⟩, r⟩
  · obtain ⟨a, b, h, r⟩ := S.dd
    exact ⟨a, b, offA_mem.mpr ⟨h, Ne.symm hk.2.2.2⟩, r⟩
theorem look_none {b : List (Fin 4 × Fin 4)} {g : Fin 4} (h : b.lookup g = none) : lookupRow (b.map brow) (nm g) = none := by
  induction b with
  | nil => rfl
  | cons p r ih =>
    obtain ⟨i, x⟩ := p
    rw [List.lookup_cons] at h
    show (if nm i = nm g then some (wk x) else lookupRow (r.map brow) (nm g)) = none
    by_cases e : g = i
    · subst e; simp at h
    · rw [if_neg fun q => e (nm_inj _ _ q).symm]
      have : (g == i) = false := by simpa using e
      rw [this] at h
      exact ih h
theorem look_some {b : List (Fin 4 × Fin 4)} {g x : Fin 4} (h : b.lookup g = some x) : lookupRow (b.map brow) (nm g) = some (wk x) := by
  induction b with
  | nil => cases h
  | cons p r ih =>
    obtain ⟨i, y⟩ := p
    rw [List.lookup_cons] at h
    show (if nm i = nm g then some (wk y) else lookupRow (r.map brow) (nm g)) = some (wk x)
    by_cases e : g = i
    · subst e
      simp at h
      rw [if_pos rfl, h]
    · rw [if_neg fun q => e (nm_inj _ _ q).symm]
      have : (g == i) = false := by simpa using e
      rw [this] at h
      exact ih h
theorem brow_low {b : List (Fin 4 × Fin 4)} : ∀ r ∈ b.map brow, Low r.1 r.1 := fun r hr => by
  obtain ⟨p, _, rfl⟩ := List.mem_map.mp hr
  exact low_nm _
theorem krow_low {b : List (Fin 4 × Bool)} : ∀ r ∈ b.map krow, Low r.1 r.1 := fun r hr => by
  obtain ⟨p, _, rfl⟩ := List.mem_map.mp hr
  exact low_nm _
theorem fits {n : Nat} (h : n ≤ 1000) : n ≤ sizeLine := by rw [sizeLine_eq]; omega
theorem rows_len {led : List (Addr × Obj)} {refs : List Value} {b : List (Fin 4 × Fin 4)} (h : RowsIn led refs (b.map brow)) : refs.length = b.length := by rw [h.length, List.length_map]
theorem krows_len {led : List (Addr × Obj)} {refs : List Value} {b : List (Fin 4 × Bool)} (h : RowsIn led refs (b.map krow)) : refs.length = b.length := by rw [h.length, List.length_map]
theorem list_no_tup {a : Array Value} {n : Nat} : (listOf a n).cls ≠ .type "tuple" := by show Value.type "list" ≠ _; decide
noncomputable def delB (b : List (Fin 4 × Fin 4)) (g : Fin 4) : List (Fin 4 × Fin 4) := b.filter fun p => !(p.1 == g)
theorem without_brow (b : List (Fin 4 × Fin 4)) (g : Fin 4) : without (b.map brow) (nm g) = (delB b g).map brow := by
  unfold without delB
  induction b with
  | nil => rfl
  | cons p r ih =>
    rw [List.map_cons, List.filter_cons, List.filter_cons, ih]
    have : (brow p).1 == nm g ↔ p.1 == g := by
      rw [beq_iff_eq, beq_iff_eq]
      exact ⟨fun e => nm_inj _ _ e, fun e => by rw [← e]; rfl⟩
    by_cases e : p.1 == g
    · rw [this.mpr e, e]; rfl
    · have e' : ¬ ((brow p).1 == nm g) = true := fun q => e (this.mp q)
      simp only [Bool.not_eq_true] at e e'
      rw [e, e']; rfl
theorem del_K {M : Model} {A : Around} {E : Value → Shared → Prop} {s : Shared} {K : Frag} {x C L f : Addr} {h₀ : Heap} {m : Str → Option Value} {ox : Obj} {od : Option Obj} {v : Value} {Q : Unit → Shared → Prop} (F : Fr h₀ L s.heap m) (X₀ : K.In h₀) (I : InstAt s.heap x ox C od) (hq : noSeq K C = true)
    (hs : findIn K (.ref C) "__delitem__" = some (some (.ref f))) (hf : isFn K (.ref f) = true)
    (h : wpAny M A (call (.ref f) [.ref x, v]) (fun _ s' => Q () s') E s) : wpAny M A (delItem (.ref x) v) Q E s := by
  have X := X₀.keeps F.keep
  unfold delItem sequenceKey
  refine wpAny_holding (wpAny_bind (wpAny_bind (I.type.here ?_)))
  refine wpAny_bind ((anyM_none X hq).here ?_)
  rw [if_pos (show (!false) = true from rfl)]
  exact wpAny_pure (wpAny_bind (special_fn X I hs (beq_iff_eq.mp hf) (wpAny_mono h (fun _ _ z => wpAny_pure z) fun _ _ z => z)))
section
variable {prog : Program} {w : World} {dp un : Nat} {fr : Option (List Env)} {gd : Option (List Code)} {s : Shared} {h₀ : Heap} {L : Addr} {m mg mb : Str → Option Value} {led keep : List (Addr × Obj)} {p : Program} {loose : List Str} {mean : ExcName → Option Value}
    {Q E : Value → Shared → Prop} {c : Ad} {ps : PS} {g x : Fin 4} {v : Str} {tk tkx : Tok}
theorem bget_none (F : Fr h₀ L s.heap m) (X₀ : (hd.heap_39 w.params).In h₀) (N : News h₀ L s.heap led) (T : Top p loose mean mg mb h₀) (hroom : dp < 800) (S : St prog w led c keep ps)
    (hlow : Low v (nm g)) (hlk : ps.busy.lookup g = none) (hQ : ∀ h' tk', Fr h₀ L h' m → News h₀ L h' led → Q .none { s with heap := h', toks := tk' }) :
    wpAny (model prog w) (AR dp fr gd un) (call (.ref 122) [.ref c.aB, .str v tk] []) Q E s := by
  obtain ⟨_, _, _, hd1⟩ := S.bd
  obtain ⟨_, _, hl, hr⟩ := S.bl
  exact get_none F X₀ N T hroom S.bi hd1 hl hr brow_low hlow (nm_ok _) (look_none hlk) hQ
theorem bget_some (F : Fr h₀ L s.heap m) (X₀ : (hd.heap_39 w.params).In h₀) (N : News h₀ L s.heap led) (T : Top p loose mean mg mb h₀) (hroom : dp < 800) (S : St prog w led c keep ps)
    (hlow : Low v (nm g)) (hlk : ps.busy.lookup g = some x) (hQ : ∀ h' tk' t, Fr h₀ L h' m → News h₀ L h' led → Q (.str (wk x) t) { s with heap := h', toks := tk' }) :
    wpAny (model prog w) (AR dp fr gd un) (call (.ref 122) [.ref c.aB, .str v tk] []) Q E s := by
  obtain ⟨_, _, _, hd1⟩ := S.bd
  obtain ⟨_, _, hl, hr⟩ := S.bl
  exact get_some F X₀ N T hroom S.bi hd1 hl hr brow_low hlow (nm_ok _) (look_some hlk) hQ
theorem bsd_some {y : Str} (F : Fr h₀ L s.heap m) (X₀ : (hd.heap_39 w.params).In h₀) (N : News h₀ L s.heap led) (T : Top p loose mean mg mb h₀) (hroom : dp < 700) (S : St prog w led c keep ps)
    (hlow : Low v (nm g)) (hlk : ps.busy.lookup g = some x) (hQ : ∀ h' tk' t, Fr h₀ L h' m → News h₀ L h' led → Q (.str (wk x) t) { s with heap := h', toks := tk' }) :
    wpAny (model prog w) (AR dp fr gd un) (call (.ref 165) [.ref c.aB, .str v tk, .str y tkx] []) Q E s := by
  obtain ⟨_, _, _, hd1⟩ := S.bd
  obtain ⟨_, _, hl, hr⟩ := S.bl
  exact setdef_some F X₀ N T hroom S.bi hd1 hl hr brow_low hlow (nm_ok _) (look_some hlk) hQ
theorem bsd_none (F : Fr h₀ L s.heap m) (X₀ : (hd.heap_39 w.params).In h₀) (N : News h₀ L s.heap led) (T : Top p loose mean mg mb h₀) (hroom : dp < 700) (S : St prog w led c keep ps)
    (hlk : ps.busy.lookup g = none) (hsz : ps.busy.length ≤ 100)
    (hQ : ∀ h' tk' t led', Fr h₀ L h' m → News h₀ L h' led' → St prog w led' c keep { ps with busy := ps.busy ++ [(g, x)] } → Q (.str (wk x) t) { s with heap := h', toks := tk' }) :
    wpAny (model prog w) (AR dp fr gd un) (call (.ref 165) [.ref c.aB, .str (nm g) tk, .str (wk x) tkx] []) Q E s := by
  obtain ⟨_, _, _, hd1⟩ := S.bd
  obtain ⟨refs, n, hl, hr⟩ := S.bl
  have hlen := rows_len hr
  refine setdef_none F X₀ N T hroom S.bi hd1 hl hr brow_low (low_nm g) (nm_ok _) (nm_ok _) (wk_ok _) (look_none hlk) (by rw [List.size_toArray]; exact fits (by omega)) fun h' tk' t hlt F' N' => ?_
  refine hQ h' tk' _ _ F' N' ?_
  refine St.putB S.skip (NoTup.cons (NoTup.of N hl list_no_tup) hlt hl) ?_
  rw [List.map_append]
  exact hr.skip.snoc (.head _)
theorem bkeys (F : Fr h₀ L s.heap m) (X₀ : (hd.heap_39 w.params).In h₀) (N : News h₀ L s.heap led) (T : Top p loose mean mg mb h₀) (hroom : dp < 700) (S : St prog w led c keep ps) (hsz : ps.busy.length ≤ 100)
    (hQ : ∀ h' tk' D ys, (∀ p ∈ led, p.1 < D) → Fr h₀ L h' m → News h₀ L h' ((D, LCg.lst ys) :: led) → StrsAre ys (ps.busy.map fun p => nm p.1) → Q (.ref D) { s with heap := h', toks := tk' }) :
    wpAny (model prog w) (AR dp fr gd un) (call (.ref 127) [.ref c.aB] []) Q E s := by
  obtain ⟨_, _, _, hd1⟩ := S.bd
  obtain ⟨refs, n, hl, hr⟩ := S.bl
  have hlen := rows_len hr
  refine keys F X₀ N T hroom S.bi hd1 hl hr (fits (by omega)) PredIs.mk FnIs.mk (fun _ _ => trivial) fun h' tk' D ys hlt F' N' hy => hQ h' tk' D ys hlt F' N' ?_
  rw [List.map_map] at hy
  exact hy
theorem bitems (F : Fr h₀ L s.heap m) (X₀ : (hd.heap_39 w.params).In h₀) (N : News h₀ L s.heap led) (T : Top p loose mean mg mb h₀) (hroom : dp < 700) (S : St prog w led c keep ps) (hsz : ps.busy.length ≤ 100)
    (hQ : ∀ h' tk' D k refs, (∀ p ∈ led, p.1 < D) → Fr h₀ L h' m → News h₀ L h' ((D, listOf refs.toArray k) :: led) → RowsIn led refs (ps.busy.map brow) → refs.length ≤ sizeLine → Q (.ref D) { s with heap := h', toks := tk' }) :
    wpAny (model prog w) (AR dp fr gd un) (call (.ref 139) [.ref c.aB] []) Q E s := by
  obtain ⟨_, _, _, hd1⟩ := S.bd
  obtain ⟨refs, n, hl, hr⟩ := S.bl
  have hlen := rows_len hr
  exact items F X₀ N T hroom S.bi hd1 hl (fits (by omega)) fun h' tk' D k hlt F' N' => hQ h' tk' D k _ hlt F' N' hr (fits (by omega))
theorem blen {A : Around} (hA : A.in1 = AR dp fr gd un) (F : Fr h₀ L s.heap m) (X₀ : (hd.heap_39 w.params).In h₀) (N : News h₀ L s.heap led) (T : Top p loose mean mg mb h₀) (hroom : dp < 700) (S : St prog w led c keep ps) (hsz : ps.busy.length ≤ 100)
    (hQ : ∀ h' tk' t, Fr h₀ L h' m → News h₀ L h' led → Q (.int ps.busy.length t) { s with heap := h', toks := tk' }) :
    wpAny (model prog w) A (call (.builtin "len") [.ref c.aB]) Q E s := by
  obtain ⟨_, _, _, hd1⟩ := S.bd
  obtain ⟨refs, n, hl, hr⟩ := S.bl
  have hlen := rows_len hr
  refine' PySem.W.len_K (f := 83) F X₀ (InstAt.of_news N S.bi hd1) ?ks ?kf ?_
  case ks => k_is
  case kf => k_is
  rw [hA]
  refine len_ F X₀ N T hroom S.bi hd1 hl (fits (by omega)) fun h' tk' t F' N' => ?_
  rw [hlen]
  exact ⟨⟨by omega, by omega⟩, hQ h' _ _ F' N'⟩
theorem bdel {Q : Unit → Shared → Prop} (F : Fr h₀ L s.heap m) (X₀ : (hd.heap_39 w.params).In h₀) (N : News h₀ L s.heap led) (T : Top p loose mean mg mb h₀) (hroom : dp < 700) (S : St prog w led c keep ps)
    (hlow : Low v (nm g)) (hsz : ps.busy.length ≤ 100)
    (hQ : ∀ h' tk' led', Fr h₀ L h' m → News h₀ L h' led' → St prog w led' c keep { ps with busy := delB ps.busy g } → Q () { s with heap := h', toks := tk' }) :
    wpAny (model prog w) (AR dp fr gd un) (delItem (.ref c.aB) (.str v tk)) Q E s := by
  obtain ⟨_, _, _, hd1⟩ := S.bd
  obtain ⟨refs, n, hl, hr⟩ := S.bl
  have hlen := rows_len hr
  refine' del_K (f := 95) F X₀ (InstAt.of_news N S.bi hd1) ?kq ?ks ?kf ?_
  case kq => k_is
  case ks => k_is
  case kf => k_is
  refine wpAny_mono (delitem F X₀ N T hroom S.bi hd1 hl hr brow_low (fits (by omega)) (fits (by omega)) PredIs.mk FnIs.mk hlow (nm_ok _) (Q := fun _ s' => Q () s') fun h' tk' k ys F' N' hys => ?_) (fun _ _ z => z) fun _ _ z => z
  refine hQ h' tk' _ F' N' (St.putB S (NoTup.of N hl list_no_tup) ?_)
  rw [← without_brow]
  exact hys
theorem kadd {x : Str} (b : Bool) (hb : x = brk b) (F : Fr h₀ L s.heap m) (X₀ : (hd.heap_39 w.params).In h₀) (N : News h₀ L s.heap led) (T : Top p loose mean mg mb h₀) (hroom : dp < 700) (S : St prog w led c keep ps) (hv : v = nm g) (hsz : ps.book.length ≤ 100)
    (hQ : ∀ h' tk' led', Fr h₀ L h' m → News h₀ L h' led' → St prog w led' c keep { ps with book := ps.book ++ [(g, b)] } → Q .none { s with heap := h', toks := tk' }) :
    wpAny (model prog w) (AR dp fr gd un) (call (.ref 172) [.ref c.aK, .str v tk, .str x tkx] []) Q E s := by
  subst hb hv
  obtain ⟨_, _, _, hd1⟩ := S.kd
  obtain ⟨refs, n, hl, hr⟩ := S.kl
  have hlen := krows_len hr
  refine addh F X₀ N T hroom S.ki hd1 hl (nm_ok _) (brk_ok _) (by rw [List.size_toArray]; exact fits (by omega)) fun h' tk' t tkx' hlt F' N' => ?_
  refine hQ h' tk' _ F' N' ?_
  refine St.putK S.skip (NoTup.cons (NoTup.of N hl list_no_tup) hlt hl) ?_
  rw [List.map_append]
  exact hr.skip.snoc (.head _)
theorem mapp {A : Around} {a b : Fin 4} {k : Bool} {t : Tok} (F : Fr h₀ L s.heap m) (N : News h₀ L s.heap led) (S : St prog w led c keep ps) (hsz : ps.mails.length ≤ 100)
    (hQ : ∀ h' led', Fr h₀ L h' m → News h₀ L h' led' → St prog w led' c keep { ps with mails := ps.mails ++ [(a, b, k)] } → Q .none { s with heap := h' }) :
    wpAny (model prog w) A (call (.builtin "list.append") [.ref c.lM, .str (wire a b k) t]) Q E s := by
  obtain ⟨vs, n, hl, hr⟩ := S.ml
  have hlen := hr.len_eq
  rw [List.length_map] at hlen
  refine append_W F N hl (by rw [List.size_toArray]; exact fits (by omega)) fun h' F' N' => ?_
  rw [List.push_toArray] at N'
  refine hQ h' _ F' N' (St.putM S (NoTup.of N hl list_no_tup) ?_)
  rw [List.map_append]
  exact hr.append' (.cons _ _ .nil)
theorem mmeth {A : Around} {name : Str} {id : String} {pl : Sem Bool} {Q : Value × List Value → Shared → Prop} (slot : Slot "list" name id) (hty : typeOf (.builtin id) = pure (.type "method_descriptor")) (N : News h₀ L s.heap led) (S : St prog w led c keep ps) (h : Q (.builtin id, [.ref c.lM]) s) :
    wpAny (model prog w) A (getMethod (.ref c.lM) name pl) Q E s := by
  obtain ⟨vs, n, hl, hr⟩ := S.ml
  exact kl_method N hl slot hty h
theorem mlen {A : Around} (N : News h₀ L s.heap led) (S : St prog w led c keep ps) (hsz : ps.mails.length ≤ 100)
    (h : ∀ k t, Q (.int ps.mails.length t) { s with toks := k }) : wpAny (model prog w) A (call (.builtin "len") [.ref c.lM]) Q E s := by
  obtain ⟨vs, n, hl, hr⟩ := S.ml
  have hlen := hr.len_eq
  rw [List.length_map] at hlen
  refine len_list N hl (fits (by omega)) fun k => ?_
  rw [hlen]
  exact h k _
end
theorem strs_split {vs : List Value} : ∀ {pre post : List Str} {y : Str}, StrsAre vs (pre ++ y :: post) → ∃ a t b, vs = a ++ .str y t :: b ∧ a.length = pre.length ∧ StrsAre (a ++ b) (pre ++ post) := by
  intro pre
  induction pre generalizing vs with
  | nil =>
    intro post y h
    obtain ⟨t, vs', rfl, h'⟩ := h.cons_inv
    exact ⟨[], t, vs', rfl, rfl, h'⟩
  | cons x r ih =>
    intro post y h
    obtain ⟨t, vs', rfl, h'⟩ := h.cons_inv
    obtain ⟨a, t', b, rfl, hl, hs⟩ := ih h'
    exact ⟨.str x t :: a, t', b, rfl, by simp [hl], .cons _ _ hs⟩
theorem cut_at : ∀ (p : List Value) (y : Value) (q : List Value), kl_cut (p ++ y :: q) p.length = some (p, y, q) := by
  intro p y q
  induction p with
  | nil => rfl
  | cons x r ih =>
    show kl_cut (x :: (r ++ y :: q)) (r.length + 1) = _
    unfold kl_cut
    rw [ih]
noncomputable def putd (ds : List (Fin 4 × Int)) (g : Fin 4) (n : Int) : List (Fin 4 × Int) := if ds.any (fun p => p.1 == g) then ds.map (fun p => if p.1 = g then (p.1, n) else p) else ds ++ [(g, n)]
noncomputable def deld (ds : List (Fin 4 × Int)) (g : Fin 4) : List (Fin 4 × Int) := ds.filter fun p => !(p.1 == g)
theorem debt_at {g : Fin 4} : ∀ {kvs : List (Str × Value)} {ds : List (Fin 4 × Int)}, DebtsAre kvs ds → ∃ t, PySem.valueAt kvs (nm g) = (ds.lookup g).map fun n => Value.int n t
  | _, _, .nil => ⟨0, rfl⟩
  | _, _, .cons (i := i) (n := n) (t := t) (kvs := kvs) (ds := ds) h => by
    obtain ⟨t', ih⟩ := debt_at (g := g) h
    rw [List.lookup_cons]
    unfold PySem.valueAt at ih ⊢
    by_cases e : g = i
    · subst e
      refine ⟨t, ?_⟩
      simp
    · have : (g == i) = false := by simpa using e
      have h2 : ¬ nm i = nm g := fun q => e (nm_inj _ _ q).symm
      refine ⟨t', ?_⟩
      have h3 : decide (nm i = nm g) = false := decide_eq_false h2
      rw [this, List.find?_cons]
      have h4 : (decide ((nm i, Value.int n t).fst = nm g)) = false := h3
      simp only [h4]
      exact ih
theorem debt_any {g : Fin 4} : ∀ {kvs : List (Str × Value)} {ds : List (Fin 4 × Int)}, DebtsAre kvs ds → kvs.any (fun kv => kv.1 = nm g) = ds.any (fun p => p.1 == g)
  | _, _, .nil => rfl
  | _, _, .cons (i := i) h => by
    rw [List.any_cons, List.any_cons, debt_any h]
    congr 1
    by_cases e : i = g
    · subst e; simp
    · have h2 : ¬ nm i = nm g := fun q => e (nm_inj _ _ q)
      simp [e, h2]
theorem debt_map {g : Fin 4} {n : Int} {t : Tok} : ∀ {kvs : List (Str × Value)} {ds : List (Fin 4 × Int)}, DebtsAre kvs ds → DebtsAre (kvs.map fun kv => if kv.1 = nm g then (kv.1, .int n t) else kv) (ds.map fun p => if p.1 = g then (p.1, n) else p)
  | _, _, .nil => .nil
  | _, _, .cons (i := i) h => by
    rw [List.map_cons, List.map_cons]
    by_cases e : i = g
    · subst e
      rw [if_pos rfl, if_pos rfl]
      exact .cons (debt_map h)
    · rw [if_neg e, if_neg fun q => e (nm_inj _ _ q)]
      exact .cons (debt_map h)
theorem debt_snoc {g : Fin 4} {n : Int} {t : Tok} : ∀ {kvs : List (Str × Value)} {ds : List (Fin 4 × Int)}, DebtsAre kvs ds → DebtsAre (kvs ++ [(nm g, .int n t)]) (ds ++ [(g, n)])
  | _, _, .nil => .cons .nil
  | _, _, .cons h => .cons (debt_snoc h)
theorem debt_put {g : Fin 4} {n : Int} {t : Tok} {kvs : List (Str × Value)} {ds : List (Fin 4 × Int)} (h : DebtsAre kvs ds) : DebtsAre (PySem.stored kvs (nm g) (.int n t)) (putd ds g n) := by
  unfold PySem.stored putd
  rw [debt_any h]
  split
  · exact debt_map h
  · exact debt_snoc h
theorem debt_del {g : Fin 4} : ∀ {kvs : List (Str × Value)} {ds : List (Fin 4 × Int)}, DebtsAre kvs ds → DebtsAre (PySem.without kvs (nm g)) (deld ds g)
  | _, _, .nil => .nil
  | _, _, .cons (i := i) h => by
    unfold PySem.without deld
    rw [List.filter_cons, List.filter_cons]
    have ih := debt_del (g := g) h
    unfold PySem.without deld at ih
    by_cases e : i = g
    · subst e
      simpa using ih
    · have h2 : ¬ nm i = nm g := fun q => e (nm_inj _ _ q)
      simp only [e, h2, ne_eq, not_false_eq_true, decide_true, if_true, beq_iff_eq, Bool.not_eq_eq_eq_not, Bool.not_true, beq_eq_false_iff_ne]
      exact .cons ih
theorem debt_len : ∀ {kvs : List (Str × Value)} {ds : List (Fin 4 × Int)}, DebtsAre kvs ds → kvs.length = ds.length
  | _, _, .nil => rfl
  | _, _, .cons h => by rw [List.length_cons, List.length_cons, debt_len h]
noncomputable def bal : List Bool → Int
  | [] => 0
  | b :: r => (if b then 1 else -1) + bal r
noncomputable def bk (book : List (Fin 4 × Bool)) (g : Fin 4) : List Bool := (book.filter fun p => p.1 == g).map (·.2)
def Pos (bs : List Bool) : Prop := ∀ i, 0 ≤ bal (bs.take i)
noncomputable def cod : Bool → Nat
  | true => 40
  | false => 41
theorem brk_cod (b : Bool) : (brk b).cps = #[cod b] := by
  cases b
  · show (Str.ofString ")").cps = _; rw [cls]; rfl
  · show (Str.ofString "(").cps = _; rw [opn]; rfl
theorem vals_bk (book : List (Fin 4 × Bool)) (g : Fin 4) : valsOf (book.map krow) (nm g) = (bk book g).map brk := by
  unfold valsOf bk
  induction book with
  | nil => rfl
  | cons p r ih =>
    rw [List.map_cons, List.filter_cons, List.filter_cons]
    have : (krow p).1 == nm g ↔ p.1 == g := by
      rw [beq_iff_eq, beq_iff_eq]
      exact ⟨fun e => nm_inj _ _ e, fun e => by rw [← e]; rfl⟩
    by_cases e : p.1 == g
    · rw [this.mpr e, e, if_pos rfl, if_pos rfl, List.map_cons, List.map_cons, List.map_cons, ih]
      rfl
    · have e' : ¬ ((krow p).1 == nm g) = true := fun q => e (this.mp q)
      rw [if_neg e, if_neg e', ih]
theorem fold_brk : ∀ (bs : List Bool) (acc : Array Nat), (bs.map brk).foldl (fun acc p => acc ++ (Str.ofString "").cps ++ p.cps) acc = acc ++ (bs.map cod).toArray
  | [], acc => by simp
  | b :: r, acc => by
    have h0 : (Str.ofString "").cps = #[] := by decide +kernel
    rw [List.map_cons, List.foldl_cons, fold_brk r, brk_cod, h0]
    simp
theorem join_brk (bs : List Bool) : Txt.join (Str.ofString "") (bs.map brk) = ⟨(bs.map cod).toArray⟩ := by
  show (⟨((bs.map brk).drop 1).foldl (fun acc p => acc ++ (Str.ofString "").cps ++ p.cps) ((bs.map brk).headD Str.empty).cps⟩ : Str) = _
  cases bs with
  | nil => rfl
  | cons b r =>
    show (⟨(r.map brk).foldl (fun acc p => acc ++ (Str.ofString "").cps ++ p.cps) (brk b).cps⟩ : Str) = _
    rw [fold_brk, brk_cod]
    simp
theorem lev_cod : ∀ bs : List Bool, lev (bs.map cod) = bal bs
  | [] => rfl
  | true :: r => by show (if 40 = 40 then 1 else -1) + lev (r.map cod) = 1 + bal r; rw [lev_cod r]; rfl
  | false :: r => by show (if 41 = 40 then 1 else -1) + lev (r.map cod) = -1 + bal r; rw [lev_cod r]; rfl
theorem level_cod (bs : List Bool) (i : Nat) : level ⟨(bs.map cod).toArray⟩ i = bal (bs.take i) := by
  unfold level
  show lev (((bs.map cod).toArray.toList).take i) = _
  rw [← List.map_take, lev_cod]
theorem level_all (bs : List Bool) : level ⟨(bs.map cod).toArray⟩ (⟨(bs.map cod).toArray⟩ : Str).cps.size = bal bs := by
  rw [level_cod]
  show bal (bs.take (bs.map cod).toArray.size) = _
  rw [List.size_toArray, List.length_map, List.take_length]
theorem par_cod (bs : List Bool) : Par ⟨(bs.map cod).toArray⟩ := by
  intro c hc
  have : c ∈ bs.map cod := by simpa using hc
  obtain ⟨b, _, rfl⟩ := List.mem_map.mp this
  cases b
  · exact .inr rfl
  · exact .inl rfl
theorem sum_brk : ∀ bs : List Bool, ((bs.map brk).map (·.length)).sum = bs.length
  | [] => rfl
  | b :: r => by
    have : (brk b).length = 1 := by show (brk b).cps.size = 1; rw [brk_cod]; rfl
    rw [List.map_cons, List.map_cons, List.sum_cons, sum_brk r, this, List.length_cons]
    omega
theorem bk_len (book : List (Fin 4 × Bool)) (g : Fin 4) : (bk book g).length ≤ book.length := by
  unfold bk
  rw [List.length_map]
  exact List.length_filter_le _ _
section
variable {prog : Program} {w : World} {dp un : Nat} {fr : Option (List Env)} {gd : Option (List Code)} {s : Shared} {h₀ : Heap} {L : Addr} {m mg mb : Str → Option Value} {led keep : List (Addr × Obj)} {p : Program} {loose : List Str} {mean : ExcName → Option Value}
    {Q E : Value → Shared → Prop} {c : Ad} {ps : PS} {g x : Fin 4} {v : Str} {tk tkx : Tok}
theorem ktaken (F : Fr h₀ L s.heap m) (X₀ : (hd.heap_39 w.params).In h₀) (N : News h₀ L s.heap led) (T : Top p loose mean mg mb h₀) (hroom : dp < 680) (S : St prog w led c keep ps) (hv : v = nm g) (hsz : ps.book.length ≤ 100) (hpos : Pos (bk ps.book g))
    (hQ : ∀ h' tk' gs, Fr h₀ L h' m → News h₀ L h' led → GensOk s.gens gs → Q (.bool (bal (bk ps.book g) == 0)) { s with heap := h', gens := gs, toks := tk' }) :
    wpAny (model prog w) (AR dp fr gd un) (call (.ref 238) [.ref c.aK, .str v tk] []) Q E s := by
  subst hv
  obtain ⟨_, _, _, hd1⟩ := S.kd
  obtain ⟨refs, n, hl, hr⟩ := S.kl
  have hlen := krows_len hr
  have hb := bk_len ps.book g
  have hv : Txt.join (Str.ofString "") (valsOf (ps.book.map krow) (nm g)) = ⟨((bk ps.book g).map cod).toArray⟩ := by rw [vals_bk, join_brk]
  have hls : (⟨((bk ps.book g).map cod).toArray⟩ : Str).length = (bk ps.book g).length := by
    show (((bk ps.book g).map cod).toArray).size = _
    rw [List.size_toArray, List.length_map]
  refine taken F X₀ N T hroom S.ki hd1 hl hr krow_low (fits (by omega)) ?_ ?_ ?_ ?_ fun h' tk' gs F' N' hg => ?_
  · rw [vals_bk, sum_brk, List.length_map]; omega
  · rw [hv]; exact par_cod _
  · rw [hv, hls]; omega
  · rw [hv]; intro j _; rw [level_cod]; exact hpos j
  · rw [hv, level_all]
    exact hQ h' tk' gs F' N' hg
theorem mpop {A : Around} {i : Int} {u : Tok} {pre post : List Mail} {q : Mail} (F : Fr h₀ L s.heap m) (N : News h₀ L s.heap led) (S : St prog w led c keep ps) (hsz : ps.mails.length ≤ 100) (hm : ps.mails = pre ++ q :: post) (hi : i = (pre.length : Int))
    (hQ : ∀ h' t led', Fr h₀ L h' m → News h₀ L h' led' → St prog w led' c keep { ps with mails := pre ++ post } → Q (.str (mtxt q) t) { s with heap := h' }) :
    wpAny (model prog w) A (call (.builtin "list.pop") [.ref c.lM, .int i u]) Q E s := by
  obtain ⟨vs, n, hl, hr⟩ := S.ml
  have hlen := hr.len_eq
  rw [List.length_map] at hlen
  rw [hm, List.map_append, List.map_cons] at hr
  obtain ⟨a, t, b, rfl, ha, hr'⟩ := strs_split hr
  rw [List.length_map] at ha
  have z := N _ hl
  have hz' : (a ++ Value.str (mtxt q) t :: b).toArray.size ≤ sizeLine := by rw [List.size_toArray]; exact fits (by omega)
  have hy : (a ++ Value.str (mtxt q) t :: b).toArray[a.length]? = some (.str (mtxt q) t) := by simp
  have hk : seqIndex? i (a ++ Value.str (mtxt q) t :: b).toArray.size = some a.length := by
    subst hi
    unfold seqIndex?
    have h1 : ¬ ((pre.length : Int) < 0) := by omega
    have h2 : pre.length < (a ++ Value.str (mtxt q) t :: b).length := by rw [List.length_append, List.length_cons]; omega
    simp only [h1, if_false, ha, List.size_toArray]
    rw [if_pos (by simp only [Bool.and_eq_true, decide_eq_true_eq]; omega)]
    simp
  have hf : Builtin.List.listFitsIndex i = true := by
    subst hi
    have : pre.length ≤ ps.mails.length := by rw [hm]; simp
    unfold Builtin.List.listFitsIndex
    simp only [Bool.and_eq_true, decide_eq_true_eq]
    omega
  refine call_meets PySem.F.slot_list_pop ⟨_, z.1, rfl⟩ PySem.F.entry_list_pop (PySem.F.args_list_pop_2 _ _) (PySem.MeetsSeq.list_pop_at c.lM _ n i u _ _ hf hk hy hz')
    ⟨z.1, hQ _ t _ (Fr.putF F N hl (Heap.SameBut.update ..)) (News.put (o := listOf (a ++ b).toArray (n + 1)) N hl (Heap.SameBut.update ..) ?_) (St.putM S (NoTup.of N hl list_no_tup) (by rw [List.map_append]; exact hr'))⟩
  have qq := PySem.IsL.update z.1 (fun xs => xs.eraseIdxIfInBounds a.length)
  rw [kl_erase, if_neg (by rw [List.size_toArray, List.size_toArray, List.length_append, List.length_append, List.length_cons]; simp)] at qq
  exact qq
theorem dmeth {A : Around} {pl : Sem Bool} {Q : Value × List Value → Shared → Prop} (N : News h₀ L s.heap led) (S : St prog w led c keep ps) (h : Q (.builtin "dict.get", [.ref c.dD]) s) : wpAny (model prog w) A (getMethod (.ref c.dD) "get" pl) Q E s := by
  obtain ⟨o, kvs, hm, ho, hd⟩ := S.dd
  exact kdg_method (knd := strKind prog w) N hm ho h
theorem dget {A : Around} {t : Tok} {n : Int} (N : News h₀ L s.heap led) (S : St prog w led c keep ps) (hn : (ps.debts.lookup g).getD 0 = n) (h : ∀ k u, Q (.int n u) { s with toks := k }) :
    wpAny (model prog w) A (call (.builtin "dict.get") [.ref c.dD, .str (nm g) tk, .int 0 t]) Q E s := by
  obtain ⟨o, kvs, hm, ho, hd⟩ := S.dd
  obtain ⟨t', e⟩ := debt_at (g := g) hd
  refine kdg_get2 (knd := strKind prog w) N hm ho S.lo (strKind_is _ _ _ _) _ e ?_
  cases hl : ps.debts.lookup g with
  | none => rw [hl] at hn; subst hn; exact h _ _
  | some x => rw [hl] at hn; subst hn; exact h _ _
theorem dget_item {A : Around} {value slice : PySem.Expr} {n : Int} (N : News h₀ L s.heap led) (S : St prog w led c keep ps) (hn : ps.debts.lookup g = some n) (h : ∀ k u, Q (.int n u) { s with toks := k })
    (hs : subscripted slice false (.ref c.dD) (.str (nm g) tk) = operate [.ref c.dD, .str (nm g) tk] (getItem (.ref c.dD) (.str (nm g) tk)) := by with_unfolding_all rfl) (hg : ∀ r, letTemporaryGo value (.ref c.dD) r = pure () := by intro _; with_unfolding_all rfl) :
    wpAny (model prog w) A (subscriptTail value slice (.ref c.dD) (.str (nm g) tk)) Q E s := by
  obtain ⟨o, kvs, hm, ho, hd⟩ := S.dd
  obtain ⟨t', e⟩ := debt_at (g := g) hd
  rw [hn] at e
  exact kda_item (knd := strKind prog w) N hm ho (strKind_is _ _ _ _) e (h _ _) hs hg
theorem dget_item' {A : Around} {n : Int} (N : News h₀ L s.heap led) (S : St prog w led c keep ps) (hn : ps.debts.lookup g = some n) (h : ∀ k u, Q (.int n u) { s with toks := k }) :
    wpAny (model prog w) A (getItem (.ref c.dD) (.str (nm g) tk)) Q E s := by
  obtain ⟨o, kvs, hm, ho, hd⟩ := S.dd
  obtain ⟨t', e⟩ := debt_at (g := g) hd
  rw [hn] at e
  exact kdt_getItem (knd := strKind prog w) N hm ho (strKind_is _ _ _ _) e (h _ _)
theorem isDict_cls {o : Obj} {kvs : List (Str × Value)} (ho : o.IsDictOf (strKind prog w) kvs) : o.cls ≠ .type "tuple" := by
  obtain ⟨es, ep, hc, _⟩ := ho
  first | (rw [hc.1]; decide) | (rw [hc]; decide) | skip
theorem dset {A : Around} {t : Tok} {n : Int} {Q : Unit → Shared → Prop} (F : Fr h₀ L s.heap m) (N : News h₀ L s.heap led) (S : St prog w led c keep ps) (hsz : ps.debts.length ≤ 100)
    (hQ : ∀ h' k led', Fr h₀ L h' m → News h₀ L h' led' → St prog w led' c keep { ps with debts := putd ps.debts g n } → Q () { s with heap := h', toks := k }) :
    wpAny (model prog w) A (setItem (.ref c.dD) (.str (nm g) tk) (.int n t)) Q E s := by
  obtain ⟨o, kvs, hm, ho, hd⟩ := S.dd
  have hlen := debt_len hd
  refine wpAny_setItem_pairs (knd := strKind prog w) (hsz := fits (by omega)) (strKind_is _ _ _ _) (Heap.dictOf_iff.mpr ⟨o, (N _ hm).1, ho⟩) fun h' hmm hs => ?_
  obtain ⟨o', ho', hd'⟩ := Heap.dictOf_iff.mp hmm
  exact hQ h' _ _ (Fr.putF F N hm hs) (News.put N hm hs ho') (St.putD S (NoTup.of N hm (isDict_cls ho)) hd' (debt_put hd))
theorem ddel {A : Around} {n : Int} {Q : Unit → Shared → Prop} (F : Fr h₀ L s.heap m) (N : News h₀ L s.heap led) (S : St prog w led c keep ps) (hn : ps.debts.lookup g = some n) (hsz : ps.debts.length ≤ 100)
    (hQ : ∀ h' k led', Fr h₀ L h' m → News h₀ L h' led' → St prog w led' c keep { ps with debts := deld ps.debts g } → Q () { s with heap := h', toks := k }) :
    wpAny (model prog w) A (delItem (.ref c.dD) (.str (nm g) tk)) Q E s := by
  obtain ⟨o, kvs, hm, ho, hd⟩ := S.dd
  have hlen := debt_len hd
  obtain ⟨t', e⟩ := debt_at (g := g) hd
  rw [hn] at e
  have hD : s.heap.DictOf (strKind prog w) c.dD kvs := Heap.dictOf_iff.mpr ⟨o, (N _ hm).1, ho⟩
  unfold delItem
  try with_reducible refine wpAny_holding ?_
  refine wpAny_bind (wpAny_sequenceKey hD.typeIs (by decide) ?_)
  refine wpAny_bind (wpAny_callSpecial?_slot (name := Str.ofString "__delitem__") hD.typeIs PySem.F.slot_dict_delitem
    (call_meetsIn PySem.F.slot_dict_delitem hD.typeIs PySem.F.entry_dict_delitem (PySem.F.args_dict_delitem_2 _ _) (meets_dict_delitem_pairs (strKind prog w) c.dD (strKind_is _ _ _ _)) ⟨kvs, hD, fits (by omega), by rw [e]; rfl, fun h' hmm hs => ?_⟩))
  obtain ⟨o', ho', hd'⟩ := Heap.dictOf_iff.mp hmm
  exact wpAny_pure (hQ h' _ _ (Fr.putF F N hm hs) (News.put N hm hs ho') (St.putD S (NoTup.of N hm (isDict_cls ho)) hd' (debt_del hd)))
end
def MLoc (nL : Addr) (c : Ad) (wi : Int) (m : Str → Option Value) : Prop := ∃ (t : Tok) (mm : Str → Option Value), m = fun y => if y = Str.ofString "numbers" then some (.ref nL) else if y = Str.ofString "book" then some (.ref c.aK) else if y = Str.ofString "mails" then some (.ref c.lM) else if y = Str.ofString "debts" then some (.ref c.dD) else if y = Str.ofString "wishes" then some (.int wi t) else mm y
def TLoc (nL : Addr) (c : Ad) (wi x b : Int) (w g : Fin 4) (k : Bool) (m : Str → Option Value) : Prop := ∃ (t tx tw tg tk tb : Tok) (mm : Str → Option Value), m = fun y => if y = Str.ofString "numbers" then some (.ref nL) else if y = Str.ofString "book" then some (.ref c.aK) else if y = Str.ofString "mails" then some (.ref c.lM) else if y = Str.ofString "debts" then some (.ref c.dD) else if y = Str.ofString "wishes" then some (.int wi t) else
  if y = Str.ofString "x" then some (.int x tx) else if y = Str.ofString "writer" then some (.str (nm w) tw) else if y = Str.ofString "getter" then some (.str (nm g) tg) else if y = Str.ofString "word" then some (.str (wd k) tk) else if y = Str.ofString "before" then some (.int b tb) else mm y
theorem at_if {y z : Str} {v : Value} {m : Str → Option Value} {r : Option Value} (hz : m z = some v) (h : y ≠ z → m y = r) : m y = if y = z then some v else r := by
  by_cases e : y = z
  · rw [if_pos e, e, hz]
  · rw [if_neg e]; exact h e
theorem MLoc.intro {nL : Addr} {c : Ad} {wi : Int} {t : Tok} {m : Str → Option Value} (h1 : m (Str.ofString "numbers") = some (.ref nL)) (h2 : m (Str.ofString "book") = some (.ref c.aK)) (h3 : m (Str.ofString "mails") = some (.ref c.lM)) (h4 : m (Str.ofString "debts") = some (.ref c.dD))
    (h5 : m (Str.ofString "wishes") = some (.int wi t)) : MLoc nL c wi m :=
  ⟨t, m, funext fun _ => at_if h1 fun _ => at_if h2 fun _ => at_if h3 fun _ => at_if h4 fun _ => at_if h5 fun _ => rfl⟩
theorem TLoc.intro {nL : Addr} {c : Ad} {wi x b : Int} {w g : Fin 4} {k : Bool} {t tx tw tg tk tb : Tok} {m : Str → Option Value} (h1 : m (Str.ofString "numbers") = some (.ref nL)) (h2 : m (Str.ofString "book") = some (.ref c.aK)) (h3 : m (Str.ofString "mails") = some (.ref c.lM)) (h4 : m (Str.ofString "debts") = some (.ref c.dD))
    (h5 : m (Str.ofString "wishes") = some (.int wi t)) (h6 : m (Str.ofString "x") = some (.int x tx)) (h7 : m (Str.ofString "writer") = some (.str (nm w) tw)) (h8 : m (Str.ofString "getter") = some (.str (nm g) tg)) (h9 : m (Str.ofString "word") = some (.str (wd k) tk)) (h10 : m (Str.ofString "before") = some (.int b tb)) : TLoc nL c wi x b w g k m :=
  ⟨t, tx, tw, tg, tk, tb, m, funext fun _ => at_if h1 fun _ => at_if h2 fun _ => at_if h3 fun _ => at_if h4 fun _ => at_if h5 fun _ => at_if h6 fun _ => at_if h7 fun _ => at_if h8 fun _ => at_if h9 fun _ => at_if h10 fun _ => rfl⟩
theorem TLoc.main {nL : Addr} {c : Ad} {wi x b : Int} {w g : Fin 4} {k : Bool} {m : Str → Option Value} (h : TLoc nL c wi x b w g k m) : MLoc nL c wi m := by
  obtain ⟨t, tx, tw, tg, tk, tb, mm, rfl⟩ := h
  exact ⟨t, _, rfl⟩
theorem wire_cut : ∀ (w g : Fin 4) (k : Bool), Txt.slice (wire w g k) (some 1) (some (-2)) = line w g k := by decide +kernel
theorem nm_cut : ∀ w : Fin 4, Txt.slice (nm w) (some 1) none = wk w := by decide +kernel
theorem wire_len : ∀ w g k, (wire w g k).length ≤ 12 := by decide +kernel
theorem wk_len : ∀ i : Fin 4, (wk i).length ≤ 1 := by decide +kernel
theorem dot_len : ∀ (sw sg : Fin 4) (k : Bool), (Str.ofString "." ++ line sw sg k).length ≤ 9 := by decide +kernel
theorem wk_dot : ∀ i, Str.ofString "." ++ wk i = nm i := by decide +kernel
section
variable {prog : Program} {w : World} {A : Around} {E : Value → Shared → Prop} {s : Shared} {value slice : Expr} {t : Tok} {h₀ : Heap} {L : Addr} {m : Str → Option Value} {news : List (Addr × Obj)} {Q : Value → Shared → Prop} {q : Mail} {i : Fin 4} {sw sg : Fin 4} {k : Bool}
theorem cut_wire {ui uj : Tok} (hF : Fr h₀ L s.heap m) (hN : News h₀ L s.heap news) (h : ∀ h' t' k, Fr h₀ L h' m → News h₀ L h' news → Q (.str (line q.1 q.2.1 q.2.2) t') { s with heap := h', toks := k })
    (hs : subscripted slice false (.str (mtxt q) t) (.ref s.heap.objs.size) = operate [.ref s.heap.objs.size, .str (mtxt q) t] (getItem (.str (mtxt q) t) (.ref s.heap.objs.size)))
    (ht : ∀ r, letTemporaryGo value (.str (mtxt q) t) r = pure ()) :
    wpAny (model prog w) A (subscriptTail value slice (.str (mtxt q) t) (.ref s.heap.objs.size)) Q E { s with heap := s.heap.push { cls := .type "slice", data := .fields #[.int 1 ui, .int (-2) uj, .none] } } := by
  have hl := wire_len q.1 q.2.1 q.2.2
  refine slice_strN_ss hF hN (fun h' t' k F' N' => ?_) hs ht (fits (by show (wire _ _ _).length ≤ _; omega))
  have e : Txt.slice (mtxt q) (some 1) (some (-2)) = line q.1 q.2.1 q.2.2 := wire_cut _ _ _
  rw [e]
  exact h h' t' k F' N'
theorem cut_nm {ui : Tok} (hF : Fr h₀ L s.heap m) (hN : News h₀ L s.heap news) (h : ∀ h' t' k, Fr h₀ L h' m → News h₀ L h' news → Q (.str (wk i) t') { s with heap := h', toks := k })
    (hs : subscripted slice false (.str (nm i) t) (.ref s.heap.objs.size) = operate [.ref s.heap.objs.size, .str (nm i) t] (getItem (.str (nm i) t) (.ref s.heap.objs.size)))
    (ht : ∀ r, letTemporaryGo value (.str (nm i) t) r = pure ()) :
    wpAny (model prog w) A (subscriptTail value slice (.str (nm i) t) (.ref s.heap.objs.size)) Q E { s with heap := s.heap.push { cls := .type "slice", data := .fields #[.int 1 ui, .none, .none] } } := by
  have hl := nm_len i
  refine slice_strN_sn hF hN (fun h' t' k F' N' => ?_) hs ht (fits (by omega))
  rw [nm_cut]
  exact h h' t' k F' N'
theorem add_dot {u : Tok} (h : ∀ t' k', Q (.str (nm i) t') { s with toks := k' }) : wpAny (model prog w) A (binaryOp .Add (.str (Str.ofString ".") t) (.str (wk i) u)) Q E s := by
  have h1 : (Str.ofString ".").length = 1 := by decide
  have h2 : (wk i).length ≤ 1 := wk_len i
  refine add_str (fun t' k' => ?_) (by rw [sizeLine_eq]; omega)
  rw [wk_dot]
  exact h t' k'
theorem add_line1 {u : Tok} (h : ∀ t' k', Q (.str (Str.ofString "." ++ line sw sg k) t') { s with toks := k' }) : wpAny (model prog w) A (binaryOp .Add (.str (Str.ofString ".") t) (.str (line sw sg k) u)) Q E s := by
  have h1 : (Str.ofString ".").length = 1 := by decide
  have h2 := line_len sw sg k
  exact add_str h (by rw [sizeLine_eq]; omega)
theorem add_line2 {u : Tok} (h : ∀ t' k', Q (.str (wire sw sg k) t') { s with toks := k' }) : wpAny (model prog w) A (binaryOp .Add (.str (Str.ofString "." ++ line sw sg k) t) (.str (Str.ofString "\r\n") u)) Q E s := by
  have h1 : (Str.ofString "\r\n").length = 2 := by decide
  have h2 := dot_len sw sg k
  exact add_str h (by rw [sizeLine_eq]; omega)
end
section
variable {prog : Program} {w : World} {A : Around} {E : Value → Shared → Prop} {s : Shared} {x y : Str} {t u : Tok} {Q : Value → Shared → Prop}
theorem ne_same (h : Q (.bool false) s) : wpAny (model prog w) A (compareOp .NotEq (.str x t) (.str x u)) Q E s := by
  refine ne_str ?_
  have : (x != x) = false := by simp
  rw [this]
  exact h
theorem ne_of {b : Bool} (hb : (x != y) = b) (h : Q (.bool b) s) : wpAny (model prog w) A (compareOp .NotEq (.str x t) (.str y u)) Q E s := ne_str (hb ▸ h)
theorem ne_lists (h : x ≠ y) : (x != y) = true := by rw [bne_iff_ne]; exact h
theorem eq_lists (h : x = y) : (x != y) = false := by subst h; simp
end
local macro_rules | `(tactic| walk_at "MY st") => `(tactic| first | with_reducible assumption | exact St.skip (by walk_at "MY st"))
local macro_rules | `(tactic| walk_at "MY facts") => `(tactic| ((with_reducible rename St _ _ _ _ _ _ => kS); (try dsimp only at kS); have kc := (St.kp kS _ (List.Mem.head _)).1; have kb := St.bi kS; have kbd := St.bd kS; obtain ⟨_, _, _, kbd⟩ := kbd; have kk := St.ki kS; have kkd := St.kd kS; obtain ⟨_, _, _, kkd⟩ := kkd))
local macro_rules | `(tactic| walk_at "MY low") => `(tactic| first | with_reducible exact low_nm _ | with_reducible exact low_up _)
local macro_rules | `(tactic| walk_at "MY size") => `(tactic| first | assumption | omega | (dsimp only; omega) | (simp only [List.length_append, List.length_cons, List.length_nil]; omega))
local macro_rules | `(tactic| walk_at "getMethod ref") => `(tactic| (k_here; (with_reducible show wpAny _ _ (getMethod (Value.ref _) (PySem.Str.ofString "pop") _) _ _ _); k_dflt (refine' mmeth PySem.F.slot_list_pop PySem.F.type_list_pop ?cN ?cS ?_; (case cN => assumption); (case cS => walk_at "MY st"))))
local macro_rules | `(tactic| walk_at "getMethod ref") => `(tactic| (k_here; (with_reducible show wpAny _ _ (getMethod (Value.ref _) (PySem.Str.ofString "append") _) _ _ _); k_dflt (refine' mmeth PySem.F.slot_list_append PySem.F.type_list_append ?cN ?cS ?_; (case cN => assumption); (case cS => walk_at "MY st"))))
local macro_rules | `(tactic| walk_at "getMethod ref") => `(tactic| (k_here; (with_reducible show wpAny _ _ (getMethod (Value.ref _) (PySem.Str.ofString "get") _) _ _ _); k_dflt (refine' dmeth ?cN ?cS ?_; (case cN => assumption); (case cS => walk_at "MY st"))))
local macro_rules | `(tactic| walk_at "call builtin:len") => `(tactic| (k_here; k_dflt (first
  | (refine' mlen ?cN ?cS ?cz ?_; (case cN => assumption); (case cS => walk_at "MY st"); (case cz => walk_at "MY size"); intro k' t')
  | (refine' blen rfl ?cF ?cX ?cN ?cT ?cd ?cS ?cz ?_; (case cF => assumption); (case cX => assumption); (case cN => assumption); (case cT => assumption); (case cd => walk_at "MY room"); (case cS => walk_at "MY st"); (case cz => walk_at "MY size"); intro h' tk' t' F' N'))))
local macro_rules | `(tactic| walk_at "call ref") => `(tactic| (k_here; (with_reducible show wpAny _ _ (call (Value.ref 122) _ _) _ _ _); k_dflt (first
  | (refine' bget_none ?cF ?cX ?cN ?cT ?cd ?cS ?clow ?clk ?_; (case cF => assumption); (case cX => assumption); (case cN => assumption); (case cT => assumption); (case cd => walk_at "MY room"); (case cS => walk_at "MY st"); (case clow => walk_at "MY low"); (case clk => with_reducible assumption); intro h' tk' F' N')
  | (refine' bget_some ?cF ?cX ?cN ?cT ?cd ?cS ?clow ?clk ?_; (case cF => assumption); (case cX => assumption); (case cN => assumption); (case cT => assumption); (case cd => walk_at "MY room"); (case cS => walk_at "MY st"); (case clow => walk_at "MY low"); (case clk => with_reducible assumption); intro h' tk' t' F' N'))))
local macro_rules | `(tactic| walk_at "call ref") => `(tactic| (k_here; (with_reducible show wpAny _ _ (call (Value.ref 165) _ _) _ _ _); k_dflt (first
  | (refine' bsd_some ?cF ?cX ?cN ?cT ?cd ?cS ?clow ?clk ?_; (case cF => assumption); (case cX => assumption); (case cN => assumption); (case cT => assumption); (case cd => walk_at "MY room"); (case cS => walk_at "MY st"); (case clow => walk_at "MY low"); (case clk => with_reducible assumption); intro h' tk' t' F' N')
  | (refine' bsd_none ?cF ?cX ?cN ?cT ?cd ?cS ?clk ?cz ?_; (case cF => assumption); (case cX => assumption); (case cN => assumption); (case cT => assumption); (case cd => walk_at "MY room"); (case cS => walk_at "MY st"); (case clk => with_reducible assumption); (case cz => walk_at "MY size"); intro h' tk' t' led' F' N' S'; walk_at "MY facts"))))
local macro_rules | `(tactic| walk_at "call ref") => `(tactic| (k_here; (with_reducible show wpAny _ _ (call (Value.ref 172) _ _) _ _ _); k_dflt (first
  | (refine' kadd true rfl ?cF ?cX ?cN ?cT ?cd ?cS rfl ?cz ?_; (case cF => assumption); (case cX => assumption); (case cN => assumption); (case cT => assumption); (case cd => walk_at "MY room"); (case cS => walk_at "MY st"); (case cz => walk_at "MY size"); intro h' tk' led' F' N' S'; walk_at "MY facts")
  | (refine' kadd false rfl ?cF ?cX ?cN ?cT ?cd ?cS rfl ?cz ?_; (case cF => assumption); (case cX => assumption); (case cN => assumption); (case cT => assumption); (case cd => walk_at "MY room"); (case cS => walk_at "MY st"); (case cz => walk_at "MY size"); intro h' tk' led' F' N' S'; walk_at "MY facts"))))
local macro_rules | `(tactic| walk_at "call ref") => `(tactic| (k_here; (with_reducible show wpAny _ _ (call (Value.ref 231) _ _) _ _ _); k_dflt (first
  | (refine' mail (k := true) ?cF ?cX ?cN ?cT ?cd ?_; (case cF => assumption); (case cX => assumption); (case cN => assumption); (case cT => assumption); (case cd => walk_at "MY room"); intro h' tk' u' F' N')
  | (refine' mail (k := false) ?cF ?cX ?cN ?cT ?cd ?_; (case cF => assumption); (case cX => assumption); (case cN => assumption); (case cT => assumption); (case cd => walk_at "MY room"); intro h' tk' u' F' N'))))
local macro_rules | `(tactic| walk_at "call ref") => `(tactic| (k_here; (with_reducible show wpAny _ _ (call (Value.ref 238) _ _) _ _ _); k_dflt (refine' ktaken ?cF ?cX ?cN ?cT ?cd ?cS rfl ?cz ?cp ?_; (case cF => assumption); (case cX => assumption); (case cN => assumption); (case cT => assumption); (case cd => walk_at "MY room"); (case cS => walk_at "MY st"); (case cz => walk_at "MY size"); (case cp => assumption); intro h' tk' gs' F' N' hg')))
local macro_rules | `(tactic| walk_at "call builtin:list.append") => `(tactic| (k_here; k_dflt (refine' mapp ?cF ?cN ?cS ?cz ?_; (case cF => assumption); (case cN => assumption); (case cS => walk_at "MY st"); (case cz => walk_at "MY size"); intro h' led' F' N' S'; walk_at "MY facts")))
local macro_rules | `(tactic| walk_at "call builtin:list.pop") => `(tactic| (k_here; k_dflt (refine' mpop ?cF ?cN ?cS ?cz ?cm ?ci ?_; (case cF => assumption); (case cN => assumption); (case cS => walk_at "MY st"); (case cz => walk_at "MY size"); (case cm => assumption); (case ci => assumption); intro h' t' led' F' N' S'; walk_at "MY facts")))
local macro_rules | `(tactic| walk_at "call builtin:dict.get") => `(tactic| (k_here; k_dflt (refine' dget ?cN ?cS rfl ?_; (case cN => assumption); (case cS => walk_at "MY st"); intro k' u')))
local macro_rules | `(tactic| walk_at "call builtin:str.upper") => `(tactic| (k_here; k_dflt (refine up_call ?_; intro t' k')))
local macro_rules | `(tactic| walk_at "call builtin:str.join") => `(tactic| (k_here; k_dflt (refine' join_mail ?cN ?cm ?_; (case cN => assumption); (case cm => k_mem); intro t' k')))
local macro_rules | `(tactic| walk_at "subscriptTail") => `(tactic| (k_here; first
  | ((with_reducible show wpAny _ _ (subscriptTail _ _ (Value.str (mtxt _) _) _) _ _ _); k_dflt (refine' cut_wire (s := ⟨_, _, _, _, _⟩) ?cF ?cN ?_ ?cs ?ct; (case cF => assumption); (case cN => assumption); (case cs => (with_unfolding_all rfl)); (case ct => (intro _; with_unfolding_all rfl)); intro h' t' k' F' N'))
  | ((with_reducible show wpAny _ _ (subscriptTail _ _ (Value.str (nm _) _) _) _ _ _); k_dflt (refine' cut_nm (s := ⟨_, _, _, _, _⟩) ?cF ?cN ?_ ?cs ?ct; (case cF => assumption); (case cN => assumption); (case cs => (with_unfolding_all rfl)); (case ct => (intro _; with_unfolding_all rfl)); intro h' t' k' F' N'))))
local macro_rules | `(tactic| walk_at "binaryOp Add str str") => `(tactic| (k_here; first
  | ((with_reducible show wpAny _ _ (binaryOp _ _ (Value.str (wk _) _)) _ _ _); k_dflt (refine add_dot ?_; intro t' k'))
  | ((with_reducible show wpAny _ _ (binaryOp _ _ (Value.str (line _ _ _) _)) _ _ _); k_dflt (refine add_line1 ?_; intro t' k'))
  | ((with_reducible show wpAny _ _ (binaryOp _ (Value.str (Str.ofString "." ++ line _ _ _) _) _) _ _ _); k_dflt (refine add_line2 ?_; intro t' k'))))
local macro_rules | `(tactic| walk_at "call ref") => `(tactic| (k_here; (with_reducible show wpAny _ _ (call (Value.ref 207) _ _) _ _ _); k_dflt (refine' decode_ ?cF ?cX ?cN ?cT ?cd (split_wire _ _ _) ?cx ?_; (case cF => assumption); (case cX => assumption); (case cN => assumption); (case cT => assumption); (case cd => walk_at "MY room"); (case cx => exact Nat.le_trans (line_len _ _ _) (by decide)); intro l' h' tk' t1' t2' t3' l1 F' N')))
local macro_rules | `(tactic| walk_at "compareOp NotEq str str") => `(tactic| (k_here; first
  | (with_reducible refine ne_same ?_)
  | (refine' ne_of ?hb ?_; (case hb => with_reducible assumption))))
section
variable {prog : Program} {w : World} {dp un : Nat} {fr : Option (List Env)} {gd : Option (List Code)} {s : Shared} {h₀ : Heap} {L : Addr} {m mg mb : Str → Option Value} {led keep : List (Addr × Obj)} {p : Program} {loose : List Str} {mean : ExcName → Option Value}
    {Q : Flow → Shared → Prop} {E : Value → Shared → Prop} {c : Ad} {ps : PS} {rest : List Stmt} {x : Int} {oB : Obj} {q : Mail}
set_option maxHeartbeats 800000 in
theorem stmt2 {tx : Tok} {pre post : List Mail} (F : Fr h₀ L s.heap m) (X₀ : (hd.heap_39 w.params).In h₀) (N : News h₀ L s.heap led) (T : Top p loose mean mg mb h₀) (hroom : dp < 600) (S : St prog w led c ((L + 1, oB) :: keep) ps)
    (h1 : m (Str.ofString "mails") = some (.ref c.lM)) (h2 : m (Str.ofString "x") = some (.int x tx))
    (hsz : ps.mails.length ≤ 100) (hq : ps.mails = pre ++ q :: post) (hx : x.fmod ps.mails.length = (pre.length : Int))
    (hK : ∀ h' tk' t led', Fr h₀ L h' (fun y => if y = Str.ofString "wire" then some (.str (mtxt q) t) else m y) → News h₀ L h' led' → St prog w led' c ((L + 1, oB) :: keep) { ps with mails := pre ++ post } → wpAny (model prog w) ((AR dp fr gd un).deeper (runEnv L)) (execs rest (runEnv L)) Q E { s with heap := h', toks := tk' }) :
    wpAny (model prog w) ((AR dp fr gd un).deeper (runEnv L)) (execs (st2.1 :: rest) (runEnv L)) Q E s := by
  obtain ⟨mm, hm⟩ : ∃ mm : Str → Option Value, m = fun y => if y = Str.ofString "mails" then some (.ref c.lM) else if y = Str.ofString "x" then some (.int x tx) else mm y := ⟨m, funext fun _ => at_if h1 fun _ => at_if h2 fun _ => rfl⟩
  clear h1 h2
  subst hm
  have X' := X₀
  have T' := T
  have hne : (ps.mails.length : Int) ≠ 0 := by rw [hq]; simp; omega
  walk_at "MY facts"
  dsimp only [runEnv, runDef, st2]
  (with_reducible show wpAny _ _ _ _ _ _)
  k_steps
  exact hK _ _ _ _ (by assumption) (by assumption) (by assumption)
set_option maxHeartbeats 800000 in
theorem stmt3 {tw : Tok} (F : Fr h₀ L s.heap m) (X₀ : (hd.heap_39 w.params).In h₀) (N : News h₀ L s.heap led) (T : Top p loose mean mg mb h₀) (hroom : dp < 600)
    (h1 : m (Str.ofString "wire") = some (.str (mtxt q) tw))
    (hK : ∀ h' tk' t1 t2 t3, Fr h₀ L h' (fun y => if y = Str.ofString "word" then some (.str (wd q.2.2) t3) else if y = Str.ofString "getter" then some (.str (nm q.2.1) t2) else if y = Str.ofString "writer" then some (.str (nm q.1) t1) else m y) → News h₀ L h' led → wpAny (model prog w) ((AR dp fr gd un).deeper (runEnv L)) (execs rest (runEnv L)) Q E { s with heap := h', toks := tk' }) :
    wpAny (model prog w) ((AR dp fr gd un).deeper (runEnv L)) (execs (st3.1 :: rest) (runEnv L)) Q E s := by
  obtain ⟨mm, hm⟩ : ∃ mm : Str → Option Value, m = fun y => if y = Str.ofString "wire" then some (.str (mtxt q) tw) else mm y := ⟨m, funext fun _ => at_if h1 fun _ => rfl⟩
  clear h1
  subst hm
  have X' := X₀
  have T' := T
  dsimp only [runEnv, runDef, st3]
  (with_reducible show wpAny _ _ _ _ _ _)
  k_steps
  exact hK _ _ _ _ _ (by assumption) (by first | assumption | exact News.off (by assumption) | exact News.off (News.off (by assumption)))
set_option maxHeartbeats 800000 in
theorem stmt5 (F : Fr h₀ L s.heap m) (X₀ : (hd.heap_39 w.params).In h₀) (N : News h₀ L s.heap led) (T : Top p loose mean mg mb h₀) (hroom : dp < 600) (S : St prog w led c ((L + 1, oB) :: keep) ps) (hB : oB.data = .cell (some (.ref c.aB))) (hsz : ps.busy.length ≤ 100)
    (hK : ∀ h' tk' t, Fr h₀ L h' (fun y => if y = Str.ofString "before" then some (.int ps.busy.length t) else m y) → News h₀ L h' led → wpAny (model prog w) ((AR dp fr gd un).deeper (runEnv L)) (execs rest (runEnv L)) Q E { s with heap := h', toks := tk' }) :
    wpAny (model prog w) ((AR dp fr gd un).deeper (runEnv L)) (execs (st5.1 :: rest) (runEnv L)) Q E s := by
  have X' := X₀
  have T' := T
  walk_at "MY facts"
  dsimp only [runEnv, runDef, st5]
  (with_reducible show wpAny _ _ _ _ _ _)
  k_steps
  exact hK _ _ _ (by assumption) (by assumption)
end
theorem wd_in : ∀ k, ([Str.ofString "?'", Str.ofString "!'"].any fun x => x == wd k) = true := by decide +kernel
section
variable {prog : Program} {w : World} {dp un : Nat} {fr : Option (List Env)} {gd : Option (List Code)} {s : Shared} {h₀ : Heap} {L : Addr} {m mg mb : Str → Option Value} {led keep : List (Addr × Obj)} {p : Program} {loose : List Str} {mean : ExcName → Option Value}
    {Q : Flow → Shared → Prop} {E : Value → Shared → Prop} {c : Ad} {ps : PS} {rest : List Stmt} {x : Int} {oB : Obj} {q : Mail}
set_option maxHeartbeats 400000 in
theorem stmt4 {tw t1 t2 t3 : Tok} (F : Fr h₀ L s.heap m) (X₀ : (hd.heap_39 w.params).In h₀) (N : News h₀ L s.heap led) (T : Top p loose mean mg mb h₀) (hroom : dp < 600)
    (h1 : m (Str.ofString "wire") = some (.str (mtxt q) tw)) (h2 : m (Str.ofString "writer") = some (.str (nm q.1) t1)) (h3 : m (Str.ofString "getter") = some (.str (nm q.2.1) t2)) (h4 : m (Str.ofString "word") = some (.str (wd q.2.2) t3))
    (hK : ∀ h' tk', Fr h₀ L h' m → News h₀ L h' led → wpAny (model prog w) ((AR dp fr gd un).deeper (runEnv L)) (execs rest (runEnv L)) Q E { s with heap := h', toks := tk' }) :
    wpAny (model prog w) ((AR dp fr gd un).deeper (runEnv L)) (execs (st4.1 :: rest) (runEnv L)) Q E s := by
  obtain ⟨mm, hm⟩ : ∃ mm : Str → Option Value, m = fun y => if y = Str.ofString "wire" then some (.str (mtxt q) tw) else if y = Str.ofString "writer" then some (.str (nm q.1) t1) else if y = Str.ofString "getter" then some (.str (nm q.2.1) t2) else if y = Str.ofString "word" then some (.str (wd q.2.2) t3) else mm y := ⟨m, funext fun _ => at_if h1 fun _ => at_if h2 fun _ => at_if h3 fun _ => at_if h4 fun _ => rfl⟩
  clear h1 h2 h3 h4
  subst hm
  have X' := X₀
  have T' := T
  obtain ⟨w', g', k'⟩ := q
  dsimp only [mtxt] at *
  dsimp only [runEnv, runDef, st4]
  (with_reducible show wpAny _ _ _ _ _ _)
  k_steps
  · exact hK _ _ (by assumption) (News.off (News.off (by assumption)))
  · rename _ = false => e
    rw [wd_in] at e
    cases e
end
noncomputable def dv : Option (Fin 4) → Int
  | none => 0
  | some e => e.val + 1
noncomputable def wish (ps : PS) (g : Fin 4) (d : Option (Fin 4)) : PS := match d with
  | none => ps
  | some e => if ps.wishes < 6 then ⟨ps.mails ++ [(g, e, true)], ps.busy, ps.book ++ [(g, true)], putd ps.debts g ((ps.debts.lookup g).getD 0 + 1), ps.wishes + 1⟩ else ps
theorem site_cases : ∀ e : Fin 4, e = 0 ∨ e = 1 ∨ e = 2 ∨ e = 3 := by decide
theorem pick_site {prog : Program} {w : World} {A : Around} {E : Value → Shared → Prop} {s : Shared} {g : Heap} {L D : Addr} {news : List (Addr × Obj)} {value slice : Expr} {e : Fin 4} {k : Int} {t1 t2 t3 t4 u : Tok} {n : Nat} {Q : Value → Shared → Prop}
    (N : News g L s.heap news) (hm : (D, listOf #[.str (Str.ofString ".") t1, .str (Str.ofString ".b") t2, .str (Str.ofString ".c") t3, .str (Str.ofString ".d") t4] n) ∈ news) (hk : k = (e.val : Int)) (h : ∀ t, Q (.str (nm e) t) s)
    (hs : subscripted slice false (.ref D) (.int k u) = operate [.ref D, .int k u] (getItem (.ref D) (.int k u))) :
    wpAny (model prog w) A (subscriptTail value slice (.ref D) (.int k u)) Q E s := by
  refine tail_any (PySem.IsL.isList (n := n) (N _ hm).1).typeIs slot_list_getitem.lookup ?_ hs
  have : e = 0 ∨ e = 1 ∨ e = 2 ∨ e = 3 := site_cases e
  subst hk
  rcases this with rfl | rfl | rfl | rfl
  · exact wpAny_getItem_list (PySem.IsL.isList (n := n) (N _ hm).1) (by decide) (by decide) rfl (h t1)
  · exact wpAny_getItem_list (PySem.IsL.isList (n := n) (N _ hm).1) (by decide) (by decide) rfl (h t2)
  · exact wpAny_getItem_list (PySem.IsL.isList (n := n) (N _ hm).1) (by decide) (by decide) rfl (h t3)
  · exact wpAny_getItem_list (PySem.IsL.isList (n := n) (N _ hm).1) (by decide) (by decide) rfl (h t4)
theorem pick_site1 {prog : Program} {w : World} {A : Around} {E : Value → Shared → Prop} {s : Shared} {g : Heap} {L D : Addr} {news : List (Addr × Obj)} {value slice : Expr} {e : Fin 4} {k : Int} {t1 t2 t3 t4 u : Tok} {n : Nat} {Q : Value → Shared → Prop}
    (N : News g L s.heap news) (hm : (D, listOf #[.str (Str.ofString ".") t1, .str (Str.ofString ".b") t2, .str (Str.ofString ".c") t3, .str (Str.ofString ".d") t4] n) ∈ news) (hk : 0 < k → k = (e.val : Int) + 1) (h0 : 0 < k) (h : ∀ t, Q (.str (nm e) t) s)
    (hs : subscripted slice false (.ref D) (.int (k - 1) u) = operate [.ref D, .int (k - 1) u] (getItem (.ref D) (.int (k - 1) u))) :
    wpAny (model prog w) A (subscriptTail value slice (.ref D) (.int (k - 1) u)) Q E s := pick_site N hm (by have := hk h0; omega) h hs
section
variable {prog : Program} {w : World} {dp un : Nat} {fr : Option (List Env)} {gd : Option (List Code)} {s : Shared} {h₀ : Heap} {L : Addr} {m mg mb : Str → Option Value} {led keep : List (Addr × Obj)} {p : Program} {loose : List Str} {mean : ExcName → Option Value}
    {Q : Flow → Shared → Prop} {E : Value → Shared → Prop} {c : Ad} {ps : PS} {nL : Addr} {x b : Int} {oB : Obj} {sw g : Fin 4} {k : Bool}
local macro_rules | `(tactic| walk_at "subscriptTail") => `(tactic| (k_here; k_dflt (refine' pick_site1 ?cN ?cm ?ck ?c0 ?_ ?cs; (case cN => assumption); (case cm => k_mem); (case cs => (with_unfolding_all rfl)); (case ck => assumption); (case c0 => assumption); intro t')))
local macro_rules | `(tactic| walk_at "setItem") => `(tactic| (k_here; k_dflt (refine' dset ?cF ?cN ?cS ?cz ?_; (case cF => assumption); (case cN => assumption); (case cS => walk_at "MY st"); (case cz => walk_at "MY size"); intro h' k' led' F' N' S'; walk_at "MY facts")))
set_option maxHeartbeats 1600000 in
theorem dig {d : Option (Fin 4)} {n : Int} {td : Tok} (hn : n = dv d) (F : Fr h₀ L s.heap m) (X₀ : (hd.heap_39 w.params).In h₀) (N : News h₀ L s.heap led) (T : Top p loose mean mg mb h₀) (hroom : dp < 600) (S : St prog w led c ((L + 1, oB) :: keep) ps) (hB : oB.data = .cell (some (.ref c.aB)))
    (hl : TLoc nL c ps.wishes x b sw g k m) (hd : m (Str.ofString "digit") = some (.int n td)) (hsz : ps.mails.length ≤ 90 ∧ ps.book.length ≤ 90 ∧ ps.debts.length ≤ 90)
    (hQ : ∀ h' tk' m' led', Fr h₀ L h' m' → TLoc nL c (wish ps g d).wishes x b sw g k m' → News h₀ L h' led' → St prog w led' c ((L + 1, oB) :: keep) (wish ps g d) → Q .next { s with heap := h', toks := tk' }) :
    wpAny (model prog w) ((AR dp fr gd un).deeper (runEnv L)) (execs st6f.1.2.2.1 (runEnv L)) Q E s := by
  obtain ⟨e, he, hde⟩ : ∃ e : Fin 4, (0 < n → n = (e.val : Int) + 1) ∧ ((0 < n ∧ d = some e) ∨ (¬ 0 < n ∧ d = none)) := by
    cases d with
    | none => exact ⟨0, (by intro h; rw [hn] at h; cases h), .inr ⟨by rw [hn]; decide, rfl⟩⟩
    | some e => exact ⟨e, fun _ => hn, .inl ⟨by rw [hn]; show (0 : Int) < e.val + 1; omega, rfl⟩⟩
  obtain ⟨t1, t2, t3, t4, t5, t6, mm, hm⟩ := hl
  have hl' : TLoc nL c ps.wishes x b sw g k m := ⟨t1, t2, t3, t4, t5, t6, mm, hm⟩
  obtain ⟨mm, hm⟩ : ∃ mm : Str → Option Value, m = fun y => if y = Str.ofString "digit" then some (.int n td) else if y = Str.ofString "numbers" then some (.ref nL) else if y = Str.ofString "book" then some (.ref c.aK) else if y = Str.ofString "mails" then some (.ref c.lM) else if y = Str.ofString "debts" then some (.ref c.dD) else if y = Str.ofString "wishes" then some (.int ps.wishes t1) else
    if y = Str.ofString "x" then some (.int x t2) else if y = Str.ofString "writer" then some (.str (nm sw) t3) else if y = Str.ofString "getter" then some (.str (nm g) t4) else if y = Str.ofString "word" then some (.str (wd k) t5) else if y = Str.ofString "before" then some (.int b t6) else mm y := ⟨mm, funext fun _ => at_if hd fun _ => by rw [hm]⟩
  clear hd
  subst hm
  have X' := X₀
  have T' := T
  walk_at "MY facts"
  obtain ⟨hsz1, hsz2, hsz3⟩ := hsz
  dsimp only [runEnv, runDef, st6f]
  (with_reducible show wpAny _ _ _ _ _ _)
  k_steps
  · rename St _ _ _ _ _ _ => kS
    rename ps.wishes < 6 => hw
    rcases hde with ⟨h0, rfl⟩ | ⟨h0, rfl⟩
    · have e1 : wish ps g (some e) = ⟨ps.mails ++ [(g, e, true)], ps.busy, ps.book ++ [(g, true)], putd ps.debts g ((ps.debts.lookup g).getD 0 + 1), ps.wishes + 1⟩ := if_pos hw
      rw [e1] at hQ
      exact hQ _ _ _ _ (by assumption) (TLoc.intro rfl rfl rfl rfl rfl rfl rfl rfl rfl rfl) (by assumption) (St.set_wishes kS)
    · exact absurd (by assumption) h0
  · rename St _ _ _ _ _ _ => kS
    rename ¬ ps.wishes < 6 => hw
    rcases hde with ⟨h0, rfl⟩ | ⟨h0, rfl⟩
    · have e1 : wish ps g (some e) = ps := if_neg hw
      rw [e1] at hQ
      exact hQ _ _ _ _ (by assumption) hl' (by assumption) kS
    · exact hQ _ _ _ _ (by assumption) hl' (by assumption) kS
  · rename St _ _ _ _ _ _ => kS
    rcases hde with ⟨h0, rfl⟩ | ⟨h0, rfl⟩
    · exact absurd h0 (by assumption)
    · exact hQ _ _ _ _ (by assumption) hl' (by assumption) kS
end
section
variable {prog : Program} {w : World} {led keep : List (Addr × Obj)} {c : Ad} {s : PS}
theorem St.fresh {a : Addr} (S : St prog w led c keep s) (h : ∀ p ∈ led, p.1 ≠ a) : a ≠ c.lB ∧ a ≠ c.lK ∧ a ≠ c.lM ∧ a ≠ c.dD := by
  obtain ⟨_, _, h1, _⟩ := S.bl
  obtain ⟨_, _, h2, _⟩ := S.kl
  obtain ⟨_, _, h3, _⟩ := S.ml
  obtain ⟨_, _, h4, _⟩ := S.dd
  exact ⟨Ne.symm (h _ h1), Ne.symm (h _ h2), Ne.symm (h _ h3), Ne.symm (h _ h4)⟩
theorem St.rekeep {keep' : List (Addr × Obj)} (S : St prog w led c keep s) (h : ∀ p ∈ keep', p ∈ keep ∨ (p ∈ led ∧ p.1 ≠ c.lB ∧ p.1 ≠ c.lK ∧ p.1 ≠ c.lM ∧ p.1 ≠ c.dD)) : St prog w led c keep' s :=
  ⟨S.bi, S.bd, S.bl, S.ki, S.kd, S.kl, S.ml, S.dd, S.lo, S.ne, fun p hp => (h p hp).elim (S.kp p) id⟩
theorem St.keep2 {e1 e2 : Addr × Obj} (S : St prog w led c (e1 :: keep) s) (hm : e2 ∈ led) (h : e2.1 ≠ c.lB ∧ e2.1 ≠ c.lK ∧ e2.1 ≠ c.lM ∧ e2.1 ≠ c.dD) : St prog w led c (e1 :: e2 :: keep) s :=
  S.rekeep fun p hp => by
    rcases List.mem_cons.mp hp with rfl | hp
    · exact .inl (.head _)
    · rcases List.mem_cons.mp hp with rfl | hp
      · exact .inr ⟨hm, h⟩
      · exact .inl (.tail _ hp)
theorem St.drop2 {e1 e2 : Addr × Obj} (S : St prog w led c (e1 :: e2 :: keep) s) : St prog w led c (e1 :: keep) s :=
  S.unkeep fun p hp => by
    rcases List.mem_cons.mp hp with rfl | hp
    · exact .head _
    · exact .tail _ (.tail _ hp)
end
theorem fmod5 (n : Int) : n.fmod 5 = 0 ∨ n.fmod 5 = 1 ∨ n.fmod 5 = 2 ∨ n.fmod 5 = 3 ∨ n.fmod 5 = 4 := by
  have h1 := Int.fmod_nonneg_of_pos n (show (0 : Int) < 5 by decide)
  have h2 := Int.fmod_lt_of_pos n (show (0 : Int) < 5 by decide)
  omega
noncomputable def dgt (n : Int) : Option (Fin 4) := if n.fmod 5 = 1 then some 0 else if n.fmod 5 = 2 then some 1 else if n.fmod 5 = 3 then some 2 else if n.fmod 5 = 4 then some 3 else none
theorem dv_dgt (n : Int) : n.fmod 5 = dv (dgt n) := by
  unfold dgt
  rcases fmod5 n with e | e | e | e | e <;> rw [e] <;> rfl
theorem wish_len (ps : PS) (g : Fin 4) (d : Option (Fin 4)) : (wish ps g d).mails.length ≤ ps.mails.length + 1 ∧ (wish ps g d).book.length ≤ ps.book.length + 1 ∧ (wish ps g d).debts.length ≤ ps.debts.length + 1 ∧ (wish ps g d).busy = ps.busy := by
  unfold wish
  cases d with
  | none => exact ⟨Nat.le_succ _, Nat.le_succ _, Nat.le_succ _, rfl⟩
  | some e =>
    dsimp only
    split
    · refine ⟨by simp, by simp, ?_, rfl⟩
      show (putd ps.debts g _).length ≤ _
      unfold putd
      split
      · rw [List.length_map]; omega
      · simp
    · exact ⟨by omega, by omega, by omega, rfl⟩
section
variable {prog : Program} {w : World} {dp un : Nat} {fr : Option (List Env)} {gd : Option (List Code)} {s : Shared} {h₀ : Heap} {L : Addr} {m mg mb : Str → Option Value} {led keep : List (Addr × Obj)} {p : Program} {loose : List Str} {mean : ExcName → Option Value}
    {Q : Flow → Shared → Prop} {c : Ad} {ps : PS} {nL : Addr} {x b : Int} {oB : Obj} {sw g : Fin 4} {k : Bool}
noncomputable def wishN (ps : PS) (g : Fin 4) (d1 d2 : Option (Fin 4)) : Nat → PS
  | 0 => ps
  | 1 => wish ps g d1
  | _ => wish (wish ps g d1) g d2
theorem for_dig {d1 d2 : Option (Fin 4)} {n1 n2 : Int} {u1 u2 : Tok} {lD : Addr} {kk : Nat} (e1 : n1 = dv d1) (e2 : n2 = dv d2) (F : Fr h₀ L s.heap m) (X₀ : (hd.heap_39 w.params).In h₀) (N : News h₀ L s.heap ((lD, listOf #[.int n1 u1, .int n2 u2] kk) :: led)) (T : Top p loose mean mg mb h₀) (hroom : dp < 600)
    (hlt : ∀ p ∈ led, p.1 ≠ lD) (S : St prog w led c ((L + 1, oB) :: keep) ps) (hB : oB.data = .cell (some (.ref c.aB)))
    (hl : TLoc nL c ps.wishes x b sw g k m) (hsz : ps.mails.length ≤ 85 ∧ ps.book.length ≤ 85 ∧ ps.debts.length ≤ 85)
    (done : ∀ h' tk' m' led', Fr h₀ L h' m' → TLoc nL c (wish (wish ps g d1) g d2).wishes x b sw g k m' → News h₀ L h' led' → St prog w led' c ((L + 1, oB) :: keep) (wish (wish ps g d1) g d2) → Q .next { s with heap := h', toks := tk' }) :
    wpAny (model prog w) ((AR dp fr gd un).deeper (runEnv L)) (pyIter (.ref lD)) (Turns prog w ((AR dp fr gd un).deeper (runEnv L)) st6f.1.1 st6f.1.2.2.1 (runEnv L) Q) NoE s := by
  have hlen : ∀ i, (wishN ps g d1 d2 i).mails.length ≤ 90 ∧ (wishN ps g d1 d2 i).book.length ≤ 90 ∧ (wishN ps g d1 d2 i).debts.length ≤ 90 := by
    have h1 := wish_len ps g d1
    have h2 := wish_len (wish ps g d1) g d2
    intro i
    rcases i with _ | _ | i
    · show ps.mails.length ≤ 90 ∧ ps.book.length ≤ 90 ∧ ps.debts.length ≤ 90; omega
    · show (wish ps g d1).mails.length ≤ 90 ∧ (wish ps g d1).book.length ≤ 90 ∧ (wish ps g d1).debts.length ≤ 90; omega
    · show (wish (wish ps g d1) g d2).mails.length ≤ 90 ∧ (wish (wish ps g d1) g d2).book.length ≤ 90 ∧ (wish (wish ps g d1) g d2).debts.length ≤ 90; omega
  have hF := S.fresh hlt
  have S0 : St prog w ((lD, listOf #[.int n1 u1, .int n2 u2] kk) :: led) c ((L + 1, oB) :: (lD, listOf #[.int n1 u1, .int n2 u2] kk) :: keep) ps := S.skip.keep2 (.head _) hF
  refine for_list (vs := [.int n1 u1, .int n2 u2]) (fun i m₁ led₁ gs => gs = s.gens ∧ TLoc nL c (wishN ps g d1 d2 i).wishes x b sw g k m₁ ∧ St prog w led₁ c ((L + 1, oB) :: (lD, listOf #[.int n1 u1, .int n2 u2] kk) :: keep) (wishN ps g d1 d2 i) ∧ ∀ p ∈ led₁, p.1 ≠ s.heap.objs.size) rfl F N ⟨_, (N _ (.head _)).1, rfl, _, rfl⟩
    ⟨rfl, hl, S0, fun p hp => Nat.ne_of_lt (Heap.lt_size (N p hp).1)⟩ ?_ ?_ ?_ ?_
  · rintro i m₁ led₁ gs h ⟨rfl, _, S₁, _⟩ _ N₁
    exact ⟨_, (N₁ _ (S₁.kp _ (.tail _ (.head _))).1).1, rfl, _, rfl⟩
  · rintro i m₁ led₁ gs ⟨_, _, _, h⟩
    exact h
  · rintro i v o m₁ led₁ gs h tk hv ⟨rfl, hl₁, S₁, hoff⟩ hO F₁ N₁
    have hd : ∃ d n u, v = .int n u ∧ n = dv d ∧ wishN ps g d1 d2 (i + 1) = wish (wishN ps g d1 d2 i) g d := by
      rcases i with _ | _ | i
      · simp at hv; exact ⟨d1, n1, u1, hv.symm, e1, rfl⟩
      · simp at hv; exact ⟨d2, n2, u2, hv.symm, e2, rfl⟩
      · simp at hv
    obtain ⟨d, n, u, rfl, hn, hw⟩ := hd
    have hF₁ := S₁.fresh hoff
    have S₂ : St prog w ((s.heap.objs.size, o) :: led₁) c ((L + 1, oB) :: (s.heap.objs.size, o) :: (lD, listOf #[.int n1 u1, .int n2 u2] kk) :: keep) (wishN ps g d1 d2 i) := S₁.skip.keep2 (.head _) hF₁
    refine wpAny_pure ?_
    refine wpAny_assign_Name (storeX_L F₁ N₁ fun h' F' N' => ?_)
    have hl₂ : TLoc nL c (wishN ps g d1 d2 i).wishes x b sw g k (fun y => if y = Str.ofString "digit" then some (.int n u) else m₁ y) := by
      obtain ⟨t1, t2, t3, t4, t5, t6, mm, rfl⟩ := hl₁
      exact TLoc.intro rfl rfl rfl rfl rfl rfl rfl rfl rfl rfl
    refine dig (s := ⟨h', s.gens, s.drawn, _, s.os⟩) hn F' X₀ N' T hroom S₂ hB hl₂ rfl (hlen i) fun h₃ tk₃ m₃ led₃ F₃ hl₃ N₃ S₃ => ?_
    have hmem := (S₃.kp _ (.tail _ (.head _))).1
    rw [← hw] at S₃ hl₃
    refine ⟨h₃, tk₃, _, m₃, offA s.heap.objs.size led₃, rfl, F₃, ?_, rfl, hl₃, ?_, fun p hp => (offA_mem.mp hp).2⟩
    · refine News.sub N₃ fun p hp => ?_
      rcases List.mem_cons.mp hp with rfl | hp
      · exact hmem
      · exact (offA_mem.mp hp).1
    · refine (S₃.drop2).off N₃ hmem hO.1 hF₁ fun p hp => ?_
      rcases List.mem_cons.mp hp with rfl | hp
      · exact hoff _ (S₁.kp _ (.head _)).1
      · rcases List.mem_cons.mp hp with rfl | hp
        · exact hoff _ (S₁.kp _ (.tail _ (.head _))).1
        · exact hoff _ (S₁.kp _ (.tail _ (.tail _ hp))).1
  · rintro m₁ led₁ gs h tk ⟨rfl, hl₁, S₁, _⟩ F₁ N₁
    exact done h tk m₁ led₁ F₁ hl₁ N₁ S₁.drop2
end
noncomputable def lay (ps : PS) (g w : Fin 4) : PS := if g = 0 then ps else match ps.busy.lookup g with
  | some _ => ps
  | none => { ps with busy := ps.busy ++ [(g, w)] }
theorem busy_snoc {b : List (Fin 4 × Fin 4)} {g w : Fin 4} (h : b.lookup g = none) : (b ++ [(g, w)]).lookup g = some w := by
  induction b with
  | nil => simp [List.lookup_cons]
  | cons q r ih =>
    obtain ⟨i, y⟩ := q
    rw [List.cons_append, List.lookup_cons]
    rw [List.lookup_cons] at h
    by_cases e : g == i
    · rw [e] at h; cases h
    · simp only [Bool.not_eq_true] at e
      rw [e] at h ⊢
      exact ih h
section
variable {prog : Program} {w : World} {dp un : Nat} {fr : Option (List Env)} {gd : Option (List Code)} {s : Shared} {h₀ : Heap} {L : Addr} {m mg mb : Str → Option Value} {led keep : List (Addr × Obj)} {p : Program} {loose : List Str} {mean : ExcName → Option Value}
    {Q : Flow → Shared → Prop} {E : Value → Shared → Prop} {c : Ad} {ps : PS} {nL : Addr} {x b : Int} {oB : Obj} {sw g : Fin 4} {rest : List Stmt}
-- the first statement under the wish: the getter is laid in
noncomputable def st6a : { q : Stmt // st6w.1.2.1 = q } := ⟨_, rfl⟩
noncomputable def st6c : { q : Stmt // st6w.1.2.2.2.1 = q } := ⟨_, rfl⟩
noncomputable def st6d : { q : List Stmt // st6w.1.2.2.2.2.1 = q } := ⟨_, rfl⟩
set_option maxHeartbeats 800000 in
theorem stmt6a (F : Fr h₀ L s.heap m) (X₀ : (hd.heap_39 w.params).In h₀) (N : News h₀ L s.heap led) (T : Top p loose mean mg mb h₀) (hroom : dp < 600) (S : St prog w led c ((L + 1, oB) :: keep) ps) (hB : oB.data = .cell (some (.ref c.aB)))
    (hl : TLoc nL c ps.wishes x b sw g true m) (hsz : ps.busy.length ≤ 90)
    (hK : ∀ h' tk' led', Fr h₀ L h' m → News h₀ L h' led' → St prog w led' c ((L + 1, oB) :: keep) (lay ps g sw) → wpAny (model prog w) ((AR dp fr gd un).deeper (runEnv L)) (execs rest (runEnv L)) Q E { s with heap := h', toks := tk' }) :
    wpAny (model prog w) ((AR dp fr gd un).deeper (runEnv L)) (execs (st6a.1 :: rest) (runEnv L)) Q E s := by
  obtain ⟨t1, t2, t3, t4, t5, t6, mm, hm⟩ := hl
  subst hm
  have X' := X₀
  have T' := T
  walk_at "MY facts"
  by_cases hg : g = 0
  · have hne : (nm g != Str.ofString ".") = false := eq_lists (by subst hg; rfl)
    have e0 : lay ps g sw = ps := if_pos hg
    rw [e0] at hK
    dsimp only [runEnv, runDef, st6a, st6w]
    (with_reducible show wpAny _ _ _ _ _ _)
    k_steps
    exact hK _ _ _ (by assumption) (by assumption) (by assumption)
  · have hne : (nm g != Str.ofString ".") = true := ne_lists fun e => hg (nm_inj g 0 e)
    cases hlk : ps.busy.lookup g with
    | some y =>
      have e0 : lay ps g sw = ps := by unfold lay; rw [if_neg hg, hlk]
      rw [e0] at hK
      dsimp only [runEnv, runDef, st6a, st6w]
      (with_reducible show wpAny _ _ _ _ _ _)
      k_steps
      exact hK _ _ _ (by assumption) (by assumption) (by assumption)
    | none =>
      have e0 : lay ps g sw = { ps with busy := ps.busy ++ [(g, sw)] } := by unfold lay; rw [if_neg hg, hlk]
      have hlk2 := busy_snoc (w := sw) hlk
      rw [e0] at hK
      dsimp only [runEnv, runDef, st6a, st6w]
      (with_reducible show wpAny _ _ _ _ _ _)
      k_steps
      exact hK _ _ _ (by assumption) (by assumption) (by assumption)
end
theorem eq_of {prog : Program} {w : World} {A : Around} {E : Value → Shared → Prop} {s : Shared} {x y : Str} {t u : Tok} {Q : Value → Shared → Prop} {b : Bool} (hb : (x == y) = b) (h : Q (.bool b) s) : wpAny (model prog w) A (compareOp .Eq (.str x t) (.str y u)) Q E s := eq_str (hb ▸ h)
section
variable {prog : Program} {w : World} {dp un : Nat} {fr : Option (List Env)} {gd : Option (List Code)} {s : Shared} {h₀ : Heap} {L : Addr} {m mg mb : Str → Option Value} {led keep : List (Addr × Obj)} {p : Program} {loose : List Str} {mean : ExcName → Option Value}
    {Q : Flow → Shared → Prop} {E : Value → Shared → Prop} {c : Ad} {ps : PS} {nL : Addr} {x b : Int} {oB : Obj} {sw g : Fin 4} {k : Bool} {rest : List Stmt}
noncomputable def st6b : { q : Stmt // st6w.1.2.2.1 = q } := ⟨_, rfl⟩
noncomputable def d1of (x : Int) : Option (Fin 4) := dgt (x.fdiv 12)
noncomputable def d2of (x : Int) : Option (Fin 4) := dgt (x.fdiv 60)
local macro_rules | `(tactic| walk_at "MY rows") => `(tactic| (k_dflt (refine' for_dig (dv_dgt _) (dv_dgt _) ?cF ?cX ?cN ?cT ?cd ?cl ?cS ?cB ?ch ?cz ?_; (case cF => assumption); (case cX => assumption); (case cN => assumption); (case cT => assumption); (case cd => assumption); (case cl => first | exact allLt_ne (by assumption) | exact lt_all_ne (by assumption)); (case cS => walk_at "MY st"); (case cB => assumption); (case ch => exact TLoc.intro rfl rfl rfl rfl rfl rfl rfl rfl rfl rfl); (case cz => assumption); intro h' tk' m' led' F' hl' N' S')))
set_option maxHeartbeats 800000 in
theorem stmt6b (F : Fr h₀ L s.heap m) (X₀ : (hd.heap_39 w.params).In h₀) (N : News h₀ L s.heap led) (T : Top p loose mean mg mb h₀) (hroom : dp < 600) (S : St prog w led c ((L + 1, oB) :: keep) ps) (hB : oB.data = .cell (some (.ref c.aB)))
    (hl : TLoc nL c ps.wishes x b sw g k m) (hsz : ps.mails.length ≤ 85 ∧ ps.book.length ≤ 85 ∧ ps.debts.length ≤ 85)
    (hK : ∀ h' tk' m' led', Fr h₀ L h' m' → TLoc nL c (wish (wish ps g (d1of x)) g (d2of x)).wishes x b sw g k m' → News h₀ L h' led' → St prog w led' c ((L + 1, oB) :: keep) (wish (wish ps g (d1of x)) g (d2of x)) → wpAny (model prog w) ((AR dp fr gd un).deeper (runEnv L)) (execs rest (runEnv L)) Q E { s with heap := h', toks := tk' }) :
    wpAny (model prog w) ((AR dp fr gd un).deeper (runEnv L)) (execs (st6b.1 :: rest) (runEnv L)) Q E s := by
  obtain ⟨t1, t2, t3, t4, t5, t6, mm, hm⟩ := hl
  subst hm
  have X' := X₀
  have T' := T
  walk_at "MY facts"
  dsimp only [runEnv, runDef, st6b, st6w]
  (with_reducible show wpAny _ _ _ _ _ _)
  k_steps
  exact hK _ _ _ _ (by assumption) (by assumption) (by assumption) (by assumption)
set_option maxHeartbeats 800000 in
theorem stmt6c (F : Fr h₀ L s.heap m) (X₀ : (hd.heap_39 w.params).In h₀) (N : News h₀ L s.heap led) (T : Top p loose mean mg mb h₀) (hroom : dp < 600) (S : St prog w led c ((L + 1, oB) :: keep) ps) (hB : oB.data = .cell (some (.ref c.aB)))
    (hl : TLoc nL c ps.wishes x b sw g k m) (hsz : ps.mails.length ≤ 90 ∧ ps.busy.length ≤ 90)
    (hK : ∀ h' tk' led', Fr h₀ L h' m → News h₀ L h' led' → St prog w led' c ((L + 1, oB) :: keep) (if (ps.busy.length : Int) = b then { ps with mails := ps.mails ++ [(g, sw, false)] } else ps) → wpAny (model prog w) ((AR dp fr gd un).deeper (runEnv L)) (execs rest (runEnv L)) Q E { s with heap := h', toks := tk' }) :
    wpAny (model prog w) ((AR dp fr gd un).deeper (runEnv L)) (execs (st6c.1 :: rest) (runEnv L)) Q E s := by
  obtain ⟨t1, t2, t3, t4, t5, t6, mm, hm⟩ := hl
  subst hm
  have X' := X₀
  have T' := T
  obtain ⟨hsz1, hsz2⟩ := hsz
  walk_at "MY facts"
  dsimp only [runEnv, runDef, st6c, st6w]
  (with_reducible show wpAny _ _ _ _ _ _)
  k_steps
  · have e : (ps.busy.length : Int) = b := by first | assumption | exact beq_iff_eq.mp (by assumption) | exact of_decide_eq_true (by assumption)
    rw [if_pos e] at hK
    exact hK _ _ _ (by assumption) (by assumption) (by assumption)
  · have e : ¬ (ps.busy.length : Int) = b := by first | assumption | exact beq_eq_false_iff_ne.mp (by assumption) | exact of_decide_eq_false (by assumption)
    rw [if_neg e] at hK
    exact hK _ _ _ (by assumption) (by assumption) (by assumption)
end
noncomputable def pay (ps : PS) (g : Fin 4) : PS :=
  { ps with debts := (if (ps.debts.lookup g).getD 0 - 1 = 0 then deld (putd ps.debts g ((ps.debts.lookup g).getD 0 - 1)) g else putd ps.debts g ((ps.debts.lookup g).getD 0 - 1)), book := ps.book ++ [(g, false)] }
theorem map_lookup {g : Fin 4} {n : Int} : ∀ {ds : List (Fin 4 × Int)}, ds.any (fun p => p.1 == g) = true → (ds.map fun p => if p.1 = g then (p.1, n) else p).lookup g = some n
  | [], h => by cases h
  | (i, y) :: r, h => by
    rw [List.map_cons]
    by_cases e : i = g
    · subst e
      rw [if_pos rfl, List.lookup_cons]
      simp
    · rw [if_neg e, List.lookup_cons]
      have e' : (g == i) = false := by simp; exact fun q => e q.symm
      rw [e']
      refine map_lookup ?_
      rw [List.any_cons] at h
      have : ((i, y).1 == g) = false := by simp; exact e
      rw [this] at h
      simpa using h
theorem snoc_lookup {g : Fin 4} {n : Int} : ∀ {ds : List (Fin 4 × Int)}, ds.any (fun p => p.1 == g) = false → (ds ++ [(g, n)]).lookup g = some n
  | [], h => by simp [List.lookup_cons]
  | (i, y) :: r, h => by
    rw [List.any_cons] at h
    have h1 : (i == g) = false := by revert h; cases (i == g) <;> simp
    have h2 : r.any (fun p => p.1 == g) = false := by revert h; cases r.any (fun p => p.1 == g) <;> simp
    have e' : (g == i) = false := by simp at h1 ⊢; exact fun q => h1 q.symm
    rw [List.cons_append, List.lookup_cons, e']
    exact snoc_lookup h2
theorem put_lookup (ds : List (Fin 4 × Int)) (g : Fin 4) (n : Int) : (putd ds g n).lookup g = some n := by
  unfold putd
  by_cases h : ds.any (fun p => p.1 == g) = true
  · rw [if_pos h]; exact map_lookup h
  · rw [if_neg h]; exact snoc_lookup (eq_false_of_ne_true h)
section
variable {prog : Program} {w : World} {dp un : Nat} {fr : Option (List Env)} {gd : Option (List Code)} {s : Shared} {h₀ : Heap} {L : Addr} {m mg mb : Str → Option Value} {led keep : List (Addr × Obj)} {p : Program} {loose : List Str} {mean : ExcName → Option Value}
    {Q : Flow → Shared → Prop} {E : Value → Shared → Prop} {c : Ad} {ps : PS} {nL : Addr} {x b : Int} {oB : Obj} {sw g : Fin 4} {k : Bool} {rest : List Stmt}
theorem putd_len (ds : List (Fin 4 × Int)) (g : Fin 4) (n : Int) : (putd ds g n).length ≤ ds.length + 1 := by
  unfold putd
  split
  · rw [List.length_map]; omega
  · simp
local macro_rules | `(tactic| walk_at "setItem") => `(tactic| (k_here; k_dflt (refine' dset ?cF ?cN ?cS ?cz ?_; (case cF => assumption); (case cN => assumption); (case cS => walk_at "MY st"); (case cz => walk_at "MY size"); intro h' k' led' F' N' S'; walk_at "MY facts")))
local macro_rules | `(tactic| walk_at "subscriptTail") => `(tactic| (k_here; k_dflt (refine' dget_item ?cN ?cS ?cl ?_; (case cN => assumption); (case cS => walk_at "MY st"); (case cl => with_reducible assumption); intro k' u')))
local macro_rules | `(tactic| walk_at "getItem ref str") => `(tactic| (k_here; k_dflt (refine' dget_item' ?cN ?cS ?cl ?_; (case cN => assumption); (case cS => walk_at "MY st"); (case cl => with_reducible assumption); intro k' u')))
local macro_rules | `(tactic| walk_at "delItem ref str") => `(tactic| (k_here; k_dflt (refine' ddel ?cF ?cN ?cS ?cl ?cz ?_; (case cF => assumption); (case cN => assumption); (case cS => walk_at "MY st"); (case cl => with_reducible assumption); (case cz => walk_at "MY size"); intro h' k' led' F' N' S'; walk_at "MY facts")))
set_option maxHeartbeats 1600000 in
theorem stmt6d {n : Int} (F : Fr h₀ L s.heap m) (X₀ : (hd.heap_39 w.params).In h₀) (N : News h₀ L s.heap led) (T : Top p loose mean mg mb h₀) (hroom : dp < 600) (S : St prog w led c ((L + 1, oB) :: keep) ps) (hB : oB.data = .cell (some (.ref c.aB)))
    (hl : TLoc nL c ps.wishes x b sw g k m) (hsz : ps.debts.length ≤ 90 ∧ ps.book.length ≤ 90) (hn : ps.debts.lookup g = some n)
    (hQ : ∀ h' tk' led', Fr h₀ L h' m → News h₀ L h' led' → St prog w led' c ((L + 1, oB) :: keep) (pay ps g) → Q .next { s with heap := h', toks := tk' }) :
    wpAny (model prog w) ((AR dp fr gd un).deeper (runEnv L)) (execs st6d.1 (runEnv L)) Q E s := by
  obtain ⟨t1, t2, t3, t4, t5, t6, mm, hm⟩ := hl
  subst hm
  have X' := X₀
  have T' := T
  obtain ⟨hsz1, hsz2⟩ := hsz
  walk_at "MY facts"
  have hput := put_lookup ps.debts g (n - 1)
  have hpl := putd_len ps.debts g (n - 1)
  have hpay : pay ps g = { ps with debts := (if n - 1 = 0 then deld (putd ps.debts g (n - 1)) g else putd ps.debts g (n - 1)), book := ps.book ++ [(g, false)] } := by
    unfold pay; rw [hn]; rfl
  rw [hpay] at hQ
  clear hpay
  dsimp only [runEnv, runDef, st6d, st6w]
  (with_reducible show wpAny _ _ _ _ _ _)
  k_steps
  · have e : n - 1 = 0 := by first | assumption | exact beq_iff_eq.mp (by assumption) | exact of_decide_eq_true (by assumption)
    rw [if_pos e] at hQ
    exact hQ _ _ _ (by assumption) (by assumption) (by assumption)
  · have e : ¬ n - 1 = 0 := by first | assumption | exact beq_eq_false_iff_ne.mp (by assumption) | exact of_decide_eq_false (by assumption)
    rw [if_neg e] at hQ
    exact hQ _ _ _ (by assumption) (by assumption) (by assumption)
end
noncomputable def rest7 (ps : PS) (g : Fin 4) : PS := match ps.busy.lookup g with
  | none => ps
  | some y => if bal (bk ps.book g) = 0 then { ps with mails := ps.mails ++ [(g, y, false)], busy := delB ps.busy g } else ps
section
variable {prog : Program} {w : World} {dp un : Nat} {fr : Option (List Env)} {gd : Option (List Code)} {s : Shared} {h₀ : Heap} {L : Addr} {m mg mb : Str → Option Value} {led keep : List (Addr × Obj)} {p : Program} {loose : List Str} {mean : ExcName → Option Value}
    {Q : Flow → Shared → Prop} {E : Value → Shared → Prop} {c : Ad} {ps : PS} {nL : Addr} {x b : Int} {oB : Obj} {sw g : Fin 4} {k : Bool} {rest : List Stmt}
local macro_rules | `(tactic| walk_at "delItem ref str") => `(tactic| (k_here; k_dflt (refine' bdel ?cF ?cX ?cN ?cT ?cd ?cS ?cl ?cz ?_; (case cF => assumption); (case cX => assumption); (case cN => assumption); (case cT => assumption); (case cd => walk_at "MY room"); (case cS => walk_at "MY st"); (case cl => walk_at "MY low"); (case cz => walk_at "MY size"); intro h' k' led' F' N' S'; walk_at "MY facts")))
set_option maxHeartbeats 1600000 in
theorem stmt7 (F : Fr h₀ L s.heap m) (X₀ : (hd.heap_39 w.params).In h₀) (N : News h₀ L s.heap led) (T : Top p loose mean mg mb h₀) (hroom : dp < 600) (S : St prog w led c ((L + 1, oB) :: keep) ps) (hB : oB.data = .cell (some (.ref c.aB)))
    (hl : TLoc nL c ps.wishes x b sw g k m) (hsz : ps.mails.length ≤ 90 ∧ ps.book.length ≤ 90 ∧ ps.busy.length ≤ 90) (hpos : Pos (bk ps.book g))
    (hK : ∀ h' tk' gs led', GensOk s.gens gs → Fr h₀ L h' m → News h₀ L h' led' → St prog w led' c ((L + 1, oB) :: keep) (rest7 ps g) → wpAny (model prog w) ((AR dp fr gd un).deeper (runEnv L)) (execs rest (runEnv L)) Q E { s with heap := h', gens := gs, toks := tk' }) :
    wpAny (model prog w) ((AR dp fr gd un).deeper (runEnv L)) (execs (st7.1 :: rest) (runEnv L)) Q E s := by
  obtain ⟨t1, t2, t3, t4, t5, t6, mm, hm⟩ := hl
  subst hm
  have X' := X₀
  have T' := T
  obtain ⟨hsz1, hsz2, hsz3⟩ := hsz
  walk_at "MY facts"
  cases hlk : ps.busy.lookup g with
  | none =>
    have e0 : rest7 ps g = ps := by unfold rest7; rw [hlk]
    rw [e0] at hK
    dsimp only [runEnv, runDef, st7]
    (with_reducible show wpAny _ _ _ _ _ _)
    k_steps
    exact hK _ _ _ _ (GensOk.refl _) (by assumption) (by assumption) (by assumption)
  | some y =>
    have e0 : rest7 ps g = if bal (bk ps.book g) = 0 then { ps with mails := ps.mails ++ [(g, y, false)], busy := delB ps.busy g } else ps := by unfold rest7; rw [hlk]
    rw [e0] at hK
    dsimp only [runEnv, runDef, st7]
    (with_reducible show wpAny _ _ _ _ _ _)
    k_steps
    · have e : bal (bk ps.book g) = 0 := by first | assumption | exact beq_iff_eq.mp (by assumption) | exact of_decide_eq_true (by assumption)
      rw [if_pos e] at hK
      exact hK _ _ _ _ (by assumption) (by assumption) (by assumption) (by assumption)
    · have e : ¬ bal (bk ps.book g) = 0 := by first | assumption | exact beq_eq_false_iff_ne.mp (by assumption) | exact of_decide_eq_false (by assumption)
      rw [if_neg e] at hK
      exact hK _ _ _ _ (by assumption) (by assumption) (by assumption) (by assumption)
end
theorem ks_canLayAll0 : ∀ ns : List Str, (∀ x ∈ ns, PyData.strOk x = true) → PyData.canLayAll0 (ns.map PyData.str) = true
  | [], _ => rfl
  | y :: r, h => by simp [PyData.canLayAll0, PyData.canLay0, ks_canLayAll0 r (fun x hx => h x (.tail _ hx)), h y (.head _)]
theorem ks_depthAll : ∀ ns : List Str, PyData.depthAll (ns.map PyData.str) = 0
  | [] => rfl
  | _ :: r => by simp [PyData.depthAll, PyData.depth, ks_depthAll r]
theorem ks_shaped (ns : List Str) (h : ∀ x ∈ ns, PyData.strOk x = true) : SeqAt.shaped (.list (ns.map PyData.str)) = true := by
  simp [SeqAt.shaped, PyData.canLay0, PyData.depth, ks_canLayAll0 ns h, ks_depthAll]
theorem ks_sameAll : ∀ ns ms : List Str, PySem.Spec.sameAll (ns.map PyData.str) (ms.map PyData.str) = decide (ns = ms)
  | [], [] => by simp [PySem.Spec.sameAll]
  | [], _ :: _ => by simp [PySem.Spec.sameAll]
  | _ :: _, [] => by simp [PySem.Spec.sameAll]
  | a :: r, b :: t => by
    simp only [List.map_cons, PySem.Spec.sameAll, PySem.Spec.same, ks_sameAll r t]
    by_cases h : a = b <;> by_cases h' : r = t <;> simp [h, h']
theorem ks_same (ns ms : List Str) : PySem.Spec.same (.list (ns.map PyData.str)) (.list (ms.map PyData.str)) = decide (ns = ms) := by
  simp only [PySem.Spec.same]; exact ks_sameAll ns ms
theorem ks_carried : ∀ {vs : List Value} {ns : List Str}, StrsAre vs ns → CarriedAll vs (ns.map PyData.str)
  | _, _, .nil => .nil
  | _, _, .cons _ t r => .cons (.str _ t) (ks_carried r)
section
variable {prog : Program} {w : World} {A : Around} {E : Value → Shared → Prop} {s : Shared} {a b : Addr} {xs ys : List Value} {ns ms : List Str} {Q : Value → Shared → Prop}
theorem ks_eq (ha : s.heap.IsList a xs.toArray) (hb : s.heap.IsList b ys.toArray) (hi : StrsAre xs ns) (hj : StrsAre ys ms) (oi : ∀ x ∈ ns, PyData.strOk x = true) (oj : ∀ x ∈ ms, PyData.strOk x = true) (hu : A.units + 64 < cLine) (h : Q (.bool (decide (ns = ms))) s) :
    wpAny (model prog w) A (compareOp .Eq (.ref a) (.ref b)) Q E s :=
  eq_dataH_same (reads_newData ha (ks_carried hi)) (reads_newData hb (ks_carried hj)) (ks_shaped _ oi) (ks_shaped _ oj) hu (SeqAt.noMix_of_shape (.list .str) rfl _ _ (list_map_has fun _ => rfl) (list_map_has fun _ => rfl)) (by rw [ks_same]; exact h)
theorem ks_ne (ha : s.heap.IsList a xs.toArray) (hb : s.heap.IsList b ys.toArray) (hi : StrsAre xs ns) (hj : StrsAre ys ms) (oi : ∀ x ∈ ns, PyData.strOk x = true) (oj : ∀ x ∈ ms, PyData.strOk x = true) (hu : A.units + 64 < cLine) (h : Q (.bool (!decide (ns = ms))) s) :
    wpAny (model prog w) A (compareOp .NotEq (.ref a) (.ref b)) Q E s :=
  ne_dataH_same (reads_newData ha (ks_carried hi)) (reads_newData hb (ks_carried hj)) (ks_shaped _ oi) (ks_shaped _ oj) hu (SeqAt.noMix_of_shape (.list .str) rfl _ _ (list_map_has fun _ => rfl) (list_map_has fun _ => rfl)) (by rw [ks_same]; exact h)
end
theorem wire_strOk : ∀ w g k, PyData.strOk (wire w g k) = true := by decide +kernel
theorem nm_strOk : ∀ i, PyData.strOk (nm i) = true := by decide +kernel
theorem units_AR {dp un : Nat} {fr : Option (List Env)} {gd : Option (List Code)} {env : Env} : ((AR dp fr gd un).deeper env).units = un + 3 := rfl
theorem room_un {dp un : Nat} {fr : Option (List Env)} {gd : Option (List Code)} {env : Env} (h : un < 5000) : ((AR dp fr gd un).deeper env).units + 64 < cLine := by
  rw [units_AR]; show _ < 9900; omega
section
variable {prog : Program} {w : World} {dp un : Nat} {fr : Option (List Env)} {gd : Option (List Code)} {s : Shared} {h₀ : Heap} {L : Addr} {led keep : List (Addr × Obj)} {Q E : Value → Shared → Prop} {c : Ad} {ps : PS} {env : Env} {l : Addr} {n : Nat}
theorem mails_nil (N : News h₀ L s.heap led) (S : St prog w led c keep ps) (hm : (l, listOf #[] n) ∈ led) (hun : un < 5000) (h : Q (.bool (decide (ps.mails = []))) s) :
    wpAny (model prog w) ((AR dp fr gd un).deeper env) (compareOp .Eq (.ref c.lM) (.ref l)) Q E s := by
  obtain ⟨vs, k, hl, hr⟩ := S.ml
  refine ks_eq (ys := []) ⟨_, (N _ hl).1, rfl, _, rfl⟩ ⟨_, (N _ hm).1, rfl, _, rfl⟩ hr .nil (fun x hx => ?_) (fun x hx => by cases hx) (room_un hun) ?_
  · obtain ⟨q, _, rfl⟩ := List.mem_map.mp hx
    exact wire_strOk _ _ _
  · have : decide (ps.mails.map mtxt = []) = decide (ps.mails = []) := by
      cases ps.mails <;> simp
    rw [this]
    exact h
end
section
local macro_rules | `(tactic| walk_at "compareOp Eq ref ref") => `(tactic| (k_here; k_dflt (refine' mails_nil ?cN ?cS ?cm ?cu ?_; (case cN => assumption); (case cS => walk_at "MY st"); (case cm => k_mem); (case cu => assumption))))
variable {prog : Program} {w : World} {dp un : Nat} {fr : Option (List Env)} {gd : Option (List Code)} {s : Shared} {h₀ : Heap} {L : Addr} {m mg mb : Str → Option Value} {led keep : List (Addr × Obj)} {p : Program} {loose : List Str} {mean : ExcName → Option Value}
    {Q : Flow → Shared → Prop} {E : Value → Shared → Prop} {c : Ad} {ps : PS} {nL : Addr} {x b : Int} {oB : Obj} {sw g : Fin 4} {k : Bool} {rest : List Stmt}
set_option maxHeartbeats 1600000 in
theorem stmt8 (F : Fr h₀ L s.heap m) (X₀ : (hd.heap_39 w.params).In h₀) (N : News h₀ L s.heap led) (T : Top p loose mean mg mb h₀) (hroom : dp < 600) (hun : un < 5000) (S : St prog w led c ((L + 1, oB) :: keep) ps) (hB : oB.data = .cell (some (.ref c.aB)))
    (h1 : m (Str.ofString "mails") = some (.ref c.lM)) (hsz : ps.mails.length ≤ 90 ∧ ps.busy.length ≤ 90)
    (hK : ∀ h' tk' b, b = decide (ps.mails = [] ∧ ps.busy = []) → Fr h₀ L h' (fun y => if y = Str.ofString "quiet" then some (.bool b) else m y) → News h₀ L h' led → wpAny (model prog w) ((AR dp fr gd un).deeper (runEnv L)) (execs rest (runEnv L)) Q E { s with heap := h', toks := tk' }) :
    wpAny (model prog w) ((AR dp fr gd un).deeper (runEnv L)) (execs (st8.1 :: rest) (runEnv L)) Q E s := by
  obtain ⟨mm, hm⟩ : ∃ mm : Str → Option Value, m = fun y => if y = Str.ofString "mails" then some (.ref c.lM) else mm y := ⟨m, funext fun _ => at_if h1 fun _ => rfl⟩
  clear h1
  subst hm
  have X' := X₀
  have T' := T
  obtain ⟨hsz1, hsz2⟩ := hsz
  walk_at "MY facts"
  dsimp only [runEnv, runDef, st8]
  (with_reducible show wpAny _ _ _ _ _ _)
  k_steps
  · refine hK _ _ _ ?_ (by assumption) (News.off (by assumption))
    have e : ps.mails = [] := by first | assumption | exact of_decide_eq_true (by assumption)
    rw [e]
    cases ps.busy <;> simp <;> omega
    done
  · refine hK _ _ _ ?_ (by assumption) (News.off (by assumption))
    have e : ¬ ps.mails = [] := by first | assumption | exact of_decide_eq_false (by assumption)
    simp [e]
    done
end
section
variable {prog : Program} {w : World} {dp un : Nat} {fr : Option (List Env)} {gd : Option (List Code)} {s : Shared} {h₀ : Heap} {L : Addr} {m mg mb : Str → Option Value} {led keep : List (Addr × Obj)} {p : Program} {loose : List Str} {mean : ExcName → Option Value}
    {Q : Flow → Shared → Prop} {E : Value → Shared → Prop} {c : Ad} {ps : PS} {nL : Addr} {x b : Int} {oB : Obj} {sw g : Fin 4} {k : Bool} {rest : List Stmt}
theorem ne_nil {Q E : Value → Shared → Prop} {env : Env} {a l : Addr} {n k : Nat} (N : News h₀ L s.heap led) (ha : (a, listOf #[] k) ∈ led) (hm : (l, listOf #[] n) ∈ led) (hun : un < 5000) (h : Q (.bool false) s) :
    wpAny (model prog w) ((AR dp fr gd un).deeper env) (compareOp .NotEq (.ref a) (.ref l)) Q E s :=
  ks_ne (xs := []) (ys := []) ⟨_, (N _ ha).1, rfl, _, rfl⟩ ⟨_, (N _ hm).1, rfl, _, rfl⟩ .nil .nil (fun x hx => by cases hx) (fun x hx => by cases hx) (room_un hun) h
section
local macro_rules | `(tactic| walk_at $_) => Lean.Macro.throwUnsupported
local macro_rules | `(tactic| walk_at $_) => Lean.Macro.throwUnsupported
local macro_rules | `(tactic| walk_at $_) => Lean.Macro.throwUnsupported
local macro_rules | `(tactic| walk_at $_) => Lean.Macro.throwUnsupported
local macro_rules | `(tactic| walk_at $_) => Lean.Macro.throwUnsupported
local macro_rules | `(tactic| walk_at "call ref") => `(tactic| (k_here; (with_reducible show wpAny _ _ (call (Value.ref 238) _ _) _ _ _); k_dflt (refine' ktaken (g := 0) ?cF ?cX ?cN ?cT ?cd ?cS rfl ?cz ?cp ?_; (case cF => assumption); (case cX => assumption); (case cN => assumption); (case cT => assumption); (case cd => walk_at "MY room"); (case cS => walk_at "MY st"); (case cz => walk_at "MY size"); (case cp => assumption); intro h' tk' gs' F' N' hg')))
set_option maxHeartbeats 800000 in
theorem stmt10 (F : Fr h₀ L s.heap m) (X₀ : (hd.heap_39 w.params).In h₀) (N : News h₀ L s.heap led) (T : Top p loose mean mg mb h₀) (hroom : dp < 600) (S : St prog w led c ((L + 1, oB) :: keep) ps)
    (h1 : m (Str.ofString "book") = some (.ref c.aK)) (hsz : ps.book.length ≤ 90) (hpos : Pos (bk ps.book 0))
    (hK : ∀ h' tk' gs, GensOk s.gens gs → Fr h₀ L h' (fun y => if y = Str.ofString "told" then some (.bool (bal (bk ps.book 0) == 0)) else m y) → News h₀ L h' led → wpAny (model prog w) ((AR dp fr gd un).deeper (runEnv L)) (execs rest (runEnv L)) Q E { s with heap := h', gens := gs, toks := tk' }) :
    wpAny (model prog w) ((AR dp fr gd un).deeper (runEnv L)) (execs (st10.1 :: rest) (runEnv L)) Q E s := by
  obtain ⟨mm, hm⟩ : ∃ mm : Str → Option Value, m = fun y => if y = Str.ofString "book" then some (.ref c.aK) else mm y := ⟨m, funext fun _ => at_if h1 fun _ => rfl⟩
  clear h1
  subst hm
  have X' := X₀
  have T' := T
  walk_at "MY facts"
  dsimp only [runEnv, runDef, st10]
  (with_reducible show wpAny _ _ _ _ _ _)
  k_steps
  exact hK _ _ _ (by assumption) (by assumption) (by assumption)
end
section
local macro_rules | `(tactic| walk_at "compareOp NotEq ref ref") => `(tactic| (k_here; k_dflt (refine' ne_nil ?cN ?ca ?cm ?cu ?_; (case cN => assumption); (case ca => k_mem); (case cm => k_mem); (case cu => assumption))))
set_option maxHeartbeats 800000 in
theorem stmt11 {D : Addr} {bq : Bool} {kk : Nat} (F : Fr h₀ L s.heap m) (X₀ : (hd.heap_39 w.params).In h₀) (N : News h₀ L s.heap led) (T : Top p loose mean mg mb h₀) (hroom : dp < 600) (hun : un < 5000)
    (h1 : m (Str.ofString "told") = some (.bool bq)) (h2 : m (Str.ofString "quiet") = some (.bool bq)) (h3 : m (Str.ofString "stray") = some (.ref D)) (hD : (D, listOf #[] kk) ∈ led)
    (hK : ∀ h' tk', Fr h₀ L h' m → News h₀ L h' led → wpAny (model prog w) ((AR dp fr gd un).deeper (runEnv L)) (execs rest (runEnv L)) Q E { s with heap := h', toks := tk' }) :
    wpAny (model prog w) ((AR dp fr gd un).deeper (runEnv L)) (execs (st11.1 :: rest) (runEnv L)) Q E s := by
  obtain ⟨mm, hm⟩ : ∃ mm : Str → Option Value, m = fun y => if y = Str.ofString "told" then some (.bool bq) else if y = Str.ofString "quiet" then some (.bool bq) else if y = Str.ofString "stray" then some (.ref D) else mm y := ⟨m, funext fun _ => at_if h1 fun _ => at_if h2 fun _ => at_if h3 fun _ => rfl⟩
  clear h1 h2 h3
  subst hm
  have X' := X₀
  have T' := T
  dsimp only [runEnv, runDef, st11]
  (with_reducible show wpAny _ _ _ _ _ _)
  k_steps
  · exact absurd (show (bq != bq) = true by assumption) (by simp)
  · exact hK _ _ (by assumption) (News.off (by assumption))
end
end
theorem split_at' {α : Type} {ks : List α} {i : Nat} {k : α} (h : ks[i]? = some k) : ks = ks.take i ++ k :: ks.drop (i + 1) := by
  obtain ⟨h1, h2⟩ := List.getElem?_eq_some_iff.mp h
  rw [← h2]; simp
section
open LCg
variable {prog : Program} {w : World} {A : Around} {E : Value → Shared → Prop} {s : Shared} {g : Heap} {L : Addr} {m : Str → Option Value} {env : Env}
theorem src_dict {elt ct : Expr} {x : Str} {px : PySem.Pos} {scope : Scope} {cl : List (Str × Addr)} {Fin : Shared → Addr → List Value → List (Addr × Obj) → Prop} {news : List (Addr × Obj)} {d : Addr} {o : Obj} {kvs : List (Str × Value)}
    {J : List Str → List Value → Prop} (_hJ : PredIs J)
    (hkind : scope.kind = .function) (hx : scope.names.lookup x = some .local)
    (hh : A.handled = none) (F : Fr g L s.heap m) (N : News g L s.heap news) (hl : (d, o) ∈ news) (ho : o.IsDictOf (strKind prog w) kvs) (lo : (d == sysModules) = false) (hsz : kvs.length ≤ sizeLine)
    (h0 : J [] []) (hlen : ∀ pre ys, J pre ys → ys.length ≤ pre.length)
    (turn : ∀ pre k post t I oI C oC D m₂ ys h tks, kvs.map (·.1) = pre ++ k :: post → J pre ys → NsObj oC m₂ → m₂ x = some (.str k t) → Fr g L h m → News g L h ((I, oI) :: (C, oC) :: (D, lst ys) :: news) →
      wpAny (model prog w) A (isTrue ct (compEnvC scope cl C env) (eval ct (compEnvC scope cl C env))) (fun ok s₃ =>
        if ok = true then wpAny (model prog w) A (eval elt (compEnvC scope cl C env)) (fun y s₄ => CmpEnd g L m s ((I, oI) :: (C, oC) :: (D, lst ys) :: news) (J (pre ++ [k]) (ys ++ [y])) s₄) NoE s₃
        else CmpEnd g L m s ((I, oI) :: (C, oC) :: (D, lst ys) :: news) (J (pre ++ [k]) ys) s₃) NoE ⟨h, s.gens, s.drawn, tks, s.os⟩)
    (done : ∀ D ys h, J (kvs.map (·.1)) ys → Fin { s with heap := h } D ys news) :
    wpAny (model prog w) A (pyIter (.ref d)) (CSrc prog w A g L m env elt (.Name x px) [ct] scope cl Fin) NoE s := by
  obtain ⟨ep, ha⟩ := KdkAt.of ho
  have hlt : d < s.heap.objs.size := Heap.lt_size (N _ hl).1
  refine wpAny_pyIter_dict lo (ha.dictAt (N _ hl).1) ?_
  refine ⟨s.heap.objs.size, [s.heap.objs.size, d], kvs.length, _, _, news, fun i ys => i ≤ (kvs.map (·.1)).length ∧ J ((kvs.map (·.1)).take i) ys, fun v m₂ => m₂ x = some v, rfl, Walks.dictKeys (knd := strKind prog w) hh s.heap.objs.size d (Nat.ne_of_lt hlt) kvs ep, hsz,
    fun i h st => by obtain ⟨o, e, _⟩ := st.1; exact ⟨o, e⟩, fun i h h' o st e e' N' => ?_, fun i v s Q st hP q => letGo_keyiter st.1 q, fun i v C s₁ m' Q hP N' hn q => ?_, ⟨⟨_, Heap.get?_push_size _ rfl, rfl, rfl⟩, ha.dictAt (Heap.get?_push_of_some _ (N _ hl).1)⟩, fun b hb => ?_, F.push _,
    fun p hp => ⟨Heap.get?_push_of_some _ (N p hp).1, (N p hp).2⟩, Nat.ne_of_lt F.ns.lt, next_is_new F, fun p hp => Nat.ne_of_lt (Heap.lt_size (N p hp).1), ⟨Nat.zero_le _, h0⟩, fun i ys hj => ?_, fun i v ys oI C oC D m₂ h tk hi hP hj hoC hG F' N' => ?_, fun D ys hj => ?_⟩
  · obtain ⟨⟨o₁, e1, hc, hd⟩, _⟩ := st
    rw [e] at e1; cases e1
    exact ⟨⟨_, e', hc, hd⟩, ha.dictAt (N' _ hl).1⟩
  · exact wpAny_assign_Name (wpAny_storeName_local (lookup_relabel_local hx) hn (fun h₃ hn₃ hs₃ => q _ _ _ hn₃ (by simp) fun b o hb e => hs₃.extBut b o hb e) (by simp [compEnvC, relabel, hkind]))
  · show b < (s.heap.push _).objs.size
    rw [Heap.size_push]
    rcases List.mem_cons.mp hb with rfl | hb
    · exact Nat.lt_succ_self _
    · rw [List.mem_singleton.mp hb]; exact Nat.lt_succ_of_lt hlt
  · have := hlen _ _ hj.2
    rw [List.length_take] at this
    omega
  · obtain ⟨k, x', hk, hv⟩ := hP
    have hv' : ∃ t, v = .str k t := Value.isStrOf_shape hv
    obtain ⟨t, rfl⟩ := hv'
    have hi' : i < (kvs.map (·.1)).length := by rw [List.length_map]; exact hi
    have hrow : (kvs.map (·.1))[i]? = some k := by rw [List.getElem?_map, hk]; rfl
    have split : kvs.map (·.1) = (kvs.map (·.1)).take i ++ k :: (kvs.map (·.1)).drop (i + 1) := split_at' hrow
    have tk1 : (kvs.map (·.1)).take (i + 1) = (kvs.map (·.1)).take i ++ [k] := by
      rw [List.take_add_one, hrow]; rfl
    refine wpAny_tests_one (wpAny_mono (turn _ k _ t _ oI C oC D m₂ ys h tk split hj.2 hoC hG F' N') (fun ok s₃ h₃ => ?_) fun _ _ e => e)
    have fin : ∀ {ys' s₄}, CmpEnd g L m s ((s.heap.objs.size, oI) :: (C, oC) :: (D, lst ys) :: news) (J ((kvs.map (·.1)).take i ++ [k]) ys') s₄ →
        CmpEnd g L m { s with heap := s.heap.push { cls := .type "dict_keyiterator", data := .fields #[.ref d, .int 0 0, .int kvs.length 0, .int ep 0] } } ((s.heap.objs.size, oI) :: (C, oC) :: (D, lst ys) :: news) (i + 1 ≤ (kvs.map (·.1)).length ∧ J ((kvs.map (·.1)).take (i + 1)) ys') s₄ := by
      rintro ys' s₄ ⟨h', tk, rfl, F₄, N₄, hJ⟩
      exact ⟨h', tk, rfl, F₄, N₄, hi', tk1 ▸ hJ⟩
    cases ok with
    | false => exact fin h₃
    | true => exact wpAny_mono h₃ (fun y s₄ h₄ => fin h₄) fun _ _ e => e
  · have e : (kvs.map (·.1)).take kvs.length = kvs.map (·.1) := by
      rw [show kvs.length = (kvs.map (·.1)).length by rw [List.length_map], List.take_length]
    have hj2 : J ((kvs.map (·.1)).take kvs.length) ys := hj.2
    rw [e] at hj2
    exact done D ys _ hj2
end
theorem debt_names : ∀ {kvs : List (Str × Value)} {ds : List (Fin 4 × Int)}, DebtsAre kvs ds → kvs.map (·.1) = ds.map fun p => nm p.1
  | _, _, .nil => rfl
  | _, _, .cons h => by rw [List.map_cons, List.map_cons, debt_names h]
theorem nodot (ds : List (Fin 4 × Int)) : (ds.map fun p => nm p.1).filter (fun k => k != Str.ofString ".") = ((ds.map (·.1)).filter fun i => i != 0).map nm := by
  induction ds with
  | nil => rfl
  | cons p r ih =>
    rw [List.map_cons, List.filter_cons, List.map_cons, List.filter_cons, ih]
    by_cases e : p.1 = 0
    · rw [e]; rfl
    · have e1 : (nm p.1 != Str.ofString ".") = true := ne_lists fun q => e (nm_inj p.1 0 q)
      have e2 : (p.1 != 0) = true := by simpa using e
      rw [e1, e2]; rfl
theorem dot_hit {pre : List Str} {ys : List Value} {k : Str} {t : Tok} (h : StrsAre ys (pre.filter fun k => k != Str.ofString ".")) (e : (k != Str.ofString ".") = true) : StrsAre (ys ++ [.str k t]) ((pre ++ [k]).filter fun k => k != Str.ofString ".") := by
  have : (pre ++ [k]).filter (fun k => k != Str.ofString ".") = pre.filter (fun k => k != Str.ofString ".") ++ [k] := by
    rw [List.filter_append, List.filter_cons, e]; rfl
  rw [this]
  exact h.append' (.cons _ _ .nil)
theorem dot_miss {pre : List Str} {ys : List Value} {k : Str} (h : StrsAre ys (pre.filter fun k => k != Str.ofString ".")) (e : (k != Str.ofString ".") = false) : StrsAre ys ((pre ++ [k]).filter fun k => k != Str.ofString ".") := by
  have : (pre ++ [k]).filter (fun k => k != Str.ofString ".") = pre.filter (fun k => k != Str.ofString ".") := by
    rw [List.filter_append, List.filter_cons, e]; simp
  rw [this]
  exact h
theorem dotl_len {pre : List Str} {ys : List Value} (h : StrsAre ys (pre.filter fun k => k != Str.ofString ".")) : ys.length ≤ pre.length := by
  rw [h.len_eq]; exact List.length_filter_le _ _
theorem ne_keys {prog : Program} {w : World} {dp un : Nat} {fr : Option (List Env)} {gd : Option (List Code)} {s : Shared} {h₀ : Heap} {L : Addr} {led : List (Addr × Obj)} {Q E : Value → Shared → Prop} {env : Env} {a b : Addr} {xs ys : List Value} {ns ms : List Str} (N : News h₀ L s.heap led) (ha : (a, LCg.lst xs) ∈ led) (hb : (b, LCg.lst ys) ∈ led)
    (hi : StrsAre xs ns) (hj : StrsAre ys ms) (e : ns = ms) (ok : ∀ x ∈ ns, PyData.strOk x = true) (hun : un < 5000) (h : Q (.bool false) s) :
    wpAny (model prog w) ((AR dp fr gd un).deeper env) (compareOp .NotEq (.ref a) (.ref b)) Q E s := by
  subst e
  refine ks_ne ⟨_, (N _ ha).1, rfl, _, rfl⟩ ⟨_, (N _ hb).1, rfl, _, rfl⟩ hi hj ok ok (room_un hun) ?_
  have : (!decide (ns = ns)) = false := by simp
  rw [this]; exact h
section
variable {prog : Program} {w : World} {dp un : Nat} {fr : Option (List Env)} {gd : Option (List Code)} {s : Shared} {h₀ : Heap} {L : Addr} {m mg mb : Str → Option Value} {led keep : List (Addr × Obj)} {p : Program} {loose : List Str} {mean : ExcName → Option Value}
    {Q : Flow → Shared → Prop} {E : Value → Shared → Prop} {c : Ad} {ps : PS} {nL : Addr} {x b : Int} {oB : Obj} {sw g : Fin 4} {k : Bool} {rest : List Stmt}
local macro_rules | `(tactic| walk_at "call ref") => `(tactic| (k_here; (with_reducible show wpAny _ _ (call (Value.ref 127) _ _) _ _ _); k_dflt (refine' bkeys ?cF ?cX ?cN ?cT ?cd ?cS ?cz ?_; (case cF => assumption); (case cX => assumption); (case cN => assumption); (case cT => assumption); (case cd => walk_at "MY room"); (case cS => walk_at "MY st"); (case cz => walk_at "MY size"); intro h' tk' D' ys' l1 F' N' hy')))
local macro_rules | `(tactic| walk_at "MY rows") => `(tactic| (k_dflt (refine' src_dict ?cJ ?ck ?cx ?ch ?cF ?cN ?cl ?co ?clo ?cs ?c0 ?cn ?_ ?_; (case cJ => assumption); (case ck => rfl); (case cx => rfl); (case ch => rfl); (case cF => assumption); (case cN => assumption); (case cl => k_mem); (case co => assumption); (case clo => assumption); (case cs => assumption))))
local macro_rules | `(tactic| walk_at "compareOp NotEq ref ref") => `(tactic| (k_here; k_dflt (refine' ne_keys ?cN ?ca ?cb ?ci ?cj ?ce ?ck ?cu ?_; (case cN => assumption); (case ca => k_mem); (case cb => k_mem); (case ci => assumption); (case cj => assumption); (case ce => assumption); (case ck => assumption); (case cu => assumption))))
set_option maxHeartbeats 400000 in
theorem stmt12 (F : Fr h₀ L s.heap m) (X₀ : (hd.heap_39 w.params).In h₀) (N : News h₀ L s.heap led) (T : Top p loose mean mg mb h₀) (hroom : dp < 600) (hun : un < 5000) (S : St prog w led c ((L + 1, oB) :: keep) ps) (hB : oB.data = .cell (some (.ref c.aB)))
    (h1 : m (Str.ofString "debts") = some (.ref c.dD)) (hsz : ps.busy.length ≤ 90 ∧ ps.debts.length ≤ 90) (hsame : ps.busy.map (·.1) = (ps.debts.map (·.1)).filter fun i => i != 0)
    (hP : PredIs fun (pre : List Str) (ys : List Value) => StrsAre ys (pre.filter fun k => k != Str.ofString "."))
    (hK : ∀ h' tk', Fr h₀ L h' m → News h₀ L h' led → wpAny (model prog w) ((AR dp fr gd un).deeper (runEnv L)) (execs rest (runEnv L)) Q E { s with heap := h', toks := tk' }) :
    wpAny (model prog w) ((AR dp fr gd un).deeper (runEnv L)) (execs (st12.1 :: rest) (runEnv L)) Q E s := by
  obtain ⟨mm, hm⟩ : ∃ mm : Str → Option Value, m = fun y => if y = Str.ofString "debts" then some (.ref c.dD) else mm y := ⟨m, funext fun _ => at_if h1 fun _ => rfl⟩
  clear h1
  subst hm
  have X' := X₀
  have T' := T
  obtain ⟨hsz1, hsz2⟩ := hsz
  obtain ⟨oD, kvs, hD, hoD, hds⟩ := S.dd
  have hlo := S.lo
  have hkl : kvs.length ≤ sizeLine := fits (by have := debt_len hds; omega)
  have he : (ps.busy.map fun p => nm p.1) = (kvs.map (·.1)).filter fun k => k != Str.ofString "." := by
    rw [debt_names hds, nodot, ← hsame, List.map_map]; rfl
  have hok : ∀ x ∈ (ps.busy.map fun p => nm p.1), PyData.strOk x = true := fun x hx => by
    obtain ⟨q, _, rfl⟩ := List.mem_map.mp hx
    exact nm_strOk _
  walk_at "MY facts"
  dsimp only [runEnv, runDef, st12]
  (with_reducible show wpAny _ _ _ _ _ _)
  k_steps
  · exact .nil
  · exact dotl_len (by assumption)
  · exact CmpEnd.intro (by assumption) (by assumption) (dot_hit (by assumption) (by assumption))
  · exact CmpEnd.intro (by assumption) (by assumption) (dot_miss (by assumption) (by assumption))
  · exact hK _ _ (by assumption) (News.off (News.off (by assumption)))
end
theorem wk_ne : ∀ i : Fin 4, (wk i != Str.ofString "") = (i != 0) := by decide +kernel
theorem wk_up_dot : ∀ i : Fin 4, Str.ofString "." ++ Txt.upper (wk i) = up i := by decide +kernel
noncomputable def uk : Fin 4 → Str
  | 0 => Str.ofString ""
  | 1 => Str.ofString "B"
  | 2 => Str.ofString "C"
  | 3 => Str.ofString "D"
theorem uk_eq : ∀ i, Txt.upper (wk i) = uk i := by decide +kernel
theorem uk_len : ∀ i, (uk i).length ≤ 1 := by decide +kernel
theorem uk_dot : ∀ i, Str.ofString "." ++ uk i = up i := by decide +kernel
theorem uk_call {prog : Program} {w : World} {A : Around} {E : Value → Shared → Prop} {s : Shared} {Q : Value → Shared → Prop} {i : Fin 4} {t : Tok} (h : ∀ t' k, Q (.str (uk i) t') { s with toks := k }) : wpAny (model prog w) A (call (.builtin "str.upper") [.str (wk i) t]) Q E s := by
  refine SC.upper ?_ ?_
  · rw [uk_eq]; exact short_len (by have := uk_len i; omega)
  · have := h s.toks (s.toks + 1)
    rw [uk_eq]
    exact this
theorem add_uk {prog : Program} {w : World} {A : Around} {E : Value → Shared → Prop} {s : Shared} {Q : Value → Shared → Prop} {i : Fin 4} {t u : Tok} (h : ∀ t' k', Q (.str (up i) t') { s with toks := k' }) : wpAny (model prog w) A (binaryOp .Add (.str (Str.ofString ".") t) (.str (uk i) u)) Q E s := by
  have h1 : (Str.ofString ".").length = 1 := by decide
  have h2 := uk_len i
  refine add_str (fun t' k' => ?_) (by rw [sizeLine_eq]; omega)
  rw [uk_dot]
  exact h t' k'
def StrayOk (busy : List (Fin 4 × Fin 4)) (_ v : Str) : Prop := ∃ y : Fin 4, v = wk y ∧ (y = 0 ∨ ∃ z, busy.lookup y = some z)
section
variable {prog : Program} {w : World} {dp un : Nat} {fr : Option (List Env)} {gd : Option (List Code)} {s : Shared} {h₀ : Heap} {L : Addr} {m mg mb : Str → Option Value} {led keep : List (Addr × Obj)} {p : Program} {loose : List Str} {mean : ExcName → Option Value}
    {Q : Flow → Shared → Prop} {E : Value → Shared → Prop} {c : Ad} {ps : PS} {nL : Addr} {x b : Int} {oB : Obj} {sw g : Fin 4} {k : Bool} {rest : List Stmt}
local macro_rules | `(tactic| walk_at "call ref") => `(tactic| (k_here; (with_reducible show wpAny _ _ (call (Value.ref 139) _ _) _ _ _); k_dflt (refine' bitems ?cF ?cX ?cN ?cT ?cd ?cS ?cz ?_; (case cF => assumption); (case cX => assumption); (case cN => assumption); (case cT => assumption); (case cd => walk_at "MY room"); (case cS => walk_at "MY st"); (case cz => walk_at "MY size"); intro h' tk' D' k' refs' l1 F' N' hr' hrl')))
local macro_rules | `(tactic| walk_at "exec Assign cons ListComp") => `(tactic| (k_here; k_dflt (refine' lcomp_assign ?cF (by rfl) (by with_unfolding_all rfl) (by rfl) (by decide) (by rfl) (by decide) (by rfl) (by rfl) ?_; (case cF => assumption))))
local macro_rules | `(tactic| walk_at "MY rows") => `(tactic| (k_dflt (refine' src_rows3 ?cJ ?cG0 ?cG ?ck ?ca ?cb ?cab ?ch ?cF ?cN ?cl ?cr ?cs ?c0 ?cn ?_ ?_; (case cJ => assumption); (case cG0 => assumption); (case cG => assumption); (case ck => rfl); (case ca => rfl); (case cb => rfl); (case cab => decide); (case ch => rfl); (case cF => assumption); (case cN => assumption); (case cl => k_mem); (case cr => walk_at "MY rowsin"); (case cs => assumption))))
local macro_rules | `(tactic| walk_at "call builtin:str.upper") => `(tactic| (k_here; (with_reducible show wpAny _ _ (call _ [Value.str (wk _) _]) _ _ _); k_dflt (refine uk_call ?_; intro t' k')))
local macro_rules | `(tactic| walk_at "binaryOp Add str str") => `(tactic| (k_here; (with_reducible show wpAny _ _ (binaryOp _ _ (Value.str (uk _) _)) _ _ _); k_dflt (refine add_uk ?_; intro t' k')))
set_option maxHeartbeats 400000 in
theorem stmt9 (F : Fr h₀ L s.heap m) (X₀ : (hd.heap_39 w.params).In h₀) (N : News h₀ L s.heap led) (T : Top p loose mean mg mb h₀) (hroom : dp < 600) (hun : un < 5000) (S : St prog w led c ((L + 1, oB) :: keep) ps) (hB : oB.data = .cell (some (.ref c.aB)))
    (hsz : ps.busy.length ≤ 90) (hst : ∀ q ∈ ps.busy, q.2 = 0 ∨ ∃ z, ps.busy.lookup q.2 = some z)
    (hP : PredIs fun (_ : List (Str × Str)) (ys : List Value) => ys = []) (hG0 : FnIs (StrayOk ps.busy)) (hG : ∀ r ∈ ps.busy.map brow, StrayOk ps.busy r.1 r.2)
    (hK : ∀ h' tk' D kk, Fr h₀ L h' (fun y => if y = Str.ofString "stray" then some (.ref D) else m y) → News h₀ L h' ((D, listOf #[] kk) :: led) → wpAny (model prog w) ((AR dp fr gd un).deeper (runEnv L)) (execs rest (runEnv L)) Q E { s with heap := h', toks := tk' }) :
    wpAny (model prog w) ((AR dp fr gd un).deeper (runEnv L)) (execs (st9.1 :: rest) (runEnv L)) Q E s := by
  have X' := X₀
  have T' := T
  walk_at "MY facts"
  dsimp only [runEnv, runDef, st9]
  (with_reducible show wpAny _ _ _ _ _ _)
  k_steps
  · rename _ = [] => e
    rw [e]; exact Nat.zero_le _
  · rename StrayOk _ _ _ => hsk
    rename (_ != _) = true => hv
    rename _ = [] => hys
    obtain ⟨y, rfl, hy⟩ := hsk
    have hy0 : y ≠ 0 := by rw [wk_ne] at hv; simpa using hv
    obtain ⟨z, hz⟩ := hy.resolve_left hy0
    k_steps
    exact CmpEnd.intro (by assumption) (by assumption) hys
  · exact CmpEnd.intro (by assumption) (by assumption) (by assumption)
  · rename _ = [] => hys
    subst hys
    exact hK _ _ _ _ (by assumption) (News.drop2 (by assumption))
end
theorem wd_eq : ∀ k, (wd k == Str.ofString "?'") = k := by decide +kernel
section
variable {prog : Program} {w : World} {dp un : Nat} {fr : Option (List Env)} {gd : Option (List Code)} {s : Shared} {h₀ : Heap} {L : Addr} {m mg mb : Str → Option Value} {led keep : List (Addr × Obj)} {p : Program} {loose : List Str} {mean : ExcName → Option Value}
    {Q : Flow → Shared → Prop} {E : Value → Shared → Prop} {c : Ad} {ps : PS} {nL : Addr} {x b : Int} {oB : Obj} {sw g : Fin 4} {k : Bool} {rest : List Stmt}
section
local macro_rules | `(tactic| walk_at "compareOp Eq ref ref") => `(tactic| (k_here; k_dflt (refine' mails_nil ?cN ?cS ?cm ?cu ?_; (case cN => assumption); (case cS => walk_at "MY st"); (case cm => k_mem); (case cu => assumption))))
set_option maxHeartbeats 400000 in
theorem stmt1 (F : Fr h₀ L s.heap m) (X₀ : (hd.heap_39 w.params).In h₀) (N : News h₀ L s.heap led) (T : Top p loose mean mg mb h₀) (hun : un < 5000) (S : St prog w led c ((L + 1, oB) :: keep) ps)
    (h1 : m (Str.ofString "mails") = some (.ref c.lM)) (hB : ps.mails = [] → ∀ h' tk', Fr h₀ L h' m → News h₀ L h' led → Q .brk { s with heap := h', toks := tk' })
    (hK : ps.mails ≠ [] → ∀ h' tk', Fr h₀ L h' m → News h₀ L h' led → wpAny (model prog w) ((AR dp fr gd un).deeper (runEnv L)) (execs rest (runEnv L)) Q E { s with heap := h', toks := tk' }) :
    wpAny (model prog w) ((AR dp fr gd un).deeper (runEnv L)) (execs (st1.1 :: rest) (runEnv L)) Q E s := by
  obtain ⟨mm, hm⟩ : ∃ mm : Str → Option Value, m = fun y => if y = Str.ofString "mails" then some (.ref c.lM) else mm y := ⟨m, funext fun _ => at_if h1 fun _ => rfl⟩
  clear h1
  subst hm
  have X' := X₀
  have T' := T
  walk_at "MY facts"
  dsimp only [runEnv, runDef, st1]
  (with_reducible show wpAny _ _ _ _ _ _)
  k_steps
  · have e : ps.mails = [] := by first | assumption | exact of_decide_eq_true (by assumption)
    exact hB e _ _ (by assumption) (News.off (by assumption))
  · have e : ¬ ps.mails = [] := by first | assumption | exact of_decide_eq_false (by assumption)
    exact hK e _ _ (by assumption) (News.off (by assumption))
end
section
set_option maxHeartbeats 400000 in
theorem test6 {tk : Tok} {Q : Bool → Shared → Prop} (F : Fr h₀ L s.heap m) (X₀ : (hd.heap_39 w.params).In h₀) (N : News h₀ L s.heap led) (T : Top p loose mean mg mb h₀)
    (h1 : m (Str.ofString "word") = some (.str (wd k) tk)) (hK : ∀ h' tk', Fr h₀ L h' m → News h₀ L h' led → Q k { s with heap := h', toks := tk' }) :
    wpAny (model prog w) ((AR dp fr gd un).deeper (runEnv L)) (isTrue st6w.1.1 (runEnv L) (eval st6w.1.1 (runEnv L))) Q E s := by
  obtain ⟨mm, hm⟩ : ∃ mm : Str → Option Value, m = fun y => if y = Str.ofString "word" then some (.str (wd k) tk) else mm y := ⟨m, funext fun _ => at_if h1 fun _ => rfl⟩
  clear h1
  subst hm
  have X' := X₀
  have T' := T
  dsimp only [runEnv, runDef, st6w]
  (with_reducible show wpAny _ _ _ _ _ _)
  k_steps
  have e : (wd k == Str.ofString "?'") = k := wd_eq k
  rw [e]
  exact hK _ _ (by assumption) (by assumption)
end
end
noncomputable def mid (ps : PS) (sw g : Fin 4) (k : Bool) (x : Int) : PS :=
  if k = true then (if ((wish (wish (lay ps g sw) g (d1of x)) g (d2of x)).busy.length : Int) = (ps.busy.length : Int) then { wish (wish (lay ps g sw) g (d1of x)) g (d2of x) with mails := (wish (wish (lay ps g sw) g (d1of x)) g (d2of x)).mails ++ [(g, sw, false)] } else wish (wish (lay ps g sw) g (d1of x)) g (d2of x))
  else pay ps g
theorem lay_wishes (ps : PS) (g sw : Fin 4) : (lay ps g sw).wishes = ps.wishes := by
  unfold lay
  split
  · rfl
  · split <;> rfl
theorem lay_len (ps : PS) (g sw : Fin 4) : (lay ps g sw).mails = ps.mails ∧ (lay ps g sw).book = ps.book ∧ (lay ps g sw).debts = ps.debts ∧ (lay ps g sw).busy.length ≤ ps.busy.length + 1 := by
  unfold lay
  split
  · exact ⟨rfl, rfl, rfl, Nat.le_succ _⟩
  · split
    · exact ⟨rfl, rfl, rfl, Nat.le_succ _⟩
    · exact ⟨rfl, rfl, rfl, by simp⟩
section
variable {prog : Program} {w : World} {dp un : Nat} {fr : Option (List Env)} {gd : Option (List Code)} {s : Shared} {h₀ : Heap} {L : Addr} {m mg mb : Str → Option Value} {led keep : List (Addr × Obj)} {p : Program} {loose : List Str} {mean : ExcName → Option Value}
    {Q : Flow → Shared → Prop} {E : Value → Shared → Prop} {c : Ad} {ps : PS} {nL : Addr} {x b : Int} {oB : Obj} {sw g : Fin 4} {k : Bool} {rest : List Stmt}
theorem stmt6 (F : Fr h₀ L s.heap m) (X₀ : (hd.heap_39 w.params).In h₀) (N : News h₀ L s.heap led) (T : Top p loose mean mg mb h₀) (hroom : dp < 600) (S : St prog w led c ((L + 1, oB) :: keep) ps) (hB : oB.data = .cell (some (.ref c.aB)))
    (hl : TLoc nL c ps.wishes x ps.busy.length sw g k m) (hsz : ps.mails.length ≤ 80 ∧ ps.book.length ≤ 80 ∧ ps.debts.length ≤ 80 ∧ ps.busy.length ≤ 80) (hn : k = false → ∃ n, ps.debts.lookup g = some n)
    (hK : ∀ h' tk' m' led', Fr h₀ L h' m' → TLoc nL c (mid ps sw g k x).wishes x ps.busy.length sw g k m' → News h₀ L h' led' → St prog w led' c ((L + 1, oB) :: keep) (mid ps sw g k x) → wpAny (model prog w) ((AR dp fr gd un).deeper (runEnv L)) (execs rest (runEnv L)) Q E { s with heap := h', toks := tk' }) :
    wpAny (model prog w) ((AR dp fr gd un).deeper (runEnv L)) (execs (st6.1 :: rest) (runEnv L)) Q E s := by
  obtain ⟨hs1, hs2, hs3, hs4⟩ := hsz
  have hword : ∃ tk, m (Str.ofString "word") = some (.str (wd k) tk) := by
    obtain ⟨t1, t2, t3, t4, t5, t6, mm, rfl⟩ := hl
    exact ⟨_, rfl⟩
  obtain ⟨tk, hword⟩ := hword
  refine wpAny_execs_cons ?_
  have e6 : st6.1 = .If st6w.1.1 [st6a.1, st6b.1, st6c.1] st6d.1 st6w.1.2.2.2.2.2 := rfl
  rw [e6]
  refine wpAny_If (test6 F X₀ N T hword fun h1 tk1 F1 N1 => ?_)
  cases k with
  | true =>
    rw [if_pos rfl]
    obtain ⟨l1, l2, l3, l4⟩ := lay_len ps g sw
    have w1 := wish_len (lay ps g sw) g (d1of x)
    have w2 := wish_len (wish (lay ps g sw) g (d1of x)) g (d2of x)
    refine stmt6a (s := ⟨h1, s.gens, s.drawn, tk1, s.os⟩) F1 X₀ N1 T hroom S hB hl (by omega) fun h2 tk2 led2 F2 N2 S2 => ?_
    refine stmt6b (s := ⟨h2, s.gens, s.drawn, tk2, s.os⟩) F2 X₀ N2 T hroom S2 hB (by rw [lay_wishes]; exact hl) (by rw [l1, l2, l3]; omega) fun h3 tk3 m3 led3 F3 hl3 N3 S3 => ?_
    refine stmt6c (s := ⟨h3, s.gens, s.drawn, tk3, s.os⟩) F3 X₀ N3 T hroom S3 hB hl3 (by rw [w2.2.2.2, w1.2.2.2]; rw [l1] at w1; omega) fun h4 tk4 led4 F4 N4 S4 => ?_
    refine wpAny_execs_nil ?_
    have em : mid ps sw g true x = _ := if_pos rfl
    rw [em] at hK
    refine hK h4 tk4 m3 led4 F4 ?_ N4 S4
    split <;> exact hl3
  | false =>
    rw [if_neg Bool.false_ne_true]
    obtain ⟨n, hn⟩ := hn rfl
    refine stmt6d (s := ⟨h1, s.gens, s.drawn, tk1, s.os⟩) F1 X₀ N1 T hroom S hB hl (by omega) hn fun h2 tk2 led2 F2 N2 S2 => ?_
    have em : mid ps sw g false x = pay ps g := if_neg Bool.false_ne_true
    rw [em] at hK
    exact hK h2 tk2 m led2 F2 hl N2 S2
end
noncomputable def popd (ps : PS) (pre post : List Mail) : PS := { ps with mails := pre ++ post }
noncomputable def midT (ps : PS) (pre : List Mail) (q : Mail) (post : List Mail) (x : Int) : PS := mid (popd ps pre post) q.1 q.2.1 q.2.2 x
noncomputable def endT (ps : PS) (pre : List Mail) (q : Mail) (post : List Mail) (x : Int) : PS := rest7 (midT ps pre q post x) q.2.1
theorem rest7_keep (ps : PS) (g : Fin 4) : (rest7 ps g).wishes = ps.wishes ∧ (rest7 ps g).book = ps.book ∧ (rest7 ps g).debts = ps.debts ∧ (rest7 ps g).mails.length ≤ ps.mails.length + 1 ∧ (rest7 ps g).busy.length ≤ ps.busy.length := by
  unfold rest7
  split
  · exact ⟨rfl, rfl, rfl, Nat.le_succ _, Nat.le_refl _⟩
  · split
    · exact ⟨rfl, rfl, rfl, by simp, List.length_filter_le _ _⟩
    · exact ⟨rfl, rfl, rfl, Nat.le_succ _, Nat.le_refl _⟩
theorem mid_len (ps : PS) (sw g : Fin 4) (k : Bool) (x : Int) : (mid ps sw g k x).mails.length ≤ ps.mails.length + 3 ∧ (mid ps sw g k x).book.length ≤ ps.book.length + 2 ∧ (mid ps sw g k x).debts.length ≤ ps.debts.length + 2 ∧ (mid ps sw g k x).busy.length ≤ ps.busy.length + 1 := by
  unfold mid
  obtain ⟨l1, l2, l3, l4⟩ := lay_len ps g sw
  have w1 := wish_len (lay ps g sw) g (d1of x)
  have w2 := wish_len (wish (lay ps g sw) g (d1of x)) g (d2of x)
  rw [l1, l2, l3] at w1
  split
  · split
    · refine ⟨?_, by show (wish (wish (lay ps g sw) g (d1of x)) g (d2of x)).book.length ≤ _; omega, by show (wish (wish (lay ps g sw) g (d1of x)) g (d2of x)).debts.length ≤ _; omega, ?_⟩
      · show (_ ++ [_]).length ≤ _
        rw [List.length_append]; simp; omega
      · show (wish (wish (lay ps g sw) g (d1of x)) g (d2of x)).busy.length ≤ _
        rw [w2.2.2.2, w1.2.2.2]; omega
    · refine ⟨by omega, by omega, by omega, ?_⟩
      rw [w2.2.2.2, w1.2.2.2]; omega
  · unfold pay
    refine ⟨by show ps.mails.length ≤ _; omega, by simp, ?_, by show ps.busy.length ≤ _; omega⟩
    have hp := putd_len ps.debts g ((ps.debts.lookup g).getD 0 - 1)
    show (if _ then deld _ _ else _).length ≤ _
    split
    · have : (deld (putd ps.debts g ((ps.debts.lookup g).getD 0 - 1)) g).length ≤ _ := List.length_filter_le _ _
      omega
    · omega
section
variable {prog : Program} {w : World} {dp un : Nat} {fr : Option (List Env)} {gd : Option (List Code)} {s : Shared} {h₀ : Heap} {L : Addr} {m mg mb : Str → Option Value} {led keep : List (Addr × Obj)} {p : Program} {loose : List Str} {mean : ExcName → Option Value}
    {Q : Flow → Shared → Prop} {E : Value → Shared → Prop} {c : Ad} {ps : PS} {nL : Addr} {x : Int} {oB : Obj}
theorem turn {tx : Tok} {pre post : List Mail} {q : Mail} (F : Fr h₀ L s.heap m) (X₀ : (hd.heap_39 w.params).In h₀) (N : News h₀ L s.heap led) (T : Top p loose mean mg mb h₀) (hroom : dp < 600) (hun : un < 5000) (S : St prog w led c ((L + 1, oB) :: keep) ps) (hB : oB.data = .cell (some (.ref c.aB)))
    (hl : MLoc nL c ps.wishes m) (hx : m (Str.ofString "x") = some (.int x tx)) (hsz : ps.mails.length ≤ 70 ∧ ps.book.length ≤ 70 ∧ ps.debts.length ≤ 70 ∧ ps.busy.length ≤ 70)
    (hq : ps.mails = pre ++ q :: post) (hxm : x.fmod ps.mails.length = (pre.length : Int))
    (hn : q.2.2 = false → ∃ n, ps.debts.lookup q.2.1 = some n)
    (hpos : ∀ g, Pos (bk (midT ps pre q post x).book g))
    (hquiet : (bal (bk (endT ps pre q post x).book 0) == 0) = decide ((endT ps pre q post x).mails = [] ∧ (endT ps pre q post x).busy = []))
    (hst : ∀ r ∈ (endT ps pre q post x).busy, r.2 = 0 ∨ ∃ z, (endT ps pre q post x).busy.lookup r.2 = some z)
    (hsame : (endT ps pre q post x).busy.map (·.1) = ((endT ps pre q post x).debts.map (·.1)).filter fun i => i != 0)
    (hQ : ∀ h' tk' gs m' led', GensOk s.gens gs → Fr h₀ L h' m' → MLoc nL c (endT ps pre q post x).wishes m' → News h₀ L h' led' → St prog w led' c ((L + 1, oB) :: keep) (endT ps pre q post x) → Q .next { s with heap := h', gens := gs, toks := tk' }) :
    wpAny (model prog w) ((AR dp fr gd un).deeper (runEnv L)) (execs [st2.1, st3.1, st4.1, st5.1, st6.1, st7.1, st8.1, st9.1, st10.1, st11.1, st12.1] (runEnv L)) Q E s := by
  obtain ⟨hs1, hs2, hs3, hs4⟩ := hsz
  obtain ⟨tM, mm, hm⟩ := hl
  have a1 : m (Str.ofString "numbers") = some (.ref nL) := by rw [hm]; rfl
  have a2 : m (Str.ofString "book") = some (.ref c.aK) := by rw [hm]; rfl
  have a3 : m (Str.ofString "mails") = some (.ref c.lM) := by rw [hm]; rfl
  have a4 : m (Str.ofString "debts") = some (.ref c.dD) := by rw [hm]; rfl
  have a5 : m (Str.ofString "wishes") = some (.int ps.wishes tM) := by rw [hm]; rfl
  clear hm
  have hpl : (popd ps pre post).mails.length ≤ 70 := by
    show (pre ++ post).length ≤ 70
    rw [hq] at hs1
    simp only [List.length_append, List.length_cons] at hs1 ⊢
    omega
  refine stmt2 F X₀ N T hroom S a3 hx (by omega) hq hxm fun h2 k2 t2 led2 F2 N2 S2 => ?_
  refine stmt3 (s := ⟨h2, s.gens, s.drawn, k2, s.os⟩) (q := q) F2 X₀ N2 T hroom rfl fun h3 k3 t31 t32 t33 F3 N3 => ?_
  refine stmt4 (s := ⟨h3, s.gens, s.drawn, k3, s.os⟩) (q := q) F3 X₀ N3 T hroom rfl rfl rfl rfl fun h4 k4 F4 N4 => ?_
  refine stmt5 (s := ⟨h4, s.gens, s.drawn, k4, s.os⟩) F4 X₀ N4 T hroom S2 hB (by show ps.busy.length ≤ 100; omega) fun h5 k5 t5 F5 N5 => ?_
  have hl5 : TLoc nL c (popd ps pre post).wishes x (popd ps pre post).busy.length q.1 q.2.1 q.2.2 (fun y => if y = Str.ofString "before" then some (.int ps.busy.length t5) else if y = Str.ofString "word" then some (.str (wd q.2.2) t33) else if y = Str.ofString "getter" then some (.str (nm q.2.1) t32) else if y = Str.ofString "writer" then some (.str (nm q.1) t31) else if y = Str.ofString "wire" then some (.str (mtxt q) t2) else m y) :=
    TLoc.intro a1 a2 a3 a4 a5 hx rfl rfl rfl rfl
  refine stmt6 (ps := popd ps pre post) (s := ⟨h5, s.gens, s.drawn, k5, s.os⟩) F5 X₀ N5 T hroom S2 hB hl5 ⟨by omega, by show ps.book.length ≤ 80; omega, by show ps.debts.length ≤ 80; omega, by show ps.busy.length ≤ 80; omega⟩ hn fun h6 k6 m6 led6 F6 hl6 N6 S6 => ?_
  have ml := mid_len (popd ps pre post) q.1 q.2.1 q.2.2 x
  obtain ⟨ml1, ml2, ml3, ml4⟩ := ml
  have ml2 : (midT ps pre q post x).book.length ≤ ps.book.length + 2 := ml2
  have ml3 : (midT ps pre q post x).debts.length ≤ ps.debts.length + 2 := ml3
  have ml4 : (midT ps pre q post x).busy.length ≤ ps.busy.length + 1 := ml4
  obtain ⟨r1, r2, r3, r4, r5⟩ := rest7_keep (midT ps pre q post x) q.2.1
  refine stmt7 (ps := midT ps pre q post x) (s := ⟨h6, s.gens, s.drawn, k6, s.os⟩) F6 X₀ N6 T hroom S6 hB hl6 ⟨by show (mid _ _ _ _ _).mails.length ≤ 90; omega, by omega, by omega⟩ (hpos _) fun h7 k7 g7 led7 G7 F7 N7 S7 => ?_
  have hl7 := hl6.main
  obtain ⟨t7, m7, hm7⟩ := hl7
  have b1 : m6 (Str.ofString "numbers") = some (.ref nL) := by rw [hm7]; rfl
  have b2 : m6 (Str.ofString "book") = some (.ref c.aK) := by rw [hm7]; rfl
  have b3 : m6 (Str.ofString "mails") = some (.ref c.lM) := by rw [hm7]; rfl
  have b4 : m6 (Str.ofString "debts") = some (.ref c.dD) := by rw [hm7]; rfl
  have b5 : m6 (Str.ofString "wishes") = some (.int (midT ps pre q post x).wishes t7) := by rw [hm7]; rfl
  clear hm7
  refine stmt8 (ps := endT ps pre q post x) (s := ⟨h7, g7, s.drawn, k7, s.os⟩) F7 X₀ N7 T hroom hun S7 hB b3 ⟨by show (rest7 _ _).mails.length ≤ 90; have : (midT ps pre q post x).mails.length ≤ _ := ml1; omega, by show (rest7 _ _).busy.length ≤ 90; omega⟩ fun h8 k8 b8 e8 F8 N8 => ?_
  refine stmt9 (ps := endT ps pre q post x) (s := ⟨h8, g7, s.drawn, k8, s.os⟩) F8 X₀ N8 T hroom hun S7 hB (by show (rest7 _ _).busy.length ≤ 90; omega) hst PredIs.mk FnIs.mk ?_ fun h9 k9 D9 kk9 F9 N9 => ?_
  · intro r hr
    obtain ⟨y, hy, rfl⟩ := List.mem_map.mp hr
    exact ⟨y.2, rfl, hst y hy⟩
  refine stmt10 (ps := endT ps pre q post x) (led := (D9, listOf #[] kk9) :: led7) (s := ⟨h9, g7, s.drawn, k9, s.os⟩) F9 X₀ N9 T hroom S7.skip b2 (by show (rest7 _ _).book.length ≤ 90; rw [r2]; omega) (by show Pos (bk (rest7 _ _).book 0); rw [r2]; exact hpos 0) fun h10 k10 g10 G10 F10 N10 => ?_
  rw [hquiet, ← e8] at F10
  refine stmt11 (led := (D9, listOf #[] kk9) :: led7) (s := ⟨h10, g10, s.drawn, k10, s.os⟩) F10 X₀ N10 T hroom hun rfl rfl rfl (.head _) fun h11 k11 F11 N11 => ?_
  refine stmt12 (ps := endT ps pre q post x) (led := (D9, listOf #[] kk9) :: led7) (s := ⟨h11, g10, s.drawn, k11, s.os⟩) F11 X₀ N11 T hroom hun S7.skip hB b4 ⟨by show (rest7 _ _).busy.length ≤ 90; omega, by show (rest7 _ _).debts.length ≤ 90; rw [r3]; omega⟩ hsame PredIs.mk fun h12 k12 F12 N12 => ?_
  refine wpAny_execs_nil ?_
  refine hQ h12 k12 g10 _ led7 (GensOk.trans G7 G10) F12 ?_ (News.off N12) S7
  have ew : (endT ps pre q post x).wishes = (midT ps pre q post x).wishes := r1
  rw [ew]
  exact MLoc.intro b1 b2 b3 b4 b5
end
noncomputable def dsite (q : Mail) : Fin 4 := if q.2.2 = true then q.1 else q.2.1
noncomputable def one (a h : Fin 4) : Int := if a = h then 1 else 0
noncomputable def cm : List Mail → Fin 4 → Int
  | [], _ => 0
  | q :: r, h => one (dsite q) h + cm r h
noncomputable def cb : List (Fin 4 × Fin 4) → Fin 4 → Int
  | [], _ => 0
  | q :: r, h => one q.2 h + cb r h
noncomputable def ph : List Mail → Int
  | [] => 0
  | q :: r => (if q.2.2 = true then 2 else 1) + ph r
theorem one_nn (a h : Fin 4) : 0 ≤ one a h := by unfold one; split <;> omega
theorem one_self (a : Fin 4) : one a a = 1 := if_pos rfl
theorem cm_append (h : Fin 4) : ∀ a b : List Mail, cm (a ++ b) h = cm a h + cm b h
  | [], b => by simp [cm]
  | q :: r, b => by rw [List.cons_append, cm, cm, cm_append h r b]; omega
theorem cb_append (h : Fin 4) : ∀ a b : List (Fin 4 × Fin 4), cb (a ++ b) h = cb a h + cb b h
  | [], b => by simp [cb]
  | q :: r, b => by rw [List.cons_append, cb, cb, cb_append h r b]; omega
theorem ph_append : ∀ a b : List Mail, ph (a ++ b) = ph a + ph b
  | [], b => by simp [ph]
  | q :: r, b => by rw [List.cons_append, ph, ph, ph_append r b]; omega
theorem cm_nn (h : Fin 4) : ∀ a : List Mail, 0 ≤ cm a h
  | [] => Int.le_refl _
  | q :: r => by have := cm_nn h r; have := one_nn (dsite q) h; rw [cm]; omega
theorem cb_nn (h : Fin 4) : ∀ a : List (Fin 4 × Fin 4), 0 ≤ cb a h
  | [] => Int.le_refl _
  | q :: r => by have := cb_nn h r; have := one_nn q.2 h; rw [cb]; omega
theorem cb_mem {y : Fin 4 × Fin 4} : ∀ {b : List (Fin 4 × Fin 4)}, y ∈ b → 0 < cb b y.2
  | q :: r, hm => by
    have h1 := cb_nn y.2 r
    have h2 := one_nn q.2 y.2
    rw [cb]
    rcases List.mem_cons.mp hm with rfl | hm
    · rw [one_self]; omega
    · have := cb_mem hm; omega
theorem ph_nn : ∀ a : List Mail, 0 ≤ ph a
  | [] => Int.le_refl _
  | q :: r => by have := ph_nn r; rw [ph]; split <;> omega
noncomputable def Dp (ps : PS) (h : Fin 4) : Int := cm ps.mails h + cb ps.busy h
-- the book and the debts
structure Led (ps : PS) (d : Fin 4 → Int) : Prop where
  debt : ∀ h, (ps.debts.lookup h).getD 0 = d h
  bal : ∀ h, bal (bk ps.book h) = d h
  pos : ∀ h, Pos (bk ps.book h)
  nod : (ps.debts.map (·.1)).Nodup
  pd : ∀ h n, ps.debts.lookup h = some n → 0 < n
  hd : ∃ r, ps.book = (0, true) :: r
theorem bal_append : ∀ a b : List Bool, bal (a ++ b) = bal a + bal b
  | [], b => by simp [bal]
  | q :: r, b => by rw [List.cons_append, bal, bal, bal_append r b]; omega
theorem bk_snoc (book : List (Fin 4 × Bool)) (g : Fin 4) (b : Bool) (h : Fin 4) : bk (book ++ [(g, b)]) h = if g = h then bk book h ++ [b] else bk book h := by
  unfold bk
  rw [List.filter_append, List.map_append, List.filter_cons, List.filter_nil]
  by_cases e : g = h
  · subst e; simp
  · simp [e]
theorem pos_snoc {bs : List Bool} {b : Bool} (h : Pos bs) (hb : 0 ≤ bal (bs ++ [b])) : Pos (bs ++ [b]) := by
  intro i
  by_cases hi : i ≤ bs.length
  · rw [List.take_append_of_le_length hi]; exact h i
  · rw [List.take_of_length_le (by rw [List.length_append]; simp; omega)]; exact hb
theorem map_other {g h : Fin 4} {n : Int} (e : ¬ h = g) : ∀ ds : List (Fin 4 × Int), (ds.map fun p => if p.1 = g then (p.1, n) else p).lookup h = ds.lookup h
  | [] => rfl
  | (i, y) :: r => by
    rw [List.map_cons]
    by_cases e2 : i = g
    · subst e2
      rw [if_pos rfl, List.lookup_cons, List.lookup_cons, map_other e r]
      have : (h == i) = false := by simpa using e
      rw [this]
    · rw [if_neg e2, List.lookup_cons, List.lookup_cons, map_other e r]
theorem snoc_other {g h : Fin 4} {n : Int} (e : ¬ h = g) : ∀ ds : List (Fin 4 × Int), (ds ++ [(g, n)]).lookup h = ds.lookup h
  | [] => by
    have : (h == g) = false := by simpa using e
    rw [List.nil_append, List.lookup_cons, this]
  | (i, y) :: r => by rw [List.cons_append, List.lookup_cons, List.lookup_cons, snoc_other e r]
theorem put_lookup' (ds : List (Fin 4 × Int)) (g : Fin 4) (n : Int) (h : Fin 4) : (putd ds g n).lookup h = if h = g then some n else ds.lookup h := by
  by_cases e : h = g
  · subst e; rw [if_pos rfl]; exact put_lookup ds h n
  · rw [if_neg e]
    unfold putd
    split
    · exact map_other e ds
    · exact snoc_other e ds
theorem del_lookup (ds : List (Fin 4 × Int)) (g h : Fin 4) : (deld ds g).lookup h = if h = g then none else ds.lookup h := by
  unfold deld
  induction ds with
  | nil => split <;> rfl
  | cons p r ih =>
    obtain ⟨i, y⟩ := p
    rw [List.filter_cons, List.lookup_cons]
    by_cases e2 : i = g
    · subst e2
      have : (!(i == i)) = false := by simp
      rw [this, if_neg (by simp), ih]
      by_cases e : h = i
      · rw [if_pos e, if_pos e]
      · rw [if_neg e, if_neg e]
        have : (h == i) = false := by simpa using e
        rw [this]
    · have : (!(i == g)) = true := by simpa using e2
      rw [this, if_pos rfl, List.lookup_cons, ih]
      by_cases e : h = g
      · rw [if_pos e, if_pos e]
        have : (h == i) = false := by rw [e]; simp; exact fun q => e2 q.symm
        rw [this]
      · rw [if_neg e, if_neg e]
theorem any_names (ds : List (Fin 4 × Int)) (g : Fin 4) : ds.any (fun p => p.1 == g) = true ↔ g ∈ ds.map (·.1) := by
  rw [List.any_eq_true, List.mem_map]
  constructor
  · rintro ⟨p, hp, e⟩; exact ⟨p, hp, by simpa using e⟩
  · rintro ⟨p, hp, e⟩; exact ⟨p, hp, by simpa using e⟩
theorem put_names (ds : List (Fin 4 × Int)) (g : Fin 4) (n : Int) : (putd ds g n).map (·.1) = if g ∈ ds.map (·.1) then ds.map (·.1) else ds.map (·.1) ++ [g] := by
  unfold putd
  by_cases h : ds.any (fun p => p.1 == g) = true
  · rw [if_pos h, if_pos ((any_names _ _).mp h), List.map_map]
    congr 1
    funext p
    show (if p.1 = g then (p.1, n) else p).1 = p.1
    split <;> rfl
  · rw [if_neg h, if_neg (fun q => h ((any_names _ _).mpr q)), List.map_append]; rfl
theorem del_names (ds : List (Fin 4 × Int)) (g : Fin 4) : (deld ds g).map (·.1) = (ds.map (·.1)).filter fun i => i != g := by
  unfold deld
  rw [List.filter_map]
  rfl
theorem mem_look {ds : List (Fin 4 × Int)} {g : Fin 4} (h : g ∈ ds.map (·.1)) : ∃ n, ds.lookup g = some n := by
  induction ds with
  | nil => cases h
  | cons p r ih =>
    obtain ⟨i, y⟩ := p
    rw [List.lookup_cons]
    by_cases e : g == i
    · rw [e]; exact ⟨y, rfl⟩
    · simp only [Bool.not_eq_true] at e
      rw [e]
      rw [List.map_cons] at h
      rcases List.mem_cons.mp h with q | h
      · rw [q] at e; simp at e
      · exact ih h
theorem look_mem {ds : List (Fin 4 × Int)} {g : Fin 4} {n : Int} (h : ds.lookup g = some n) : g ∈ ds.map (·.1) := by
  induction ds with
  | nil => cases h
  | cons p r ih =>
    obtain ⟨i, y⟩ := p
    rw [List.lookup_cons] at h
    rw [List.map_cons]
    by_cases e : g == i
    · exact List.mem_cons.mpr (.inl (by simpa using e))
    · simp only [Bool.not_eq_true] at e
      rw [e] at h
      exact .tail _ (ih h)
theorem Led.nn {ps : PS} {d : Fin 4 → Int} (l : Led ps d) (h : Fin 4) : 0 ≤ d h := by
  rw [← l.bal h]
  have := l.pos h (bk ps.book h).length
  rwa [List.take_length] at this
theorem Led.mem {ps : PS} {d : Fin 4 → Int} (l : Led ps d) (h : Fin 4) : h ∈ ps.debts.map (·.1) ↔ 0 < d h := by
  rw [← l.debt h]
  constructor
  · intro hm
    obtain ⟨n, e⟩ := mem_look hm
    rw [e]
    exact l.pd h n e
  · intro hp
    cases e : ps.debts.lookup h with
    | none => rw [e] at hp; exact absurd hp (by decide)
    | some n => exact look_mem e
theorem Led.inc {ps ps' : PS} {d : Fin 4 → Int} {g : Fin 4} (l : Led ps d) (hb : ps'.book = ps.book ++ [(g, true)]) (hd : ps'.debts = putd ps.debts g ((ps.debts.lookup g).getD 0 + 1)) : Led ps' (fun h => d h + one g h) := by
  have hbal : ∀ h, Mine.bal (bk ps'.book h) = d h + one g h := fun h => by
    rw [hb, bk_snoc]
    unfold one
    split
    · rw [bal_append, l.bal]; rfl
    · rw [l.bal]; omega
  refine ⟨fun h => ?_, hbal, fun h => ?_, ?_, fun h n e => ?_, ?_⟩
  · rw [hd, put_lookup']
    unfold one
    by_cases e : h = g
    · subst e; rw [if_pos rfl, if_pos rfl]; show (ps.debts.lookup h).getD 0 + 1 = _; rw [l.debt]
    · rw [if_neg e, if_neg (Ne.symm e), l.debt]; omega
  · have h1 := hbal h
    rw [hb, bk_snoc] at h1 ⊢
    split
    · rename_i e
      rw [if_pos e] at h1
      refine pos_snoc (l.pos h) ?_
      have := l.nn h
      have := one_nn g h
      omega
    · exact l.pos h
  · rw [hd, put_names]
    split
    · exact l.nod
    · rename_i e
      rw [List.nodup_append]
      exact ⟨l.nod, by simp, fun a ha b hb => by simp at hb; subst hb; intro q; exact e (q ▸ ha)⟩
  · rw [hd, put_lookup'] at e
    split at e
    · injection e with e
      have := l.nn g
      rw [← l.debt g] at this
      omega
    · exact l.pd h n e
  · obtain ⟨r, e⟩ := l.hd
    exact ⟨r ++ [(g, true)], by rw [hb, e]; rfl⟩
theorem Led.dec {ps : PS} {d : Fin 4 → Int} {g : Fin 4} (l : Led ps d) (hg : 0 < d g) : Led (pay ps g) (fun h => d h - one g h) := by
  have hbal : ∀ h, Mine.bal (bk (pay ps g).book h) = d h - one g h := fun h => by
    show Mine.bal (bk (ps.book ++ [(g, false)]) h) = _
    rw [bk_snoc]
    unfold one
    split
    · rw [bal_append, l.bal]; rfl
    · rw [l.bal]; omega
  have hk : ∀ h, (pay ps g).debts.lookup h = if h = g then (if d g - 1 = 0 then none else some (d g - 1)) else ps.debts.lookup h := fun h => by
    show (if (ps.debts.lookup g).getD 0 - 1 = 0 then _ else _ : List (Fin 4 × Int)).lookup h = _
    rw [l.debt g]
    split
    · rw [del_lookup, put_lookup']
      split <;> rfl
    · rw [put_lookup']
  refine ⟨fun h => ?_, hbal, fun h => ?_, ?_, fun h n e => ?_, ?_⟩
  · rw [hk]
    unfold one
    by_cases e : h = g
    · subst e; rw [if_pos rfl, if_pos rfl]
      split
      · show (0 : Int) = _; omega
      · rfl
    · rw [if_neg e, if_neg (Ne.symm e), l.debt]; omega
  · have h1 := hbal h
    have h2 : bk (pay ps g).book h = bk (ps.book ++ [(g, false)]) h := rfl
    rw [h2, bk_snoc] at h1 ⊢
    split
    · rename_i e
      rw [if_pos e] at h1
      refine pos_snoc (l.pos h) ?_
      rw [h1]
      subst e
      rw [one_self]; omega
    · exact l.pos h
  · show ((if (ps.debts.lookup g).getD 0 - 1 = 0 then _ else _ : List (Fin 4 × Int)).map (·.1)).Nodup
    have hp : ((putd ps.debts g ((ps.debts.lookup g).getD 0 - 1)).map (·.1)).Nodup := by
      rw [put_names, if_pos ((l.mem g).mpr hg)]; exact l.nod
    split
    · rw [del_names]; exact hp.filter _
    · exact hp
  · rw [hk] at e
    split at e
    · split at e
      · cases e
      · injection e with e; omega
    · exact l.pd h n e
  · obtain ⟨r, e⟩ := l.hd
    exact ⟨r ++ [(g, false)], by show ps.book ++ _ = _; rw [e]; rfl⟩
theorem pay_names {ps : PS} {d : Fin 4 → Int} {g : Fin 4} (l : Led ps d) (hg : 0 < d g) : (pay ps g).debts.map (·.1) = if d g - 1 = 0 then (ps.debts.map (·.1)).filter (fun i => i != g) else ps.debts.map (·.1) := by
  show (if (ps.debts.lookup g).getD 0 - 1 = 0 then _ else _ : List (Fin 4 × Int)).map (·.1) = _
  rw [l.debt g]
  have hp : ∀ n, (putd ps.debts g n).map (·.1) = ps.debts.map (·.1) := fun n => by rw [put_names, if_pos ((l.mem g).mpr hg)]
  split
  · rw [del_names, hp]
  · rw [hp]
def UpB : List (Fin 4) → List (Fin 4 × Fin 4) → Prop
  | _, [] => True
  | seen, r :: t => (r.2 = 0 ∨ r.2 ∈ seen) ∧ UpB (r.1 :: seen) t
theorem UpB.snoc {g w : Fin 4} : ∀ {b : List (Fin 4 × Fin 4)} {seen : List (Fin 4)}, UpB seen b → (w = 0 ∨ w ∈ seen ∨ w ∈ b.map (·.1)) → UpB seen (b ++ [(g, w)])
  | [], seen, _, h => by
    refine ⟨?_, trivial⟩
    rcases h with h | h | h
    · exact .inl h
    · exact .inr h
    · cases h
  | r :: t, seen, hu, h => ⟨hu.1, UpB.snoc hu.2 (by
      rcases h with h | h | h
      · exact .inl h
      · exact .inr (.inl (.tail _ h))
      · rw [List.map_cons] at h
        rcases List.mem_cons.mp h with h | h
        · exact .inr (.inl (List.mem_cons.mpr (.inl h)))
        · exact .inr (.inr h))⟩
theorem UpB.del {g : Fin 4} : ∀ {b : List (Fin 4 × Fin 4)} {seen seen' : List (Fin 4)}, UpB seen b → (∀ r ∈ b, r.2 ≠ g) → (∀ z ∈ seen, z ≠ g → z ∈ seen') → UpB seen' (delB b g)
  | [], _, _, _, _, _ => trivial
  | r :: t, seen, seen', hu, hg, hs => by
    unfold delB
    rw [List.filter_cons]
    have ih : ∀ {s' : List (Fin 4)}, (∀ z ∈ r.1 :: seen, z ≠ g → z ∈ s') → UpB s' (delB t g) := fun h => UpB.del hu.2 (fun r hr => hg r (.tail _ hr)) h
    by_cases e : r.1 = g
    · have : (!(r.1 == g)) = false := by simp [e]
      rw [this, if_neg (by simp)]
      refine ih fun z hz hzg => ?_
      rcases List.mem_cons.mp hz with q | hz
      · exact absurd (q.trans e) hzg
      · exact hs z hz hzg
    · have : (!(r.1 == g)) = true := by simpa using e
      rw [this, if_pos rfl]
      refine ⟨?_, ih fun z hz hzg => ?_⟩
      · rcases hu.1 with h | h
        · exact .inl h
        · exact .inr (hs _ h (hg r (.head _)))
      · rcases List.mem_cons.mp hz with q | hz
        · exact List.mem_cons.mpr (.inl q)
        · exact .tail _ (hs z hz hzg)
theorem UpB.all {r : Fin 4 × Fin 4} : ∀ {pre : List (Fin 4 × Fin 4)} {seen : List (Fin 4)}, UpB seen (pre ++ [r]) → ∀ y ∈ pre ++ [r], y.2 = 0 ∨ y.2 ∈ seen ∨ y.2 ∈ pre.map (·.1)
  | [], seen, hu, y, hy => by
    rw [List.nil_append, List.mem_singleton] at hy
    subst hy
    rcases hu.1 with h | h
    · exact .inl h
    · exact .inr (.inl h)
  | a :: t, seen, hu, y, hy => by
    rcases List.mem_cons.mp hy with rfl | hy
    · rcases hu.1 with h | h
      · exact .inl h
      · exact .inr (.inl h)
    · rcases UpB.all hu.2 y hy with h | h | h
      · exact .inl h
      · rcases List.mem_cons.mp h with h | h
        · exact .inr (.inr (List.mem_cons.mpr (.inl h)))
        · exact .inr (.inl h)
      · exact .inr (.inr (.tail _ h))
theorem UpB.st : ∀ {b : List (Fin 4 × Fin 4)} {seen : List (Fin 4)}, UpB seen b → ∀ y ∈ b, y.2 = 0 ∨ y.2 ∈ seen ∨ y.2 ∈ b.map (·.1)
  | a :: t, seen, hu, y, hy => by
    rcases List.mem_cons.mp hy with rfl | hy
    · rcases hu.1 with h | h
      · exact .inl h
      · exact .inr (.inl h)
    · rcases UpB.st hu.2 y hy with h | h | h
      · exact .inl h
      · rcases List.mem_cons.mp h with h | h
        · exact .inr (.inr (List.mem_cons.mpr (.inl h)))
        · exact .inr (.inl h)
      · exact .inr (.inr (.tail _ h))
theorem blook_mem {b : List (Fin 4 × Fin 4)} {g : Fin 4} (h : g ∈ b.map (·.1)) : ∃ y, b.lookup g = some y := by
  induction b with
  | nil => cases h
  | cons p r ih =>
    obtain ⟨i, y⟩ := p
    rw [List.lookup_cons]
    by_cases e : g == i
    · rw [e]; exact ⟨y, rfl⟩
    · simp only [Bool.not_eq_true] at e
      rw [e]
      rw [List.map_cons] at h
      rcases List.mem_cons.mp h with q | h
      · rw [q] at e; simp at e
      · exact ih h
theorem blook_some {b : List (Fin 4 × Fin 4)} {g y : Fin 4} (h : b.lookup g = some y) : (g, y) ∈ b := by
  induction b with
  | nil => cases h
  | cons p r ih =>
    obtain ⟨i, z⟩ := p
    rw [List.lookup_cons] at h
    by_cases e : g == i
    · rw [e] at h
      injection h with h
      have : g = i := by simpa using e
      rw [this, h]
      exact .head _
    · simp only [Bool.not_eq_true] at e
      rw [e] at h
      exact .tail _ (ih h)
theorem blook_names {b : List (Fin 4 × Fin 4)} {g y : Fin 4} (h : b.lookup g = some y) : g ∈ b.map (·.1) := List.mem_map.mpr ⟨_, blook_some h, rfl⟩
theorem blook_none {b : List (Fin 4 × Fin 4)} {g : Fin 4} (h : b.lookup g = none) : g ∉ b.map (·.1) := fun hm => by
  obtain ⟨y, e⟩ := blook_mem hm
  rw [h] at e; cases e
theorem delB_none {b : List (Fin 4 × Fin 4)} {g : Fin 4} (h : g ∉ b.map (·.1)) : delB b g = b := by
  unfold delB
  rw [List.filter_eq_self]
  intro a ha
  have : a.1 ≠ g := fun e => h (List.mem_map.mpr ⟨a, ha, e⟩)
  simpa using this
theorem delB_names (b : List (Fin 4 × Fin 4)) (g : Fin 4) : (delB b g).map (·.1) = (b.map (·.1)).filter fun i => i != g := by
  unfold delB
  rw [List.filter_map]
  rfl
theorem cb_del {g y : Fin 4} (h : Fin 4) : ∀ {b : List (Fin 4 × Fin 4)}, (b.map (·.1)).Nodup → b.lookup g = some y → cb b h = cb (delB b g) h + one y h ∧ (b.length : Int) = (delB b g).length + 1
  | (i, z) :: r, hn, hl => by
    rw [List.map_cons, List.nodup_cons] at hn
    rw [List.lookup_cons] at hl
    by_cases e : g == i
    · have e' : g = i := by simpa using e
      subst e'
      simp at hl
      subst hl
      have h1 : delB ((g, z) :: r) g = r := by
        show List.filter _ _ = _
        rw [List.filter_cons]
        have : (!((g, z).1 == g)) = false := by simp
        rw [this, if_neg (by simp)]
        exact delB_none hn.1
      rw [h1, cb, List.length_cons]
      exact ⟨by dsimp only; omega, by omega⟩
    · simp only [Bool.not_eq_true] at e
      rw [e] at hl
      obtain ⟨i1, i2⟩ := cb_del h hn.2 hl
      have h1 : delB ((i, z) :: r) g = (i, z) :: delB r g := by
        show List.filter _ _ = _
        rw [List.filter_cons]
        have : (!((i, z).1 == g)) = true := by
          have : ¬ g = i := by simpa using e
          simp; exact fun q => this q.symm
        rw [this, if_pos rfl]
        rfl
      rw [h1, cb, cb, List.length_cons, List.length_cons]
      exact ⟨by omega, by omega⟩
structure Inv (ps : PS) : Prop where
  led : Led ps (Dp ps)
  same : ps.busy.map (·.1) = (ps.debts.map (·.1)).filter fun i => i != 0
  up : UpB [] ps.busy
  w : ps.wishes ≤ 6
noncomputable def phi (ps : PS) : Int := ph ps.mails + ps.busy.length + 2 * (6 - ps.wishes)
theorem Inv.busy {ps : PS} (I : Inv ps) (h : Fin 4) : h ∈ ps.busy.map (·.1) ↔ h ≠ 0 ∧ 0 < Dp ps h := by
  rw [I.same, List.mem_filter, I.led.mem]
  constructor
  · rintro ⟨a, b⟩; exact ⟨by simpa using b, a⟩
  · rintro ⟨a, b⟩; exact ⟨b, by simpa using a⟩
theorem Inv.nodup {ps : PS} (I : Inv ps) : (ps.busy.map (·.1)).Nodup := by rw [I.same]; exact I.led.nod.filter _
theorem Inv.stray {ps : PS} (I : Inv ps) : ∀ r ∈ ps.busy, r.2 = 0 ∨ ∃ z, ps.busy.lookup r.2 = some z := fun r hr => by
  rcases I.up.st r hr with h | h | h
  · exact .inl h
  · cases h
  · exact .inr (blook_mem h)
theorem Inv.quiet {ps : PS} (I : Inv ps) : (bal (bk ps.book 0) == 0) = decide (ps.mails = [] ∧ ps.busy = []) := by
  rw [I.led.bal 0]
  have key : Dp ps 0 = 0 ↔ (ps.mails = [] ∧ ps.busy = []) := by
    constructor
    · intro h
      have hb : ps.busy = [] := by
        cases hb : ps.busy with
        | nil => rfl
        | cons r t =>
          have hu := I.up
          rw [hb] at hu
          have h0 : r.2 = 0 := hu.1.resolve_right (fun q => by cases q)
          have h1 := cb_mem (y := r) (b := ps.busy) (by rw [hb]; exact .head _)
          rw [h0] at h1
          have h2 := cm_nn 0 ps.mails
          unfold Dp at h
          omega
      refine ⟨?_, hb⟩
      cases hm : ps.mails with
      | nil => rfl
      | cons q t =>
        exfalso
        have hd : 0 < Dp ps (dsite q) := by
          unfold Dp
          rw [hm, cm, one_self]
          have := cm_nn (dsite q) t
          have := cb_nn (dsite q) ps.busy
          omega
        by_cases e : dsite q = 0
        · rw [e] at hd; omega
        · have := (I.busy _).mpr ⟨e, hd⟩
          rw [hb] at this
          cases this
    · rintro ⟨h1, h2⟩
      unfold Dp
      rw [h1, h2]; rfl
  by_cases h : Dp ps 0 = 0
  · rw [h]
    rw [decide_eq_true (key.mp h)]
    rfl
  · rw [decide_eq_false (fun q => h (key.mpr q))]
    simpa using h
theorem cb_pos {h : Fin 4} : ∀ {b : List (Fin 4 × Fin 4)}, 0 < cb b h → ∃ y ∈ b, y.2 = h
  | [], hp => by rw [cb] at hp; omega
  | q :: r, hp => by
    by_cases e : q.2 = h
    · exact ⟨q, .head _, e⟩
    · rw [cb, one, if_neg e] at hp
      obtain ⟨y, hy, e⟩ := cb_pos (b := r) (h := h) (by omega)
      exact ⟨y, .tail _ hy, e⟩
theorem Inv.done {ps : PS} (I : Inv ps) (hm : ps.mails = []) : ps.busy = [] := by
  rcases List.eq_nil_or_concat ps.busy with h | ⟨pre, r, h⟩
  · exact h
  · exfalso
    rw [List.concat_eq_append] at h
    have hr : r.1 ∈ ps.busy.map (·.1) := by rw [h]; simp
    obtain ⟨h0, hp⟩ := (I.busy _).mp hr
    unfold Dp at hp
    rw [hm, cm] at hp
    obtain ⟨y, hy, e⟩ := cb_pos (b := ps.busy) (h := r.1) (by omega)
    have hu := I.up
    rw [h] at hu hy
    have hn := I.nodup
    rw [h, List.map_append, List.nodup_append] at hn
    rcases hu.all y hy with q | q | q
    · exact h0 (e ▸ q)
    · cases q
    · rw [e] at q
      exact hn.2.2 _ q r.1 (by simp) rfl
theorem mid_true (ps : PS) (sw g : Fin 4) (x : Int) : mid ps sw g true x = (if ((wish (wish (lay ps g sw) g (d1of x)) g (d2of x)).busy.length : Int) = (ps.busy.length : Int) then { wish (wish (lay ps g sw) g (d1of x)) g (d2of x) with mails := (wish (wish (lay ps g sw) g (d1of x)) g (d2of x)).mails ++ [(g, sw, false)] } else wish (wish (lay ps g sw) g (d1of x)) g (d2of x)) := if_pos rfl
theorem mid_false (ps : PS) (sw g : Fin 4) (x : Int) : mid ps sw g false x = pay ps g := if_neg Bool.false_ne_true
structure Wsh (p p' : PS) (g : Fin 4) (n : Int) : Prop where
  n0 : 0 ≤ n
  led : ∀ d, Led p d → Led p' (fun h => d h + n * one g h)
  cm : ∀ h, cm p'.mails h = cm p.mails h + n * one g h
  ph : ph p'.mails = ph p.mails + 2 * n
  busy : p'.busy = p.busy
  wi : p'.wishes = p.wishes + n
  le : p.wishes ≤ 6 → p'.wishes ≤ 6
  names : p'.debts.map (·.1) = if n = 0 ∨ g ∈ p.debts.map (·.1) then p.debts.map (·.1) else p.debts.map (·.1) ++ [g]
theorem Wsh.none (p : PS) (g : Fin 4) : Wsh p p g 0 :=
  ⟨by decide, fun d l => by have e : (fun h => d h + 0 * one g h) = d := by funext h; rw [Int.zero_mul, Int.add_zero]
                            rw [e]; exact l, fun h => by rw [Int.zero_mul, Int.add_zero], by omega, rfl, by omega, id, by rw [if_pos (.inl rfl)]⟩
theorem wish_wsh (p : PS) (g : Fin 4) (dd : Option (Fin 4)) : ∃ n, Wsh p (wish p g dd) g n := by
  unfold wish
  cases dd with
  | none => exact ⟨0, .none p g⟩
  | some e =>
    dsimp only
    split
    · rename_i hw
      refine ⟨1, ⟨by decide, fun d l => ?_, fun h => ?_, ?_, rfl, rfl, fun _ => by show p.wishes + 1 ≤ 6; omega, ?_⟩⟩
      · have e : (fun h => d h + 1 * one g h) = fun h => d h + one g h := by funext h; rw [Int.one_mul]
        rw [e]
        exact l.inc rfl rfl
      · show Mine.cm (p.mails ++ _) h = _
        rw [cm_append, Mine.cm, Mine.cm, Int.one_mul]
        have : dsite (g, e, true) = g := rfl
        rw [this]; omega
      · show Mine.ph (p.mails ++ _) = _
        rw [ph_append, Mine.ph, Mine.ph, if_pos rfl]; omega
      · show (putd p.debts g _).map (·.1) = _
        rw [put_names]
        by_cases hm : g ∈ p.debts.map (·.1)
        · rw [if_pos hm, if_pos (.inr hm)]
        · rw [if_neg hm, if_neg (by intro q; rcases q with q | q; exact absurd q (by decide); exact hm q)]
    · exact ⟨0, .none p g⟩
theorem Wsh.trans {p p' p'' : PS} {g : Fin 4} {n n' : Int} (a : Wsh p p' g n) (b : Wsh p' p'' g n') : Wsh p p'' g (n + n') := by
  refine ⟨by have := a.n0; have := b.n0; omega, fun d l => ?_, fun h => ?_, ?_, b.busy.trans a.busy, ?_, fun h => b.le (a.le h), ?_⟩
  · have e : (fun h => d h + (n + n') * one g h) = fun h => (d h + n * one g h) + n' * one g h := by funext h; rw [Int.add_mul]; omega
    rw [e]
    exact b.led _ (a.led d l)
  · rw [b.cm, a.cm, Int.add_mul]; omega
  · rw [b.ph, a.ph]; omega
  · rw [b.wi, a.wi]; omega
  · rw [b.names, a.names]
    have h1 := a.n0
    have h2 := b.n0
    by_cases hm : g ∈ p.debts.map (·.1)
    · rw [if_pos (c := n = 0 ∨ _) (.inr hm), if_pos (.inr hm), if_pos (.inr hm)]
    · by_cases hn : n = 0
      · rw [if_pos (c := n = 0 ∨ _) (.inl hn)]
        by_cases hn' : n' = 0
        · rw [if_pos (.inl hn'), if_pos (.inl (by omega))]
        · rw [if_neg (by intro q; rcases q with q | q; exact hn' q; exact hm q), if_neg (by intro q; rcases q with q | q; exact hn' (by omega); exact hm q)]
      · rw [if_neg (c := n = 0 ∨ _) (by intro q; rcases q with q | q; exact hn q; exact hm q), if_pos (.inr (by simp)), if_neg (by intro q; rcases q with q | q; exact hn (by omega); exact hm q)]
theorem Led.congr {ps ps' : PS} {d d' : Fin 4 → Int} (l : Led ps d) (h1 : ps'.book = ps.book) (h2 : ps'.debts = ps.debts) (h3 : ∀ h, d' h = d h) : Led ps' d' := by
  have : d' = d := funext h3
  subst this
  exact ⟨fun h => by rw [h2]; exact l.debt h, fun h => by rw [h1]; exact l.bal h, fun h => by rw [h1]; exact l.pos h, by rw [h2]; exact l.nod, fun h n => by rw [h2]; exact l.pd h n, by rw [h1]; exact l.hd⟩
theorem filt_snoc (l : List (Fin 4)) (g : Fin 4) (hg : g ≠ 0) : (l ++ [g]).filter (fun i => i != 0) = l.filter (fun i => i != 0) ++ [g] := by
  rw [List.filter_append, List.filter_cons]
  have : (g != 0) = true := by simpa using hg
  rw [this]; rfl
theorem filt_snoc0 (l : List (Fin 4)) : (l ++ [0]).filter (fun i => i != (0 : Fin 4)) = l.filter (fun i => i != 0) := by
  rw [List.filter_append, List.filter_cons]; simp
theorem filt_comm (l : List (Fin 4)) (g : Fin 4) : (l.filter (fun i => i != g)).filter (fun i => i != 0) = (l.filter fun i => i != 0).filter fun i => i != g := by
  rw [List.filter_filter, List.filter_filter]
  congr 1
  funext i
  exact Bool.and_comm _ _
section
variable {ps : PS} {pre post : List Mail} {q : Mail} {x : Int}
theorem pop_cm (hq : ps.mails = pre ++ q :: post) (h : Fin 4) : cm (popd ps pre post).mails h = cm ps.mails h - one (dsite q) h := by
  show cm (pre ++ post) h = _
  rw [hq, cm_append, cm_append, cm]; omega
theorem pop_ph (hq : ps.mails = pre ++ q :: post) : ph (popd ps pre post).mails = ph ps.mails - (if q.2.2 = true then 2 else 1) := by
  show ph (pre ++ post) = _
  rw [hq, ph_append, ph_append, ph]; omega
theorem pop_pos (hq : ps.mails = pre ++ q :: post) : 0 < Dp ps (dsite q) := by
  unfold Dp
  rw [hq, cm_append, cm, one_self]
  have := cm_nn (dsite q) pre
  have := cm_nn (dsite q) post
  have := cb_nn (dsite q) ps.busy
  omega
structure TurnOk (ps : PS) (pre : List Mail) (q : Mail) (post : List Mail) (x : Int) : Prop where
  pos : ∀ g, Pos (bk (midT ps pre q post x).book g)
  inv : Inv (endT ps pre q post x)
  phi : phi (endT ps pre q post x) + 1 = phi ps
theorem rest7_id {p : PS} {g : Fin 4} (h : p.busy.lookup g = none ∨ bal (bk p.book g) ≠ 0) : rest7 p g = p := by
  unfold rest7
  rcases h with h | h
  · rw [h]
  · split
    · rfl
    · rw [if_neg h]
theorem rest7_go {p : PS} {g y : Fin 4} (h : p.busy.lookup g = some y) (h2 : bal (bk p.book g) = 0) : rest7 p g = { p with mails := p.mails ++ [(g, y, false)], busy := delB p.busy g } := by
  unfold rest7
  rw [h]
  exact if_pos h2
theorem turn_wish {w g : Fin 4} (I : Inv ps) (hq : ps.mails = pre ++ (w, g, true) :: post) : TurnOk ps pre (w, g, true) post x := by
  have hD : 0 < Dp ps w := pop_pos hq
  have hcm : ∀ h, cm (popd ps pre post).mails h = cm ps.mails h - one w h := pop_cm hq
  have hph : ph (popd ps pre post).mails = ph ps.mails - 2 := pop_ph hq
  have hw0 : w = 0 ∨ w ∈ ps.busy.map (·.1) := by
    by_cases e : w = 0
    · exact .inl e
    · exact .inr ((I.busy w).mpr ⟨e, hD⟩)
  by_cases hlaid : g = 0 ∨ ∃ y, ps.busy.lookup g = some y
  · have e1 : lay (popd ps pre post) g w = popd ps pre post := by
      unfold lay
      by_cases e : g = 0
      · rw [if_pos e]
      · rw [if_neg e]
        obtain ⟨y, hy⟩ := hlaid.resolve_left e
        show (match ps.busy.lookup g with | some _ => _ | none => _) = _
        rw [hy]
    obtain ⟨n1, a⟩ := wish_wsh (popd ps pre post) g (d1of x)
    obtain ⟨n2, b⟩ := wish_wsh (wish (popd ps pre post) g (d1of x)) g (d2of x)
    have W := a.trans b
    generalize n1 + n2 = n at W
    have e2 : midT ps pre (w, g, true) post x = { wish (wish (popd ps pre post) g (d1of x)) g (d2of x) with mails := (wish (wish (popd ps pre post) g (d1of x)) g (d2of x)).mails ++ [(g, w, false)] } := by
      show mid (popd ps pre post) w g true x = _
      rw [mid_true, e1, if_pos (by rw [W.busy])]
    generalize wish (wish (popd ps pre post) g (d1of x)) g (d2of x) = p2 at W e2
    clear a b
    have L2 : Led p2 (fun h => Dp ps h + n * one g h) := W.led _ (I.led.congr rfl rfl fun _ => rfl)
    have hb2 : p2.busy = ps.busy := W.busy
    have n0 := W.n0
    have e3 : endT ps pre (w, g, true) post x = midT ps pre (w, g, true) post x := by
      refine rest7_id ?_
      by_cases e : g = 0
      · left
        rw [e2]
        show p2.busy.lookup g = none
        rw [hb2]
        cases hl : ps.busy.lookup g with
        | none => rfl
        | some y => exact absurd e ((I.busy g).mp (blook_names hl)).1
      · right
        obtain ⟨y, hy⟩ := hlaid.resolve_left e
        have hp := ((I.busy g).mp (blook_names hy)).2
        rw [e2]
        show bal (bk p2.book g) ≠ 0
        rw [L2.bal g, one_self]
        omega
    have hDp : ∀ h, Dp (endT ps pre (w, g, true) post x) h = Dp ps h + n * one g h := fun h => by
      rw [e3, e2]
      show cm (p2.mails ++ [(g, w, false)]) h + cb p2.busy h = _
      rw [cm_append, W.cm, hcm, hb2, cm, cm]
      have : dsite (g, w, false) = w := rfl
      rw [this]
      unfold Dp
      omega
    refine ⟨fun h => ?_, ⟨?_, ?_, ?_, ?_⟩, ?_⟩
    · rw [e2]; exact L2.pos h
    · refine L2.congr ?_ ?_ hDp
      · rw [e3, e2]
      · rw [e3, e2]
    · rw [e3, e2]
      show p2.busy.map (·.1) = (p2.debts.map (·.1)).filter _
      rw [hb2, W.names]
      show _ = (if n = 0 ∨ g ∈ ps.debts.map (·.1) then ps.debts.map (·.1) else ps.debts.map (·.1) ++ [g]).filter _
      by_cases e : g = 0
      · subst e
        split
        · exact I.same
        · rw [filt_snoc0]; exact I.same
      · obtain ⟨y, hy⟩ := hlaid.resolve_left e
        have hp := ((I.busy g).mp (blook_names hy)).2
        rw [if_pos (.inr ((I.led.mem g).mpr hp))]
        exact I.same
    · rw [e3, e2]
      show UpB [] p2.busy
      rw [hb2]; exact I.up
    · rw [e3, e2]
      exact W.le I.w
    · rw [e3, e2]
      have h1 := W.ph
      have h2 := W.wi
      have h2' : p2.wishes = ps.wishes + n := h2
      show ph (p2.mails ++ [(g, w, false)]) + (p2.busy.length : Int) + 2 * (6 - p2.wishes) + 1 = ph ps.mails + (ps.busy.length : Int) + 2 * (6 - ps.wishes)
      rw [ph_append, h1, hph, hb2, h2', ph, ph, if_neg (by simp)]
      omega
  · have hg0 : g ≠ 0 := fun e => hlaid (.inl e)
    have hl : ps.busy.lookup g = none := by
      cases hl : ps.busy.lookup g with
      | none => rfl
      | some y => exact absurd (.inr ⟨y, hl⟩) hlaid
    have hgn := blook_none hl
    have hg1 : Dp ps g = 0 := by
      have h1 := I.led.nn g
      by_cases e : 0 < Dp ps g
      · exact absurd ((I.busy g).mpr ⟨hg0, e⟩) hgn
      · omega
    have hgd : g ∉ ps.debts.map (·.1) := fun q => by have := (I.led.mem g).mp q; omega
    have e1 : lay (popd ps pre post) g w = { popd ps pre post with busy := ps.busy ++ [(g, w)] } := by
      unfold lay
      rw [if_neg hg0]
      show (match ps.busy.lookup g with | some _ => _ | none => _) = _
      rw [hl]
      rfl
    generalize hp1 : lay (popd ps pre post) g w = p1 at e1
    obtain ⟨n1, a⟩ := wish_wsh p1 g (d1of x)
    obtain ⟨n2, b⟩ := wish_wsh (wish p1 g (d1of x)) g (d2of x)
    have W := a.trans b
    generalize n1 + n2 = n at W
    have hbW : (wish (wish p1 g (d1of x)) g (d2of x)).busy = ps.busy ++ [(g, w)] := by rw [W.busy, e1]
    have e2 : midT ps pre (w, g, true) post x = wish (wish p1 g (d1of x)) g (d2of x) := by
      show mid (popd ps pre post) w g true x = _
      rw [mid_true, hp1, if_neg (by rw [hbW]; show ¬ (((ps.busy ++ [(g, w)]).length : Nat) : Int) = (ps.busy.length : Int); rw [List.length_append]; simp; omega)]
    generalize wish (wish p1 g (d1of x)) g (d2of x) = p2 at W e2 hbW
    clear a b
    have L2 : Led p2 (fun h => Dp ps h + n * one g h) := W.led _ (I.led.congr (by rw [e1]; rfl) (by rw [e1]; rfl) fun _ => rfl)
    have hcm2 : ∀ h, cm p2.mails h = cm ps.mails h - one w h + n * one g h := fun h => by
      rw [W.cm, e1, ← hcm]
    have hph2 : ph p2.mails = ph ps.mails - 2 + 2 * n := by
      rw [W.ph, e1, ← hph]
    have hwi : p2.wishes = ps.wishes + n := by rw [W.wi, e1]; rfl
    have hwl : p2.wishes ≤ 6 := W.le (by rw [e1]; exact I.w)
    have hnm : p2.debts.map (·.1) = if n = 0 ∨ g ∈ ps.debts.map (·.1) then ps.debts.map (·.1) else ps.debts.map (·.1) ++ [g] := by rw [W.names, e1]; rfl
    have n0 := W.n0
    have hlk : p2.busy.lookup g = some w := by rw [hbW]; exact busy_snoc hl
    have hbal : bal (bk p2.book g) = n := by rw [L2.bal g, one_self, hg1]; omega
    have hposm : ∀ h, Pos (bk (midT ps pre (w, g, true) post x).book h) := fun h => by rw [e2]; exact L2.pos h
    by_cases hn : n = 0
    · subst hn
      have e3 : endT ps pre (w, g, true) post x = { p2 with mails := p2.mails ++ [(g, w, false)], busy := ps.busy } := by
        show rest7 (midT ps pre (w, g, true) post x) g = _
        rw [e2, rest7_go hlk hbal, hbW]
        have : delB (ps.busy ++ [(g, w)]) g = ps.busy := by
          have h1 : delB (ps.busy ++ [(g, w)]) g = delB ps.busy g ++ delB [(g, w)] g := List.filter_append ..
          rw [h1, delB_none hgn]
          have h2 : delB [(g, w)] g = [] := by unfold delB; simp
          rw [h2, List.append_nil]
        rw [this]
      have hDp : ∀ h, Dp (endT ps pre (w, g, true) post x) h = Dp ps h + 0 * one g h := fun h => by
        rw [e3]
        show cm (p2.mails ++ [(g, w, false)]) h + cb ps.busy h = _
        rw [cm_append, hcm2, cm, cm]
        have : dsite (g, w, false) = w := rfl
        rw [this]
        unfold Dp
        omega
      refine ⟨hposm, ⟨L2.congr (by rw [e3]) (by rw [e3]) hDp, ?_, ?_, ?_⟩, ?_⟩
      · rw [e3]
        show ps.busy.map (·.1) = (p2.debts.map (·.1)).filter _
        rw [hnm, if_pos (.inl rfl)]
        exact I.same
      · rw [e3]; exact I.up
      · rw [e3]; exact hwl
      · rw [e3]
        show ph (p2.mails ++ [(g, w, false)]) + (ps.busy.length : Int) + 2 * (6 - p2.wishes) + 1 = ph ps.mails + (ps.busy.length : Int) + 2 * (6 - ps.wishes)
        rw [ph_append, hph2, hwi, ph, ph, if_neg (by simp)]
        omega
    · have e3 : endT ps pre (w, g, true) post x = p2 := by
        show rest7 (midT ps pre (w, g, true) post x) g = _
        rw [e2]
        exact rest7_id (.inr (by rw [hbal]; exact hn))
      have hDp : ∀ h, Dp (endT ps pre (w, g, true) post x) h = Dp ps h + n * one g h := fun h => by
        rw [e3]
        show cm p2.mails h + cb p2.busy h = _
        rw [hcm2, hbW, cb_append, cb, cb]
        unfold Dp
        dsimp only
        omega
      refine ⟨hposm, ⟨L2.congr (by rw [e3]) (by rw [e3]) hDp, ?_, ?_, ?_⟩, ?_⟩
      · rw [e3, hbW, hnm, if_neg (by intro q; rcases q with q | q; exact hn q; exact hgd q), filt_snoc _ _ hg0, List.map_append, I.same]
        rfl
      · rw [e3, hbW]
        exact I.up.snoc (hw0.elim .inl fun h => .inr (.inr h))
      · rw [e3]; exact hwl
      · rw [e3]
        show ph p2.mails + (p2.busy.length : Int) + 2 * (6 - p2.wishes) + 1 = ph ps.mails + (ps.busy.length : Int) + 2 * (6 - ps.wishes)
        rw [hph2, hwi, hbW, List.length_append]
        simp
        omega
theorem turn_answer {w g : Fin 4} (I : Inv ps) (hq : ps.mails = pre ++ (w, g, false) :: post) : TurnOk ps pre (w, g, false) post x := by
  have hD : 0 < Dp ps g := pop_pos hq
  have hcm : ∀ h, cm (popd ps pre post).mails h = cm ps.mails h - one g h := pop_cm hq
  have hph : ph (popd ps pre post).mails = ph ps.mails - 1 := pop_ph hq
  have L0 : Led (popd ps pre post) (Dp ps) := I.led.congr rfl rfl fun _ => rfl
  have L3 := L0.dec hD
  have hnm := pay_names L0 hD
  have e2 : midT ps pre (w, g, false) post x = pay (popd ps pre post) g := mid_false _ _ _ _
  have hb3 : (pay (popd ps pre post) g).busy = ps.busy := rfl
  have hm3 : (pay (popd ps pre post) g).mails = (popd ps pre post).mails := rfl
  have hw3 : (pay (popd ps pre post) g).wishes = ps.wishes := rfl
  have hnm : (pay (popd ps pre post) g).debts.map (·.1) = if Dp ps g - 1 = 0 then (ps.debts.map (·.1)).filter (fun i => i != g) else ps.debts.map (·.1) := hnm
  generalize pay (popd ps pre post) g = p3 at L3 hnm e2 hb3 hm3 hw3
  have hbal : bal (bk p3.book g) = Dp ps g - 1 := by rw [L3.bal g, one_self]
  have hposm : ∀ h, Pos (bk (midT ps pre (w, g, false) post x).book h) := fun h => by rw [e2]; exact L3.pos h
  by_cases hgo : Dp ps g - 1 = 0 ∧ ∃ y, ps.busy.lookup g = some y
  · obtain ⟨h0, y, hy⟩ := hgo
    have e3 : endT ps pre (w, g, false) post x = { p3 with mails := p3.mails ++ [(g, y, false)], busy := delB ps.busy g } := by
      show rest7 (midT ps pre (w, g, false) post x) g = _
      rw [e2, rest7_go (by rw [hb3]; exact hy) (by rw [hbal]; exact h0), hb3]
    have hcb := fun h => cb_del h I.nodup hy
    have hDp : ∀ h, Dp (endT ps pre (w, g, false) post x) h = Dp ps h - one g h := fun h => by
      rw [e3]
      show cm (p3.mails ++ [(g, y, false)]) h + cb (delB ps.busy g) h = _
      rw [cm_append, hm3, hcm, cm, cm]
      have : dsite (g, y, false) = y := rfl
      rw [this]
      have := (hcb h).1
      unfold Dp
      omega
    refine ⟨hposm, ⟨L3.congr (by rw [e3]) (by rw [e3]) hDp, ?_, ?_, ?_⟩, ?_⟩
    · rw [e3]
      show (delB ps.busy g).map (·.1) = (p3.debts.map (·.1)).filter _
      rw [delB_names, hnm, if_pos h0, filt_comm, I.same]
    · rw [e3]
      show UpB [] (delB ps.busy g)
      refine I.up.del (fun r hr e => ?_) (fun z hz => by cases hz)
      have h1 := cb_mem hr
      rw [e] at h1
      have h2 : cm ps.mails g = cm (popd ps pre post).mails g + 1 := by have := hcm g; rw [one_self] at this; omega
      have h3 := cm_nn g (popd ps pre post).mails
      unfold Dp at h0
      omega
    · rw [e3]; show p3.wishes ≤ 6; rw [hw3]; exact I.w
    · rw [e3]
      have h1 := (hcb 0).2
      show ph (p3.mails ++ [(g, y, false)]) + ((delB ps.busy g).length : Int) + 2 * (6 - p3.wishes) + 1 = ph ps.mails + (ps.busy.length : Int) + 2 * (6 - ps.wishes)
      rw [ph_append, hm3, hph, hw3, ph, ph, if_neg (by simp)]
      omega
  · have e3 : endT ps pre (w, g, false) post x = p3 := by
      show rest7 (midT ps pre (w, g, false) post x) g = _
      rw [e2]
      refine rest7_id ?_
      by_cases h0 : Dp ps g - 1 = 0
      · left
        rw [hb3]
        cases hl : ps.busy.lookup g with
        | none => rfl
        | some y => exact absurd ⟨h0, y, hl⟩ hgo
      · right; rw [hbal]; exact h0
    have hDp : ∀ h, Dp (endT ps pre (w, g, false) post x) h = Dp ps h - one g h := fun h => by
      rw [e3]
      show cm p3.mails h + cb p3.busy h = _
      rw [hm3, hcm, hb3]
      unfold Dp
      omega
    refine ⟨hposm, ⟨L3.congr (by rw [e3]) (by rw [e3]) hDp, ?_, ?_, ?_⟩, ?_⟩
    · rw [e3, hb3, hnm]
      split
      · rename_i h0
        have hl : ps.busy.lookup g = none := by
          cases hl : ps.busy.lookup g with
          | none => rfl
          | some y => exact absurd ⟨h0, y, hl⟩ hgo
        have hg0 : g = 0 := by
          by_cases e : g = 0
          · exact e
          · exact absurd ((I.busy g).mpr ⟨e, hD⟩) (blook_none hl)
        subst hg0
        rw [List.filter_filter, I.same]
        simp
      · exact I.same
    · rw [e3, hb3]; exact I.up
    · rw [e3, hw3]; exact I.w
    · rw [e3]
      show ph p3.mails + (p3.busy.length : Int) + 2 * (6 - p3.wishes) + 1 = ph ps.mails + (ps.busy.length : Int) + 2 * (6 - ps.wishes)
      rw [hm3, hph, hb3, hw3]
      omega
theorem turn_ok (I : Inv ps) (hq : ps.mails = pre ++ q :: post) : TurnOk ps pre q post x := by
  obtain ⟨w, g, k⟩ := q
  cases k with
  | true => exact turn_wish I hq
  | false => exact turn_answer I hq
theorem turn_debt (I : Inv ps) (hq : ps.mails = pre ++ q :: post) (hk : q.2.2 = false) : ∃ n, ps.debts.lookup q.2.1 = some n := by
  have h := pop_pos hq
  have e : dsite q = q.2.1 := by unfold dsite; rw [hk]; rfl
  rw [e] at h
  exact mem_look ((I.led.mem _).mpr h)
end
theorem bnd_end (ps : PS) (pre : List Mail) (q : Mail) (post : List Mail) (x : Int) (hq : ps.mails = pre ++ q :: post) :
    (endT ps pre q post x).mails.length ≤ ps.mails.length + 3 ∧ (endT ps pre q post x).book.length ≤ ps.book.length + 2 ∧ (endT ps pre q post x).debts.length ≤ ps.debts.length + 2 ∧ (endT ps pre q post x).busy.length ≤ ps.busy.length + 1 := by
  obtain ⟨m1, m2, m3, m4⟩ := mid_len (popd ps pre post) q.1 q.2.1 q.2.2 x
  obtain ⟨r1, r2, r3, r4, r5⟩ := rest7_keep (midT ps pre q post x) q.2.1
  have m1' : (midT ps pre q post x).mails.length ≤ (pre ++ post).length + 3 := m1
  have m2' : (midT ps pre q post x).book.length ≤ ps.book.length + 2 := m2
  have m3' : (midT ps pre q post x).debts.length ≤ ps.debts.length + 2 := m3
  have m4' : (midT ps pre q post x).busy.length ≤ ps.busy.length + 1 := m4
  have hl : ps.mails.length = (pre ++ post).length + 1 := by rw [hq]; simp; omega
  refine ⟨by show (rest7 _ _).mails.length ≤ _; omega, by show (rest7 _ _).book.length ≤ _; rw [r2]; omega, by show (rest7 _ _).debts.length ≤ _; rw [r3]; omega, by show (rest7 _ _).busy.length ≤ _; omega⟩
theorem phi_nn {ps : PS} (I : Inv ps) : 0 ≤ phi ps := by
  have := ph_nn ps.mails
  have := I.w
  unfold phi
  omega
section
variable {prog : Program} {w : World} {dp un : Nat} {fr : Option (List Env)} {gd : Option (List Code)} {s : Shared} {h₀ : Heap} {L : Addr} {m mg mb : Str → Option Value} {led keep : List (Addr × Obj)} {p : Program} {loose : List Str} {mean : ExcName → Option Value}
    {Q : Flow → Shared → Prop} {E : Value → Shared → Prop} {c : Ad} {ps : PS} {nL : Addr} {x : Int} {oB : Obj}
theorem main_loop {vs : List Value} {lX : Addr} {kk : Nat} (F : Fr h₀ L s.heap m) (X₀ : (hd.heap_39 w.params).In h₀) (N : News h₀ L s.heap led) (T : Top p loose mean mg mb h₀) (hroom : dp < 600) (hun : un < 5000) (S : St prog w led c ((L + 1, oB) :: keep) ps) (hB : oB.data = .cell (some (.ref c.aB)))
    (hl : MLoc nL c ps.wishes m) (I : Inv ps) (hphi : phi ps = 12) (hsz : ps.mails.length ≤ 2 ∧ ps.book.length ≤ 2 ∧ ps.debts.length ≤ 2 ∧ ps.busy.length ≤ 2)
    (hX : (lX, listOf vs.toArray kk) ∈ led) (hXa : lX ≠ c.lB ∧ lX ≠ c.lK ∧ lX ≠ c.lM ∧ lX ≠ c.dD) (hvs : vs.length = 20) (hint : ∀ v ∈ vs, ∃ n t, v = .int n t)
    (hQ : ∀ h' tk' gs m' led' ps', GensOk s.gens gs → Fr h₀ L h' m' → MLoc nL c ps'.wishes m' → News h₀ L h' led' → St prog w led' c ((L + 1, oB) :: keep) ps' → Inv ps' → ps'.mails = [] → ps'.book.length ≤ 90 → Q .next { s with heap := h', gens := gs, toks := tk' }) :
    wpAny (model prog w) ((AR dp fr gd un).deeper (runEnv L)) (pyIter (.ref lX)) (Turns prog w ((AR dp fr gd un).deeper (runEnv L)) runMain.1.1 runMain.1.2.2.1 (runEnv L) Q) NoE s := by
  have S0 : St prog w led c ((L + 1, oB) :: (lX, listOf vs.toArray kk) :: keep) ps := S.keep2 hX hXa
  refine for_list (vs := vs) (fun i m₁ led₁ gs => GensOk s.gens gs ∧ (∀ p ∈ led₁, p.1 ≠ s.heap.objs.size) ∧ ∃ ps', Inv ps' ∧ phi ps' + i = 12 ∧ (ps'.mails.length ≤ 2 + 3 * i ∧ ps'.book.length ≤ 2 + 2 * i ∧ ps'.debts.length ≤ 2 + 2 * i ∧ ps'.busy.length ≤ 2 + i) ∧ MLoc nL c ps'.wishes m₁ ∧ St prog w led₁ c ((L + 1, oB) :: (lX, listOf vs.toArray kk) :: keep) ps') rfl F N ⟨_, (N _ hX).1, rfl, _, rfl⟩
    ⟨GensOk.refl _, fun p hp => Nat.ne_of_lt (Heap.lt_size (N p hp).1), ps, I, by omega, by omega, hl, S0⟩ ?_ ?_ ?_ ?_
  · rintro i m₁ led₁ gs h ⟨_, _, ps', _, _, _, _, S₁⟩ _ N₁
    exact ⟨_, (N₁ _ (S₁.kp _ (.tail _ (.head _))).1).1, rfl, _, rfl⟩
  · rintro i m₁ led₁ gs ⟨_, h, _⟩
    exact h
  · rintro i v o m₁ led₁ gs h tk hv ⟨G₁, hoff, ps', I', hph, ⟨b1, b2, b3, b4⟩, hl₁, S₁⟩ hO F₁ N₁
    obtain ⟨n, u, rfl⟩ := hint v (List.mem_of_getElem? hv)
    have hi : i ≤ 12 := by have := phi_nn I'; omega
    have hF₁ := S₁.fresh hoff
    have S₂ : St prog w ((s.heap.objs.size, o) :: led₁) c ((L + 1, oB) :: (s.heap.objs.size, o) :: (lX, listOf vs.toArray kk) :: keep) ps' := S₁.skip.keep2 (.head _) hF₁
    refine wpAny_pure ?_
    refine wpAny_assign_Name (storeX_L F₁ N₁ fun h' F' N' => ?_)
    obtain ⟨tM, mm, hm₁⟩ := hl₁
    have a1 : m₁ (Str.ofString "numbers") = some (.ref nL) := by rw [hm₁]; rfl
    have a2 : m₁ (Str.ofString "book") = some (.ref c.aK) := by rw [hm₁]; rfl
    have a3 : m₁ (Str.ofString "mails") = some (.ref c.lM) := by rw [hm₁]; rfl
    have a4 : m₁ (Str.ofString "debts") = some (.ref c.dD) := by rw [hm₁]; rfl
    have a5 : m₁ (Str.ofString "wishes") = some (.int ps'.wishes tM) := by rw [hm₁]; rfl
    clear hm₁
    have hl₂ : MLoc nL c ps'.wishes (fun y => if y = Str.ofString "x" then some (.int n u) else m₁ y) := MLoc.intro a1 a2 a3 a4 a5
    rw [turn_is]
    refine stmt1 (s := ⟨h', gs, s.drawn, _, s.os⟩) F' X₀ N' T hun S₂ a3 (fun hm h3 k3 F3 N3 => ?_) (fun hm h3 k3 F3 N3 => ?_)
    · exact hQ h3 k3 gs _ _ ps' G₁ F3 hl₂ N3 S₂.drop2.drop2 I' hm (by omega)
    · have hlen : 0 < ps'.mails.length := List.length_pos_iff.mpr hm
      have hf1 := Int.fmod_nonneg_of_pos n (show (0 : Int) < (ps'.mails.length : Int) by omega)
      have hf2 := Int.fmod_lt_of_pos n (show (0 : Int) < (ps'.mails.length : Int) by omega)
      have hk : (n.fmod ps'.mails.length).toNat < ps'.mails.length := by omega
      have hq := split_at' (ks := ps'.mails) (i := (n.fmod ps'.mails.length).toNat) (List.getElem?_eq_getElem hk)
      generalize hpre : ps'.mails.take (n.fmod ps'.mails.length).toNat = pre at hq
      generalize ps'.mails.drop ((n.fmod ps'.mails.length).toNat + 1) = post at hq
      generalize ps'.mails[(n.fmod ps'.mails.length).toNat] = q at hq
      have hx : n.fmod ps'.mails.length = (pre.length : Int) := by rw [← hpre, List.length_take]; omega
      have ok := turn_ok (x := n) I' hq
      have bnd := bnd_end ps' pre q post n hq
      refine turn (s := ⟨h3, gs, s.drawn, k3, s.os⟩) (tx := u) F3 X₀ N3 T hroom hun S₂ hB hl₂ rfl (by omega) hq hx (turn_debt I' hq) ok.pos ok.inv.quiet ok.inv.stray ok.inv.same fun h4 k4 gs4 m4 led4 G4 F4 hl4 N4 S4 => ?_
      have hmem := (S4.kp _ (.tail _ (.head _))).1
      have hphi' := ok.phi
      refine ⟨h4, k4, gs4, m4, offA s.heap.objs.size led4, rfl, F4, ?_, GensOk.trans G₁ G4, fun p hp => (offA_mem.mp hp).2, endT ps' pre q post n, ok.inv, by omega, by omega, hl4, ?_⟩
      · refine News.sub N4 fun p hp => ?_
        rcases List.mem_cons.mp hp with rfl | hp
        · exact hmem
        · exact (offA_mem.mp hp).1
      · refine (S4.drop2).off N4 hmem hO.1 hF₁ fun p hp => ?_
        rcases List.mem_cons.mp hp with rfl | hp
        · exact hoff _ (S₁.kp _ (.head _)).1
        · rcases List.mem_cons.mp hp with rfl | hp
          · exact hoff _ (S₁.kp _ (.tail _ (.head _))).1
          · exact hoff _ (S₁.kp _ (.tail _ (.tail _ hp))).1
  · rintro m₁ led₁ gs h tk ⟨_, _, ps', I', hph, _⟩
    exfalso
    have := phi_nn I'
    rw [hvs] at hph
    omega
end
noncomputable def stA : { q : Stmt // runDef.1.2.2.1[0]? = some q } := ⟨_, rfl⟩
noncomputable def ps0 : PS := ⟨[], [], [], [(0, 2)], 2⟩
theorem store_cellA {M : Model} {A : Around} {E : Value → Shared → Prop} {s : Shared} {h₀ : Heap} {L a : Addr} {m : Str → Option Value} {cn : Str} {cs : Scope} {ccd : Value} {cl : List (Str × Addr)}
    {x : Str} {v : Value} {Q : Unit → Shared → Prop} {news : List (Addr × Obj)} {c : Addr} {o : Obj} {v₀ : Option Value} (F : Fr h₀ L s.heap m) (N : News h₀ L s.heap news) (hc : cl.lookup x = some c) (hm : (c, o) ∈ news) (hd : o.data = .cell v₀)
    (h : ∀ h' o' led', Fr h₀ L h' m → News h₀ L h' led' → o'.data = .cell (some v) → (c, o') ∈ led' → (∀ b ob, (b, ob) ∈ news → (∀ u, ob.data ≠ .cell u) → (b, ob) ∈ led') → Q () { s with heap := h' })
    (hk : cs.kind = .function := by rfl) (hx : (envX cn cs L a ccd cl).kindOf x = some .cell := by rfl) : wpAny M A (storeName (envX cn cs L a ccd cl) x v) Q E s := by
  have hmem := N (c, o) hm
  refine wpAny_storeName_cell hk hx hc ⟨o, hmem.1, hd⟩ fun h' hv hs => ?_
  obtain ⟨o', ho', hd'⟩ := hv
  refine h h' o' (putA c o' news) (Fr.putF F N hm hs) (News.put N hm hs ho') hd' (putA_here hm) fun b ob hb hn => putA_other hb fun e => ?_
  have h1 := (N _ hb).1
  dsimp only at h1 hmem
  rw [e, hmem.1] at h1
  injection h1 with h1
  exact hn v₀ (h1 ▸ hd)
theorem stA_fin {prog : Program} {w : World} {led : List (Addr × Obj)} {aB dB lB aK dK lK lM dD nL L Lw : Nat} {oD oC oN oW : Obj} {t2 : Tok} {hs hs' : Int} {t0 t0' : Tok} {n0 n0' n1 n2 n3 : Nat} (hlo : (dD == sysModules) = false) (hd : oD.IsDictOf (strKind prog w) [(Str.ofString ".", .int 2 t2)])
    (bi : (aB, instObj 175 dB) ∈ led) (bd : (dB, dictOf [⟨hs, .str (Str.ofString "_headers") t0, .ref lB⟩] n0) ∈ led) (bl : (lB, listOf #[] n1) ∈ led)
    (ki : (aK, instObj 175 dK) ∈ led) (kd : (dK, dictOf [⟨hs', .str (Str.ofString "_headers") t0', .ref lK⟩] n0') ∈ led) (kl : (lK, listOf #[] n2) ∈ led) (ml : (lM, listOf #[] n3) ∈ led) (dd : (dD, oD) ∈ led)
    (o1 : nL < L) (o2 : L + 1 < lB) (o3 : lB < dB) (o4 : dB < aB) (o5 : aB < lK) (o6 : lK < dK) (o7 : dK < aK) (o8 : aK < lM) (o9 : lM < dD) (hc : (L + 1, oC) ∈ led) (nn : (nL, oN) ∈ led) (hw : (Lw, oW) ∈ led) (ow : Lw < L) :
    St prog w led ⟨aB, dB, lB, aK, dK, lK, lM, dD⟩ [(L + 1, oC), (nL, oN), (Lw, oW)] ps0 := by
  refine ⟨bi, ⟨_, _, _, bd⟩, ⟨[], _, bl, .nil⟩, ki, ⟨_, _, _, kd⟩, ⟨[], _, kl, .nil⟩, ⟨[], _, ml, .nil⟩, ⟨_, _, dd, hd, DebtsAre.cons (i := 0) .nil⟩, hlo, ⟨?_, ?_, ?_, ?_⟩, fun p hp => ?_⟩
  · intro x hx
    simp only [List.mem_cons, List.not_mem_nil, or_false] at hx
    show @Ne Nat x lB
    rcases hx with rfl | rfl | rfl | rfl | rfl | rfl | rfl <;> omega
  · intro x hx
    simp only [List.mem_cons, List.not_mem_nil, or_false] at hx
    show @Ne Nat x lK
    rcases hx with rfl | rfl | rfl | rfl | rfl | rfl | rfl <;> omega
  · intro x hx
    simp only [List.mem_cons, List.not_mem_nil, or_false] at hx
    show @Ne Nat x lM
    rcases hx with rfl | rfl | rfl | rfl | rfl | rfl | rfl <;> omega
  · intro x hx
    simp only [List.mem_cons, List.not_mem_nil, or_false] at hx
    show @Ne Nat x dD
    rcases hx with rfl | rfl | rfl | rfl | rfl | rfl | rfl <;> omega
  · rcases List.mem_cons.mp hp with rfl | hp
    · exact ⟨hc, (show ¬ (L + 1 = lB) by omega), (show ¬ (L + 1 = lK) by omega), (show ¬ (L + 1 = lM) by omega), (show ¬ (L + 1 = dD) by omega)⟩
    · rcases List.mem_cons.mp hp with rfl | hp
      · exact ⟨nn, (show ¬ (nL = lB) by omega), (show ¬ (nL = lK) by omega), (show ¬ (nL = lM) by omega), (show ¬ (nL = dD) by omega)⟩
      · rw [List.mem_singleton.mp hp]
        exact ⟨hw, (show ¬ (Lw = lB) by omega), (show ¬ (Lw = lK) by omega), (show ¬ (Lw = lM) by omega), (show ¬ (Lw = dD) by omega)⟩
theorem stA_ap {aB dB lB aK dK lK L Lw : Nat} {lM dD : Addr} (o2 : L + 1 < lB) (o3 : lB < dB) (o4 : dB < aB) (o5 : aB < lK) (o6 : lK < dK) (o7 : dK < aK) (ow : Lw < L) : ∀ a ∈ [(Ad.mk aB dB lB aK dK lK lM dD).aB, (Ad.mk aB dB lB aK dK lK lM dD).dB, (Ad.mk aB dB lB aK dK lK lM dD).aK, (Ad.mk aB dB lB aK dK lK lM dD).dK], a ≠ Lw := by
  intro x hx
  simp only [List.mem_cons, List.not_mem_nil, or_false] at hx
  show @Ne Nat x Lw
  rcases hx with rfl | rfl | rfl | rfl <;> omega
section
local macro_rules | `(tactic| walk_at "storeName") => `(tactic| (k_here; k_dflt (refine' store_cellA ?cF ?cN ?cc ?cm ?cd ?_ ?ck ?cx; (case cF => assumption); (case cN => assumption); (case cc => rfl); (case cm => k_mem); (case cd => assumption); (case ck => rfl); (case cx => rfl); intro h' o' led' F' N' hd' hcm' hall')))
variable {prog : Program} {w : World} {dp un : Nat} {fr : Option (List Env)} {gd : Option (List Code)} {s : Shared} {h₀ : Heap} {L : Addr} {m mg mb : Str → Option Value} {led keep : List (Addr × Obj)} {p : Program} {loose : List Str} {mean : ExcName → Option Value}
    {Q : Flow → Shared → Prop} {E : Value → Shared → Prop} {c : Ad} {ps : PS} {nL : Addr} {x b : Int} {oB : Obj} {sw g : Fin 4} {k : Bool} {rest : List Stmt}
local macro_rules | `(tactic| k_all) => `(tactic| first | exact lt_all_ne (by assumption) | exact allLt_ne (by assumption) | exact allLt_ne (And.right (by assumption)))
local macro_rules | `(tactic| walk_at "call ref") => `(tactic| (k_here; (with_reducible show wpAny _ _ (call (Value.ref 175) _ _) _ _ _); k_dflt (refine' make ?cF ?cX ?cN ?cT ?cd ?cl ?_; (case cF => assumption); (case cX => assumption); (case cN => assumption); (case cT => assumption); (case cd => walk_at "MY room"); (case cl => k_mem); intro x' dx' h' tk' hs' t0' n0' l1 l2 F' N'; have l3 := l1 _ (List.Mem.head _))))
set_option maxHeartbeats 400000 in
theorem stmtA {oN oW : Obj} {Lw : Addr} {v0 : Option Value} (F : Fr h₀ L s.heap m) (X₀ : (hd.heap_39 w.params).In h₀) (N : News h₀ L s.heap ((L + 1, oB) :: led)) (T : Top p loose mean mg mb h₀) (hroom : dp < 600) (hlt : ∀ p ∈ led, p.1 < L)
    (hB : oB.data = .cell v0) (h1 : m (Str.ofString "numbers") = some (.ref nL)) (hN : (nL, oN) ∈ led) (hNc : ∀ u, oN.data ≠ .cell u) (hWm : (Lw, oW) ∈ led) (hWc : ∀ u, oW.data ≠ .cell u)
    (hK : ∀ h' tk' m' led' c oB', Fr h₀ L h' m' → MLoc nL c 2 m' → News h₀ L h' led' → oB'.data = .cell (some (.ref c.aB)) → St prog w led' c [(L + 1, oB'), (nL, oN), (Lw, oW)] ps0 → (∀ a ∈ [c.aB, c.dB, c.aK, c.dK], a ≠ Lw) → wpAny (model prog w) ((AR dp fr gd un).deeper (runEnv L)) (execs rest (runEnv L)) Q E { s with heap := h', toks := tk' }) :
    wpAny (model prog w) ((AR dp fr gd un).deeper (runEnv L)) (execs (stA.1 :: rest) (runEnv L)) Q E s := by
  obtain ⟨mm, hm⟩ : ∃ mm : Str → Option Value, m = fun y => if y = Str.ofString "numbers" then some (.ref nL) else mm y := ⟨m, funext fun _ => at_if h1 fun _ => rfl⟩
  clear h1
  subst hm
  have X' := X₀
  have T' := T
  dsimp only [runEnv, runDef, stA]
  (with_reducible show wpAny _ _ _ _ _ _)
  k_steps
  rename Obj.IsDictOf _ _ _ => hdict
  rename _ = Data.cell (some _) => hcell
  rename (∀ (b : Addr) (ob : Obj), (b, ob) ∈ _ → (∀ u, ob.data ≠ _) → (b, ob) ∈ _) => hall
  rename (L + 1, _) ∈ _ => hcm
  have hnl := hlt _ hN
  have hwl := hlt _ hWm
  have hnc : ∀ {o : Obj} {kvs : List (Str × Value)}, o.IsDictOf (strKind prog w) kvs → ∀ u, o.data ≠ .cell u := fun h u e => by
    obtain ⟨es, ep, _, h2, _⟩ := h
    rw [h2] at e; cases e
  refine' hK _ _ _ _ ⟨_, _, _, _, _, _, _, _⟩ _ ?F ?M ?N ?C ?S ?Z
  case F => assumption
  case N => assumption
  case C => exact hcell
  case S =>
    refine' stA_fin ?hlo hdict ?bi ?bd ?bl ?ki ?kd ?kl ?ml ?dd ?o1 ?o2 ?o3 ?o4 ?o5 ?o6 ?o7 ?o8 ?o9 hcm ?nn ?ww ?ow
    case bi => exact hall _ _ (by k_mem) (by intro u e; cases e)
    case bd => exact hall _ _ (by k_mem) (by intro u e; cases e)
    case bl => exact hall _ _ (by k_mem) (by intro u e; cases e)
    case ki => exact hall _ _ (by k_mem) (by intro u e; cases e)
    case kd => exact hall _ _ (by k_mem) (by intro u e; cases e)
    case kl => exact hall _ _ (by k_mem) (by intro u e; cases e)
    case ml => exact hall _ _ (by k_mem) (by intro u e; cases e)
    case dd => exact hall _ _ (by k_mem) (hnc hdict)
    case nn => exact hall _ _ (by k_mem) hNc
    case ww => exact hall _ _ (by k_mem) hWc
    case hlo => assumption
    all_goals first | assumption | (apply And.left; assumption)
  case M => exact MLoc.intro rfl rfl rfl rfl rfl
  case Z =>
    refine' stA_ap (L := L) ?p2 ?p3 ?p4 ?p5 ?p6 ?p7 ?pw
    all_goals first | assumption | (apply And.left; assumption)
end
noncomputable def numsObj (xs : List Value) (k : Nat) : Obj := listOf xs.toArray k
noncomputable def ps1 (i : Nat) : PS := match i with
  | 0 => ps0
  | 1 => ⟨[(0, 1, true)], [], [(0, true)], [(0, 2)], 2⟩
  | _ => ⟨[(0, 1, true), (0, 2, true)], [], [(0, true), (0, true)], [(0, 2)], 2⟩
section
variable {prog : Program} {w : World} {dp un : Nat} {fr : Option (List Env)} {gd : Option (List Code)} {s : Shared} {h₀ : Heap} {L : Addr} {m mg mb : Str → Option Value} {led keep : List (Addr × Obj)} {p : Program} {loose : List Str} {mean : ExcName → Option Value}
    {Q : Flow → Shared → Prop} {E : Value → Shared → Prop} {c : Ad} {ps : PS} {nL : Addr} {x b : Int} {oB : Obj} {sw g : Fin 4} {k : Bool} {rest : List Stmt} {a0 a1 a2 a3 a4 a5 a6 a7 : Int} {u0 u1 u2 u3 u4 u5 u6 u7 : Tok} {kn : Nat}
theorem kadd0 {x : Str} {tk tkx : Tok} {Q : Value → Shared → Prop} (hb : x = brk true) (F : Fr h₀ L s.heap m) (X₀ : (hd.heap_39 w.params).In h₀) (N : News h₀ L s.heap led) (T : Top p loose mean mg mb h₀) (hroom : dp < 700) (S : St prog w led c keep ps) (hsz : ps.book.length ≤ 100)
    (hQ : ∀ h' tk' led', Fr h₀ L h' m → News h₀ L h' led' → St prog w led' c keep { ps with book := ps.book ++ [(0, true)] } → Q .none { s with heap := h', toks := tk' }) :
    wpAny (model prog w) (AR dp fr gd un) (call (.ref 172) [.ref c.aK, .str (Str.ofString ".") tk, .str x tkx] []) Q E s := kadd (g := 0) true hb F X₀ N T hroom S rfl hsz hQ
theorem mail0 {Q : Value → Shared → Prop} (F : Fr h₀ L s.heap m) (X₀ : (hd.heap_39 w.params).In h₀) (N : News h₀ L s.heap led) (T : Top p loose mean mg mb h₀) (hroom : dp < 690) {n : Int} {t1 t2 t3 t4 : Tok}
    (hQ : ∀ h' tk' u, Fr h₀ L h' m → News h₀ L h' led → Q (.str (wire 0 sg true) u) { s with heap := h', toks := tk' }) :
    wpAny (model prog w) (AR dp fr gd un) (call (.ref 231) [.str (Str.ofString ".") t1, .str (nm sg) t2, .str (Str.ofString "?'") t3, .int n t4] []) Q E s := mail (sw := 0) (k := true) F X₀ N T hroom hQ
theorem num0 {A : Around} {D : Addr} {value slice : Expr} {u : Tok} {Q E : Value → Shared → Prop} (N : News h₀ L s.heap led) (hm : (D, listOf #[.int a0 u0, .int a1 u1, .int a2 u2, .int a3 u3, .int a4 u4, .int a5 u5, .int a6 u6, .int a7 u7] kn) ∈ led) (h : Q (.int a0 u0) s)
    (hs : subscripted slice false (.ref D) (.int 0 u) = operate [.ref D, .int 0 u] (getItem (.ref D) (.int 0 u))) :
    wpAny (model prog w) A (subscriptTail value slice (.ref D) (.int 0 u)) Q E s :=
  tail_any (PySem.IsL.isList (n := kn) (N _ hm).1).typeIs slot_list_getitem.lookup (wpAny_getItem_list (PySem.IsL.isList (n := kn) (N _ hm).1) (by decide) (by decide) rfl h) hs
theorem num1 {A : Around} {D : Addr} {value slice : Expr} {u : Tok} {Q E : Value → Shared → Prop} (N : News h₀ L s.heap led) (hm : (D, listOf #[.int a0 u0, .int a1 u1, .int a2 u2, .int a3 u3, .int a4 u4, .int a5 u5, .int a6 u6, .int a7 u7] kn) ∈ led) (h : Q (.int a1 u1) s)
    (hs : subscripted slice false (.ref D) (.int 1 u) = operate [.ref D, .int 1 u] (getItem (.ref D) (.int 1 u))) :
    wpAny (model prog w) A (subscriptTail value slice (.ref D) (.int 1 u)) Q E s :=
  tail_any (PySem.IsL.isList (n := kn) (N _ hm).1).typeIs slot_list_getitem.lookup (wpAny_getItem_list (PySem.IsL.isList (n := kn) (N _ hm).1) (by decide) (by decide) rfl h) hs
local macro_rules | `(tactic| walk_at "subscriptTail") => `(tactic| (k_here; k_dflt (first
  | (refine' num0 ?cN ?cm ?_ ?cs; (case cN => assumption); (case cm => assumption); (case cs => (with_unfolding_all rfl)))
  | (refine' num1 ?cN ?cm ?_ ?cs; (case cN => assumption); (case cm => assumption); (case cs => (with_unfolding_all rfl))))))
local macro_rules | `(tactic| walk_at "MY facts") => `(tactic| ((with_reducible rename St _ _ _ _ _ _ => kS); (try dsimp only at kS); have kc := (St.kp kS _ (List.Mem.head _)).1; have kn := (St.kp kS _ (List.Mem.tail _ (List.Mem.head _))).1; have kb := St.bi kS; have kbd := St.bd kS; obtain ⟨_, _, _, kbd⟩ := kbd; have kk := St.ki kS; have kkd := St.kd kS; obtain ⟨_, _, _, kkd⟩ := kkd))
local macro_rules | `(tactic| walk_at "call ref") => `(tactic| (k_here; (with_reducible show wpAny _ _ (call (Value.ref 172) _ _) _ _ _); k_dflt (refine' kadd0 rfl ?cF ?cX ?cN ?cT ?cd ?cS ?cz ?_; (case cF => assumption); (case cX => assumption); (case cN => assumption); (case cT => assumption); (case cd => walk_at "MY room"); (case cS => walk_at "MY st"); (case cz => walk_at "MY size"); intro h' tk' led' F' N' S'; walk_at "MY facts")))
local macro_rules | `(tactic| walk_at "call ref") => `(tactic| (k_here; (with_reducible show wpAny _ _ (call (Value.ref 231) _ _) _ _ _); k_dflt (refine' mail0 ?cF ?cX ?cN ?cT ?cd ?_; (case cF => assumption); (case cX => assumption); (case cN => assumption); (case cT => assumption); (case cd => walk_at "MY room"); intro h' tk' u' F' N')))
set_option maxHeartbeats 400000 in
theorem start_body {wi : Int} {t : Tok} {i : Fin 4} (F : Fr h₀ L s.heap m) (X₀ : (hd.heap_39 w.params).In h₀) (N : News h₀ L s.heap led) (T : Top p loose mean mg mb h₀) (hroom : dp < 600) (S : St prog w led c ((L + 1, oB) :: (nL, listOf #[.int a0 u0, .int a1 u1, .int a2 u2, .int a3 u3, .int a4 u4, .int a5 u5, .int a6 u6, .int a7 u7] kn) :: keep) ps) (hB : oB.data = .cell (some (.ref c.aB)))
    (hl : MLoc nL c wi m) (hd : m (Str.ofString "name") = some (.str (nm i) t)) (hsz : ps.mails.length ≤ 80 ∧ ps.book.length ≤ 80)
    (hQ : ∀ h' tk' led', Fr h₀ L h' m → News h₀ L h' led' → St prog w led' c ((L + 1, oB) :: (nL, listOf #[.int a0 u0, .int a1 u1, .int a2 u2, .int a3 u3, .int a4 u4, .int a5 u5, .int a6 u6, .int a7 u7] kn) :: keep) { ps with book := ps.book ++ [(0, true)], mails := ps.mails ++ [(0, i, true)] } → Q .next { s with heap := h', toks := tk' }) :
    wpAny (model prog w) ((AR dp fr gd un).deeper (runEnv L)) (execs stSt.1.2.2.1 (runEnv L)) Q E s := by
  obtain ⟨t1, mm, hm⟩ := hl
  obtain ⟨mm, hm⟩ : ∃ mm : Str → Option Value, m = fun y => if y = Str.ofString "name" then some (.str (nm i) t) else if y = Str.ofString "numbers" then some (.ref nL) else if y = Str.ofString "book" then some (.ref c.aK) else if y = Str.ofString "mails" then some (.ref c.lM) else mm y := ⟨m, funext fun _ => at_if hd fun _ => at_if (by rw [hm]; rfl) fun _ => at_if (by rw [hm]; rfl) fun _ => at_if (by rw [hm]; rfl) fun _ => rfl⟩
  clear hd
  subst hm
  have X' := X₀
  have T' := T
  obtain ⟨hsz1, hsz2⟩ := hsz
  walk_at "MY facts"
  dsimp only [runEnv, runDef, stSt]
  (with_reducible show wpAny _ _ _ _ _ _)
  k_steps
  rename St _ _ _ _ _ _ => kS
  exact hQ _ _ _ (by assumption) (by assumption) kS
theorem for_start {t1 t2 : Tok} {lD : Addr} {kk : Nat} (F : Fr h₀ L s.heap m) (X₀ : (hd.heap_39 w.params).In h₀) (N : News h₀ L s.heap ((lD, listOf #[.str (Str.ofString ".b") t1, .str (Str.ofString ".c") t2] kk) :: led)) (T : Top p loose mean mg mb h₀) (hroom : dp < 600)
    (hlt : ∀ p ∈ led, p.1 ≠ lD) (S : St prog w led c ((L + 1, oB) :: (nL, listOf #[.int a0 u0, .int a1 u1, .int a2 u2, .int a3 u3, .int a4 u4, .int a5 u5, .int a6 u6, .int a7 u7] kn) :: keep) ps0) (hB : oB.data = .cell (some (.ref c.aB)))
    (hl : MLoc nL c 2 m)
    (done : ∀ h' tk' m' led', Fr h₀ L h' m' → MLoc nL c 2 m' → News h₀ L h' led' → St prog w led' c ((L + 1, oB) :: (nL, listOf #[.int a0 u0, .int a1 u1, .int a2 u2, .int a3 u3, .int a4 u4, .int a5 u5, .int a6 u6, .int a7 u7] kn) :: keep) (ps1 2) → Q .next { s with heap := h', toks := tk' }) :
    wpAny (model prog w) ((AR dp fr gd un).deeper (runEnv L)) (pyIter (.ref lD)) (Turns prog w ((AR dp fr gd un).deeper (runEnv L)) stSt.1.1 stSt.1.2.2.1 (runEnv L) Q) NoE s := by
  generalize hlN : (nL, listOf #[.int a0 u0, .int a1 u1, .int a2 u2, .int a3 u3, .int a4 u4, .int a5 u5, .int a6 u6, .int a7 u7] kn) = eN at S done
  generalize hlD : listOf #[.str (Str.ofString ".b") t1, .str (Str.ofString ".c") t2] kk = oD at N
  have hF := S.fresh hlt
  have S0 : St prog w ((lD, oD) :: led) c ((L + 1, oB) :: eN :: (lD, oD) :: keep) ps0 := S.skip.rekeep fun p hp => by
    rcases List.mem_cons.mp hp with rfl | hp
    · exact .inl (.head _)
    · rcases List.mem_cons.mp hp with rfl | hp
      · exact .inl (.tail _ (.head _))
      · rcases List.mem_cons.mp hp with rfl | hp
        · exact .inr ⟨.head _, hF⟩
        · exact .inl (.tail _ (.tail _ hp))
  have isl : ∀ {h : Heap}, h.get? lD = some oD → h.IsList lD [Value.str (Str.ofString ".b") t1, .str (Str.ofString ".c") t2].toArray := fun e => ⟨_, e, by rw [← hlD], _, by rw [← hlD]⟩
  refine for_list (vs := [.str (Str.ofString ".b") t1, .str (Str.ofString ".c") t2]) (fun i m₁ led₁ gs => gs = s.gens ∧ MLoc nL c 2 m₁ ∧ St prog w led₁ c ((L + 1, oB) :: eN :: (lD, oD) :: keep) (ps1 i) ∧ ∀ p ∈ led₁, p.1 ≠ s.heap.objs.size) rfl F N (isl (N _ (.head _)).1)
    ⟨rfl, hl, S0, fun p hp => Nat.ne_of_lt (Heap.lt_size (N p hp).1)⟩ ?_ ?_ ?_ ?_
  · rintro i m₁ led₁ gs h ⟨rfl, _, S₁, _⟩ _ N₁
    exact isl (N₁ _ (S₁.kp _ (.tail _ (.tail _ (.head _)))).1).1
  · rintro i m₁ led₁ gs ⟨_, _, _, h⟩
    exact h
  · rintro i v o m₁ led₁ gs h tk hv ⟨rfl, hl₁, S₁, hoff⟩ hO F₁ N₁
    have hd : ∃ (d : Fin 4) (u : Tok), v = .str (nm d) u ∧ ps1 (i + 1) = { ps1 i with book := (ps1 i).book ++ [(0, true)], mails := (ps1 i).mails ++ [(0, d, true)] } ∧ (ps1 i).mails.length ≤ 80 ∧ (ps1 i).book.length ≤ 80 := by
      rcases i with _ | _ | i
      · simp at hv; exact ⟨1, t1, hv.symm, rfl, by decide, by decide⟩
      · simp at hv; exact ⟨2, t2, hv.symm, rfl, by decide, by decide⟩
      · simp at hv
    obtain ⟨d, u, rfl, hw, hsz⟩ := hd
    have hF₁ := S₁.fresh hoff
    subst hlN
    have S₂ : St prog w ((s.heap.objs.size, o) :: led₁) c ((L + 1, oB) :: (nL, listOf #[.int a0 u0, .int a1 u1, .int a2 u2, .int a3 u3, .int a4 u4, .int a5 u5, .int a6 u6, .int a7 u7] kn) :: (s.heap.objs.size, o) :: (lD, oD) :: keep) (ps1 i) := S₁.skip.rekeep fun p hp => by
      rcases List.mem_cons.mp hp with rfl | hp
      · exact .inl (.head _)
      · rcases List.mem_cons.mp hp with rfl | hp
        · exact .inl (.tail _ (.head _))
        · rcases List.mem_cons.mp hp with rfl | hp
          · exact .inr ⟨.head _, hF₁⟩
          · exact .inl (.tail _ (.tail _ hp))
    refine wpAny_pure ?_
    refine wpAny_assign_Name (storeX_L F₁ N₁ fun h' F' N' => ?_)
    have hl₂ : MLoc nL c 2 (fun y => if y = Str.ofString "name" then some (.str (nm d) u) else m₁ y) := by
      obtain ⟨t1, mm, rfl⟩ := hl₁
      exact MLoc.intro rfl rfl rfl rfl rfl
    refine start_body (s := ⟨h', s.gens, s.drawn, _, s.os⟩) F' X₀ N' T hroom S₂ hB hl₂ rfl hsz fun h₃ tk₃ led₃ F₃ N₃ S₃ => ?_
    have hmem := (S₃.kp _ (.tail _ (.tail _ (.head _)))).1
    rw [← hw] at S₃
    refine ⟨h₃, tk₃, _, _, offA s.heap.objs.size led₃, rfl, F₃, ?_, rfl, hl₂, ?_, fun p hp => (offA_mem.mp hp).2⟩
    · refine News.sub N₃ fun p hp => ?_
      rcases List.mem_cons.mp hp with rfl | hp
      · exact hmem
      · exact (offA_mem.mp hp).1
    · refine (S₃.unkeep (keep' := (L + 1, oB) :: (nL, listOf #[.int a0 u0, .int a1 u1, .int a2 u2, .int a3 u3, .int a4 u4, .int a5 u5, .int a6 u6, .int a7 u7] kn) :: (lD, oD) :: keep) fun p hp => ?_).off N₃ hmem hO.1 hF₁ fun p hp => ?_
      · rcases List.mem_cons.mp hp with rfl | hp
        · exact .head _
        · rcases List.mem_cons.mp hp with rfl | hp
          · exact .tail _ (.head _)
          · exact .tail _ (.tail _ (.tail _ hp))
      · rcases List.mem_cons.mp hp with rfl | hp
        · exact hoff _ (S₁.kp _ (.head _)).1
        · rcases List.mem_cons.mp hp with rfl | hp
          · exact hoff _ (S₁.kp _ (.tail _ (.head _))).1
          · exact hoff _ (S₁.kp _ (.tail _ (.tail _ hp))).1
  · rintro m₁ led₁ gs h tk ⟨rfl, hl₁, S₁, _⟩ F₁ N₁
    refine done h tk m₁ led₁ F₁ hl₁ N₁ (S₁.unkeep fun p hp => ?_)
    rcases List.mem_cons.mp hp with rfl | hp
    · exact .head _
    · rcases List.mem_cons.mp hp with rfl | hp
      · exact .tail _ (.head _)
      · exact .tail _ (.tail _ (.tail _ hp))
end
noncomputable def isI : Value → Bool
  | .int _ _ => true
  | _ => false
theorem ints_of {vs : List Value} (h : vs.all isI = true) : ∀ v ∈ vs, ∃ n t, v = .int n t := fun v hv => by
  have := List.all_eq_true.mp h v hv
  cases v <;> first | exact ⟨_, _, rfl⟩ | cases this
theorem phi2 : phi (ps1 2) = 12 := rfl
noncomputable def stS : { q : Stmt // runDef.1.2.2.1[1]? = some q } := ⟨_, rfl⟩
noncomputable def stM : { q : Stmt // runDef.1.2.2.1[2]? = some q } := ⟨_, rfl⟩
section
variable {prog : Program} {w : World} {dp un : Nat} {fr : Option (List Env)} {gd : Option (List Code)} {s : Shared} {h₀ : Heap} {L : Addr} {m mg mb : Str → Option Value} {led keep : List (Addr × Obj)} {p : Program} {loose : List Str} {mean : ExcName → Option Value}
    {Q : Flow → Shared → Prop} {E : Value → Shared → Prop} {c : Ad} {ps : PS} {nL : Addr} {x b : Int} {oB : Obj} {sw g : Fin 4} {k : Bool} {rest : List Stmt} {a0 a1 a2 a3 a4 a5 a6 a7 : Int} {u0 u1 u2 u3 u4 u5 u6 u7 : Tok} {kn : Nat}
section
local macro_rules | `(tactic| walk_at "MY rows") => `(tactic| (k_dflt (refine' for_start ?cF ?cX ?cN ?cT ?cd ?cl ?cS ?cB ?ch ?_; (case cF => assumption); (case cX => assumption); (case cN => assumption); (case cT => assumption); (case cd => assumption); (case cl => first | exact allLt_ne (by assumption) | exact lt_all_ne (by assumption)); (case cS => walk_at "MY st"); (case cB => assumption); (case ch => exact MLoc.intro rfl rfl rfl rfl rfl); intro h' tk' m' led' F' hl' N' S')))
set_option maxHeartbeats 400000 in
theorem stmtS (F : Fr h₀ L s.heap m) (X₀ : (hd.heap_39 w.params).In h₀) (N : News h₀ L s.heap led) (T : Top p loose mean mg mb h₀) (hroom : dp < 600) (S : St prog w led c ((L + 1, oB) :: (nL, listOf #[.int a0 u0, .int a1 u1, .int a2 u2, .int a3 u3, .int a4 u4, .int a5 u5, .int a6 u6, .int a7 u7] kn) :: keep) ps0) (hB : oB.data = .cell (some (.ref c.aB)))
    (hl : MLoc nL c 2 m)
    (hK : ∀ h' tk' m' led', Fr h₀ L h' m' → MLoc nL c 2 m' → News h₀ L h' led' → St prog w led' c ((L + 1, oB) :: (nL, listOf #[.int a0 u0, .int a1 u1, .int a2 u2, .int a3 u3, .int a4 u4, .int a5 u5, .int a6 u6, .int a7 u7] kn) :: keep) (ps1 2) → wpAny (model prog w) ((AR dp fr gd un).deeper (runEnv L)) (execs rest (runEnv L)) Q E { s with heap := h', toks := tk' }) :
    wpAny (model prog w) ((AR dp fr gd un).deeper (runEnv L)) (execs (stS.1 :: rest) (runEnv L)) Q E s := by
  obtain ⟨t1, mm, hm⟩ := hl
  subst hm
  have X' := X₀
  have T' := T
  walk_at "MY facts"
  dsimp only [runEnv, runDef, stS]
  (with_reducible show wpAny _ _ _ _ _ _)
  k_steps
  exact hK _ _ _ _ (by assumption) (by assumption) (by assumption) (by assumption)
end
section
local macro_rules | `(tactic| walk_at "MY rows") => `(tactic| (k_dflt (refine' main_loop ?cF ?cX ?cN ?cT ?cd ?cu ?cS ?cB ?ch ?ci ?cp ?cz ?cx ?ca ?cv ?ct ?_; (case cF => assumption); (case cX => assumption); (case cN => assumption); (case cT => assumption); (case cd => assumption); (case cu => assumption); (case cS => walk_at "MY st"); (case cB => assumption); (case ch => exact MLoc.intro rfl rfl rfl rfl rfl); (case ci => assumption); (case cp => assumption); (case cz => assumption); (case cx => exact List.Mem.head _); (case ca => (apply St.fresh (by assumption); apply allLt_ne; first | assumption | (apply And.right; assumption) | (apply And.right; apply And.right; assumption))); (case cv => rfl); (case ct => exact ints_of rfl); intro h' tk' gs' m' led' ps' hg' F' hl' N' S' hI' hm' hb')))
set_option maxHeartbeats 400000 in
theorem stmtM (F : Fr h₀ L s.heap m) (X₀ : (hd.heap_39 w.params).In h₀) (N : News h₀ L s.heap led) (T : Top p loose mean mg mb h₀) (hroom : dp < 600) (hun : un < 5000) (S : St prog w led c ((L + 1, oB) :: (nL, listOf #[.int a0 u0, .int a1 u1, .int a2 u2, .int a3 u3, .int a4 u4, .int a5 u5, .int a6 u6, .int a7 u7] kn) :: keep) ps) (hB : oB.data = .cell (some (.ref c.aB)))
    (hl : MLoc nL c ps.wishes m) (I : Inv ps) (hphi : phi ps = 12) (hsz : ps.mails.length ≤ 2 ∧ ps.book.length ≤ 2 ∧ ps.debts.length ≤ 2 ∧ ps.busy.length ≤ 2)
    (hK : ∀ h' tk' gs m' led' ps', GensOk s.gens gs → Fr h₀ L h' m' → MLoc nL c ps'.wishes m' → News h₀ L h' led' → St prog w led' c ((L + 1, oB) :: (nL, listOf #[.int a0 u0, .int a1 u1, .int a2 u2, .int a3 u3, .int a4 u4, .int a5 u5, .int a6 u6, .int a7 u7] kn) :: keep) ps' → Inv ps' → ps'.mails = [] → ps'.book.length ≤ 90 → wpAny (model prog w) ((AR dp fr gd un).deeper (runEnv L)) (execs rest (runEnv L)) Q E { s with heap := h', gens := gs, toks := tk' }) :
    wpAny (model prog w) ((AR dp fr gd un).deeper (runEnv L)) (execs (stM.1 :: rest) (runEnv L)) Q E s := by
  have hnum := (S.kp _ (.tail _ (.head _))).1
  obtain ⟨t1, mm, hm⟩ := hl
  subst hm
  have X' := X₀
  have T' := T
  walk_at "MY facts"
  dsimp only [runEnv, runDef, stM]
  (with_reducible show wpAny _ _ _ _ _ _)
  k_steps
  exact hK _ _ _ _ _ _ (by assumption) (by assumption) (by assumption) (by assumption) (by assumption) (by assumption) (by assumption) (by assumption)
end
end
open PySem.Builtin.Re in
theorem new_match {M : Model} {A : Around} {E : Value → Shared → Prop} {s : Shared} {pat str : Value} {pos lim : Nat} {m : Sre.M} {Q : Value → Shared → Prop}
    (h : ∀ o1 o2, o2.cls = .type "re.Match" → o2.isFreed = false → Q (.ref (s.heap.push o1).objs.size) { s with heap := (s.heap.push o1).push o2 }) : wpAny M A (reNewMatch pat str 0 pos lim m) Q E s := by
  unfold reNewMatch
  simp only [List.range_zero, List.flatMap_nil, List.any_nil, Bool.false_eq_true, if_false]
  try refine wpAny_bind (wpAny_pure ?_)
  refine wpAny_bind (wpAny_newTuple ?_)
  exact wpAny_newObj_type (h _ _ rfl rfl)
theorem match_no_bool : typeLookup (.type "re.Match") "__bool__" = pure none := by rw [typeLookup_type, builtinLookup_eq_fast]; kernel_rfl
theorem match_no_len : typeLookup (.type "re.Match") "__len__" = pure none := by rw [typeLookup_type, builtinLookup_eq_fast]; kernel_rfl
theorem truthy_match {M : Model} {A : Around} {E : Value → Shared → Prop} {s : Shared} {D : Addr} {Q : Bool → Shared → Prop} (hT : s.TypeIs (.ref D) "re.Match") (h : Q true s) : wpAny M A (truthy (.ref D)) Q E s := by
  unfold truthy
  refine wpAny_bind (m := callSpecial? (.ref D) (Str.ofString "__bool__")) (wpAny_callSpecial?_none hT match_no_bool ?_)
  refine wpAny_bind (m := specialOf (.ref D) (Str.ofString "__len__")) (wpAny_specialOf hT match_no_len ?_)
  simp only [Option.isNone_none, if_true]
  exact wpAny_pure h
section
open PySem.Builtin.Re
variable {M : Model} {A : Around} {E : Value → Shared → Prop} {s : Shared} {pat code : Addr} {items : Array Value} {v : Str} {tk : Tok}
theorem search_hit {k : Nat} {m' : Sre.M} (hk : k ≤ 1000) (hd : drive k (Sre.forSearch (codeOf items) v.cps 0 0 v.cps.size false) = some m') (ho : m'.outcome = some .matched) (hv : v.cps.size < 2 ^ 62) :
    Meets (Builtin.«re.Pattern.search» ⟨[.ref pat, .str v tk], []⟩) (fun _ R s => PatAt s.heap pat code items ∧ ∀ o1 o2, o2.cls = .type "re.Match" → o2.isFreed = false → R (.ok (.ret (.ref (s.heap.push o1).objs.size))) { s with heap := (s.heap.push o1).push o2 }) := by
  refine .of_wp fun prog w A R s hS => ?_
  obtain ⟨P, h⟩ := hS
  unfold Builtin.«re.Pattern.search»
  refine wpAny_bind (wp_target P hv ?_)
  unfold reAnswer
  dsimp only
  refine wpAny_bind (wp_reRunToEnd hk hd ?_)
  rw [ho]
  refine wpAny_bind (new_match fun o1 o2 h1 h2 => ?_)
  exact wpAny_pure ⟨_, rfl, h o1 o2 h1 h2⟩
end
noncomputable def hits (code t : Array Nat) : Bool := match drive 50 (Sre.forSearch code t 0 0 t.size false) with
  | some m => (match m.outcome with | some .matched => true | _ => false)
  | none => false
theorem hits_spec {code t : Array Nat} (h : hits code t = true) : ∃ m', drive 50 (Sre.forSearch code t 0 0 t.size false) = some m' ∧ m'.outcome = some .matched := by
  unfold hits at h
  split at h
  · rename_i m hm
    refine ⟨m, hm, ?_⟩
    split at h
    · assumption
    · cases h
  · cases h
noncomputable def nameBad (v : Str) : Bool := decide (v.cps.size < 1000) && hits (codeOf nameItems.1) v.cps
noncomputable def valBad (v : Str) : Bool := decide (v.cps.size < 1000) && hits (codeOf valItems.1) v.cps
section
variable {prog : Program} {w : World} {A : Around} {E : Value → Shared → Prop} {s : Shared} {h₀ : Heap} {L : Addr} {m : Str → Option Value} {v : Str} {tk : Tok} {news : List (Addr × Obj)}
theorem hit_any {pat code : Addr} {items : Array Value} {Q : Value → Shared → Prop} (F : Fr h₀ L s.heap m) (N : News h₀ L s.heap news) (P : PatAt s.heap pat code items) (hv : (decide (v.cps.size < 1000) && hits (codeOf items) v.cps) = true)
    (h : ∀ h' D o2, Fr h₀ L h' m → News h₀ L h' ((D, o2) :: news) → o2.cls = .type "re.Match" → Q (.ref D) { s with heap := h' }) :
    wpAny (model prog w) A (call (.builtin "re.Pattern.search") [.ref pat, .str v tk]) Q E s := by
  obtain ⟨h1, h2⟩ := Bool.and_eq_true_iff.mp hv
  obtain ⟨m', e1, e2⟩ := hits_spec h2
  have h1 := of_decide_eq_true h1
  refine call_meets slot_pat_search P.typeIs entry_pat_search (args_pat_search _ _) (search_hit (code := code) (items := items) (by omega) e1 e2 (by omega)) ⟨P, fun o1 o2 c1 c2 => ?_⟩
  have F1 := F.push o1
  have N1 : News h₀ L (s.heap.push o1) news := N.pushKeep o1
  exact h _ _ o2 (F1.push o2) (News.push F1 N1 o2 c2) c1
end
theorem bad_low : ∀ i : Fin 9, valBad ⟨#[i.val]⟩ = true := by decide +kernel
theorem bad_high : ∀ i : Fin 22, valBad ⟨#[10 + i.val]⟩ = true := by decide +kernel
theorem bad_del : valBad ⟨#[127]⟩ = true := by decide +kernel
theorem bad_tab : nameBad (Str.ofString ".b\t") = true := by decide +kernel
theorem RaisedN.sub {base h : Heap} {l : List Env} {e : Addr} {cls : Value} {news led : List (Addr × Obj)} (R : RaisedN base l e cls news h) (hs : ∀ p ∈ led, p ∈ news) : RaisedN base l e cls led h := by
  obtain ⟨B, a0, h1, h2, h3⟩ := R
  exact ⟨B, a0, h1, fun q hq => h2 q (hs q hq), h3⟩
theorem frames_hidden {h base : Heap} {as : List Addr} : ∀ {l : List Env}, h.FunFrames base l → (∀ env ∈ l, ∀ a, env.frame = some a → a ∉ as) → (hideAll h as).FunFrames base l
  | [], _, _ => trivial
  | env :: _, ⟨hk, ⟨L, o, hf, hn, ho, hd⟩, hr⟩, hin => ⟨hk, ⟨L, o, hf, hn, hideAll_get _ ho (hin env (.head _) L hf), hd⟩, frames_hidden hr fun e he => hin e (.tail _ he)⟩
section
variable {prog : Program} {w : World} {A : Around} {s : Shared} {h₀ : Heap} {L : Addr} {m mg mb : Str → Option Value} {news : List (Addr × Obj)} {K : Frag} {p : Program} {loose : List Str} {mean : ExcName → Option Value}
    {R : Result → Shared → Prop} {name qual : Str} {params : Arguments} {body : List Stmt} {scope : Scope} {dV kV doc pm cdv ct oc : Value} {an od : Option Addr} {osl : Array (Option Value)} {f : Addr} {args : Args} {binds : List (Str × Value)} {env : Env} {outer : List Env}
theorem enterB (hA : A.frames = some (env :: outer)) (hf : env.frame = some L) (hke : env.scope.kind = .function) (W : s.heap.FunFrames h₀ outer) (hW : ∀ e ∈ outer, ∀ b, e.frame = some b → b ∉ news.map (·.1))
    (F : Fr h₀ L s.heap m) (X₀ : K.In h₀) (N : News h₀ L s.heap news) (T : Top p loose mean mg mb h₀)
    (ho : K.lookup f = some ⟨oc, od, .func (fnOf name qual params body scope dV kV doc pm an cdv ct), osl⟩) (hcd : codeIn K cdv qual = true) (hroom : A.depth < recursionLimit)
    (hbind : BindsTo s (fnOf name qual params body scope dV kV doc pm an cdv ct) args binds) (hloc : ∀ y ∈ binds, scope.names.lookup y.1 = some .local)
    (h : ∀ g L' h₁, g.UpToSlots g → Fr g L' h₁ (fun y => binds.reverse.lookup y) → News g L' h₁ news → (∀ p ∈ news, p.1 < L') → K.In g → Top p loose mean mg mb g → Below A h₀ (env :: outer) g → g.Ns L m →
      wpAny (model prog w) (A.deeper (envOf qual scope L' f cdv)) (execs body (envOf qual scope L' f cdv))
        (fun _ _ => False) (fun e s' => wpAny (model prog w) (A.deeper (envOf qual scope L' f cdv)) (leaving (envOf qual scope L' f cdv) e) (fun _ s'' => R (.error e) s'') (fun e' s'' => R (.error e') s'') s')
        { s with heap := h₁, toks := s.toks + binds.length })
    (hco : scope.isCoroutine = false) (hgen : scope.isGenerator = false) (hk : scope.kind = .function)
    (hcell : ∀ x ∈ scope.names, x.2 ≠ .cell) : codeAny (model prog w) A (.call (.ref f) args) R s := by
  obtain ⟨FG, _, st, _⟩ := groundX (R := R) (A₀ := { frames := some [] }) (base := h₀) (outer := []) (A := { frames := some [envOf qual scope L f cdv] }) (env := envOf qual scope L f cdv) ⟨rfl, fun _ _ e => e, trivial⟩ F N rfl rfl hk
  refine codeAny_call_def (fd := fnOf name qual params body scope dV kV doc pm an cdv ct) (body := body) (binds := binds) hroom ((X₀.keeps F.keep) _ _ ho) rfl (T.nolimit.keeps F.keep) (codeRec_of (X₀.keeps F.keep) hcd) rfl hbind hcell hloc (fun h₁ hns hk₁ => ?_) hco hgen hk
  refine wpAny_mono (h _ s.heap.objs.size h₁ (Heap.UpToSlots.of_keeps fun _ _ e => e) ⟨hns, fun b o e => hk₁ b o (of_hideAll _ e), Nat.le_of_eq (hideAll_size _ _)⟩
    (fun p hp => ⟨hk₁ _ _ (N p hp).1, Nat.ne_of_lt (Heap.lt_size (N p hp).1), hideAll_none _ (List.mem_map_of_mem hp)⟩) (fun p hp => Heap.lt_size (N p hp).1) (X₀.keeps st) (T.keeps st)
    ⟨hA, st, .cons (by rw [hke]; decide) hf FG.ns (Heap.get?_none_of_le F.above) (frames_hidden W hW)⟩ FG.ns) (fun fl s' hl => hl.elim) fun _ _ y => y
end
section
variable {prog : Program} {w : World} {dp un : Nat} {fr : Option (List Env)} {gd : Option (List Code)} {s : Shared} {h₀ : Heap} {L : Addr} {m mg mb : Str → Option Value} {led keep : List (Addr × Obj)} {p : Program} {loose : List Str} {mean : ExcName → Option Value}
    {Q E : Value → Shared → Prop} {c : Ad} {ps : PS} {v : Str} {tk tkx : Tok} {env e1 : Env}
local macro_rules | `(tactic| k_room) => `(tactic| (show _ < 1000; walk_at "MY room"))
local macro_rules | `(tactic| walk_at "call builtin:re.Pattern.search") => `(tactic| (k_here; k_dflt (first
  | (refine' hit_any ?cF ?cN (pat_val (by k_in)) ?cv ?_; (case cF => assumption); (case cN => assumption); (case cv => assumption); intro h' D' o2' F' N' hc')
  | (refine' hit_any ?cF ?cN (pat_name (by k_in)) ?cv ?_; (case cF => assumption); (case cN => assumption); (case cv => assumption); intro h' D' o2' F' N' hc'))))
theorem truthy_hit {A : Around} {D : Addr} {o2 : Obj} {Q : Bool → Shared → Prop} (N : News h₀ L s.heap ((D, o2) :: led)) (hc : o2.cls = .type "re.Match") (h : Q true s) : wpAny (model prog w) A (truthy (.ref D)) Q E s := truthy_match ⟨_, (N _ (.head _)).1, hc⟩ h
local macro_rules | `(tactic| walk_at "truthy ref") => `(tactic| (k_here; k_dflt (refine' truthy_hit ?cN ?cc ?_; (case cN => assumption); (case cc => assumption))))
set_option maxHeartbeats 400000 in
theorem sd_val {x : Str} (hf : env.frame = some L) (hke : env.scope.kind = .function) (W : s.heap.FunFrames h₀ [e1]) (hW : ∀ e ∈ [e1], ∀ b, e.frame = some b → b ∉ led.map (·.1))
    (F : Fr h₀ L s.heap m) (X₀ : (hd.heap_39 w.params).In h₀) (N : News h₀ L s.heap led) (T : Top p loose mean mg mb h₀) (hroom : dp < 600) (S : St prog w led c keep ps)
    (hlk : ps.busy.lookup 1 = none) (hbad : valBad x = true)
    (hE : ∀ h' tk' e, RaisedN h₀ [env, e1] e (.type "ValueError") led h' → h'.Ns L m → E (.ref e) { s with heap := h', toks := tk' }) :
    wpAny (model prog w) (AR dp (some [env, e1]) gd un) (call (.ref 165) [.ref c.aB, .str (nm 1) tk, .str x tkx] []) Q E s := by
  refine wpAny_call ?_
  refine' enterB (A := AR dp (some [env, e1]) gd un) rfl hf hke W hW F X₀ N T ?k6 ?k7 ?k8 ?k9 ?kB ?_ ?c2 ?c3 ?c4 ?c5
  case k6 => k_is
  case k7 => k_is
  case k8 => show dp < 1000; omega
  case k9 => exact BindsTo.of_eq rfl
  case kB => exact locs rfl
  case c2 => rfl
  case c3 => rfl
  case c4 => rfl
  case c5 => decide
  intro g L' h₁ _ F' N' lt X' T' B' ns'
  clear F N
  have hok := nm_ok 1
  have kb := S.bi
  obtain ⟨_, _, _, kbd⟩ := S.bd
  obtain ⟨_, _, hl, _⟩ := S.bl
  unfold valBad at hbad
  (try dsimp only)
  (with_reducible show wpAny _ _ _ _ _ _)
  try k_fold
  k_steps
  rename RaisedN _ _ _ _ _ _ => rk
  rename Heap.UpToSlots _ _ => up
  refine hE _ _ _ (RaisedN.sub rk fun p hp => ?_) (up.ns ns')
  first | exact hp | exact .tail _ hp | exact .tail _ (.tail _ hp) | exact .tail _ (.tail _ (.tail _ hp)) | exact .tail _ (.tail _ (.tail _ (.tail _ hp)))
theorem tab_same : Txt.lower (Str.ofString ".b\t") = Str.ofString ".b\t" := by decide +kernel
theorem tab_low : Low (Str.ofString ".b\t") (Str.ofString ".b\t") := ⟨tab_same, by rw [tab_same]; exact short_len (by decide)⟩
set_option maxHeartbeats 400000 in
theorem sd_tab (hf : env.frame = some L) (hke : env.scope.kind = .function) (W : s.heap.FunFrames h₀ [e1]) (hW : ∀ e ∈ [e1], ∀ b, e.frame = some b → b ∉ led.map (·.1))
    (F : Fr h₀ L s.heap m) (X₀ : (hd.heap_39 w.params).In h₀) (N : News h₀ L s.heap led) (T : Top p loose mean mg mb h₀) (hroom : dp < 600) (S : St prog w led c keep ps)
    (hE : ∀ h' tk' e, RaisedN h₀ [env, e1] e (.type "ValueError") led h' → h'.Ns L m → E (.ref e) { s with heap := h', toks := tk' }) :
    wpAny (model prog w) (AR dp (some [env, e1]) gd un) (call (.ref 165) [.ref c.aB, .str (Str.ofString ".b\t") tk, .str v tkx] []) Q E s := by
  refine wpAny_call ?_
  refine' enterB (A := AR dp (some [env, e1]) gd un) rfl hf hke W hW F X₀ N T ?k6 ?k7 ?k8 ?k9 ?kB ?_ ?c2 ?c3 ?c4 ?c5
  case k6 => k_is
  case k7 => k_is
  case k8 => show dp < 1000; omega
  case k9 => exact BindsTo.of_eq rfl
  case kB => exact locs rfl
  case c2 => rfl
  case c3 => rfl
  case c4 => rfl
  case c5 => decide
  intro g L' h₁ _ F' N' lt X' T' B' ns'
  clear F N
  have hlow := tab_low
  have hbad := bad_tab
  have kb := S.bi
  obtain ⟨_, _, _, kbd⟩ := S.bd
  obtain ⟨_, _, hl, _⟩ := S.bl
  unfold nameBad at hbad
  (try dsimp only)
  (with_reducible show wpAny _ _ _ _ _ _)
  try k_fold
  k_steps
  rename RaisedN _ _ _ _ _ _ => rk
  rename Heap.UpToSlots _ _ => up
  refine hE _ _ _ (RaisedN.sub rk fun p hp => ?_) (up.ns ns')
  first | exact hp | exact .tail _ hp | exact .tail _ (.tail _ hp) | exact .tail _ (.tail _ (.tail _ hp)) | exact .tail _ (.tail _ (.tail _ (.tail _ hp)))
end
section
variable {prog : Program} {w : World} {A : Around} {s' : Shared} {h₀ : Heap} {L e : Addr} {m : Str → Option Value} {env : Env} {outer : List Env} {news : List (Addr × Obj)} {t : Expr} {b₀ : Stmt} {suite : List Stmt} {pos : PySem.Pos} {rest : List ExceptHandler} {Q : Flow → Shared → Prop}
theorem catchC (hA : A.frames = some (env :: outer)) (hf : env.frame = some L) (hns : s'.heap.Ns L m) (habove : h₀.objs.size ≤ L) (R : RaisedN h₀ (env :: outer) e (.type "ValueError") news s'.heap)
    (heval : ∀ (s : Shared) (Q : Value → Shared → Prop) (E : Value → Shared → Prop), Fr h₀ L s.heap m → Q (.type "ValueError") s → wpAny (model prog w) (A.mark (some (.ref e))) (eval t env) Q E s)
    (k : ∀ h', Fr h₀ L h' m → News h₀ L h' news → h'.FunFrames h₀ outer → wpAny (model prog w) (A.mark (some (.ref e))) (execs (b₀ :: suite) env) Q NoE { s' with heap := h' }) :
    wpAny (model prog w) A (noteFrame (.ref e) env) (fun _ s₂ => wpAny (model prog w) A (setFlight (.ref e) none) (fun _ s₃ =>
        wpAny (model prog w) A (handleBy (.ref e) env (.ExceptHandler (some t) none (b₀ :: suite) pos :: rest)) Q NoE s₃) NoE s₂) NoE s' := by
  obtain ⟨B, a0, stay, inB, fly⟩ := R
  have offL : B.get? L = none := by
    obtain ⟨_, ⟨L', _, hf', none', _⟩, _⟩ := fly.2.2.1
    rw [hf] at hf'
    injection hf' with hf'
    rw [hf']; exact none'
  refine wpAny_looks_onW hA hf fly fun g1 held up1 => wpAny_landsW held fun g2 fly2 up2 => ?_
  have base2 := flyingW_base stay fly2
  have F2 : Fr h₀ L g2 m := ⟨(up1.trans up2).ns hns, base2.1, habove⟩
  obtain ⟨ob, hob, hcls⟩ := base2.there
  refine wpAny_handleBy_builtin (X := "ValueError") (T := "ValueError") (b := true) PySem.F.isExc_ValueError PySem.F.notTuple_ValueError (by rw [isSubtype_type]; kernel_rfl) (heval _ _ _ F2 ⟨rfl, ⟨ob, hob, hcls⟩, ?_⟩)
  refine lands_againW fly2 fun g3 fly3 up3 => ?_
  have base3 := flyingW_base stay fly3
  refine wpAny_passesOwnAt PassesOwnAt.never (k g3 ⟨((up1.trans up2).trans up3).ns hns, base3.1, habove⟩ (fun q hq => ⟨fly3.1 _ _ (inB q hq).1, fun z => ?_, (inB q hq).2⟩) base3.2.2.1.2.2)
  have z1 := (inB q hq).1
  rw [z, offL] at z1
  cases z1
end
section
variable {prog : Program} {w : World} {dp un : Nat} {gd : Option (List Code)} {s : Shared} {h₀ : Heap} {L : Addr} {m mg mb : Str → Option Value} {led keep : List (Addr × Obj)} {p : Program} {loose : List Str} {mean : ExcName → Option Value}
    {Q : Flow → Shared → Prop} {c : Ad} {ps : PS} {x : Str} {oB : Obj} {e1 : Env}
local macro_rules | `(tactic| walk_at $_) => Lean.Macro.throwUnsupported
local macro_rules | `(tactic| walk_at $_) => Lean.Macro.throwUnsupported
local macro_rules | `(tactic| walk_at $_) => Lean.Macro.throwUnsupported
local macro_rules | `(tactic| walk_at $_) => Lean.Macro.throwUnsupported
local macro_rules | `(tactic| walk_at $_) => Lean.Macro.throwUnsupported
local macro_rules | `(tactic| walk_at "exec Try") => `(tactic| (k_here; refine wpAny_Try_except ?_))
local macro_rules | `(tactic| walk_at "call ref") => `(tactic| (k_here; (with_reducible show wpAny _ _ (call (Value.ref 165) _ _) _ _ _); k_dflt (first
  | (refine' sd_val rfl rfl ?cW ?cV ?cF ?cX ?cN ?cT ?cd ?cS ?cl ?cb ?_; (case cW => assumption); (case cV => assumption); (case cF => assumption); (case cX => assumption); (case cN => assumption); (case cT => assumption); (case cd => walk_at "MY room"); (case cS => walk_at "MY st"); (case cl => assumption); (case cb => assumption); intro h' tk' e' R' n')
  | (refine' sd_tab rfl rfl ?cW ?cV ?cF ?cX ?cN ?cT ?cd ?cS ?_; (case cW => assumption); (case cV => assumption); (case cF => assumption); (case cX => assumption); (case cN => assumption); (case cT => assumption); (case cd => walk_at "MY room"); (case cS => walk_at "MY st"); intro h' tk' e' R' n'))))
set_option maxHeartbeats 400000 in
theorem bad_body {t1 t2 : Tok} (F : Fr h₀ L s.heap m) (X₀ : (hd.heap_39 w.params).In h₀) (N : News h₀ L s.heap led) (T : Top p loose mean mg mb h₀) (hroom : dp < 550) (S : St prog w led c ((L + 1, oB) :: keep) ps) (hB : oB.data = .cell (some (.ref c.aB)))
    (W : s.heap.FunFrames h₀ [e1]) (hW : ∀ e ∈ [e1], ∀ b, e.frame = some b → b ∉ led.map (·.1)) (hlk : ps.busy.lookup 1 = none) (hbad : valBad x = true)
    (h1 : m (Str.ofString "name") = some (.str (nm 1) t1)) (h2 : m (Str.ofString "text") = some (.str x t2))
    (hQ : ∀ h' tk', Fr h₀ L h' m → News h₀ L h' led → h'.FunFrames h₀ [e1] → Q .cont { s with heap := h', toks := tk' }) :
    wpAny (model prog w) ((AR dp (some [e1]) gd un).deeper (runEnv L)) (execs stEnd.1.2.2.1 (runEnv L)) Q NoE s := by
  obtain ⟨mm, hm⟩ : ∃ mm : Str → Option Value, m = fun y => if y = Str.ofString "name" then some (.str (nm 1) t1) else if y = Str.ofString "text" then some (.str x t2) else mm y := ⟨m, funext fun _ => at_if h1 fun _ => at_if h2 fun _ => rfl⟩
  clear h1 h2
  subst hm
  have X' := X₀
  have T' := T
  walk_at "MY facts"
  dsimp only [runEnv, runDef, stEnd]
  (with_reducible show wpAny _ _ _ _ _ _)
  k_steps
  refine' catchC rfl rfl ?hn ?ha ?hR ?he ?_
  case hn => assumption
  case ha => exact Fr.above (by assumption)
  case hR => assumption
  case he =>
    intro s1 Q1 E1 F1 hq
    obtain ⟨hp1, g1, d1, k1, o1⟩ := s1
    clear F N
    k_steps
    exact hq
  intro h' F' N' W'
  k_steps
  exact hQ _ _ F' N' W'
set_option maxHeartbeats 400000 in
theorem tab_body {t1 t2 : Tok} (F : Fr h₀ L s.heap m) (X₀ : (hd.heap_39 w.params).In h₀) (N : News h₀ L s.heap led) (T : Top p loose mean mg mb h₀) (hroom : dp < 550) (S : St prog w led c ((L + 1, oB) :: keep) ps) (hB : oB.data = .cell (some (.ref c.aB)))
    (W : s.heap.FunFrames h₀ [e1]) (hW : ∀ e ∈ [e1], ∀ b, e.frame = some b → b ∉ led.map (·.1))
    (h1 : m (Str.ofString "name") = some (.str (Str.ofString ".b\t") t1)) (h2 : m (Str.ofString "text") = some (.str x t2))
    (hQ : ∀ h' tk', Fr h₀ L h' m → News h₀ L h' led → h'.FunFrames h₀ [e1] → Q .cont { s with heap := h', toks := tk' }) :
    wpAny (model prog w) ((AR dp (some [e1]) gd un).deeper (runEnv L)) (execs stEnd.1.2.2.1 (runEnv L)) Q NoE s := by
  obtain ⟨mm, hm⟩ : ∃ mm : Str → Option Value, m = fun y => if y = Str.ofString "name" then some (.str (Str.ofString ".b\t") t1) else if y = Str.ofString "text" then some (.str x t2) else mm y := ⟨m, funext fun _ => at_if h1 fun _ => at_if h2 fun _ => rfl⟩
  clear h1 h2
  subst hm
  have X' := X₀
  have T' := T
  walk_at "MY facts"
  dsimp only [runEnv, runDef, stEnd]
  (with_reducible show wpAny _ _ _ _ _ _)
  k_steps
  refine' catchC rfl rfl ?hn ?ha ?hR ?he ?_
  case hn => assumption
  case ha => exact Fr.above (by assumption)
  case hR => assumption
  case he =>
    intro s1 Q1 E1 F1 hq
    obtain ⟨hp1, g1, d1, k1, o1⟩ := s1
    clear F N
    k_steps
    exact hq
  intro h' F' N' W'
  k_steps
  exact hQ _ _ F' N' W'
end
def Refused (led : List (Addr × Obj)) (v : Value) : Prop := ∃ (T : Addr) (nme x : Str) (t1 t2 : Tok) (n : Nat), v = .ref T ∧ (T, tupObj #[.str nme t1, .str x t2] n) ∈ led ∧ ((nme = nm 1 ∧ valBad x = true) ∨ nme = Str.ofString ".b\t")
section
variable {prog : Program} {w : World} {dp un : Nat} {gd : Option (List Code)} {s : Shared} {h₀ : Heap} {L : Addr} {m mg mb : Str → Option Value} {led keep : List (Addr × Obj)} {p : Program} {loose : List Str} {mean : ExcName → Option Value}
    {Q : Flow → Shared → Prop} {c : Ad} {ps : PS} {x : Str} {oB : Obj} {e1 : Env} {nL Lw : Addr} {wi : Int}
theorem for_refuse {vs : List Value} {lT : Addr} {kk : Nat} (F : Fr h₀ L s.heap m) (X₀ : (hd.heap_39 w.params).In h₀) (N : News h₀ L s.heap led) (T : Top p loose mean mg mb h₀) (hroom : dp < 550) (S : St prog w led c ((L + 1, oB) :: keep) ps) (hB : oB.data = .cell (some (.ref c.aB)))
    (W : s.heap.FunFrames h₀ [e1]) (hfw : e1.frame = some Lw) (hWL : Lw ≠ L) (hW : Lw ∉ led.map (·.1)) (hlk : ps.busy.lookup 1 = none) (hl : MLoc nL c wi m) (hT : (lT, listOf vs.toArray kk) ∈ led) (hvs : ∀ v ∈ vs, Refused led v)
    (done : ∀ h' tk' m', Fr h₀ L h' m' → MLoc nL c wi m' → News h₀ L h' led → Q .next { s with heap := h', toks := tk' }) :
    wpAny (model prog w) ((AR dp (some [e1]) gd un).deeper (runEnv L)) (pyIter (.ref lT)) (Turns prog w ((AR dp (some [e1]) gd un).deeper (runEnv L)) stEnd.1.1 stEnd.1.2.2.1 (runEnv L) Q) NoE s := by
  obtain ⟨hk1, ⟨Lw', oW, hf1, hn1, ho1, hd1⟩, _⟩ := W
  rw [hfw] at hf1
  injection hf1 with hf1
  subst hf1
  have NW : News h₀ L s.heap ((Lw, oW) :: led) := fun q hq => by
    rcases List.mem_cons.mp hq with rfl | hq
    · exact ⟨ho1, hWL, hn1⟩
    · exact N q hq
  refine for_list (vs := vs) (fun i m₁ led₁ gs => gs = s.gens ∧ MLoc nL c wi m₁ ∧ ∃ oW, led₁ = (Lw, oW) :: led ∧ ∀ vs, oW.data ≠ .fields vs) rfl F NW ⟨_, (N _ hT).1, rfl, _, rfl⟩ ⟨rfl, hl, oW, rfl, hd1⟩ ?_ ?_ ?_ ?_
  · rintro i m₁ led₁ gs h ⟨_, _, oW', rfl, _⟩ _ N₁
    exact ⟨_, (N₁ _ (.tail _ hT)).1, rfl, _, rfl⟩
  · rintro i m₁ led₁ gs ⟨_, _, oW', rfl, _⟩ q hq
    rcases List.mem_cons.mp hq with rfl | hq
    · exact Nat.ne_of_lt (Heap.lt_size ho1)
    · exact Nat.ne_of_lt (Heap.lt_size (N q hq).1)
  · rintro i v o m₁ led₁ gs h tk hv ⟨rfl, hl₁, oW', rfl, hd'⟩ hO F₁ N₁
    obtain ⟨T1, nme, x, t1, t2, n, rfl, hmem, hbad⟩ := hvs v (List.mem_of_getElem? hv)
    have hne : ∀ q ∈ led, q.1 ≠ s.heap.objs.size := fun q hq => Nat.ne_of_lt (Heap.lt_size (N q hq).1)
    refine wpAny_letOwnedTupleGo_listiter ⟨o, (N₁ _ (.head _)).1, hO.1, hO.2⟩ ?_
    refine kcp_assign (env := runEnv L) (x := .str nme t1) (y := .str x t2) rfl ⟨_, (N₁ _ (.tail _ (.tail _ hmem))).1, rfl, _, rfl⟩ rfl rfl rfl F₁.ns fun h₃ tk₃ hn₃ hs₃ => ?_
    have F₃ : Fr h₀ L h₃ (fun z => if z = Str.ofString "text" then some (.str x t2) else if z = Str.ofString "name" then some (.str nme t1) else m₁ z) :=
      ⟨hn₃, fun b ob e => hs₃ b ob (fun q => by have q' : b = L := q; rw [q', Heap.get?_none_of_le F₁.above] at e; cases e) (F₁.keep b ob e), F₁.above⟩
    have N₃ : News h₀ L h₃ ((s.heap.objs.size, o) :: (Lw, oW') :: led) := fun q hq => ⟨hs₃ _ _ (N₁ q hq).2.1 (N₁ q hq).1, (N₁ q hq).2⟩
    have NI : News h₀ L h₃ ((s.heap.objs.size, o) :: led) := News.sub N₃ fun q hq => by
      rcases List.mem_cons.mp hq with rfl | hq
      · exact .head _
      · exact .tail _ (.tail _ hq)
    have W₃ : h₃.FunFrames h₀ [e1] := ⟨hk1, ⟨Lw, oW', hfw, hn1, (N₃ _ (.tail _ (.head _))).1, hd'⟩, trivial⟩
    have hLwI : Lw ≠ s.heap.objs.size := Nat.ne_of_lt (Heap.lt_size ho1)
    have hV : ∀ e ∈ [e1], ∀ b, e.frame = some b → b ∉ ((s.heap.objs.size, o) :: led).map (·.1) := fun e he b hb => by
      rw [List.mem_singleton.mp he, hfw] at hb
      injection hb with hb
      subst hb
      rw [List.map_cons]
      intro q
      rcases List.mem_cons.mp q with q | q
      · exact hLwI q
      · exact hW q
    have S₃ : St prog w ((s.heap.objs.size, o) :: led) c ((L + 1, oB) :: keep) ps := S.skip
    have hl₃ : MLoc nL c wi (fun z => if z = Str.ofString "text" then some (.str x t2) else if z = Str.ofString "name" then some (.str nme t1) else m₁ z) := by
      obtain ⟨t, mm, rfl⟩ := hl₁
      exact MLoc.intro rfl rfl rfl rfl rfl
    have fin : ∀ (h' : Heap) (tk' : Nat), Fr h₀ L h' (fun z => if z = Str.ofString "text" then some (.str x t2) else if z = Str.ofString "name" then some (.str nme t1) else m₁ z) → News h₀ L h' ((s.heap.objs.size, o) :: led) → h'.FunFrames h₀ [e1] →
        ∃ h'' tk'' gs' m' news', (⟨h', s.gens, s.drawn, tk', s.os⟩ : Shared) = ⟨h'', gs', s.drawn, tk'', s.os⟩ ∧ Fr h₀ L h'' m' ∧ News h₀ L h'' ((s.heap.objs.size, o) :: news') ∧ gs' = s.gens ∧ MLoc nL c wi m' ∧ ∃ oW, news' = (Lw, oW) :: led ∧ ∀ vs, oW.data ≠ .fields vs := by
      rintro h' tk' F' N' ⟨_, ⟨Lw', oW2, hf2, hn2, ho2, hd2⟩, _⟩
      rw [hfw] at hf2
      injection hf2 with hf2
      subst hf2
      refine ⟨h', tk', _, _, (Lw, oW2) :: led, rfl, F', fun q hq => ?_, rfl, hl₃, oW2, rfl, hd2⟩
      rcases List.mem_cons.mp hq with rfl | hq
      · exact N' _ (.head _)
      · rcases List.mem_cons.mp hq with rfl | hq
        · exact ⟨ho2, hWL, hn2⟩
        · exact N' _ (.tail _ hq)
    rcases hbad with ⟨rfl, hb⟩ | rfl
    · exact bad_body (s := ⟨h₃, s.gens, s.drawn, tk₃, s.os⟩) F₃ X₀ NI T hroom S₃ hB W₃ hV hlk hb rfl rfl fun h' tk' F' N' W' => fin h' tk' F' N' W'
    · exact tab_body (s := ⟨h₃, s.gens, s.drawn, tk₃, s.os⟩) F₃ X₀ NI T hroom S₃ hB W₃ hV rfl rfl fun h' tk' F' N' W' => fin h' tk' F' N' W'
  · rintro m₁ led₁ gs h tk ⟨rfl, hl₁, oW', rfl, _⟩ F₁ N₁
    exact done h tk m₁ F₁ hl₁ (News.off N₁)
end
noncomputable def stT : { q : Stmt // runDef.1.2.2.1[3]? = some q } := ⟨_, rfl⟩
noncomputable def stI : { q : Stmt // runDef.1.2.2.1[4]? = some q } := ⟨_, rfl⟩
noncomputable def stR : { q : Stmt // runDef.1.2.2.1[5]? = some q } := ⟨_, rfl⟩
theorem body_is : runDef.1.2.2.1 = [stA.1, stS.1, stM.1, stT.1, stI.1, stR.1] := rfl
section
variable {prog : Program} {w : World} {dp un : Nat} {gd : Option (List Code)} {s : Shared} {h₀ : Heap} {L : Addr} {m mg mb : Str → Option Value} {led keep : List (Addr × Obj)} {p : Program} {loose : List Str} {mean : ExcName → Option Value}
    {Q : Flow → Shared → Prop} {c : Ad} {ps : PS} {x : Str} {oB : Obj} {e1 : Env} {nL Lw : Addr} {wi : Int} {rest : List Stmt} {a0 a1 a2 a3 a4 a5 a6 a7 : Int} {u0 u1 u2 u3 u4 u5 u6 u7 : Tok} {kn : Nat}
theorem for_refuse4 {big : List (Addr × Obj)} {lT T1 T2 T3 T4 : Addr} {x1 x2 x3 x4 : Str} {t1 t2 t3 t4 v1 v2 v3 v4 : Tok} {n1 n2 n3 n4 kk : Nat} {oW : Obj} (F : Fr h₀ L s.heap m) (X₀ : (hd.heap_39 w.params).In h₀) (N : News h₀ L s.heap big) (T : Top p loose mean mg mb h₀) (hroom : dp < 550) (S : St prog w led c ((L + 1, oB) :: keep) ps) (hB : oB.data = .cell (some (.ref c.aB)))
    (hLw : (Lw, oW) ∈ big) (hd1 : ∀ vs, oW.data ≠ .fields vs) (hd2 : ∀ a n, oW.data ≠ .seq a n) (hfw : e1.frame = some Lw) (hk1 : e1.scope.kind ≠ .module) (hsub : ∀ p ∈ led, p ∈ big) (hW : Lw ∉ led.map (·.1)) (hlk : ps.busy.lookup 1 = none) (hl : MLoc nL c wi m)
    (hT : (lT, listOf #[.ref T1, .ref T2, .ref T3, .ref T4] kk) ∈ big) (m1 : (T1, tupObj #[.str (Str.ofString ".b") t1, .str x1 v1] n1) ∈ big) (m2 : (T2, tupObj #[.str (Str.ofString ".b") t2, .str x2 v2] n2) ∈ big) (m3 : (T3, tupObj #[.str (Str.ofString ".b") t3, .str x3 v3] n3) ∈ big) (m4 : (T4, tupObj #[.str (Str.ofString ".b\t") t4, .str x4 v4] n4) ∈ big)
    (b1 : valBad x1 = true) (b2 : valBad x2 = true) (b3 : valBad x3 = true)
    (done : ∀ h' tk' m', Fr h₀ L h' m' → MLoc nL c wi m' → News h₀ L h' led → Q .next { s with heap := h', toks := tk' }) :
    wpAny (model prog w) ((AR dp (some [e1]) gd un).deeper (runEnv L)) (pyIter (.ref lT)) (Turns prog w ((AR dp (some [e1]) gd un).deeper (runEnv L)) stEnd.1.1 stEnd.1.2.2.1 (runEnv L) Q) NoE s := by
  have off : ∀ {a its n}, (a, (⟨.type "tuple", none, .seq its n, #[]⟩ : Obj)) ∈ big → a ≠ Lw := fun h e => by
    have z1 := (N _ h).1
    have z2 := (N _ hLw).1
    dsimp only at z1 z2
    rw [e, z2] at z1
    injection z1 with z1
    exact hd2 _ _ (by rw [z1])
  have off2 : lT ≠ Lw := fun e => by
    have z1 := (N _ hT).1
    have z2 := (N _ hLw).1
    dsimp only at z1 z2
    rw [e, z2] at z1
    injection z1 with z1
    exact hd2 _ _ (by rw [z1])
  have hs' : ∀ q ∈ led, q ∈ offA Lw big := fun q hq => offA_mem.mpr ⟨hsub q hq, fun e => hW (List.mem_map.mpr ⟨q, hq, e⟩)⟩
  refine for_refuse (led := offA Lw big) (Lw := Lw) (vs := [.ref T1, .ref T2, .ref T3, .ref T4]) F X₀ (News.sub N fun q hq => (offA_mem.mp hq).1) T hroom (S.sub hs') hB ⟨hk1, ⟨Lw, oW, hfw, (N _ hLw).2.2, (N _ hLw).1, hd1⟩, trivial⟩ hfw (N _ hLw).2.1 (fun q => ?_) hlk hl (offA_mem.mpr ⟨hT, off2⟩) (fun v hv => ?_) fun h' tk' m' F' hl' N' => done h' tk' m' F' hl' (News.sub N' hs')
  · obtain ⟨y, hy, e⟩ := List.mem_map.mp q
    exact (offA_mem.mp hy).2 e
  · simp only [List.mem_cons, List.not_mem_nil, or_false] at hv
    rcases hv with rfl | rfl | rfl | rfl
    · exact ⟨T1, _, x1, t1, v1, n1, rfl, offA_mem.mpr ⟨m1, off m1⟩, .inl ⟨rfl, b1⟩⟩
    · exact ⟨T2, _, x2, t2, v2, n2, rfl, offA_mem.mpr ⟨m2, off m2⟩, .inl ⟨rfl, b2⟩⟩
    · exact ⟨T3, _, x3, t3, v3, n3, rfl, offA_mem.mpr ⟨m3, off m3⟩, .inl ⟨rfl, b3⟩⟩
    · exact ⟨T4, _, x4, t4, v4, n4, rfl, offA_mem.mpr ⟨m4, off m4⟩, .inr rfl⟩
end
section
variable {prog : Program} {w : World} {dp un : Nat} {gd : Option (List Code)} {s : Shared} {h₀ : Heap} {L : Addr} {m mg mb : Str → Option Value} {led keep : List (Addr × Obj)} {p : Program} {loose : List Str} {mean : ExcName → Option Value}
    {Q : Flow → Shared → Prop} {c : Ad} {ps : PS} {x : Str} {oB oW : Obj} {e1 : Env} {nL Lw : Addr} {wi : Int} {rest : List Stmt} {a0 a1 a2 a3 a4 a5 a6 a7 : Int} {u0 u1 u2 u3 u4 u5 u6 u7 : Tok} {kn : Nat}
theorem numk {A : Around} {D : Addr} {value slice : Expr} {j a : Int} {u u' : Tok} {Q E : Value → Shared → Prop} (N : News h₀ L s.heap led) (hm : (D, listOf #[.int a0 u0, .int a1 u1, .int a2 u2, .int a3 u3, .int a4 u4, .int a5 u5, .int a6 u6, .int a7 u7] kn) ∈ led) (hj : (j = 0 ∧ a = a0 ∧ u' = u0) ∨ (j = 1 ∧ a = a1 ∧ u' = u1)) (h : Q (.int a u') s)
    (hs : subscripted slice false (.ref D) (.int j u) = operate [.ref D, .int j u] (getItem (.ref D) (.int j u))) :
    wpAny (model prog w) A (subscriptTail value slice (.ref D) (.int j u)) Q E s := by
  rcases hj with ⟨rfl, rfl, rfl⟩ | ⟨rfl, rfl, rfl⟩
  · exact num0 N hm h hs
  · exact num1 N hm h hs
theorem chr9 {A : Around} {a : Int} {u : Tok} {Q E : Value → Shared → Prop} (h : ∀ x t k, valBad x = true → Q (.str x t) { s with toks := k }) : wpAny (model prog w) A (call (.builtin "chr") [.int (a.fmod 9) u]) Q E s := by
  have f1 := Int.fmod_nonneg_of_pos a (show (0 : Int) < 9 by decide)
  have f2 := Int.fmod_lt_of_pos a (show (0 : Int) < 9 by decide)
  generalize a.fmod 9 = i at f1 f2
  refine PyProof.Rows.chr_of_range f1 (by omega) (h _ _ _ ?_)
  have := bad_low ⟨i.toNat, by omega⟩
  exact this
theorem chr22 {A : Around} {a : Int} {u : Tok} {Q E : Value → Shared → Prop} (h : ∀ x t k, valBad x = true → Q (.str x t) { s with toks := k }) : wpAny (model prog w) A (call (.builtin "chr") [.int (10 + a.fmod 22) u]) Q E s := by
  have f1 := Int.fmod_nonneg_of_pos a (show (0 : Int) < 22 by decide)
  have f2 := Int.fmod_lt_of_pos a (show (0 : Int) < 22 by decide)
  generalize a.fmod 22 = i at f1 f2
  refine PyProof.Rows.chr_of_range (by omega) (by omega) (h _ _ _ ?_)
  have := bad_high ⟨i.toNat, by omega⟩
  have e : (10 + i).toNat = 10 + i.toNat := by omega
  rw [e]
  exact this
local macro_rules | `(tactic| walk_at "call builtin:chr") => `(tactic| (k_here; first | (with_reducible refine chr9 ?_; intro x' t' k' hb') | (with_reducible refine chr22 ?_; intro x' t' k' hb') | exfalso))
local macro_rules | `(tactic| walk_at "subscriptTail") => `(tactic| (k_here; k_dflt (refine' numk ?cN ?cm ?cj ?_ ?cs; (case cN => assumption); (case cm => k_mem); (case cj => first | exact .inl ⟨rfl, rfl, rfl⟩ | exact .inr ⟨rfl, rfl, rfl⟩); (case cs => (with_unfolding_all rfl)))))
theorem bad_del' : valBad (Str.ofString "\x7f") = true := by decide +kernel
structure Stop (P : Prop) : Prop where
  h : P
local macro_rules | `(tactic| walk_at "MY rows") => `(tactic| (refine Stop.h ?_))
set_option maxHeartbeats 200000 in
theorem stmtT (F : Fr h₀ L s.heap m) (X₀ : (hd.heap_39 w.params).In h₀) (N : News h₀ L s.heap ((Lw, oW) :: led)) (T : Top p loose mean mg mb h₀) (hroom : dp < 550) (S : St prog w led c ((L + 1, oB) :: (nL, listOf #[.int a0 u0, .int a1 u1, .int a2 u2, .int a3 u3, .int a4 u4, .int a5 u5, .int a6 u6, .int a7 u7] kn) :: keep) ps) (hB : oB.data = .cell (some (.ref c.aB)))
    (hd1 : ∀ vs, oW.data ≠ .fields vs) (hd2 : ∀ a n, oW.data ≠ .seq a n) (hfw : e1.frame = some Lw) (hk1 : e1.scope.kind ≠ .module) (hW : Lw ∉ led.map (·.1)) (hlk : ps.busy.lookup 1 = none) (hl : MLoc nL c wi m)
    (hK : ∀ h' tk' m', Fr h₀ L h' m' → MLoc nL c wi m' → News h₀ L h' led → wpAny (model prog w) ((AR dp (some [e1]) gd un).deeper (runEnv L)) (execs rest (runEnv L)) Q NoE { s with heap := h', toks := tk' }) :
    wpAny (model prog w) ((AR dp (some [e1]) gd un).deeper (runEnv L)) (execs (stT.1 :: rest) (runEnv L)) Q NoE s := by
  have hnum := (S.kp _ (.tail _ (.head _))).1
  obtain ⟨t1, mm, hm⟩ := hl
  have hl0 : MLoc nL c wi m := ⟨t1, mm, hm⟩
  subst hm
  have X' := X₀
  have T' := T
  have hdel := bad_del'
  walk_at "MY facts"
  dsimp only [runEnv, runDef, stT]
  (with_reducible show wpAny _ _ _ _ _ _)
  refine wpAny_execs_cons ?_
  refine for_any ?_
  k_steps
  refine ⟨?_⟩
  refine' for_refuse4 ?cF ?cX ?cN ?cT ?cd ?cS ?cB ?cw ?c1 ?c2 ?cf ?ck ?cs ?cW ?cl ?ch ?cL ?m1 ?m2 ?m3 ?m4 ?b1 ?b2 ?b3 ?_
  case cF => assumption
  case cX => assumption
  case cN => assumption
  case cT => assumption
  case cd => assumption
  case cS => assumption
  case cB => assumption
  case cf => assumption
  case c1 => assumption
  case c2 => assumption
  case cw => k_mem
  case ck => assumption
  case cs => (intro q hq; k_mem)
  case cW => assumption
  case cl => assumption
  case ch => exact MLoc.intro rfl rfl rfl rfl rfl
  case cL => k_mem
  case m1 => k_mem
  case m2 => k_mem
  case m3 => k_mem
  case m4 => k_mem
  case b1 => assumption
  case b2 => assumption
  case b3 => assumption
  intro h' tk' m' F' hl' N'
  exact hK _ _ _ F' hl' N'
end
theorem tabOk : valOk (Str.ofString "\t") = true := by decide +kernel
theorem upOk : nameOk (Str.ofString ".B") = true := by decide +kernel
theorem lowUp1 : Low (Str.ofString ".B") (nm 1) := low_up 1
theorem lowDot : Low (Str.ofString ".") (nm 0) := low_nm 0
section
variable {prog : Program} {w : World} {dp un : Nat} {fr : Option (List Env)} {gd : Option (List Code)} {s : Shared} {h₀ : Heap} {L : Addr} {m mg mb : Str → Option Value} {led keep : List (Addr × Obj)} {p : Program} {loose : List Str} {mean : ExcName → Option Value}
    {c : Ad} {ps : PS} {x : Str} {oB : Obj} {nL : Addr} {wi : Int}
theorem ksd {Q E : Value → Shared → Prop} {r : List (Fin 4 × Bool)} {tk tkx : Tok} {y : Str} (F : Fr h₀ L s.heap m) (X₀ : (hd.heap_39 w.params).In h₀) (N : News h₀ L s.heap led) (T : Top p loose mean mg mb h₀) (hroom : dp < 700) (S : St prog w led c keep ps) (hb : ps.book = (0, true) :: r)
    (hQ : ∀ h' tk' t, Fr h₀ L h' m → News h₀ L h' led → Q (.str (Str.ofString "(") t) { s with heap := h', toks := tk' }) :
    wpAny (model prog w) (AR dp fr gd un) (call (.ref 165) [.ref c.aK, .str (Str.ofString ".") tk, .str y tkx] []) Q E s := by
  obtain ⟨_, _, _, hd1⟩ := S.kd
  obtain ⟨_, _, hl, hr⟩ := S.kl
  have hlk : lookupRow (ps.book.map krow) (nm 0) = some (Str.ofString "(") := by
    rw [hb]
    show (if nm 0 = nm 0 then some (brk true) else _) = _
    rw [if_pos rfl]; rfl
  exact setdef_some F X₀ N T hroom S.ki hd1 hl hr krow_low lowDot (nm_ok 0) hlk hQ
theorem bsd_fin {Q E : Value → Shared → Prop} {tk tkx : Tok} (F : Fr h₀ L s.heap m) (X₀ : (hd.heap_39 w.params).In h₀) (N : News h₀ L s.heap led) (T : Top p loose mean mg mb h₀) (hroom : dp < 700) (S : St prog w led c ((L + 1, oB) :: keep) ps) (hb : ps.busy = [])
    (hQ : ∀ h' tk' led' t hs t0 n0 n1, Fr h₀ L h' m → News h₀ L h' led' → (c.aB, instObj 175 c.dB) ∈ led' → (c.dB, dictOf [⟨hs, .str (Str.ofString "_headers") t0, .ref c.lB⟩] n0) ∈ led' → (c.lB, listOf ([.ref t] : List Value).toArray n1) ∈ led' → (t, tupObj #[.str (Str.ofString ".B") tk, .str (Str.ofString "\t") tkx] 0) ∈ led' → (L + 1, oB) ∈ led' →
      Q (.str (Str.ofString "\t") tkx) { s with heap := h', toks := tk' }) :
    wpAny (model prog w) (AR dp fr gd un) (call (.ref 165) [.ref c.aB, .str (Str.ofString ".B") tk, .str (Str.ofString "\t") tkx] []) Q E s := by
  obtain ⟨_, _, _, hd1⟩ := S.bd
  obtain ⟨refs, n, hl, hr⟩ := S.bl
  rw [hb] at hr
  cases hr
  refine setdef_none F X₀ N T hroom S.bi hd1 hl .nil (fun r hr => by cases hr) lowUp1 (nm_ok 1) upOk tabOk rfl (by decide) fun h' tk' t hlt F' N' => ?_
  have hk := S.kp _ (.head _)
  refine hQ h' tk' _ t _ _ _ (n + 1) F' N' (putA_other (.tail _ S.bi) (S.ne.B _ (by simp))) (putA_other (.tail _ hd1) (S.ne.B _ (by simp))) (putA_here (.tail _ hl)) (putA_other (.head _) ?_) (putA_other (.tail _ hk.1) hk.2.1)
  exact Nat.ne_of_gt (hlt _ hl)
theorem mails_ne {Q E : Value → Shared → Prop} {env : Env} {l : Addr} {n : Nat} (N : News h₀ L s.heap led) (S : St prog w led c keep ps) (hb : ps.mails = []) (hm : (l, listOf #[] n) ∈ led) (hun : un < 5000) (h : Q (.bool false) s) :
    wpAny (model prog w) ((AR dp fr gd un).deeper env) (compareOp .NotEq (.ref c.lM) (.ref l)) Q E s := by
  obtain ⟨vs, k, hl, hr⟩ := S.ml
  rw [hb] at hr
  cases hr
  exact ne_nil N hl hm hun h
theorem nodup_paren : (Str.ofString "(" != Str.ofString "(") = false := by simp
local macro_rules | `(tactic| walk_at "call ref") => `(tactic| (k_here; (with_reducible show wpAny _ _ (call (Value.ref 165) _ _) _ _ _); k_dflt (first
  | (refine' ksd ?cF ?cX ?cN ?cT ?cd ?cS ?cb ?_; (case cF => assumption); (case cX => assumption); (case cN => assumption); (case cT => assumption); (case cd => walk_at "MY room"); (case cS => walk_at "MY st"); (case cb => assumption); intro h' tk' t' F' N')
  | (refine' bsd_fin ?cF ?cX ?cN ?cT ?cd ?cS ?cb ?_; (case cF => assumption); (case cX => assumption); (case cN => assumption); (case cT => assumption); (case cd => walk_at "MY room"); (case cS => walk_at "MY st"); (case cb => assumption); intro h' tk' led' t' hs' t0' n0' n1' F' N' k1' k2' k3' k4' k5'))))
local macro_rules | `(tactic| walk_at "call ref") => `(tactic| (k_here; (with_reducible show wpAny _ _ (call (Value.ref 139) _ _) _ _ _); k_dflt (refine' items ?cF ?cX ?cN ?cT ?cd ?ca ?cb ?cl ?cz ?_; (case cF => assumption); (case cX => assumption); (case cN => assumption); (case cT => assumption); (case cd => walk_at "MY room"); (case ca => assumption); (case cb => assumption); (case cl => assumption); (case cz => exact fits (by show 1 ≤ 1000; decide)); intro h' tk' D' k' l1 F' N')))
local macro_rules | `(tactic| walk_at "compareOp NotEq ref ref") => `(tactic| (k_here; k_dflt (refine' mails_ne ?cN ?cS ?cb ?cm ?cu ?_; (case cN => assumption); (case cS => walk_at "MY st"); (case cb => assumption); (case cm => k_mem); (case cu => assumption))))
set_option maxHeartbeats 300000 in
theorem finish {Q : Flow → Shared → Prop} {E : Value → Shared → Prop} {r : List (Fin 4 × Bool)} (F : Fr h₀ L s.heap m) (X₀ : (hd.heap_39 w.params).In h₀) (N : News h₀ L s.heap led) (T : Top p loose mean mg mb h₀) (hroom : dp < 550) (hun : un < 5000) (S : St prog w led c ((L + 1, oB) :: keep) ps) (hB : oB.data = .cell (some (.ref c.aB)))
    (hl : MLoc nL c wi m) (hm : ps.mails = []) (hb : ps.busy = []) (hk : ps.book = (0, true) :: r)
    (hQ : ∀ h' tk' led', Fr h₀ L h' m → News h₀ L h' led' → Q (.ret (.bool true)) { s with heap := h', toks := tk' }) :
    wpAny (model prog w) ((AR dp fr gd un).deeper (runEnv L)) (execs [stI.1, stR.1] (runEnv L)) Q E s := by
  obtain ⟨t1, mm, hmm⟩ := hl
  subst hmm
  have X' := X₀
  have T' := T
  walk_at "MY facts"
  dsimp only [runEnv, runDef, stI, stR]
  (with_reducible show wpAny _ _ _ _ _ _)
  k_steps
  exact hQ _ _ _ (by assumption) (by assumption)
end
theorem NoTup.data {g h : Heap} {L a : Addr} {led : List (Addr × Obj)} {o : Obj} (N : News g L h led) (hm : (a, o) ∈ led) (ho : ∀ x n, o.data ≠ .seq x n) : NoTup a led := fun t its n ht e => by
  have h1 := (N _ ht).1
  have h2 := (N _ hm).1
  dsimp only at h1 h2
  rw [e, h2] at h1
  injection h1 with h1
  exact ho _ _ (by rw [h1])
theorem St.off2 {prog : Program} {w : World} {g h : Heap} {L a : Addr} {led keep keep' : List (Addr × Obj)} {c : Ad} {s : PS} {o : Obj} (S : St prog w led c keep s) (N : News g L h led) (ha : (a, o) ∈ led) (hd : ∀ x n, o.data ≠ .seq x n) (h4 : ∀ x ∈ [c.aB, c.dB, c.aK, c.dK], x ≠ a)
    (hk : a ≠ c.lB ∧ a ≠ c.lK ∧ a ≠ c.lM ∧ a ≠ c.dD) (hkp : ∀ p ∈ keep', p ∈ keep ∧ p.1 ≠ a) : St prog w (offA a led) c keep' s := by
  have hT : NoTup a led := NoTup.data N ha hd
  refine ⟨?_, ?_, ?_, ?_, ?_, ?_, ?_, ?_, S.lo, S.ne, fun p hp => ⟨offA_mem.mpr ⟨(S.kp p (hkp p hp).1).1, (hkp p hp).2⟩, (S.kp p (hkp p hp).1).2⟩⟩
  · exact offA_mem.mpr ⟨S.bi, h4 _ (by simp)⟩
  · obtain ⟨x, y, z, h⟩ := S.bd
    exact ⟨x, y, z, offA_mem.mpr ⟨h, h4 _ (by simp)⟩⟩
  · obtain ⟨x, y, h, r⟩ := S.bl
    exact ⟨x, y, offA_mem.mpr ⟨h, Ne.symm hk.1⟩, r.off hT⟩
  · exact offA_mem.mpr ⟨S.ki, h4 _ (by simp)⟩
  · obtain ⟨x, y, z, h⟩ := S.kd
    exact ⟨x, y, z, offA_mem.mpr ⟨h, h4 _ (by simp)⟩⟩
  · obtain ⟨x, y, h, r⟩ := S.kl
    exact ⟨x, y, offA_mem.mpr ⟨h, Ne.symm hk.2.1⟩, r.off hT⟩
  · obtain ⟨x, y, h, r⟩ := S.ml
    exact ⟨x, y, offA_mem.mpr ⟨h, Ne.symm hk.2.2.1⟩, r⟩
  · obtain ⟨x, y, h, r⟩ := S.dd
    exact ⟨x, y, offA_mem.mpr ⟨h, Ne.symm hk.2.2.2⟩, r⟩
theorem inv0 : Inv (ps1 2) := by
  have hp : ∀ (l : List Bool), (l = [true, true] ∨ l = []) → Pos l := by
    intro l hl i
    rcases hl with rfl | rfl
    · rcases i with _ | _ | i
      · decide
      · decide
      · rw [List.take_of_length_le (by simp)]; decide
    · simp [bal]
  refine ⟨⟨by decide, by decide, fun h => hp _ ?_, by decide, ?_, ⟨_, rfl⟩⟩, by decide, trivial, by decide⟩
  · revert h; decide
  · intro h n e
    by_cases h0 : h = 0
    · subst h0
      have e2 : List.lookup (0 : Fin 4) (ps1 2).debts = some 2 := rfl
      rw [e2] at e; injection e with e; omega
    · have : List.lookup h (ps1 2).debts = none := by
        show List.lookup h [((0 : Fin 4), (2 : Int))] = none
        rw [List.lookup_cons]
        have : (h == 0) = false := by simpa using h0
        rw [this]; rfl
      rw [this] at e; cases e
section
variable {prog : Program} {w : World} {A : Around} {s : Shared} {h₀ : Heap} {L : Addr} {m mg mb : Str → Option Value} {news : List (Addr × Obj)} {K : Frag} {p : Program} {loose : List Str} {mean : ExcName → Option Value}
    {R : Result → Shared → Prop} {name qual : Str} {params : Arguments} {body : List Stmt} {scope : Scope} {dV kV doc pm cdv ct oc : Value} {an od : Option Addr} {osl : Array (Option Value)} {f : Addr} {args : Args} {binds : List (Str × Value)}
theorem enterD (F : Fr h₀ L s.heap m) (X₀ : K.In h₀) (N : News h₀ L s.heap news) (T : Top p loose mean mg mb h₀)
    (ho : K.lookup f = some ⟨oc, od, .func (fnOf name qual params body scope dV kV doc pm an cdv ct), osl⟩) (hcd : codeIn K cdv qual = true) (hroom : A.depth < recursionLimit)
    (hbind : BindsTo s (fnOf name qual params body scope dV kV doc pm an cdv ct) args binds) (hkind : (binds.all fun y => scope.names.lookup y.1 == some .local || scope.names.lookup y.1 == some .cell) = true)
    (hnd : ((cellsFrom 0 scope.names []).map (·.1)).Nodup)
    (h : ∀ L' h₁ tk cells oW es ep, oW.data = .dict es ep → Fr h₀ L' h₁ (bindL (envOfC qual scope L' f cdv).kindOf binds fun _ => none) → News h₀ L' h₁ (cells ++ (L, oW) :: news) →
      CellsAre (bindC (envOfC qual scope L' f cdv).kindOf binds fun _ => none) (cellsFrom (L' + 1) scope.names []) cells → (∀ p ∈ (L, oW) :: news, p.1 < L') →
      wpAny (model prog w) (A.deeper (envOfC qual scope L' f cdv)) (execs body (envOfC qual scope L' f cdv))
        (fun fl s' => R (.ok (.ret (match fl with | .ret v => v | _ => .none))) s') (fun _ _ => False)
        { s with heap := h₁, toks := tk })
    (hco : scope.isCoroutine = false) (hgen : scope.isGenerator = false) (hk : scope.kind = .function) : codeAny (model prog w) A (.call (.ref f) args) R s := by
  obtain ⟨oW, es, ep, hW1, hW2, hW3⟩ := id F.ns
  refine codeAny_call_function (fd := fnOf name qual params body scope dV kV doc pm an cdv ct) (body := body) hroom ((X₀.keeps F.keep) _ _ ho) rfl hco hgen rfl (codeRec_of (X₀.keeps F.keep) hcd) (hbind _ _ _ _ ?_)
  refine wpAny_newFunctionEnv_cells hk (kindsX hkind _) fun env' he s' x => ?_
  subst he
  refine ⟨(T.nolimit.keeps F.keep).keeps x.toInCall.keep, codeAny_func ?_⟩
  obtain ⟨h₁, tk, rfl, _⟩ := x.done
  have hk₁ := x.toInCall.keep
  obtain ⟨cells, NC, Y⟩ := Cl.news (h₀ := s.heap) (Nat.le_refl _) fun n c hm => ⟨x.cell n c (lookup_of_mem_nodup (cellsFrom_names scope.names 0 (s.heap.objs.size + 1) [] [] rfl ▸ hnd) hm), x.above n c hm⟩
  have hL : L < s.heap.objs.size := F.ns.lt
  have hlt : ∀ p ∈ (L, oW) :: news, p.1 < s.heap.objs.size := fun p hp => by
    rcases List.mem_cons.mp hp with rfl | hp
    · exact hL
    · exact Heap.lt_size (N p hp).1
  refine wpAny_mono (h s.heap.objs.size h₁ tk cells oW es ep hW2 ⟨x.toInCall.ns, fun b o e => hk₁ b o (F.keep b o e), Nat.le_of_lt (Nat.lt_of_le_of_lt F.above hL)⟩ (fun p hp => ?_) Y hlt) (fun _ _ hl => hl) fun _ _ y => y.elim
  rcases List.mem_append.mp hp with hp | hp
  · refine ⟨(NC p hp).1, (NC p hp).2.1, ?_⟩
    cases q : h₀.get? p.1 with
    | none => rfl
    | some o => have := F.keep _ _ q; rw [(NC p hp).2.2] at this; cases this
  · refine ⟨?_, Nat.ne_of_lt (hlt p hp), ?_⟩
    · rcases List.mem_cons.mp hp with rfl | hp
      · exact hk₁ _ _ hW1
      · exact hk₁ _ _ (N p hp).1
    · rcases List.mem_cons.mp hp with rfl | hp
      · exact Heap.get?_none_of_le F.above
      · exact (N p hp).2.2
end
section
variable {prog : Program} {w : World} {dp un : Nat} {gd : Option (List Code)} {s : Shared} {h₀ : Heap} {L : Addr} {m mg mb : Str → Option Value} {news : List (Addr × Obj)} {p : Program} {loose : List Str} {mean : ExcName → Option Value}
    {Q E : Value → Shared → Prop} {nL : Addr} {e1 : Env} {a0 a1 a2 a3 a4 a5 a6 a7 : Int} {u0 u1 u2 u3 u4 u5 u6 u7 : Tok} {kn : Nat}
theorem run_call (F : Fr h₀ L s.heap m) (X₀ : (hd.heap_39 w.params).In h₀) (N : News h₀ L s.heap news) (T : Top p loose mean mg mb h₀) (hroom : dp < 500) (hun : un < 4000) (hfw : e1.frame = some L) (hk1 : e1.scope.kind ≠ .module)
    (hnum : (nL, listOf #[.int a0 u0, .int a1 u1, .int a2 u2, .int a3 u3, .int a4 u4, .int a5 u5, .int a6 u6, .int a7 u7] kn) ∈ news)
    (hQ : ∀ h' tk' gs, GensOk s.gens gs → (∀ b o, h₀.get? b = some o → h'.get? b = some o) → Q (.bool true) { s with heap := h', gens := gs, toks := tk' }) :
    wpAny (model prog w) (AR dp (some [e1]) gd un) (call (.ref 243) [.ref nL] []) Q E s := by
  refine wpAny_call ?_
  obtain ⟨oc, od, doc, pm, an, ct, osl, hlk, hcode⟩ := runDef.2 w.params
  refine enterD (binds := [(Str.ofString "numbers", .ref nL)]) F X₀ N T hlk hcode (by show dp < 1000; omega) (BindsTo.of_eq rfl) rfl (by decide) (fun L' h₁ tk cells oW es ep hWd F' N' Y lt => ?_) rfl rfl rfl
  k_cells Y
  (try simp only [List.cons_append, List.nil_append] at N')
  have hw1 : ∀ vs, oW.data ≠ .fields vs := fun vs e => by rw [hWd] at e; cases e
  have hw2 : ∀ a n, oW.data ≠ .seq a n := fun a n e => by rw [hWd] at e; cases e
  have hw3 : ∀ u, oW.data ≠ .cell u := fun u e => by rw [hWd] at e; cases e
  show wpAny (model prog w) ((AR dp (some [e1]) gd un).deeper (runEnv L')) (execs runDef.1.2.2.1 (runEnv L')) _ _ _
  rw [body_is]
  refine stmtA (nL := nL) (Lw := L) (oW := oW) (s := ⟨h₁, s.gens, s.drawn, tk, s.os⟩) F' X₀ N' T (by omega) lt (by assumption) rfl (.tail _ hnum) (by intro u e; cases e) (.head _) hw3 fun h2 k2 m2 led2 c oB F2 hl2 N2 hB S2 h4 => ?_
  refine stmtS (s := ⟨h2, s.gens, s.drawn, k2, s.os⟩) F2 X₀ N2 T (by omega) S2 hB hl2 fun h3 k3 m3 led3 F3 hl3 N3 S3 => ?_
  refine stmtM (s := ⟨h3, s.gens, s.drawn, k3, s.os⟩) F3 X₀ N3 T (by omega) (by omega) S3 hB hl3 inv0 phi2 (by decide) fun h4' k4 g4 m4 led4 ps G4 F4' hl4 N4 S4 I4 hm4 hb4 => ?_
  have hbusy := I4.done hm4
  obtain ⟨r, hbk⟩ := I4.led.hd
  have hwm := S4.kp _ (.tail _ (.tail _ (.head _)))
  have hnm := S4.kp _ (.tail _ (.head _))
  have hcm := S4.kp _ (.head _)
  have hne1 : nL ≠ L := NoTup.data (a := L) N4 hwm.1 hw2 |> fun _ => fun e => by
    have z1 := (N4 _ hnm.1).1
    have z2 := (N4 _ hwm.1).1
    dsimp only at z1 z2
    rw [e, z2] at z1
    injection z1 with z1
    exact hw2 _ _ (by rw [z1])
  have hne2 : L' + 1 ≠ L := by
    have := lt _ (List.Mem.head _)
    exact Nat.ne_of_gt (Nat.lt_succ_of_lt this)
  have S5 := S4.off2 (keep' := [(L' + 1, oB), (nL, listOf #[.int a0 u0, .int a1 u1, .int a2 u2, .int a3 u3, .int a4 u4, .int a5 u5, .int a6 u6, .int a7 u7] kn)]) N4 hwm.1 hw2 h4 hwm.2 (fun q hq => by
    rcases List.mem_cons.mp hq with rfl | hq
    · exact ⟨.head _, hne2⟩
    · rw [List.mem_singleton.mp hq]
      exact ⟨.tail _ (.head _), hne1⟩)
  have N5 : News h₀ L' h4' ((L, oW) :: offA L led4) := fun q hq => by
    rcases List.mem_cons.mp hq with rfl | hq
    · exact N4 _ hwm.1
    · exact N4 _ (offA_mem.mp hq).1
  refine stmtT (s := ⟨h4', g4, s.drawn, k4, s.os⟩) F4' X₀ N5 T (by omega) S5 hB hw1 hw2 hfw hk1 (fun q => ?_) (by rw [hbusy]; rfl) hl4 fun h6 k6 m6 F6 hl6 N6 => ?_
  · obtain ⟨y, hy, e⟩ := List.mem_map.mp q
    exact (offA_mem.mp hy).2 e
  refine finish (s := ⟨h6, g4, s.drawn, k6, s.os⟩) F6 X₀ N6 T (by omega) (by omega) S5 hB hl6 hm4 hbusy hbk fun h7 k7 led7 F7 N7 => ?_
  exact hQ h7 k7 g4 G4 F7.keep
end
end Mine
theorem Mine.enterT {prog : Program} {w : World} {A : Around} {s : Shared} {R : Result → Shared → Prop} {fa : Addr} {o : Obj} {fd : FuncData} {body : List Stmt} {args : Args} {binds : List (Str × Value)}
    (hroom : A.depth < recursionLimit) (hlim : s.heap.NoLimit) (ho : s.heap.get? fa = some o) (hd : o.data = .func fd) (hcd : s.heap.CodeRec fd.code fd.qualname) (hb : fd.body = .stmts body) (hcl : fd.closure = []) (hg : fd.globals = mainGlobals) (hbi : fd.builtins = builtinsNs)
    (hbind : BindsTo s fd args binds) (hkind : (binds.all fun y => fd.scope.names.lookup y.1 == some .local || fd.scope.names.lookup y.1 == some .cell) = true)
    (hnd : ((cellsFrom 0 fd.scope.names []).map (·.1)).Nodup)
    (h : ∀ L' h₁ tk cells, Fr s.heap L' h₁ (bindL (envOfC fd.qualname fd.scope L' fa fd.code).kindOf binds fun _ => none) → News s.heap L' h₁ cells →
      CellsAre (bindC (envOfC fd.qualname fd.scope L' fa fd.code).kindOf binds fun _ => none) (cellsFrom (L' + 1) fd.scope.names []) cells →
      wpAny (model prog w) (A.deeper (envOfC fd.qualname fd.scope L' fa fd.code)) (execs body (envOfC fd.qualname fd.scope L' fa fd.code))
        (fun fl s' => R (.ok (.ret (match fl with | .ret v => v | _ => .none))) s') (fun _ _ => False)
        { s with heap := h₁, toks := tk })
    (hco : fd.scope.isCoroutine = false) (hgen : fd.scope.isGenerator = false) (hk : fd.scope.kind = .function) : codeAny (model prog w) A (.call (.ref fa) args) R s := by
  obtain ⟨name, qual, params, bdy, scope, glb, clos, dfl, kwd, doc, pm, an, cdv, ct, bi⟩ := fd
  dsimp only at *
  subst hb hcl hg hbi
  refine codeAny_call_function hroom ho hd hco hgen rfl hcd (hbind _ _ _ _ ?_)
  refine wpAny_newFunctionEnv_cells hk (kindsX hkind _) fun env' he s' x => ?_
  subst he
  refine ⟨hlim.keeps x.toInCall.keep, codeAny_func ?_⟩
  obtain ⟨h₁, tk, rfl, _⟩ := x.done
  have hk₁ := x.toInCall.keep
  obtain ⟨cells, NC, Y⟩ := Cl.news (h₀ := s.heap) (Nat.le_refl _) fun n c hm => ⟨x.cell n c (lookup_of_mem_nodup (cellsFrom_names scope.names 0 (s.heap.objs.size + 1) [] [] rfl ▸ hnd) hm), x.above n c hm⟩
  exact wpAny_mono (h s.heap.objs.size h₁ tk cells ⟨x.toInCall.ns, hk₁, Nat.le_refl _⟩ (fun p hp => NC p hp) Y) (fun _ _ hl => hl) fun _ _ y => y.elim
theorem Mine.endG {c : ClaimW} {cl : Str → Option Addr} {mean : ExcName → Option Value} {args : List WData} {s₁ : Shared} {r : Result} {h' : Heap} {gs : Array GenState} {tk' : Nat} (GW : GoodW c cl mean args s₁ r { heap := h', gens := #[], drawn := s₁.drawn, toks := tk', os := s₁.os }) (hb : AllBare gs) :
    GoodWG c cl mean args s₁ r { heap := h', gens := gs, drawn := s₁.drawn, toks := tk', os := s₁.os } := ⟨GW.1, .of_keep GW.2.1, GW.2.2.1, hb⟩
theorem Mine.ints8 {ys : List Value} {l : List Int} (h : IntsAre ys l) (hl : l.length = 8) : ∃ a0 a1 a2 a3 a4 a5 a6 a7 u0 u1 u2 u3 u4 u5 u6 u7, ys = [.int a0 u0, .int a1 u1, .int a2 u2, .int a3 u3, .int a4 u4, .int a5 u5, .int a6 u6, .int a7 u7] := by
  cases h with
  | nil => cases hl
  | cons a0 u0 h => cases h with
    | nil => cases hl
    | cons a1 u1 h => cases h with
      | nil => cases hl
      | cons a2 u2 h => cases h with
        | nil => cases hl
        | cons a3 u3 h => cases h with
          | nil => cases hl
          | cons a4 u4 h => cases h with
            | nil => cases hl
            | cons a5 u5 h => cases h with
              | nil => cases hl
              | cons a6 u6 h => cases h with
                | nil => cases hl
                | cons a7 u7 h => cases h with
                  | nil => exact ⟨a0, a1, a2, a3, a4, a5, a6, a7, u0, u1, u2, u3, u4, u5, u6, u7, rfl⟩
                  | cons a8 u8 h => simp at hl
local macro_rules | `(tactic| walk_at "call ref") => `(tactic| (k_here; (with_reducible show wpAny _ _ (call (Value.ref 243) _ _) _ _ _); (refine Mine.Stop.h ?_)))
set_option maxHeartbeats 2000000 in
theorem PySem.Challenge.cw_tl0029_01_holds : PySem.Challenge.rw_tl0029_01.Holds := by
  refine hd ?_
  k_fill
  intro w s₀ s₁ mg mb G Y fa o pm cd doc dV kV ho hd hcd hD hmg hg args vals as hpre hlay hrd hwl hlo
  have KX := kIn_of Y
  have X := (Ground.X G).1
  have V := (Ground.X G).2
  refine Ground.open G ?_
  intro T B D TE TW
  try (refine guard_noD D (by decide +kernel) ?_; clear D)
  obtain ⟨_, _, M⟩ := bmod_of_top T
  have TA := at_of_top T
  try (obtain ⟨_, _, he, B0⟩ := based_of_top T rfl hmg ho hd; have he' : cd = _ := he; subst he'; clear he)
  clear hmg
  wrow_args hpre hlay hrd hwl hlo
  all_goals (
    first | refine callC_kw (enter_call ?_) | refine enter_call ?_ | refine callC_kw (enter_callW ?_) | refine enter_callW ?_ | w_how
    w_top on)
  have nl := T.nolimit
  have eV : dV = .none := Dflts.pos_none hD rfl
  have eK : kV = .none := Dflts.kw_none hD rfl
  subst eV eK
  clear hD
  refine Mine.enterT (binds := [(Str.ofString "script", .ref _)]) (by first | decide | decide +kernel) nl ho hd hcd rfl rfl rfl rfl (BindsTo.of_eq rfl) rfl (by refine of_decide_eq_true ?_; rfl) (fun L' h₁ tk cells F N Yc => ?_) rfl rfl rfl
  k_cells Yc
  (try simp only [List.cons_append, List.nil_append] at N)
  (try dsimp only)
  (with_reducible show wpAny _ _ _ _ _ _)
  k_fold
  k_steps
  rename IntsAre ys _ => hI8
  obtain ⟨a0, a1, a2, a3, a4, a5, a6, a7, u0, u1, u2, u3, u4, u5, u6, u7, rfl⟩ := Mine.ints8 hI8 (by first | rfl | simp [rangeKs_length])
  refine ⟨?_⟩
  rename News _ _ _ _ => kN
  rename Fr _ _ _ _ => kF
  refine Mine.run_call (kn := 8) kF KX kN T (by decide) (by decide) rfl (by intro e; cases e) (.head _) (fun h' tk' gs hgs hkeep => ?_)
  have hk0 : ∀ b o, s₁.heap.get? b = some o → h'.get? b = some o := hkeep
  show GoodWG _ _ _ _ _ _ _
  refine Mine.endG (s₁ := s₁) ?_ (hgs (by intro y hy; rw [show s₁.gens = #[] from hg] at hy; simp at hy))
  show GoodW _ _ _ _ _ (Except.ok (Flow.ret (Value.bool true))) _
  refine ⟨.inl ⟨.bool true, _, [], rfl, raisesW_false ?_, ReadsW.bool _, ?_, fun _ => ⟨List.nodup_nil, fun a ha => by cases ha⟩⟩, hk0, rfl, rfl⟩
  · wrow_none_raised
  · wrow_post
