import PyProof.Rows.All
import Wide.All
import OpenK.AllK
import Wide.FinOn
import PySem.Challenge.RW_fc0084_01
open PySem PySem.W PyProof.Rows
set_option Elab.async false
set_option maxRecDepth 100000
set_option maxHeartbeats 8000000
set_option pp.deepTerms false
set_option pp.proofs false

-- HeadFc
namespace Mine
local macro_rules | `(tactic| o_head ($h:ident $K $as $e)) => `(tactic| o_head (kmHook $K $as $e [153]))
open_top hd for PySem.Challenge.rw_fc0084_01

end Mine

-- FcBisect
namespace Mine
open PySem.Calls

/-- the search that bisect_left makes: fuel, low end, high end -/
def bisGo (ns : List Int) (x : Int) : Nat → Nat → Nat → Nat
  | 0, lo, _ => lo
  | f + 1, lo, hi => if lo < hi then (if ns.getD ((lo + hi) / 2) 0 < x then bisGo ns x f ((lo + hi) / 2 + 1) hi else bisGo ns x f lo ((lo + hi) / 2)) else lo
def bis (ns : List Int) (x : Int) : Nat := bisGo ns x ns.length 0 ns.length

theorem bisGo_le (ns : List Int) (x : Int) : ∀ (f lo hi : Nat), lo ≤ hi → bisGo ns x f lo hi ≤ hi ∧ lo ≤ bisGo ns x f lo hi
  | 0, lo, hi, h => ⟨h, Nat.le_refl _⟩
  | f + 1, lo, hi, h => by
    unfold bisGo
    split
    · split
      · have := bisGo_le ns x f ((lo + hi) / 2 + 1) hi (by omega); omega
      · have := bisGo_le ns x f lo ((lo + hi) / 2) (by omega); omega
    · exact ⟨h, Nat.le_refl _⟩
theorem bis_le (ns : List Int) (x : Int) : bis ns x ≤ ns.length := (bisGo_le ns x _ _ _ (Nat.zero_le _)).1

theorem entry_bisect : entryFor table "_bisect.bisect_left" = some Builtin.«_bisect.bisect_left» := entryFor_of_fast (by kernel_rfl)
theorem entry_bisect_loop : entryFor table "_bisect.bisect_right.loop" = some Builtin.«_bisect.bisect_right.loop» := entryFor_of_fast (by kernel_rfl)
theorem plain_bisect : plainId "_bisect.bisect_left" = true := by decide +kernel
theorem plain_bisect_loop : plainId "_bisect.bisect_right.loop" = true := by decide +kernel
theorem kind_bisect : builtinKind "_bisect.bisect_left" = none := by decide +kernel
theorem args_bisect (a b : Value) : argsOk "_bisect.bisect_left" ⟨[a, b], []⟩ := by unfold argsOk; kernel_rfl

section
variable {prog : Program} {w : World} {E : Value → Shared → Prop} {r : Addr} {vs : List Value} {ns : List Int} {x : Int} {t : Tok}

theorem tup_get {A : Around} {s : Shared} {k : Int} {u : Tok} {j : Nat} {v : Value} {Q : Option Value → Shared → Prop} (ht : IsTup s.heap r vs.toArray)
    (hlo : -(2 ^ 63) ≤ k) (hhi : k < 2 ^ 63) (hj : seqIndex? k vs.toArray.size = some j) (hx : vs.toArray[j]? = some v) (h : Q (some v) s) :
    wpAny (model prog w) A (callSpecial? (.ref r) (Str.ofString "__getitem__") [.int k u]) Q E s := by
  refine wpAny_callSpecial?_slot (name := Str.ofString "__getitem__") ht.typeIs slot_tuple_getitem
    (wpAny_call_entry slot_tuple_getitem ht.typeIs entry_tuple_getitem ?_ (args_tuple_getitem _ _))
  show wpAny _ _ (Builtin.Tuple.tupleItemsOf (.ref r) >>= _) _ _ s
  refine wpAny_bind (tupleItemsOf_ ht ?_)
  refine wpAny_bind (wpAny_typeOf (typeIs_int s k u) ?_)
  rw [if_neg (by decide)]
  refine wpAny_bind (wpAny_specialOf (T := "int") (typeIs_int s k u) int_index ?_)
  rw [if_neg (by simp)]
  refine wpAny_bind (wpAny_of_eq (a := k) rfl ?_)
  rw [if_neg (by simp only [Bool.or_eq_true, decide_eq_true_eq]; omega)]
  simp only [hj, Option.bind_some, hx]
  exact wpAny_pure ⟨_, rfl, h⟩

theorem loop_code {A : Around} {R : Result → Shared → Prop} (hi : IntsAre vs ns) (hn : ns.length < 2 ^ 62) :
    ∀ (f lo hi' : Nat) (s : Shared), IsTup s.heap r vs.toArray → hi' - lo ≤ f → lo ≤ hi' → hi' ≤ ns.length → (∀ tk tk', R (.ok (.ret (.int (bisGo ns x f lo hi' : Nat) tk))) { s with toks := tk' }) →
      codeAny (model prog w) A (.builtin "_bisect.bisect_right.loop" ⟨[.ref r, .int x t, rawInt lo, rawInt hi', .none, .bool false, .bool true, rawInt 0], []⟩) R s := by
  intro f
  induction f with
  | zero =>
    intro lo hi' s ht hf hle hN hR
    refine codeAny_builtin entry_bisect_loop ?_
    unfold Builtin.«_bisect.bisect_right.loop»
    dsimp only [rawInt]
    rw [if_neg (by omega)]
    have e := hR s.toks (s.toks + 1)
    unfold bisGo at e
    exact wpAny_bind (wpAny_mkInt (wpAny_pure e))
  | succ f ih =>
    intro lo hi' s ht hf hle hN hR
    refine codeAny_builtin entry_bisect_loop ?_
    unfold Builtin.«_bisect.bisect_right.loop»
    dsimp only [rawInt]
    by_cases h : lo < hi'
    · rw [if_pos (by omega)]
      have hm : ((lo : Int) + (hi' : Int)) / 2 = (((lo + hi') / 2 : Nat) : Int) := by omega
      have hlt : (lo + hi') / 2 < ns.length := by omega
      rw [hm]
      obtain ⟨u, hu⟩ := hi.get ((lo + hi') / 2) (ns.getD ((lo + hi') / 2) 0) (by rw [List.getD_eq_getElem?_getD, List.getElem?_eq_getElem hlt]; rfl)
      have hlen : vs.toArray.size = ns.length := by rw [List.size_toArray, hi.length]
      refine wpAny_bind (wpAny_mkInt ?_)
      refine wpAny_bind (tup_get (vs := vs) (j := (lo + hi') / 2) (v := .int (ns.getD ((lo + hi') / 2) 0) u) ht (by omega) (by omega) ?_ (by simpa using hu) ?_)
      · rw [hlen]; unfold seqIndex?; simp; omega
      dsimp only
      rw [if_pos (by rfl)]
      refine wpAny_bind (wpAny_pure (wpAny_holding ?_))
      rw [if_pos rfl]
      refine wpAny_bind (wpAny_typeOf (typeIs_int _ _ _) (wpAny_bind (wpAny_typeOf (typeIs_int _ _ _) ?_)))
      rw [if_pos (by rfl)]
      simp only [Bool.false_eq_true, if_false]
      refine wpAny_bind (wpAny_cRoomFor_byValue rfl ?_)
      refine wpAny_bind (wpAny_callSpecialIfBound?_slot (typeIs_int _ _ _) slot_int_lt (call_int_lt ?_))
      dsimp only
      refine wpAny_bind (wpAny_of_eq (a := decide (ns.getD ((lo + hi') / 2) 0 < x)) rfl ?_)
      refine wpAny_bind (wpAny_pure ?_)
      by_cases hq : ns.getD ((lo + hi') / 2) 0 < x
      · rw [decide_eq_true hq, if_neg (by decide)]
        refine wpAny_pure ⟨plainId_quiet plain_bisect_loop _, ?_⟩
        have e2 : (((lo + hi') / 2 : Nat) : Int) + 1 = (((lo + hi') / 2 + 1 : Nat) : Int) := by omega
        rw [e2]
        refine ih ((lo + hi') / 2 + 1) hi' _ ht (by omega) (by omega) hN fun tk tk' => ?_
        have e := hR tk tk'
        unfold bisGo at e
        rw [if_pos h, if_pos hq] at e
        exact e
      · rw [decide_eq_false hq, if_pos (by decide)]
        refine wpAny_pure ⟨plainId_quiet plain_bisect_loop _, ?_⟩
        refine ih lo ((lo + hi') / 2) _ ht (by omega) (by omega) (by omega) fun tk tk' => ?_
        have e := hR tk tk'
        unfold bisGo at e
        rw [if_pos h, if_neg hq] at e
        exact e
    · rw [if_neg (by omega)]
      have e := hR s.toks (s.toks + 1)
      unfold bisGo at e
      rw [if_neg h] at e
      exact wpAny_bind (wpAny_mkInt (wpAny_pure e))

theorem shown_tuple {A : Around} {s : Shared} {n : Nat} {items : Array Value} {Q : String → Shared → Prop} (ht : IsTup s.heap r items) (h : ∀ x, Q x s) : wpAny (model prog w) A (typeNameOfCut n (.ref r)) Q E s := by
  unfold typeNameOfCut shownTypeOf
  refine wpAny_bind (wpAny_bind (wpAny_typeOf ht.typeIs ?_))
  simp only [show (Value.type "tuple" == Value.type "builtin_function_or_method") = false by decide, Bool.false_eq_true, if_false]
  refine wpAny_pure ?_
  exact wpAny_pure (h _)

theorem mro_tup : mroOf (.type "tuple") = pure [.type "tuple", .type "object"] := by rw [mroOf_type]; kernel_rfl

theorem bisect_call {A : Around} {s : Shared} {Q : Value → Shared → Prop} (ht : IsTup s.heap r vs.toArray) (hi : IntsAre vs ns) (hn : ns.length < 2 ^ 62)
    (h : ∀ tk tk', Q (.int (bis ns x : Nat) tk) { s with toks := tk' }) : wpAny (model prog w) A (call (.builtin "_bisect.bisect_left") [.ref r, .int x t]) Q E s := by
  refine wpAny_call (codeAny_call_builtin plain_bisect entry_bisect ?_)
  have hsig := args_bisect (.ref r) (.int x t)
  simp only [checkBuiltinCall, kind_bisect]
  unfold argsOk at hsig
  have body : wpAny (model prog w) A.in1 (Builtin.«_bisect.bisect_left» ⟨[.ref r, .int x t], []⟩) (fun fin s' => match fin with
      | .done f => (match (Except.ok f : Result) with | .ok (.ret v) => Q v s' | .ok _ => False | .error e => E e s')
      | .again c' => c'.quiet = true ∧ codeAny (model prog w) A c' (fun r s' => match r with | .ok (.ret v) => Q v s' | .ok _ => False | .error e => E e s') s') E s := by
    unfold Builtin.«_bisect.bisect_left»
    refine wpAny_bind (wpAny_of_eq (a := (Value.ref r, Value.int x t, none, none, none)) rfl ?_)
    dsimp only
    refine wpAny_bind (wpAny_pure ?_)
    refine wpAny_bind (wpAny_pure ?_)
    rw [if_neg (by simp)]
    refine wpAny_bind (wpAny_pure (wpAny_holding ?_))
    rw [if_neg (by omega), if_neg (by simp)]
    refine wpAny_bind ?_
    refine wpAny_bind (wpAny_typeOf ht.typeIs ?_)
    refine wpAny_bind (m := typeNameOfCut 200 (.ref r)) (shown_tuple ht fun nm => ?_)
    refine wpAny_bind (m := mroOf (.type "tuple")) (wpAny_of_eq mro_tup ?_)
    have hsz : vs.toArray.size = ns.length := by rw [List.size_toArray, hi.length]
    dsimp only
    rw [if_neg (by decide), if_pos rfl]
    refine wpAny_bind (wpAny_of_eq slot_tuple_len.lookup ?_)
    rw [if_neg (by simp), if_neg (by decide)]
    refine wpAny_pure ?_
    refine wpAny_bind (runValue_entry entry_len (len_entry_tuple ht (by rw [hsz]; omega) ?_))
    dsimp only
    refine wpAny_bind (wpAny_pure ?_)
    refine wpAny_bind ?_
    refine wpAny_bind (wpAny_typeOf (IsTup.typeIs ht) ?_)
    refine wpAny_bind (m := typeNameOfCut 200 (.ref r)) (shown_tuple ht fun nm => ?_)
    refine wpAny_bind (m := mroOf (.type "tuple")) (wpAny_of_eq mro_tup ?_)
    dsimp only
    rw [if_neg (by decide), if_neg (by simp)]
    refine wpAny_bind (wpAny_of_eq slot_tuple_getitem.lookup ?_)
    rw [if_neg (by simp), if_neg (by decide)]
    refine wpAny_pure ?_
    refine wpAny_pure ⟨plainId_quiet plain_bisect_loop _, ?_⟩
    rw [hsz]
    exact loop_code (t := t) hi hn ns.length 0 ns.length _ ht (by omega) (by omega) (Nat.le_refl _) fun tk tk' => h tk tk'
  cases hs : Manifest.signature? "_bisect.bisect_left" with
  | none => exact wpAny_pure body
  | some sig =>
    rw [hs] at hsig
    dsimp only at hsig ⊢
    rw [hsig]
    exact wpAny_pure body
end
end Mine

-- FcBase
namespace Mine
open PySem.Calls
noncomputable abbrev theProg : Program := PySem.Challenge.rw_fc0084_01.row.prog
noncomputable abbrev theLoose : List Str := looseW hd.view_39 [Str.ofString "scripts", Str.ofString "joining_types", Str.ofString "_CLASSES", Str.ofString "IDNAError", Str.ofString "valid_contexto"]

/-- a call of the def at f, with these values, from any frame, ends with a value that Ret allows; `more` is what it leaves on the ledger -/
def Claim (w : World) (mg mb : Str → Option Value) (D : Nat) (f : Addr) (vs : List Value) (news : List (Addr × Obj)) (Ret : Value → List (Addr × Obj) → Prop) : Prop :=
  ∀ (dp un : Nat) (gd : Option (List Code)) (cn : Str) (cs : Scope) (a : Addr) (ccd : Value) (cl : List (Str × Addr)) (outer : List Env) (A₀ : Around) (base h₀ : Heap) (L : Addr) (m : Str → Option Value) (s : Shared) (Q E : Value → Shared → Prop),
    Below A₀ base outer h₀ → Fr h₀ L s.heap m → (hd.heap_39 w.params).In h₀ → News h₀ L s.heap news → TopRead hd.view_39 theLoose mg mb h₀ → cs.kind = .function → dp + D < recursionLimit → un + 10 * D < cLine →
    (∀ (v : Value) (more : List (Addr × Obj)) (h' : Heap) (tk' : Nat), Ret v more → Fr h₀ L h' m → News h₀ L h' (more ++ news) → Q v { s with heap := h', toks := tk' }) →
    wpAny (model theProg w) (ktrTop dp un gd cn cs L a ccd cl outer) (call (.ref f) vs) Q E s

theorem Claim.use {w : World} {mg mb : Str → Option Value} {D : Nat} {f : Addr} {vs : List Value} {news : List (Addr × Obj)} {Ret : Value → List (Addr × Obj) → Prop} (C : Claim w mg mb D f vs news Ret)
    {dp un : Nat} {gd : Option (List Code)} {cn : Str} {cs : Scope} {a : Addr} {ccd : Value} {cl : List (Str × Addr)} {outer : List Env} {A₀ : Around} {base h₀ : Heap} {L : Addr} {m : Str → Option Value} {s : Shared} {Q E : Value → Shared → Prop}
    (B : Below A₀ base outer h₀) (F : Fr h₀ L s.heap m) (X : (hd.heap_39 w.params).In h₀) (N : News h₀ L s.heap news) (T : TopRead hd.view_39 theLoose mg mb h₀) (hk : cs.kind = .function) (hd : dp + D < recursionLimit) (hu : un + 10 * D < cLine)
    (ret : ∀ (v : Value) (more : List (Addr × Obj)) (h' : Heap) (tk' : Nat), Ret v more → Fr h₀ L h' m → News h₀ L h' (more ++ news) → Q v { s with heap := h', toks := tk' }) :
    wpAny (model theProg w) (ktrTop dp un gd cn cs L a ccd cl outer) (call (.ref f) vs) Q E s := C _ _ _ _ _ _ _ _ _ _ _ _ _ _ _ _ _ B F X N T hk hd hu ret

/-- what these claims answer: nothing is left on the ledger -/
def Gives (P : Value → Prop) (v : Value) (more : List (Addr × Obj)) : Prop := more = [] ∧ P v
def IsIntV (n : Int) (v : Value) : Prop := ∃ t, v = .int n t
def IsBoolV (b : Bool) (v : Value) : Prop := v = .bool b
def IsStrV (x : Str) (v : Value) : Prop := ∃ t, v = .str x t

section
variable {prog : Program} {w : World} {A A₀ : Around} {s : Shared} {base h₀ : Heap} {L : Addr} {m : Str → Option Value} {news : List (Addr × Obj)} {K : Frag} {p : Program} {loose : List Str} {mg mb : Str → Option Value}
/-- a call of a def of the text, where only the readable half of the top is known -/
theorem code_defR {env : Env} {outer : List Env} {R : Result → Shared → Prop} {name qual : Str} {params : Arguments} {body : List Stmt} {scope : Scope} {dV kV doc pm cdv ct oc : Value} {an od : Option Addr} {osl : Array (Option Value)} {f : Addr} {args : Args} {binds : List (Str × Value)}
    (B : Below A₀ base outer h₀) (F : Fr h₀ L s.heap m) (X₀ : K.In h₀) (N : News h₀ L s.heap news) (T : TopRead p loose mg mb h₀) (hA : A.frames = some (env :: outer)) (hf : env.frame = some L) (hke : env.scope.kind = .function)
    (ho : K.lookup f = some ⟨oc, od, .func (fnOf name qual params body scope dV kV doc pm an cdv ct), osl⟩) (hcd : codeIn K cdv qual = true) (hroom : A.depth < recursionLimit)
    (hbind : BindsTo s (fnOf name qual params body scope dV kV doc pm an cdv ct) args binds) (hloc : ∀ y ∈ binds, scope.names.lookup y.1 = some .local)
    (h : ∀ g L' h₁, Fr h₀ L g m → Fr g L' h₁ (fun y => binds.reverse.lookup y) → News g L' h₁ news → Below A base (env :: outer) g → K.In g → TopRead p loose mg mb g →
      wpAny (model prog w) (A.deeper (envOf qual scope L' f cdv)) (execs body (envOf qual scope L' f cdv))
        (fun fl s' => LeaveK h₀ L m g R (match fl with | .ret v => v | _ => .none) s')
        (fun e s' => wpAny (model prog w) (A.deeper (envOf qual scope L' f cdv)) (leaving (envOf qual scope L' f cdv) e) (fun _ s'' => R (.error e) s'') (fun e' s'' => R (.error e') s'') s')
        { s with heap := h₁, toks := s.toks + binds.length })
    (hco : scope.isCoroutine = false) (hgen : scope.isGenerator = false) (hk : scope.kind = .function)
    (hcell : ∀ x ∈ scope.names, x.2 ≠ .cell) : codeAny (model prog w) A (.call (.ref f) args) R s :=
  callX_plain (cl := []) B F N T.nolimit hA hf hke ((X₀.keeps F.keep) _ _ ho) rfl (codeRec_of (X₀.keeps F.keep) hcd) hroom hbind hloc (fun g L' h₁ FG F' N' B' st _ => h g L' h₁ FG F' N' B' (X₀.keeps st) (T.keeps st)) hcell hco hgen hk
end
end Mine

-- FcIntr
namespace Mine
open PySem.Calls
local macro_rules | `(tactic| cell_enter) => `(tactic| (refine' code_defR ?k1 ?k2 ?k3 ?k4 ?k5 ?kA ?kF ?kK ?k6 ?k7 ?k8 ?k9 ?kB ?_ ?c2 ?c3 ?c4 ?c5; (case kA => exact rfl); (case kF => exact rfl); (case kK => assumption); (case k1 => k_asm); (case k2 => k_asm); (case k3 => k_asm); (case k4 => k_asm); (case k5 => k_asm); (case k6 => k_is); (case k7 => k_is); (case k8 => ktr_room); (case k9 => exact BindsTo.of_eq rfl); (case c5 => decide); (case kB => exact locs rfl); (case c2 => exact rfl); (case c3 => exact rfl); (case c4 => exact rfl); k_whole; intro g' L' h' FG' F' N' B' X' T'; (try dsimp only); (try k_lift B'); (try k_fold)))

local macro_rules | `(tactic| walk_at "call ref") => `(tactic| (k_here; k_dflt (refine wpAny_call ?_; (refine' code_defR ?k1 ?k2 ?k3 ?k4 ?k5 ?kA ?kF ?kK ?k6 ?k7 ?k8 ?k9 ?kB ?_ ?c2 ?c3 ?c4 ?c5; (case kA => exact rfl); (case kF => exact rfl); (case kK => first | exact rfl | assumption); (case k1 => k_asm); (case k2 => k_asm); (case k3 => k_asm); (case k4 => k_asm); (case k5 => k_asm); (case k6 => k_is); (case k7 => k_is); (case k8 => ktr_room); (case k9 => exact BindsTo.of_eq rfl); (case c5 => decide); (case kB => exact locs rfl); (case c2 => exact rfl); (case c3 => exact rfl); (case c4 => exact rfl); k_whole; intro g' L' h' FG' F' N' B' X' T'; (try dsimp only); (try k_lift B'); (try k_fold)))))

theorem shl_or (n : Int) (h : 0 ≤ n) (h2 : n < 1114112) : Builtin.bitOr (n * 2 ^ Int.toNat 32) 0 = n * 4294967296 := by
  have e : (2 : Int) ^ Int.toNat 32 = 4294967296 := by decide
  rw [e, bitOr_and, bitAnd_zero]
  omega

theorem enc_claim {w : World} {mg mb : Str → Option Value} {n : Int} {t u : Tok} {news : List (Addr × Obj)} (h0 : 0 ≤ n) (h1 : n < 1114112) :
    Claim w mg mb 1 83 [.int n t, .int 0 u] news (Gives (IsIntV (n * 4294967296))) := by
  unfold Claim theProg theLoose
  k_fill
  intro dp un gd cn cs a ccd cl outer A₀ base h₀ L m s Q E B F X N T hk hd1 hd2 hret
  walk_at "call ref"
  k_steps
  all_goals exact hret _ [] _ _ ⟨rfl, _, by rw [shl_or n h0 h1]⟩ (by k_asm) (by k_asm)

theorem shr_fdiv (n : Int) : n.fdiv (2 ^ Int.toNat 32) = n / 4294967296 := by
  have e : (2 : Int) ^ Int.toNat 32 = 4294967296 := by decide
  rw [e, Int.fdiv_eq_ediv_of_nonneg _ (by decide)]
theorem mask_mod (n : Int) : Builtin.bitAnd n (1 * 2 ^ Int.toNat 32 - 1) = n % 4294967296 := by
  have e : (1 : Int) * 2 ^ Int.toNat 32 - 1 = 4294967295 := by decide
  rw [e, bitAnd_m32]

/-- what _decode_range answers: a new pair -/
def PairR (n : Int) (v : Value) (more : List (Addr × Obj)) : Prop :=
  ∃ (a : Addr) (t1 t2 : Tok), v = .ref a ∧ more = [(a, { cls := .type "tuple", data := .seq [Value.int (n / 4294967296) t1, Value.int (n % 4294967296) t2].toArray })]

theorem dec_claim {w : World} {mg mb : Str → Option Value} {n : Int} {t : Tok} {news : List (Addr × Obj)} (h0 : 0 ≤ n) (h1 : n < 1152921504606846976) :
    Claim w mg mb 1 90 [.int n t] news (PairR n) := by
  unfold Claim theProg theLoose
  k_fill
  intro dp un gd cn cs a ccd cl outer A₀ base h₀ L m s Q E B F X N T hk hd1 hd2 hret
  walk_at "call ref"
  k_steps
  rename News _ _ _ _ => kN
  rename Fr _ _ _ _ => kF
  rw [shr_fdiv, mask_mod] at kN
  exact hret _ _ _ _ ⟨_, _, _, rfl, rfl⟩ kF kN

theorem k_bisect {prog : Program} {w : World} {A : Around} {E : Value → Shared → Prop} {s : Shared} {h₀ : Heap} {L : Addr} {m : Str → Option Value} {news : List (Addr × Obj)} {K : Frag} {dd : Option Addr} {k : Nat} {sl : Array (Option Value)}
    {r : Addr} {vs : List Value} {ns : List Int} {x : Int} {t : Tok} {Q : Value → Shared → Prop} (F : Fr h₀ L s.heap m) (_N : News h₀ L s.heap news) (X : K.In h₀) (hl : K.lookup r = some ⟨.type "tuple", dd, .seq vs.toArray k, sl⟩) (hi : IntsAre vs ns) (hn : (ns.length : Int) < 4294967296)
    (h : ∀ (p : Int) tk tk', p = ((bis ns x : Nat) : Int) → 0 ≤ p → p ≤ (ns.length : Int) → Q (.int p tk) { s with toks := tk' }) :
    wpAny (model prog w) A (call (.builtin "_bisect.bisect_left") [.ref r, .int x t]) Q E s :=
  bisect_call (tupK (X.keeps F.keep) hl) hi (by omega) fun tk tk' => h _ tk tk' rfl (by omega) (by have := bis_le ns x; omega)

theorem k_item {prog : Program} {w : World} {A : Around} {E : Value → Shared → Prop} {s : Shared} {h₀ : Heap} {L : Addr} {m : Str → Option Value} {K : Frag} {dd : Option Addr} {k : Nat} {sl : Array (Option Value)} {value slice : Expr}
    {r : Addr} {vs : List Value} {ns : List Int} {i : Int} {u : Tok} {Q : Value → Shared → Prop} (F : Fr h₀ L s.heap m) (X : K.In h₀) (hl : K.lookup r = some ⟨.type "tuple", dd, .seq vs.toArray k, sl⟩) (hi : IntsAre vs ns) (hb : ∀ x ∈ ns, 0 ≤ x ∧ x < 1152921504606846976) (hlen : (ns.length : Int) < 4294967296)
    (h0 : 0 ≤ i) (h1 : i < (ns.length : Int))
    (h : ∀ (e : Int) t, e = ns.getD i.toNat 0 → 0 ≤ e → e < 1152921504606846976 → Q (.int e t) s)
    (hs : subscripted slice false (.ref r) (.int i u) = operate [.ref r, .int i u] (getItem (.ref r) (.int i u)) := by with_unfolding_all rfl) :
    wpAny (model prog w) A (subscriptTail value slice (.ref r) (.int i u)) Q E s := by
  have hlt : i.toNat < ns.length := by omega
  have hg : ns[i.toNat]? = some (ns.getD i.toNat 0) := by rw [List.getD_eq_getElem?_getD, List.getElem?_eq_getElem hlt]; rfl
  obtain ⟨t, ht⟩ := hi.get _ _ hg
  have hm := hb _ (List.mem_of_getElem? hg)
  refine topTup_K F X hl (j := i.toNat) (by omega) (by omega) ?_ ht (h _ t rfl hm.1 hm.2) hs
  have e := hi.length
  unfold seqIndex?
  simp
  omega
theorem k_len {prog : Program} {w : World} {A : Around} {E : Value → Shared → Prop} {s : Shared} {h₀ : Heap} {L : Addr} {m : Str → Option Value} {K : Frag} {dd : Option Addr} {k : Nat} {sl : Array (Option Value)}
    {r : Addr} {vs : List Value} {ns : List Int} {Q : Value → Shared → Prop} (F : Fr h₀ L s.heap m) (X : K.In h₀) (hl : K.lookup r = some ⟨.type "tuple", dd, .seq vs.toArray k, sl⟩) (hi : IntsAre vs ns) (hlen : (ns.length : Int) < 4294967296)
    (h : ∀ t tk', Q (.int (ns.length : Int) t) { s with toks := tk' }) : wpAny (model prog w) A (call (.builtin "len") [.ref r]) Q E s := by
  have e : vs.toArray.size = ns.length := by rw [List.size_toArray, hi.length]
  exact len_tuple (tupK (X.keeps F.keep) hl) (by rw [e]; omega) (by rw [e]; exact h _ _)

/-- what intranges_contain answers -/
def contains (ns : List Int) (n : Int) : Bool :=
  (decide (0 < bis ns (n * 4294967296)) && (decide (ns.getD (bis ns (n * 4294967296) - 1) 0 / 4294967296 ≤ n) && decide (n < ns.getD (bis ns (n * 4294967296) - 1) 0 % 4294967296))) ||
    (decide (bis ns (n * 4294967296) < ns.length) && decide (ns.getD (bis ns (n * 4294967296)) 0 / 4294967296 = n))
theorem contains_iff (ns : List Int) (n p : Int) (h : p = ((bis ns (n * 4294967296) : Nat) : Int)) : contains ns n = true ↔ ((0 < p ∧ (ns.getD (p - 1).toNat 0 / 4294967296 ≤ n ∧ n < ns.getD (p - 1).toNat 0 % 4294967296)) ∨ (p < (ns.length : Int) ∧ ns.getD p.toNat 0 / 4294967296 = n)) := by
  have e1 : (p - 1).toNat = bis ns (n * 4294967296) - 1 := by omega
  have e2 : p.toNat = bis ns (n * 4294967296) := by omega
  have e3 : 0 < p ↔ 0 < bis ns (n * 4294967296) := by omega
  have e4 : p < (ns.length : Int) ↔ bis ns (n * 4294967296) < ns.length := by omega
  unfold contains
  rw [e1, e2, e3, e4]
  simp only [Bool.or_eq_true, Bool.and_eq_true, decide_eq_true_eq]
theorem bool_is_true {b : Bool} {P : Prop} (h : b = true ↔ P) (hp : P) : IsBoolV b (.bool true) := by rw [h.mpr hp]; rfl
theorem bool_is_false {b : Bool} {P : Prop} (h : b = true ↔ P) (hp : ¬ P) : IsBoolV b (.bool false) := by
  cases b with
  | false => rfl
  | true => exact absurd (h.mp rfl) hp

local macro_rules | `(tactic| walk_at "call builtin:_bisect.bisect_left") => `(tactic| (k_here; (with_reducible show wpAny _ _ (call (Value.builtin "_bisect.bisect_left") [Value.ref _, Value.int _ _]) _ _ _); (refine' k_bisect ?k1 ?k2 ?k3 ?k4 ?k5 ?k6 ?_; (case k1 => k_asm); (case k2 => k_asm); (case k3 => k_asm); (case k4 => with_reducible assumption); (case k5 => with_reducible assumption); (case k6 => with_reducible assumption); k_whole); intro p9 tk9 tk8 hp9 hb1 hb2))
local macro_rules | `(tactic| walk_at "subscriptTail") => `(tactic| (k_here; (with_reducible show wpAny _ _ (subscriptTail _ _ (Value.ref _) (Value.int _ _)) _ _ _); with_unfolding_all (refine' k_item ?k1 ?k2 ?k3 ?k4 ?k5 ?k6 ?k7 ?k8 ?_ ?k9; (case k1 => k_asm); (case k2 => k_asm); (case k3 => with_reducible assumption); (case k4 => with_reducible assumption); (case k5 => with_reducible assumption); (case k6 => with_reducible assumption); (case k7 => omega); (case k8 => omega); (case k9 => with_unfolding_all rfl); k_whole); intro e9 t9 he9 hb3 hb4))
local macro_rules | `(tactic| walk_at "call builtin:len") => `(tactic| (k_here; (with_reducible show wpAny _ _ (call (Value.builtin "len") [Value.ref _]) _ _ _); (refine' k_len ?k1 ?k2 ?k3 ?k4 ?k5 ?_; (case k1 => k_asm); (case k2 => k_asm); (case k3 => with_reducible assumption); (case k4 => with_reducible assumption); (case k5 => with_reducible assumption); k_whole); intro t9 tk9))
local macro_rules | `(tactic| walk_at "call ref") => `(tactic| (k_here; (with_reducible show wpAny _ _ (call (Value.ref _) [Value.int _ _, Value.int _ _]) _ _ _); with_unfolding_all (refine' Claim.use (enc_claim ?h1 ?h2) ?k1 ?k2 ?k3 ?k4 ?k5 ?kK ?kd ?ku ?_; (case k1 => k_asm); (case k2 => k_asm); (case k3 => k_asm); (case k4 => k_asm); (case k5 => k_asm); (case kK => first | exact rfl | assumption); (case kd => ktr_room); (case ku => ktr_units); (case h1 => with_reducible assumption); (case h2 => with_reducible assumption); k_whole); (intro v9 more9 h9 tk9 hR9 F9 N9; (obtain ⟨hm9, t9, hv9⟩ := hR9); subst hm9; subst hv9; (replace N9 : News _ _ _ _ := N9); (try dsimp only); (try k_fold))))
local macro_rules | `(tactic| walk_at "call ref") => `(tactic| (k_here; (with_reducible show wpAny _ _ (call (Value.ref _) [Value.int _ _]) _ _ _); with_unfolding_all (refine' Claim.use (dec_claim ?h1 ?h2) ?k1 ?k2 ?k3 ?k4 ?k5 ?kK ?kd ?ku ?_; (case k1 => k_asm); (case k2 => k_asm); (case k3 => k_asm); (case k4 => k_asm); (case k5 => k_asm); (case kK => first | exact rfl | assumption); (case kd => ktr_room); (case ku => ktr_units); (case h1 => with_reducible assumption); (case h2 => with_reducible assumption); k_whole); (intro v9 more9 h9 tk9 hR9 F9 N9; (obtain ⟨a9, t9, u9, hv9, hm9⟩ := hR9); subst hm9; subst hv9; (try dsimp only); (try k_fold))))

theorem intr_claim {w : World} {mg mb : Str → Option Value} {n : Int} {t : Tok} {r : Addr} {vs : List Value} {ns : List Int} {news : List (Addr × Obj)} {dd : Option Addr} {k : Nat} {sl : Array (Option Value)} (hn0 : 0 ≤ n) (hn1 : n < 1114112)
    (hl : (hd.heap_39 w.params).lookup r = some ⟨.type "tuple", dd, .seq vs.toArray k, sl⟩)
    (hi : IntsAre vs ns) (hlen : (ns.length : Int) < 4294967296) (hbnd : ∀ x ∈ ns, 0 ≤ x ∧ x < 1152921504606846976) :
    Claim w mg mb 2 97 [.int n t, .ref r] news (Gives (IsBoolV (contains ns n))) := by
  unfold Claim theProg theLoose
  k_fill
  intro dp un gd cn cs a ccd cl outer A₀ base h₀ L m s Q E B F X N T hk hd1 hd2 hret
  refine wpAny_call ?_
  k_dflt cell_enter
  k_steps
  all_goals (
    (refine hret _ [] _ _ ⟨rfl, ?_⟩ (by k_asm) (by first | k_asm | (refine' cb_drop ?cbN ?cbS; (case cbN => assumption); (case cbS => kcj_all)))); first
    | exact bool_is_true (contains_iff ns n _ (by assumption)) (by omega)
    | exact bool_is_false (contains_iff ns n _ (by assumption)) (by omega))
end Mine

-- FcScript
namespace Mine
open PySem.Calls
local macro_rules | `(tactic| cell_enter) => `(tactic| (refine' code_defR ?k1 ?k2 ?k3 ?k4 ?k5 ?kA ?kF ?kK ?k6 ?k7 ?k8 ?k9 ?kB ?_ ?c2 ?c3 ?c4 ?c5; (case kA => exact rfl); (case kF => exact rfl); (case kK => assumption); (case k1 => k_asm); (case k2 => k_asm); (case k3 => k_asm); (case k4 => k_asm); (case k5 => k_asm); (case k6 => k_is); (case k7 => k_is); (case k8 => ktr_room); (case k9 => exact BindsTo.of_eq rfl); (case c5 => decide); (case kB => exact locs rfl); (case c2 => exact rfl); (case c3 => exact rfl); (case c4 => exact rfl); k_whole; intro g' L' h' FG' F' N' B' X' T'; (try dsimp only); (try k_lift B'); (try k_fold)))
/-- the signs of the law -/
def codes : List Nat := [108, 97, 945, 1488, 12459, 19990, 1635, 1780, 1576, 1575, 2381, 183, 885, 1523, 12539, 8204, 8205, 769, 1524, 12363, 1569, 1632, 1641, 1776, 1785]
theorem codes_lt {c : Nat} (h : c ∈ codes) : c < 1114112 := by revert c; decide
inductive IsCode (c : Nat) : Prop
  | mk (h : c ∈ codes) (hz : (0 : Int) ≤ (c : Int)) (hl : (c : Int) < 1114112)
theorem IsCode.of {c : Nat} (h : c ∈ codes) : IsCode c := ⟨h, by omega, by have := codes_lt h; omega⟩
theorem IsCode.mem {c : Nat} (h : IsCode c) : c ∈ codes := match h with | .mk h _ _ => h
theorem IsCode.lo {c : Nat} (h : IsCode c) : (0 : Int) ≤ (c : Int) := match h with | .mk _ h _ => h
theorem IsCode.hi {c : Nat} (h : IsCode c) : (c : Int) < 1114112 := match h with | .mk _ _ hl => hl

local macro_rules | `(tactic| walk_at "call ref") => `(tactic| (k_here; (with_reducible show wpAny _ _ (call (Value.ref _) [Value.int _ _, Value.ref _]) _ _ _); with_unfolding_all (refine' Claim.use (intr_claim ?h1 ?h2 ?h3 ?h4 ?h5 ?h6) ?k1 ?k2 ?k3 ?k4 ?k5 ?kK ?kd ?ku ?_; (case k1 => k_asm); (case k2 => k_asm); (case k3 => k_asm); (case k4 => k_asm); (case k5 => k_asm); (case kK => first | exact rfl | assumption); (case kd => ktr_room); (case ku => ktr_units); (case h1 => exact IsCode.lo (by with_reducible assumption)); (case h2 => exact IsCode.hi (by with_reducible assumption)); (case h3 => k_is); (case h4 => repeat' constructor); (case h5 => decide +kernel); (case h6 => decide +kernel); k_whole); (intro v9 more9 h9 tk9 hR9 F9 N9; (obtain ⟨hm9, hv9⟩ := hR9); subst hm9; (unfold IsBoolV at hv9); subst hv9; (replace N9 : News _ _ _ _ := N9); (try dsimp only); (try k_fold))))

theorem contains_tab {ns : List Int} {g : Nat → Bool} {c : Nat} (h : (codes.all fun c => contains ns (c : Int) == g c) = true) (hc : IsCode c) : IsBoolV (g c) (.bool (contains ns (c : Int))) := by
  have := List.all_eq_true.mp h c hc.mem
  rw [beq_iff_eq.mp this]; rfl

theorem greek_claim {w : World} {mg mb : Str → Option Value} {c : Nat} {t u : Tok} {news : List (Addr × Obj)} (hc : IsCode c) :
    Claim w mg mb 3 143 [.str ⟨#[c]⟩ t, .str (Str.ofString "Greek") u] news (Gives (IsBoolV (c == 945 || c == 885))) := by
  unfold Claim theProg theLoose
  k_fill
  intro dp un gd cn cs a ccd cl outer A₀ base h₀ L m s Q E B F X N T hk hd1 hd2 hret
  refine wpAny_call ?_
  k_dflt cell_enter
  k_steps
  all_goals exact hret _ [] _ _ ⟨rfl, contains_tab (g := fun c => c == 945 || c == 885) (by decide +kernel) hc⟩ (by k_asm) (by k_asm)

theorem hebrew_claim {w : World} {mg mb : Str → Option Value} {c : Nat} {t u : Tok} {news : List (Addr × Obj)} (hc : IsCode c) :
    Claim w mg mb 3 143 [.str ⟨#[c]⟩ t, .str (Str.ofString "Hebrew") u] news (Gives (IsBoolV (c == 1488 || (c == 1523 || c == 1524)))) := by
  unfold Claim theProg theLoose
  k_fill
  intro dp un gd cn cs a ccd cl outer A₀ base h₀ L m s Q E B F X N T hk hd1 hd2 hret
  refine wpAny_call ?_
  k_dflt cell_enter
  k_steps
  all_goals exact hret _ [] _ _ ⟨rfl, contains_tab (g := fun c => c == 1488 || (c == 1523 || c == 1524)) (by decide +kernel) hc⟩ (by k_asm) (by k_asm)

theorem hiragana_claim {w : World} {mg mb : Str → Option Value} {c : Nat} {t u : Tok} {news : List (Addr × Obj)} (hc : IsCode c) :
    Claim w mg mb 3 143 [.str ⟨#[c]⟩ t, .str (Str.ofString "Hiragana") u] news (Gives (IsBoolV (c == 12363))) := by
  unfold Claim theProg theLoose
  k_fill
  intro dp un gd cn cs a ccd cl outer A₀ base h₀ L m s Q E B F X N T hk hd1 hd2 hret
  refine wpAny_call ?_
  k_dflt cell_enter
  k_steps
  all_goals exact hret _ [] _ _ ⟨rfl, contains_tab (g := fun c => c == 12363) (by decide +kernel) hc⟩ (by k_asm) (by k_asm)

theorem katakana_claim {w : World} {mg mb : Str → Option Value} {c : Nat} {t u : Tok} {news : List (Addr × Obj)} (hc : IsCode c) :
    Claim w mg mb 3 143 [.str ⟨#[c]⟩ t, .str (Str.ofString "Katakana") u] news (Gives (IsBoolV (c == 12459))) := by
  unfold Claim theProg theLoose
  k_fill
  intro dp un gd cn cs a ccd cl outer A₀ base h₀ L m s Q E B F X N T hk hd1 hd2 hret
  refine wpAny_call ?_
  k_dflt cell_enter
  k_steps
  all_goals exact hret _ [] _ _ ⟨rfl, contains_tab (g := fun c => c == 12459) (by decide +kernel) hc⟩ (by k_asm) (by k_asm)

theorem han_claim {w : World} {mg mb : Str → Option Value} {c : Nat} {t u : Tok} {news : List (Addr × Obj)} (hc : IsCode c) :
    Claim w mg mb 3 143 [.str ⟨#[c]⟩ t, .str (Str.ofString "Han") u] news (Gives (IsBoolV (c == 19990))) := by
  unfold Claim theProg theLoose
  k_fill
  intro dp un gd cn cs a ccd cl outer A₀ base h₀ L m s Q E B F X N T hk hd1 hd2 hret
  refine wpAny_call ?_
  k_dflt cell_enter
  k_steps
  all_goals exact hret _ [] _ _ ⟨rfl, contains_tab (g := fun c => c == 19990) (by decide +kernel) hc⟩ (by k_asm) (by k_asm)

end Mine

-- FcItems
namespace Mine
open PySem.Calls

inductive LitP (P : Params) : List DictEntry → List (Str × Value) → Prop
  | nil : LitP P [] []
  | cons {k : Str} {t : Tok} {v : Value} {es : List DictEntry} {kvs : List (Str × Value)} (r : LitP P es kvs) : LitP P (⟨PyData.keyHash P k, .str k t, v⟩ :: es) ((k, v) :: kvs)
theorem LitP.keys {P : Params} {es : List DictEntry} {kvs : List (Str × Value)} (h : LitP P es kvs) : ∀ e ∈ es, ∃ x t, e.key = .str x t ∧ e.hash = PyData.keyHash P x := by
  induction h with
  | nil => intro e he; cases he
  | cons r ih =>
    intro e he
    rcases List.mem_cons.mp he with rfl | he
    · exact ⟨_, _, rfl, rfl⟩
    · exact ih e he
theorem LitP.pairs {prog : Program} {w : World} {es : List DictEntry} {kvs : List (Str × Value)} (h : LitP w.params es kvs) : PySem.Pairs (PySem.strKind prog w) es kvs := by
  induction h with
  | nil => exact .nil
  | cons r ih => exact .cons (strKind_is prog w _ _) rfl ih

section
variable {prog : Program} {w : World} {A : Around} {E : Value → Shared → Prop} {s : Shared} {K : Frag} {h₀ h : Heap} {d : Addr} {es : List DictEntry} {n : Nat} {kvs : List (Str × Value)} {m : Str → Option Value} {news : List (Addr × Obj)} {L : Addr}

theorem kdict_at (X : K.In h) (hl : K.lookup d = some ⟨.type "dict", none, .dict es.toArray n, #[]⟩) (hp : LitP w.params es kvs) (hn : (kvs.map (·.1)).Nodup) : h.DictAt (PySem.strKind prog w) d kvs n :=
  ⟨_, es.toArray, X _ _ hl, ⟨rfl, rfl, rfl⟩, rfl, (fun e he => by
    obtain ⟨x, t, e1, e2⟩ := hp.keys e (by simpa using he)
    exact ⟨x, by rw [e1]; exact strKind_is prog w x t, e2⟩), hp.pairs, hn⟩

theorem k_itemsMethod {pl : Sem Bool} {Q : Value × List Value → Shared → Prop} (F : Fr h₀ L s.heap m) (X : K.In h₀) (hl : K.lookup d = some ⟨.type "dict", none, .dict es.toArray n, #[]⟩) (hp : LitP w.params es kvs) (hn : (kvs.map (·.1)).Nodup) (h : Q (.builtin "dict.items", [.ref d]) s) :
    wpAny (model prog w) A (getMethod (.ref d) (Str.ofString "items") pl) Q E s :=
  have hD := (kdict_at (prog := prog) (X.keeps F.keep) hl hp hn).dictOf
  getMethod_builtin hD.typeIs PySem.F.plainAttrs_dict PySem.F.slot_dict_items PySem.F.type_dict_items hD.mapOf.noDict h

theorem k_itemsCall {Q : Value → Shared → Prop} (F : Fr h₀ L s.heap m) (N : News h₀ L s.heap news) (X : K.In h₀) (hl : K.lookup d = some ⟨.type "dict", none, .dict es.toArray n, #[]⟩) (hp : LitP w.params es kvs) (hn : (kvs.map (·.1)).Nodup) (lo : (d == sysModules) = false)
    (h : ∀ (v : Addr) (h' : Heap), Fr h₀ L h' m → News h₀ L h' ((v, { cls := .type "dict_items", data := .fields #[.ref d] }) :: news) → Q (.ref v) { s with heap := h' }) :
    wpAny (model prog w) A (call (.builtin "dict.items") [.ref d]) Q E s :=
  have hD := (kdict_at (prog := prog) (X.keeps F.keep) hl hp hn).dictOf
  call_meetsIn PySem.F.slot_dict_items hD.typeIs PySem.F.entry_dict_items (PySem.F.args_dict_items_1 _) (meets_dict_items (PySem.strKind prog w) d lo) ⟨⟨kvs, hD⟩, h _ _ (F.push _) (News.push F N _)⟩

/-- a turn of «for a, b in D.items()» over a dict of the top -/
def ItemTurn (prog : Program) (w : World) (A : Around) (h₀ : Heap) (env : Env) (target : Expr) (body : List Stmt) (Q : Flow → Shared → Prop) (E : Value → Shared → Prop) (s : Shared) (m : Str → Option Value) (x1 x2 : Str) (news : List (Addr × Obj)) (kvs : List (Str × Value)) (P : Nat → Prop) : Prop :=
  ∀ (i : Nat) (nm : Str) (v : Value) (T : Addr) (t : Tok) (h₁ : Heap) (tk₁ : Nat) (vi vc : Option Value) (I : Addr) (own : List (Addr × Obj)), kvs[i]? = some (nm, v) → P i → IsTup h₁ T [Value.str nm t, v].toArray →
    Fr h₀ env.locals h₁ (bindM (bindM m x1 vi) x2 vc) → News h₀ env.locals h₁ (own ++ news) → (∀ p ∈ news, p.1 ∉ [I]) →
    wpAny (model prog w) A (assign target env (.ref T)) (fun _ s₃ => wpAny (model prog w) A (execs body env)
      (LoopStepV h₀ env.locals [I] own (fun m' n' => n' = news ∧ (∃ vi vc, m' = bindM (bindM m x1 vi) x2 vc) ∧ P (i + 1)) { s with heap := h₁, toks := tk₁ } (fun v s' => Q (.ret v) s') fun s' => Q .next s') E s₃) E { s with heap := h₁, toks := tk₁ }

theorem k_itemsLoop {env : Env} {elts : List Expr} {kk : Nat} {pos : Pos} {body : List Stmt} {Q : Flow → Shared → Prop} {v : Addr} {ov : Obj} (x1 x2 : Str) (P : Nat → Prop) (hh : A.handled = none) (F : Fr h₀ env.locals s.heap m) (N : News h₀ env.locals s.heap news) (hv : (v, ov) ∈ news)
    (hov : ov = { cls := .type "dict_items", data := .fields #[.ref d] }) (X : K.In h₀) (hl : K.lookup d = some ⟨.type "dict", none, .dict es.toArray n, #[]⟩) (hp : LitP w.params es kvs) (hn : (kvs.map (·.1)).Nodup) (h0 : P 0)
    (turn : ItemTurn prog w A h₀ env (.Tuple elts kk pos) body Q E s m x1 x2 news kvs P)
    (done : ∀ h' tk vi vc, Fr h₀ env.locals h' (bindM (bindM m x1 vi) x2 vc) → News h₀ env.locals h' news → P kvs.length → Q .next { s with heap := h', toks := tk }) :
    wpAny (model prog w) A (pyIter (.ref v)) (fun it s₂ => TurnsAt prog w A h₀ env (.Tuple elts kk pos) body Q E it s₂) E s := by
  have hat := kdict_at (prog := prog) (X.keeps F.keep) hl hp hn
  have hne : d ≠ s.heap.objs.size := Nat.ne_of_lt hat.lt_size
  have hd0 := (kdict_at (prog := prog) X hl hp hn).lt_size
  have hLd : env.locals ≠ d := Nat.ne_of_gt (Nat.lt_of_lt_of_le hd0 F.above)
  have hLI : env.locals ≠ s.heap.objs.size := Nat.ne_of_lt F.ns.lt
  have hnew : h₀.get? s.heap.objs.size = none := next_is_new F
  have hoff : ∀ p ∈ news, p.1 ∉ [s.heap.objs.size] := fun p hp hI => absurd (Heap.lt_size (N p hp).1) ((List.mem_singleton.mp hI) ▸ Nat.lt_irrefl _)
  refine wpAny_pyIter_items ⟨ov, (N _ hv).1, by rw [hov], by rw [hov]⟩ hat ?_
  refine ⟨s.heap.objs.size, [s.heap.objs.size, d], [s.heap.objs.size], kvs.length, _, _, _, m, news, (fun i m' n' => n' = news ∧ (∃ vi vc, m' = bindM (bindM m x1 vi) x2 vc) ∧ P i), rfl, kti_itemsTurns (knd := PySem.strKind prog w) hh s.heap.objs.size d hne kvs n,
    ?_, ?_, hoff, ⟨⟨.none, .none, Heap.get?_push_size _ rfl⟩, hat.push _⟩, F.push _, (fun p hp => ⟨Heap.get?_push_of_some _ (N p hp).1, (N p hp).2⟩), ⟨rfl, ⟨m x1, m x2, ?_⟩, h0⟩, ?_, ?_⟩
  · intro hm
    rcases List.mem_cons.mp hm with e | hm
    · exact hLI e
    · exact hLd (List.mem_singleton.mp hm)
  · intro b hb
    rw [List.mem_singleton.mp hb]; exact hnew
  · rw [← bindM_start m x1]; exact bindM_start m x2
  · rintro i u m₁ news₁ h₁ tk₁ own hi ⟨T, key, k, x, rfl, hx, hk, hT⟩ ⟨rfl, ⟨vi, vc, rfl⟩, hP⟩ _ _ _ _ _ F₁ N₁
    obtain ⟨t, rfl⟩ := Value.isStrOf_shape hk
    exact turn i k x T t h₁ tk₁ vi vc s.heap.objs.size own hx hP hT F₁ N₁ hoff
  · rintro h' tk m' news' F' N' _ ⟨rfl, ⟨vi, vc, rfl⟩, hP⟩
    exact done h' tk vi vc F' N' hP
end
end Mine

-- FcJt
namespace Mine
open PySem.Calls
local macro_rules | `(tactic| cell_enter) => `(tactic| (refine' code_defR ?k1 ?k2 ?k3 ?k4 ?k5 ?kA ?kF ?kK ?k6 ?k7 ?k8 ?k9 ?kB ?_ ?c2 ?c3 ?c4 ?c5; (case kA => exact rfl); (case kF => exact rfl); (case kK => assumption); (case k1 => k_asm); (case k2 => k_asm); (case k3 => k_asm); (case k4 => k_asm); (case k5 => k_asm); (case k6 => k_is); (case k7 => k_is); (case k8 => ktr_room); (case k9 => exact BindsTo.of_eq rfl); (case c5 => decide); (case kB => exact locs rfl); (case c2 => exact rfl); (case c3 => exact rfl); (case c4 => exact rfl); k_whole; intro g' L' h' FG' F' N' B' X' T'; (try dsimp only); (try k_lift B'); (try k_fold)))

/-- what _joining_type answers, for the signs of the law -/
inductive JT (c : Nat) : Value → Prop
  | C (t : Tok) (h : (c == 8205) = true) : JT c (.str (Str.ofString "C") t)
  | D (t : Tok) (h : (c == 1576) = true) : JT c (.str (Str.ofString "D") t)
  | R (t : Tok) (h : (c == 1575) = true) : JT c (.str (Str.ofString "R") t)
  | T (t : Tok) (h : (c == 2381 || c == 769) = true) : JT c (.str (Str.ofString "T") t)
  | no (h : (c == 8205 || c == 1576 || c == 1575 || c == 2381 || c == 769) = false) : JT c .none

def jtKvs : List (Str × Value) := [(Str.ofString "C", .ref 50), (Str.ofString "D", .ref 51), (Str.ofString "L", .ref 52), (Str.ofString "R", .ref 53), (Str.ofString "T", .ref 54)]
def jtIs : Nat → Nat → Bool
  | 0, c => c == 8205
  | 1, c => c == 1576
  | 2, _ => false
  | 3, c => c == 1575
  | 4, c => c == 2381 || c == 769
  | _, _ => false
/-- what the loop knows of a table -/
structure JTab (w : World) (i : Nat) (r : Addr) (vs : List Value) (ns : List Int) (dd : Option Addr) (k : Nat) (sl : Array (Option Value)) : Prop where
  hl : (hd.heap_39 w.params).lookup r = some ⟨.type "tuple", dd, .seq vs.toArray k, sl⟩
  hi : IntsAre vs ns
  hlen : (ns.length : Int) < 4294967296
  hbnd : ∀ x ∈ ns, 0 ≤ x ∧ x < 1152921504606846976
  tab : (codes.all fun c => contains ns (c : Int) == jtIs i c) = true

theorem jtab_of {w : World} {i : Nat} {r : Addr} {vs : List Value} {ns : List Int} {dd : Option Addr} {k : Nat} {sl : Array (Option Value)} (hl : (hd.heap_39 w.params).lookup r = some ⟨.type "tuple", dd, .seq vs.toArray k, sl⟩) (hi : IntsAre vs ns)
    (hlen : (ns.length : Int) < 4294967296) (hbnd : ∀ x ∈ ns, 0 ≤ x ∧ x < 1152921504606846976) (tab : (codes.all fun c => contains ns (c : Int) == jtIs i c) = true) :
    ∃ r' vs ns dd k sl, Value.ref r = .ref r' ∧ JTab w i r' vs ns dd k sl := ⟨r, vs, ns, dd, k, sl, rfl, hl, hi, hlen, hbnd, tab⟩

theorem jtabs {w : World} : PySem.Challenge.rw_fc0084_01 = PySem.Challenge.rw_fc0084_01 → hd.heap_39 w.params = hd.heap_39 w.params → ∀ (i : Nat) (nm : Str) (v : Value), jtKvs[i]? = some (nm, v) → ∃ r vs ns dd k sl, v = .ref r ∧ JTab w i r vs ns dd k sl := by
  k_fill
  intro _ _ i nm v h
  match i, h with
  | 0, h => cases h; (refine' jtab_of ?h3 ?h4 ?h5 ?h6 ?h7; (case h3 => k_is); (case h4 => repeat' constructor); (case h5 => decide +kernel); (case h6 => decide +kernel); (case h7 => decide +kernel))
  | 1, h => cases h; (refine' jtab_of ?h3 ?h4 ?h5 ?h6 ?h7; (case h3 => k_is); (case h4 => repeat' constructor); (case h5 => decide +kernel); (case h6 => decide +kernel); (case h7 => decide +kernel))
  | 2, h => cases h; (refine' jtab_of ?h3 ?h4 ?h5 ?h6 ?h7; (case h3 => k_is); (case h4 => repeat' constructor); (case h5 => decide +kernel); (case h6 => decide +kernel); (case h7 => decide +kernel))
  | 3, h => cases h; (refine' jtab_of ?h3 ?h4 ?h5 ?h6 ?h7; (case h3 => k_is); (case h4 => repeat' constructor); (case h5 => decide +kernel); (case h6 => decide +kernel); (case h7 => decide +kernel))
  | 4, h => cases h; (refine' jtab_of ?h3 ?h4 ?h5 ?h6 ?h7; (case h3 => k_is); (case h4 => repeat' constructor); (case h5 => decide +kernel); (case h6 => decide +kernel); (case h7 => decide +kernel))
  | n + 5, h => cases h

theorem jtdict_of {w : World} {d : Addr} {es : List DictEntry} {n : Nat} (hl : (hd.heap_39 w.params).lookup d = some ⟨.type "dict", none, .dict es.toArray n, #[]⟩) (hp : LitP w.params es jtKvs) :
    ∃ es n, (hd.heap_39 w.params).lookup d = some ⟨.type "dict", none, .dict (List.toArray es) n, #[]⟩ ∧ LitP w.params es jtKvs := ⟨es, n, hl, hp⟩
theorem jt_dict {w : World} : PySem.Challenge.rw_fc0084_01 = PySem.Challenge.rw_fc0084_01 → ∃ es n, (hd.heap_39 w.params).lookup 49 = some ⟨.type "dict", none, .dict (List.toArray es) n, #[]⟩ ∧ LitP w.params es jtKvs := by
  k_fill
  intro _
  refine' jtdict_of ?h1 ?h2
  (case h1 => k_is)
  (case h2 => (unfold jtKvs; repeat' constructor))

theorem jt_val {i : Nat} {nm : Str} {v : Value} {c : Nat} {t : Tok} (hget : jtKvs[i]? = some (nm, v)) (h : jtIs i c = true) : JT c (.str nm t) := by
  match i, hget, h with
  | 0, hget, h => cases hget; exact .C t h
  | 1, hget, h => cases hget; exact .D t h
  | 2, hget, h => cases h
  | 3, hget, h => cases hget; exact .R t h
  | 4, hget, h => cases hget; exact .T t h
  | n + 5, hget, h => cases h
theorem jt_none {c : Nat} (h : ∀ j, j < jtKvs.length → jtIs j c = false) : JT c .none := by
  have h0 := h 0 (by decide)
  have h1 := h 1 (by decide)
  have h3 := h 3 (by decide)
  have h4 := h 4 (by decide)
  simp only [jtIs, Bool.or_eq_false_iff] at h0 h1 h3 h4
  exact .no (by rw [h0, h1, h3, h4.1, h4.2]; rfl)
theorem contains_true {a b : Bool} (h : IsBoolV a (.bool b)) (hb : b = true) : a = true := by
  unfold IsBoolV at h; injection h with e; rw [← e]; exact hb
theorem contains_false {a b : Bool} (h : IsBoolV a (.bool b)) (hb : ¬ b = true) : a = false := by
  unfold IsBoolV at h; injection h with e; rw [← e]; simpa using hb
theorem inv_next {i c : Nat} (h : ∀ j, j < i → jtIs j c = false) (h' : jtIs i c = false) : ∀ j, j < i + 1 → jtIs j c = false := by
  intro j hj
  rcases Nat.lt_succ_iff_lt_or_eq.mp hj with hj | rfl
  · exact h j hj
  · exact h'

local macro_rules | `(tactic| walk_at "exec For Tuple Call") => `(tactic| (k_here; (rename Fr _ _ _ _ => kF'); (with_unfolding_all refine' For_turns kF' ?_ ?ks); (case ks => (intro _; with_unfolding_all rfl))))
local macro_rules | `(tactic| walk_at "getMethod ref") => `(tactic| (k_here; (with_reducible show wpAny _ _ (getMethod (Value.ref _) (Str.ofString "items") _) _ _ _); (refine' k_itemsMethod ?k1 ?k2 ?k3 ?k4 ?k5 ?_; (case k1 => k_asm); (case k2 => k_asm); (case k3 => with_reducible assumption); (case k4 => with_reducible assumption); (case k5 => decide); k_whole)))
local macro_rules | `(tactic| walk_at "call builtin:dict.items") => `(tactic| (k_here; (with_reducible show wpAny _ _ (call (Value.builtin "dict.items") [Value.ref _]) _ _ _); (refine' k_itemsCall ?k1 ?k2 ?k3 ?k4 ?k5 ?k6 ?k7 ?_; (case k1 => k_asm); (case k2 => k_asm); (case k3 => k_asm); (case k4 => with_reducible assumption); (case k5 => with_reducible assumption); (case k6 => decide); (case k7 => decide); k_whole); intro v9 h9 F9 N9))

local macro_rules | `(tactic| walk_at "call ref") => `(tactic| (k_here; (with_reducible show wpAny _ _ (call (Value.ref _) [Value.int _ _, Value.ref _]) _ _ _); with_unfolding_all (refine' Claim.use (intr_claim ?h1 ?h2 ?h3 ?h4 ?h5 ?h6) ?k1 ?k2 ?k3 ?k4 ?k5 ?kK ?kd ?ku ?_; (case k1 => k_asm); (case k2 => k_asm); (case k3 => k_asm); (case k4 => k_asm); (case k5 => k_asm); (case kK => first | exact rfl | assumption); (case kd => ktr_room); (case ku => ktr_units); (case h1 => exact IsCode.lo (by with_reducible assumption)); (case h2 => exact IsCode.hi (by with_reducible assumption)); (case h3 => with_reducible assumption); (case h4 => exact JTab.hi (by with_reducible assumption)); (case h5 => exact JTab.hlen (by with_reducible assumption)); (case h6 => exact JTab.hbnd (by with_reducible assumption)); k_whole); (intro v9 more9 h9 tk9 hR9 F9 N9; (obtain ⟨hm9, hv9⟩ := hR9); subst hm9; (unfold IsBoolV at hv9); subst hv9; (replace N9 : News _ _ _ _ := N9); (try dsimp only); (try k_fold))))

theorem jt_claim {w : World} {mg mb : Str → Option Value} {c : Nat} {t : Tok} {news : List (Addr × Obj)} (hc : IsCode c) :
    Claim w mg mb 3 106 [.int (c : Int) t] news (Gives (JT c)) := by
  have htabs := jtabs (w := w) rfl rfl
  obtain ⟨es, n, hdl, hdp⟩ := jt_dict (w := w) rfl
  unfold Claim theProg theLoose
  k_fill
  intro dp un gd cn cs a ccd cl outer A₀ base h₀ L m s Q E B F X N T hk hd1 hd2 hret
  refine wpAny_call ?_
  k_dflt cell_enter
  k_steps
  refine' k_itemsLoop (Str.ofString "jt") (Str.ofString "ranges") (fun i => ∀ j, j < i → jtIs j c = false) ?a1 ?a2 ?a3 ?a4 ?a5 ?a6 ?a7 ?a8 ?a9 ?a10 ?turn ?done
  (case a1 => rfl); (case a2 => k_asm); (case a3 => k_asm); (case a4 => k_mem); (case a5 => rfl); (case a6 => k_asm); (case a7 => exact hdl); (case a8 => exact hdp); (case a9 => decide)
  (case a10 => intro j hj; exact absurd hj (Nat.not_lt_zero _))
  case turn =>
    unfold ItemTurn
    intro i nm v T t h₁ tk₁ vi vc I own hget hP hT F₁ N₁ hoff
    obtain ⟨r, vs, ns, dd, k, sl, rfl, J⟩ := htabs i nm v hget
    have hl := J.hl
    have hg := contains_tab (g := jtIs i) J.tab hc
    k_steps
    · refine LoopStepV.ret ?_
      (try dsimp only)
      k_steps
      refine hret _ [] _ _ ⟨rfl, jt_val hget (contains_true hg (by assumption))⟩ (by k_asm) ?_
      refine' cb_drop ?cbN ?cbS
      (case cbN => assumption)
      (intro p hp; simp only [List.nil_append] at hp; simp only [List.mem_append, List.mem_cons]; simp only [hp, or_true])
    · exact LoopStepU.intro (by k_asm) (by k_asm) hoff ⟨rfl, ⟨_, _, bind2_find⟩, inv_next hP (contains_false hg (by first | assumption | exact Bool.eq_false_iff.mp (by assumption)))⟩
  case done =>
    intro h9 tk9 vi vc F9 N9 hP
    k_steps
    refine hret _ [] _ _ ⟨rfl, jt_none hP⟩ (by k_asm) (by first | k_asm | (refine' cb_drop ?cbN2 ?cbS2; (case cbN2 => assumption); (case cbS2 => kcj_all)))
end Mine

-- FcBidi
namespace Mine
open PySem.Calls
local macro_rules | `(tactic| cell_enter) => `(tactic| (refine' code_defR ?k1 ?k2 ?k3 ?k4 ?k5 ?kA ?kF ?kK ?k6 ?k7 ?k8 ?k9 ?kB ?_ ?c2 ?c3 ?c4 ?c5; (case kA => exact rfl); (case kF => exact rfl); (case kK => assumption); (case k1 => k_asm); (case k2 => k_asm); (case k3 => k_asm); (case k4 => k_asm); (case k5 => k_asm); (case k6 => k_is); (case k7 => k_is); (case k8 => ktr_room); (case k9 => exact BindsTo.of_eq rfl); (case c5 => decide); (case kB => exact locs rfl); (case c2 => exact rfl); (case c3 => exact rfl); (case c4 => exact rfl); k_whole; intro g' L' h' FG' F' N' B' X' T'; (try dsimp only); (try k_lift B'); (try k_fold)))

def NonEmptyV (v : Value) : Prop := ∃ x t, v = .str x t ∧ (x == Str.ofString "") = false
def Stopped (P : Prop) : Prop := P
theorem Stopped.go {P : Prop} (h : Stopped P) : P := h
def CutEnd (b : Bool) (s : Shared) (h₀ : Heap) (L : Addr) (m : Str → Option Value) (news : List (Addr × Obj)) (b' : Bool) (s' : Shared) : Prop := b' = b ∧ ∃ h' tk', s' = { s with heap := h', toks := tk' } ∧ Fr h₀ L h' m ∧ News h₀ L h' news
theorem CutEnd.intro {b : Bool} {s : Shared} {h₀ : Heap} {L : Addr} {m : Str → Option Value} {news : List (Addr × Obj)} {b' : Bool} {h' : Heap} {tk' : Nat} (e : b' = b) (F : Fr h₀ L h' m) (N : News h₀ L h' news) : CutEnd b s h₀ L m news b' { s with heap := h', toks := tk' } := ⟨e, h', tk', rfl, F, N⟩
theorem if_cut {M : Model} {A : Around} {E : Value → Shared → Prop} {s : Shared} {env : Env} {test : Expr} {body orelse : List Stmt} {pos : Pos} {Q : Flow → Shared → Prop} {h₀ : Heap} {L : Addr} {m : Str → Option Value} {news : List (Addr × Obj)} (b : Bool)
    (_F : Fr h₀ L s.heap m) (_N : News h₀ L s.heap news)
    (ht : wpAny M A (isTrue test env (eval test env)) (CutEnd b s h₀ L m news) E s)
    (h : ∀ h' tk', Fr h₀ L h' m → News h₀ L h' news → wpAny M A (execs (if b = true then body else orelse) env) Q E { s with heap := h', toks := tk' }) :
    wpAny M A (exec (.If test body orelse pos) env) Q E s := by
  refine wpAny_If (wpAny_mono ht (fun b' s' hq => ?_) fun _ _ e => e)
  obtain ⟨rfl, h', tk', rfl, F', N'⟩ := hq
  have := h h' tk' F' N'
  cases b' with
  | true => exact this
  | false => exact this

theorem any3t {c : Nat} (h : (([170, 181, 186] : List Int).any fun x => x == (c : Int)) = true) : c = 170 ∨ c = 181 ∨ c = 186 := by
  simp only [List.any_cons, List.any_nil, Bool.or_eq_true, beq_iff_eq, Bool.or_false] at h; omega
theorem any3f {c : Nat} (h : (([170, 181, 186] : List Int).any fun x => x == (c : Int)) = false) : c ≠ 170 ∧ c ≠ 181 ∧ c ≠ 186 := by
  simp only [List.any_cons, List.any_nil, Bool.or_eq_false_iff, beq_eq_false_iff_ne, Bool.or_false, ne_eq] at h; omega
theorem any2t {c : Nat} (h : (([215, 247] : List Int).any fun x => x == (c : Int)) = true) : c = 215 ∨ c = 247 := by
  simp only [List.any_cons, List.any_nil, Bool.or_eq_true, beq_iff_eq, Bool.or_false] at h; omega
theorem any2f {c : Nat} (h : (([215, 247] : List Int).any fun x => x == (c : Int)) = false) : c ≠ 215 ∧ c ≠ 247 := by
  simp only [List.any_cons, List.any_nil, Bool.or_eq_false_iff, beq_eq_false_iff_ne, Bool.or_false, ne_eq] at h; omega
theorem bidi_no : ∀ c ∈ codes, c ≠ 2381 → c ≠ 769 → decide ((48 ≤ c ∧ c ≤ 57) ∨ (1776 ≤ c ∧ c ≤ 1785)) = false → decide (1632 ≤ c ∧ c ≤ 1641) = false → (([8204, 8205, 173] : List Int).any fun x => x == (c : Int)) = false → decide ((1488 ≤ c ∧ c ≤ 1514) ∨ (1523 ≤ c ∧ c ≤ 1524)) = false → decide ((1568 ≤ c ∧ c ≤ 1610) ∨ (1649 ≤ c ∧ c ≤ 1747)) = false → decide ((97 ≤ c ∧ c ≤ 122) ∨ (65 ≤ c ∧ c ≤ 90) ∨ (c = 170 ∨ c = 181 ∨ c = 186) ∨ ((192 ≤ c ∧ c ≤ 591) ∧ ¬ (c = 215 ∨ c = 247))) = false → decide (((910 ≤ c ∧ c ≤ 974) ∧ c ≠ 930) ∨ (1024 ≤ c ∧ c ≤ 1153) ∨ (2309 ≤ c ∧ c ≤ 2361) ∨ (12353 ≤ c ∧ c ≤ 12438) ∨ (12449 ≤ c ∧ c ≤ 12538) ∨ (19968 ≤ c ∧ c ≤ 20479)) = false →
    (([183, 885, 12539, 215, 247] : List Int).any fun x => x == (c : Int)) = false → False := by decide +kernel

local macro_rules | `(tactic| walk_at "exec If") => `(tactic| (k_here; (with_reducible refine Stopped.go ?_)))
theorem bidi_claim {w : World} {mg mb : Str → Option Value} {c : Nat} {t : Tok} {news : List (Addr × Obj)} (hc : IsCode c) (h1 : c ≠ 2381) (h2 : c ≠ 769) :
    Claim w mg mb 1 62 [.str ⟨#[c]⟩ t] news (Gives NonEmptyV) := by
  unfold Claim theProg theLoose
  k_fill
  intro dp un gd cn cs a ccd cl outer A₀ base h₀ L m s Q E B F X N T hk hd1 hd2 hret
  refine wpAny_call ?_
  k_dflt cell_enter
  k_steps
  unfold Stopped
  refine wpAny_If ?_
  k_steps
  all_goals try (exact hret _ [] _ _ ⟨rfl, _, _, rfl, by decide⟩ (by k_asm) (by first | k_asm | (refine' cb_drop ?cbN0 ?cbS0; (case cbN0 => assumption); (case cbS0 => kcj_all))))
  unfold Stopped
  refine if_cut (decide ((48 ≤ c ∧ c ≤ 57) ∨ (1776 ≤ c ∧ c ≤ 1785))) (by k_asm) (by k_asm) ?_ ?_
  · k_steps
    all_goals exact CutEnd.intro (by (try have q1 := any3t (by with_reducible assumption)); (try have q2 := any3f (by with_reducible assumption)); (try have q3 := any2t (by with_reducible assumption)); (try have q4 := any2f (by with_reducible assumption)); first | exact (decide_eq_true (by omega)).symm | exact (decide_eq_false (by omega)).symm | (rw [Bool.eq_iff_iff]; simp only [decide_eq_true_eq]; omega)) (by k_asm) (by first | k_asm | (refine' cb_drop ?cbM1 ?cbT1; (case cbM1 => assumption); (case cbT1 => kcj_all)))
  intro h9 tk9 F9 N9
  rcases Bool.eq_false_or_eq_true (decide ((48 ≤ c ∧ c ≤ 57) ∨ (1776 ≤ c ∧ c ≤ 1785))) with hb1 | hb1
  · rw [if_pos hb1]
    k_steps
    all_goals exact hret _ [] _ _ ⟨rfl, _, _, rfl, by decide⟩ (by k_asm) (by first | k_asm | (refine' cb_drop ?cbN1 ?cbS1; (case cbN1 => assumption); (case cbS1 => kcj_all)))
  rw [if_neg (by rw [hb1]; exact Bool.false_ne_true)]
  k_steps
  unfold Stopped
  refine if_cut (decide (1632 ≤ c ∧ c ≤ 1641)) (by k_asm) (by k_asm) ?_ ?_
  · k_steps
    all_goals exact CutEnd.intro (by (try have q1 := any3t (by with_reducible assumption)); (try have q2 := any3f (by with_reducible assumption)); (try have q3 := any2t (by with_reducible assumption)); (try have q4 := any2f (by with_reducible assumption)); first | exact (decide_eq_true (by omega)).symm | exact (decide_eq_false (by omega)).symm | (rw [Bool.eq_iff_iff]; simp only [decide_eq_true_eq]; omega)) (by k_asm) (by first | k_asm | (refine' cb_drop ?cbM2 ?cbT2; (case cbM2 => assumption); (case cbT2 => kcj_all)))
  intro h9 tk9 F9 N9
  rcases Bool.eq_false_or_eq_true (decide (1632 ≤ c ∧ c ≤ 1641)) with hb2 | hb2
  · rw [if_pos hb2]
    k_steps
    all_goals exact hret _ [] _ _ ⟨rfl, _, _, rfl, by decide⟩ (by k_asm) (by first | k_asm | (refine' cb_drop ?cbN2 ?cbS2; (case cbN2 => assumption); (case cbS2 => kcj_all)))
  rw [if_neg (by rw [hb2]; exact Bool.false_ne_true)]
  k_steps
  unfold Stopped
  refine wpAny_If ?_
  k_steps
  all_goals try (exact hret _ [] _ _ ⟨rfl, _, _, rfl, by decide⟩ (by k_asm) (by first | k_asm | (refine' cb_drop ?cbN3 ?cbS3; (case cbN3 => assumption); (case cbS3 => kcj_all))))
  unfold Stopped
  refine wpAny_If ?_
  k_steps
  all_goals try (exact hret _ [] _ _ ⟨rfl, _, _, rfl, by decide⟩ (by k_asm) (by first | k_asm | (refine' cb_drop ?cbN4 ?cbS4; (case cbN4 => assumption); (case cbS4 => kcj_all))))
  unfold Stopped
  refine wpAny_If ?_
  k_steps
  all_goals try (exact hret _ [] _ _ ⟨rfl, _, _, rfl, by decide⟩ (by k_asm) (by first | k_asm | (refine' cb_drop ?cbN5 ?cbS5; (case cbN5 => assumption); (case cbS5 => kcj_all))))
  unfold Stopped
  refine if_cut (decide ((1488 ≤ c ∧ c ≤ 1514) ∨ (1523 ≤ c ∧ c ≤ 1524))) (by k_asm) (by k_asm) ?_ ?_
  · k_steps
    all_goals exact CutEnd.intro (by (try have q1 := any3t (by with_reducible assumption)); (try have q2 := any3f (by with_reducible assumption)); (try have q3 := any2t (by with_reducible assumption)); (try have q4 := any2f (by with_reducible assumption)); first | exact (decide_eq_true (by omega)).symm | exact (decide_eq_false (by omega)).symm | (rw [Bool.eq_iff_iff]; simp only [decide_eq_true_eq]; omega)) (by k_asm) (by first | k_asm | (refine' cb_drop ?cbM6 ?cbT6; (case cbM6 => assumption); (case cbT6 => kcj_all)))
  intro h9 tk9 F9 N9
  rcases Bool.eq_false_or_eq_true (decide ((1488 ≤ c ∧ c ≤ 1514) ∨ (1523 ≤ c ∧ c ≤ 1524))) with hb6 | hb6
  · rw [if_pos hb6]
    k_steps
    all_goals exact hret _ [] _ _ ⟨rfl, _, _, rfl, by decide⟩ (by k_asm) (by first | k_asm | (refine' cb_drop ?cbN6 ?cbS6; (case cbN6 => assumption); (case cbS6 => kcj_all)))
  rw [if_neg (by rw [hb6]; exact Bool.false_ne_true)]
  k_steps
  unfold Stopped
  refine if_cut (decide ((1568 ≤ c ∧ c ≤ 1610) ∨ (1649 ≤ c ∧ c ≤ 1747))) (by k_asm) (by k_asm) ?_ ?_
  · k_steps
    all_goals exact CutEnd.intro (by (try have q1 := any3t (by with_reducible assumption)); (try have q2 := any3f (by with_reducible assumption)); (try have q3 := any2t (by with_reducible assumption)); (try have q4 := any2f (by with_reducible assumption)); first | exact (decide_eq_true (by omega)).symm | exact (decide_eq_false (by omega)).symm | (rw [Bool.eq_iff_iff]; simp only [decide_eq_true_eq]; omega)) (by k_asm) (by first | k_asm | (refine' cb_drop ?cbM7 ?cbT7; (case cbM7 => assumption); (case cbT7 => kcj_all)))
  intro h9 tk9 F9 N9
  rcases Bool.eq_false_or_eq_true (decide ((1568 ≤ c ∧ c ≤ 1610) ∨ (1649 ≤ c ∧ c ≤ 1747))) with hb7 | hb7
  · rw [if_pos hb7]
    k_steps
    all_goals exact hret _ [] _ _ ⟨rfl, _, _, rfl, by decide⟩ (by k_asm) (by first | k_asm | (refine' cb_drop ?cbN7 ?cbS7; (case cbN7 => assumption); (case cbS7 => kcj_all)))
  rw [if_neg (by rw [hb7]; exact Bool.false_ne_true)]
  k_steps
  unfold Stopped
  refine if_cut (decide ((97 ≤ c ∧ c ≤ 122) ∨ (65 ≤ c ∧ c ≤ 90) ∨ (c = 170 ∨ c = 181 ∨ c = 186) ∨ ((192 ≤ c ∧ c ≤ 591) ∧ ¬ (c = 215 ∨ c = 247)))) (by k_asm) (by k_asm) ?_ ?_
  · k_steps
    all_goals exact CutEnd.intro (by (try have q1 := any3t (by with_reducible assumption)); (try have q2 := any3f (by with_reducible assumption)); (try have q3 := any2t (by with_reducible assumption)); (try have q4 := any2f (by with_reducible assumption)); first | exact (decide_eq_true (by omega)).symm | exact (decide_eq_false (by omega)).symm | (rw [Bool.eq_iff_iff]; simp only [decide_eq_true_eq]; omega)) (by k_asm) (by first | k_asm | (refine' cb_drop ?cbM8 ?cbT8; (case cbM8 => assumption); (case cbT8 => kcj_all)))
  intro h9 tk9 F9 N9
  rcases Bool.eq_false_or_eq_true (decide ((97 ≤ c ∧ c ≤ 122) ∨ (65 ≤ c ∧ c ≤ 90) ∨ (c = 170 ∨ c = 181 ∨ c = 186) ∨ ((192 ≤ c ∧ c ≤ 591) ∧ ¬ (c = 215 ∨ c = 247)))) with hb8 | hb8
  · rw [if_pos hb8]
    k_steps
    all_goals exact hret _ [] _ _ ⟨rfl, _, _, rfl, by decide⟩ (by k_asm) (by first | k_asm | (refine' cb_drop ?cbN8 ?cbS8; (case cbN8 => assumption); (case cbS8 => kcj_all)))
  rw [if_neg (by rw [hb8]; exact Bool.false_ne_true)]
  k_steps
  unfold Stopped
  refine if_cut (decide (((910 ≤ c ∧ c ≤ 974) ∧ c ≠ 930) ∨ (1024 ≤ c ∧ c ≤ 1153) ∨ (2309 ≤ c ∧ c ≤ 2361) ∨ (12353 ≤ c ∧ c ≤ 12438) ∨ (12449 ≤ c ∧ c ≤ 12538) ∨ (19968 ≤ c ∧ c ≤ 20479))) (by k_asm) (by k_asm) ?_ ?_
  · k_steps
    all_goals exact CutEnd.intro (by (try have q1 := any3t (by with_reducible assumption)); (try have q2 := any3f (by with_reducible assumption)); (try have q3 := any2t (by with_reducible assumption)); (try have q4 := any2f (by with_reducible assumption)); first | exact (decide_eq_true (by omega)).symm | exact (decide_eq_false (by omega)).symm | (rw [Bool.eq_iff_iff]; simp only [decide_eq_true_eq]; omega)) (by k_asm) (by first | k_asm | (refine' cb_drop ?cbM9 ?cbT9; (case cbM9 => assumption); (case cbT9 => kcj_all)))
  intro h9 tk9 F9 N9
  rcases Bool.eq_false_or_eq_true (decide (((910 ≤ c ∧ c ≤ 974) ∧ c ≠ 930) ∨ (1024 ≤ c ∧ c ≤ 1153) ∨ (2309 ≤ c ∧ c ≤ 2361) ∨ (12353 ≤ c ∧ c ≤ 12438) ∨ (12449 ≤ c ∧ c ≤ 12538) ∨ (19968 ≤ c ∧ c ≤ 20479))) with hb9 | hb9
  · rw [if_pos hb9]
    k_steps
    all_goals exact hret _ [] _ _ ⟨rfl, _, _, rfl, by decide⟩ (by k_asm) (by first | k_asm | (refine' cb_drop ?cbN9 ?cbS9; (case cbN9 => assumption); (case cbS9 => kcj_all)))
  rw [if_neg (by rw [hb9]; exact Bool.false_ne_true)]
  k_steps
  unfold Stopped
  refine wpAny_If ?_
  k_steps
  all_goals first | (exact hret _ [] _ _ ⟨rfl, _, _, rfl, by decide⟩ (by k_asm) (by first | k_asm | (refine' cb_drop ?cbN10 ?cbS10; (case cbN10 => assumption); (case cbS10 => kcj_all)))) | exact (bidi_no c hc.mem h1 h2 hb1 hb2 (by with_reducible assumption) hb6 hb7 hb8 hb9 (by with_reducible assumption)).elim
end Mine

-- FcCc
namespace Mine
local macro_rules | `(tactic| walk_at "no such step") => `(tactic| fail)
open PySem.Calls
local macro_rules | `(tactic| cell_enter) => `(tactic| (refine' code_defR ?k1 ?k2 ?k3 ?k4 ?k5 ?kA ?kF ?kK ?k6 ?k7 ?k8 ?k9 ?kB ?_ ?c2 ?c3 ?c4 ?c5; (case kA => exact rfl); (case kF => exact rfl); (case kK => assumption); (case k1 => k_asm); (case k2 => k_asm); (case k3 => k_asm); (case k4 => k_asm); (case k5 => k_asm); (case k6 => k_is); (case k7 => k_is); (case k8 => ktr_room); (case k9 => exact BindsTo.of_eq rfl); (case c5 => decide); (case kB => exact locs rfl); (case c2 => exact rfl); (case c3 => exact rfl); (case c4 => exact rfl); k_whole; intro g' L' h' FG' F' N' B' X' T'; (try dsimp only); (try k_lift B'); (try k_fold)))

local macro_rules | `(tactic| walk_at "call ref") => `(tactic| (k_here; (with_reducible show wpAny _ _ (call (Value.ref _) [Value.str _ _]) _ _ _); with_unfolding_all (refine' Claim.use (bidi_claim ?h1 ?h2 ?h3) ?k1 ?k2 ?k3 ?k4 ?k5 ?kK ?kd ?ku ?_; (case k1 => k_asm); (case k2 => k_asm); (case k3 => k_asm); (case k4 => k_asm); (case k5 => k_asm); (case kK => first | exact rfl | assumption); (case kd => ktr_room); (case ku => ktr_units); (case h1 => with_reducible assumption); (case h2 => with_reducible assumption); (case h3 => with_reducible assumption); k_whole); (intro v9 more9 h9 tk9 hR9 F9 N9; (obtain ⟨hm9, x9, t9, hv9, hx9⟩ := hR9); subst hm9; subst hv9; (replace N9 : News _ _ _ _ := N9); (try dsimp only); (try k_fold))))

theorem name_claim {w : World} {mg mb : Str → Option Value} {c : Nat} {t : Tok} {news : List (Addr × Obj)} (hc : IsCode c) (h1 : c ≠ 2381) (h2 : c ≠ 769) :
    Claim w mg mb 2 76 [.str ⟨#[c]⟩ t] news (Gives (IsStrV (Str.ofString "a sign"))) := by
  unfold Claim theProg theLoose
  k_fill
  intro dp un gd cn cs a ccd cl outer A₀ base h₀ L m s Q E B F X N T hk hd1 hd2 hret
  refine wpAny_call ?_
  k_dflt cell_enter
  k_steps
  all_goals first | exact hret _ [] _ _ ⟨rfl, _, rfl⟩ (by k_asm) (by k_asm) | w_report

def ccv (c : Nat) : Int := if c = 768 then 230 else if c = 769 then 230 else if c = 776 then 230 else if c = 2381 then 9 else if c = 1456 then 10 else if c = 1611 then 27 else 0
theorem ccv_int {c : Nat} {n : Int} {t : Tok} (h : ccv c = n) : IsIntV (ccv c) (.int n t) := ⟨t, by rw [h]⟩

theorem comb_claim {w : World} {mg mb : Str → Option Value} {c : Nat} {t : Tok} {news : List (Addr × Obj)} (hc : IsCode c) :
    Claim w mg mb 1 69 [.str ⟨#[c]⟩ t] news (Gives (IsIntV (ccv c))) := by
  unfold Claim theProg theLoose
  k_fill
  intro dp un gd cn cs a ccd cl outer A₀ base h₀ L m s Q E B F X N T hk hd1 hd2 hret
  refine wpAny_call ?_
  k_dflt cell_enter
  k_steps
  all_goals exact hret _ [] _ _ ⟨rfl, ccv_int (by unfold ccv; (repeat' split) <;> omega)⟩ (by k_asm) (by k_asm)
theorem chr_code {prog : Program} {w : World} {A : Around} {E : Value → Shared → Prop} {s : Shared} {c : Nat} {t : Tok} {Q : Value → Shared → Prop} (hc : IsCode c) (h : ∀ t' tk', Q (.str ⟨#[c]⟩ t') { s with toks := tk' }) : wpAny (model prog w) A (call (.builtin "chr") [.int (c : Int) t]) Q E s := by
  have e : ((c : Int)).toNat = c := by omega
  have h9 := hc.hi
  refine chr_of_range hc.lo (by omega) ?_
  rw [e]
  exact h _ _
theorem ccv_ne1 {c : Nat} (h : ccv c = 0) : c ≠ 2381 := by rintro rfl; revert h; decide
theorem ccv_ne2 {c : Nat} (h : ccv c = 0) : c ≠ 769 := by rintro rfl; revert h; decide

local macro_rules | `(tactic| walk_at "call builtin:chr") => `(tactic| (k_here; (with_reducible show wpAny _ _ (call (Value.builtin "chr") [Value.int _ _]) _ _ _); (refine' chr_code ?k1 ?_; (case k1 => with_reducible assumption); k_whole); intro t9 tk9))
local macro_rules | `(tactic| walk_at "call ref") => `(tactic| (k_here; (with_reducible show wpAny _ _ (call (Value.ref _) [Value.str _ _]) _ _ _); with_unfolding_all (refine' Claim.use (name_claim ?h1 ?h2 ?h3) ?k1 ?k2 ?k3 ?k4 ?k5 ?kK ?kd ?ku ?_; (case k1 => k_asm); (case k2 => k_asm); (case k3 => k_asm); (case k4 => k_asm); (case k5 => k_asm); (case kK => first | exact rfl | assumption); (case kd => ktr_room); (case ku => ktr_units); (case h1 => with_reducible assumption); (case h2 => exact ccv_ne1 (by with_reducible assumption)); (case h3 => exact ccv_ne2 (by with_reducible assumption)); k_whole); (intro v9 more9 h9 tk9 hR9 F9 N9; (obtain ⟨hm9, t9, hv9⟩ := hR9); subst hm9; subst hv9; (replace N9 : News _ _ _ _ := N9); (try dsimp only); (try k_fold))))
local macro_rules | `(tactic| walk_at "call ref") => `(tactic| (k_here; (with_reducible show wpAny _ _ (call (Value.ref _) [Value.str _ _]) _ _ _); with_unfolding_all (refine' Claim.use (comb_claim ?h1) ?k1 ?k2 ?k3 ?k4 ?k5 ?kK ?kd ?ku ?_; (case k1 => k_asm); (case k2 => k_asm); (case k3 => k_asm); (case k4 => k_asm); (case k5 => k_asm); (case kK => first | exact rfl | assumption); (case kd => ktr_room); (case ku => ktr_units); (case h1 => with_reducible assumption); k_whole); (intro v9 more9 h9 tk9 hR9 F9 N9; (obtain ⟨hm9, t9, hv9⟩ := hR9); subst hm9; subst hv9; (replace N9 : News _ _ _ _ := N9); (try dsimp only); (try k_fold))))

theorem cc_claim {w : World} {mg mb : Str → Option Value} {c : Nat} {t : Tok} {news : List (Addr × Obj)} (hc : IsCode c) :
    Claim w mg mb 3 136 [.int (c : Int) t] news (Gives (IsIntV (ccv c))) := by
  unfold Claim theProg theLoose
  k_fill
  intro dp un gd cn cs a ccd cl outer A₀ base h₀ L m s Q E B F X N T hk hd1 hd2 hret
  refine wpAny_call ?_
  k_dflt cell_enter
  k_steps
  all_goals first | exact hret _ [] _ _ ⟨rfl, _, rfl⟩ (by k_asm) (by k_asm) | w_report
end Mine

-- FcRange
namespace Mine
open PySem.Calls
section
variable {prog : Program} {w : World} {A : Around} {E : Value → Shared → Prop} {s : Shared} {h₀ : Heap} {m : Str → Option Value} {news : List (Addr × Obj)}

/-- a turn of «for x in range(..)» whose body also stores y -/
def RangeTurn (prog : Program) (w : World) (A : Around) (h₀ : Heap) (env : Env) (body : List Stmt) (Q : Flow → Shared → Prop) (E : Value → Shared → Prop) (s : Shared) (m : Str → Option Value) (x y : Str) (news : List (Addr × Obj)) (a₀ c₀ : Int) (n : Nat) (P : Nat → Prop) : Prop :=
  ∀ (i : Nat) (k : Int) (t : Tok) (h₁ : Heap) (tk₁ : Nat) (vi vj : Option Value) (I : Addr) (own : List (Addr × Obj)), i < n → k = a₀ + (i : Int) * c₀ → P i →
    Fr h₀ env.locals h₁ (fun z => if z = x then some (.int k t) else bindM (bindM m x vi) y vj z) → News h₀ env.locals h₁ (own ++ news) → (∀ p ∈ news, p.1 ∉ [I]) →
    wpAny (model prog w) A (execs body env)
      (LoopStepV h₀ env.locals [I] own (fun m' n' => n' = news ∧ (∃ vi vj, m' = bindM (bindM m x vi) y vj) ∧ P (i + 1)) { s with heap := h₁, toks := tk₁ } (fun v s' => Q (.ret v) s') fun s' => Q .next s') E { s with heap := h₁, toks := tk₁ }

theorem k_rangeLoop {env : Env} {body : List Stmt} {Q : Flow → Shared → Prop} {r : Addr} {a₀ b₀ c₀ : Int} {t₀ u₀ v₀ : Tok} {x : Str} (y : Str) (n : Nat) (P : Nat → Prop) (hh : A.handled = none) (hr : IsRange s.heap r a₀ b₀ c₀ t₀ u₀ v₀) (hsmall : Builtin.Range.small a₀ b₀ c₀ = true)
    (hn : Builtin.Range.rangeSize a₀ b₀ c₀ = (n : Int)) (F : Fr h₀ env.locals s.heap m) (N : News h₀ env.locals s.heap news) (h0 : P 0)
    (turn : RangeTurn prog w A h₀ env body Q E s m x y news a₀ c₀ n P)
    (done : ∀ h' tk vi vj, Fr h₀ env.locals h' (bindM (bindM m x vi) y vj) → News h₀ env.locals h' news → P n → Q .next { s with heap := h', toks := tk }) :
    wpAny (model prog w) A (pyIter (.ref r)) (fun it s₂ => LoopAtV prog w A h₀ env x body Q E it s₂) E s := by
  refine wpAny_pyIter_range hr hsmall ?_
  have hnew : h₀.get? s.heap.objs.size = none := next_is_new F
  have hLI : env.locals ≠ s.heap.objs.size := Nat.ne_of_lt F.ns.lt
  have hoff : ∀ p ∈ news, p.1 ∉ [s.heap.objs.size] := fun p hp hI => absurd (Heap.lt_size (N p hp).1) ((List.mem_singleton.mp hI) ▸ Nat.lt_irrefl _)
  refine ⟨s.heap.objs.size, [s.heap.objs.size], [s.heap.objs.size], n, _, _, m, news, (fun i m' n' => n' = news ∧ (∃ vi vj, m' = bindM (bindM m x vi) y vj) ∧ P i), rfl, (Walks.range hh _ a₀ c₀ n).bound, ?_, ?_, hoff,
    ?_, F.push _, (fun p hp => ⟨Heap.get?_push_of_some _ (N p hp).1, (N p hp).2⟩), ⟨rfl, ⟨m x, m y, ?_⟩, h0⟩, ?_, ?_⟩
  · intro hm; exact hLI (List.mem_singleton.mp hm)
  · intro b hb
    rw [List.mem_singleton.mp hb]; exact hnew
  · show IsRangeIter _ _ _ _ _
    rw [hn]; simpa using Heap.get?_push_size _ rfl
  · rw [← bindM_start m x]; exact bindM_start m y
  · rintro i v m₁ news₁ s₁ own ⟨h, tk, rfl⟩ hi ⟨_, t, rfl⟩ ⟨rfl, ⟨vi, vj, rfl⟩, hP⟩ _ _ _ _ _ F₁ N₁
    exact turn i _ t h tk vi vj s.heap.objs.size own hi rfl hP F₁ N₁ hoff
  · rintro h' tk m' news' F' N' _ ⟨rfl, ⟨vi, vj, rfl⟩, hP⟩
    exact done h' tk vi vj F' N' hP
end
end Mine

-- FcStr
namespace Mine
open PySem.Calls
/-- a label of the law -/
structure Lab (l : List Nat) : Prop where
  all : ∀ c ∈ l, c ∈ codes
  len : l.length ≤ 64

/-- the sign at a place -/
def AtIx (l : List Nat) (k : Int) (c : Nat) : Prop := c = l.getD k.toNat 0

theorem item_lab {l : List Nat} {k : Int} (h0 : 0 ≤ k) (h1 : k < (l.length : Int)) : Txt.item ⟨l.toArray⟩ k = ⟨#[l.getD k.toNat 0]⟩ := by
  have hlt : k.toNat < l.length := by omega
  have e : seqIndex? k l.length = some k.toNat := by
    unfold seqIndex?
    simp
    omega
  unfold Txt.item Txt.charAt Str.length
  simp only [List.size_toArray, e]
  simp [hlt]
section
variable {prog : Program} {w : World} {A : Around} {E : Value → Shared → Prop} {s : Shared} {l : List Nat} {t : Tok}
theorem k_chr {value slice : Expr} {k : Int} {u : Tok} {Q : Value → Shared → Prop} (hl : Lab l) (h0 : 0 ≤ k) (h1 : k < (l.length : Int))
    (h : ∀ (c : Nat) t' tk', AtIx l k c → IsCode c → Q (.str ⟨#[c]⟩ t') { s with toks := tk' })
    (hs : subscripted slice false (.str ⟨l.toArray⟩ t) (.int k u) = operate [.str ⟨l.toArray⟩ t, .int k u] (getItem (.str ⟨l.toArray⟩ t) (.int k u)) := by with_unfolding_all rfl)
    (ht : ∀ r, letTemporaryGo value (.str ⟨l.toArray⟩ t) r = pure () := by intro _; with_unfolding_all rfl) :
    wpAny (model prog w) A (subscriptTail value slice (.str ⟨l.toArray⟩ t) (.int k u)) Q E s := by
  have hlen := hl.len
  have e : (Str.length ⟨l.toArray⟩ : Int) = (l.length : Int) := by unfold Str.length; simp
  refine item_str (fitsSsize_of (N := 9223372036854775808) (by omega) (by omega) (Int.le_refl _)) (by rw [e]; omega) (by rw [e]; omega) (fun _ => ?_) hs ht
  rw [item_lab h0 h1]
  have hlt : k.toNat < l.length := by omega
  refine h _ _ _ rfl (IsCode.of (hl.all _ ?_))
  rw [List.getD_eq_getElem?_getD, List.getElem?_eq_getElem hlt]
  exact List.getElem_mem hlt
theorem k_strlen {Q : Value → Shared → Prop} (hl : Lab l) (h : ∀ t' tk', Q (.int (l.length : Int) t') { s with toks := tk' }) : wpAny (model prog w) A (call (.builtin "len") [.str ⟨l.toArray⟩ t]) Q E s := by
  have hlen := hl.len
  have e : (Str.length ⟨l.toArray⟩ : Int) = (l.length : Int) := by unfold Str.length; simp
  refine SBL.len (by rw [e]; omega) ?_
  rw [e]
  exact h _ _
end
end Mine

-- FcCtxp
namespace Mine
open PySem.Calls

def isT (c : Nat) : Bool := c == 2381 || c == 769
/-- the search to the left of a place -/
def back (l : List Nat) : Nat → Bool
  | 0 => false
  | p + 1 => if isT (l.getD p 0) then back l p else l.getD p 0 == 1576
/-- the search to the right -/
def fwd : List Nat → Bool
  | [] => false
  | c :: r => if isT c then fwd r else (c == 1576 || c == 1575)
/-- what valid_contextj answers -/
def ctxj (l : List Nat) (p : Nat) : Bool :=
  if l.getD p 0 = 8204 then ((decide (0 < p) && ccv (l.getD (p - 1) 0) == 9) || (back l p && fwd (l.drop (p + 1))))
  else if l.getD p 0 = 8205 then (decide (0 < p) && ccv (l.getD (p - 1) 0) == 9) else false

section
variable {l : List Nat} {p i c d : Nat} {k : Int}
def JCut (l : List Nat) (p : Nat) : Prop := ctxj l p = (back l p && fwd (l.drop (p + 1)))
def JCut2 (l : List Nat) (p : Nat) : Prop := ctxj l p = fwd (l.drop (p + 1))
def BackInv (l : List Nat) (p i : Nat) : Prop := back l p = back l (p - i)
def FwdInv (l : List Nat) (p i : Nat) : Prop := fwd (l.drop (p + 1)) = fwd (l.drop (p + 1 + i))
theorem at_nat (h : AtIx l k c) (e : k = (i : Int)) : c = l.getD i 0 := by unfold AtIx at h; rw [h, e]; rfl
theorem j_1 (h1 : AtIx l (p : Int) c) (h2 : (c : Int) = 8204) (h3 : 0 < (p : Int)) (h4 : AtIx l ((p : Int) - 1) d) (h5 : ccv d = 9) : ctxj l p = true := by
  have e1 := at_nat h1 rfl
  have e2 := at_nat (i := p - 1) h4 (by omega)
  have e3 : c = 8204 := by omega
  have e4 : 0 < p := by omega
  unfold ctxj
  rw [← e1, ← e2, if_pos e3, h5]
  simp [e4]
theorem j_2 (h1 : AtIx l (p : Int) c) (h2 : (c : Int) = 8204) (h4 : AtIx l ((p : Int) - 1) d) (h3 : 0 < (p : Int)) (h5 : ccv d ≠ 9) : JCut l p := by
  have e1 := at_nat h1 rfl
  have e2 := at_nat (i := p - 1) h4 (by omega)
  have e3 : c = 8204 := by omega
  unfold JCut ctxj
  rw [← e1, ← e2, if_pos e3, beq_false_of_ne h5]
  simp
theorem j_2' (h1 : AtIx l (p : Int) c) (h2 : (c : Int) = 8204) (h3 : ¬ 0 < (p : Int)) : JCut l p := by
  have e1 := at_nat h1 rfl
  have e3 : c = 8204 := by omega
  have e4 : ¬ 0 < p := by omega
  unfold JCut ctxj
  rw [← e1, if_pos e3]
  simp [e4]
theorem j_3 (h1 : AtIx l (p : Int) c) (h2 : (c : Int) ≠ 8204) (h2' : (c : Int) = 8205) (h3 : 0 < (p : Int)) (h4 : AtIx l ((p : Int) - 1) d) : ctxj l p = (ccv d == 9) := by
  have e1 := at_nat h1 rfl
  have e2 := at_nat (i := p - 1) h4 (by omega)
  have e3 : c ≠ 8204 := by omega
  have e5 : c = 8205 := by omega
  have e4 : 0 < p := by omega
  unfold ctxj
  rw [← e1, ← e2, if_neg e3, if_pos e5]
  simp [e4]
theorem j_4 (h1 : AtIx l (p : Int) c) (h2 : (c : Int) ≠ 8204) (h2' : (c : Int) = 8205) (h3 : ¬ 0 < (p : Int)) : ctxj l p = decide (0 < (p : Int)) := by
  have e1 := at_nat h1 rfl
  have e3 : c ≠ 8204 := by omega
  have e5 : c = 8205 := by omega
  have e4 : ¬ 0 < p := by omega
  unfold ctxj
  rw [← e1, if_neg e3, if_pos e5, decide_eq_false h3]
  simp [e4]
theorem j_5 (h1 : AtIx l (p : Int) c) (h2 : (c : Int) ≠ 8204) (h2' : (c : Int) ≠ 8205) : ctxj l p = false := by
  have e1 := at_nat h1 rfl
  have e3 : c ≠ 8204 := by omega
  have e5 : c ≠ 8205 := by omega
  unfold ctxj
  rw [← e1, if_neg e3, if_neg e5]
theorem isT_no (h : (c == 8205 || c == 1576 || c == 1575 || c == 2381 || c == 769) = false) : isT c = false ∧ (c == 1576) = false ∧ (c == 1575) = false := by
  simp only [Bool.or_eq_false_iff] at h
  unfold isT
  rw [h.1.2, h.2]
  exact ⟨rfl, h.1.1.1.2, h.1.1.2⟩
theorem back_zero : BackInv l p 0 := rfl
theorem back_unf (hi : i < p) (hk : k = (p : Int) - 1 + (i : Int) * -1) (ha : AtIx l k c) : back l (p - i) = if isT c then back l (p - (i + 1)) else c == 1576 := by
  have e1 := at_nat (i := p - (i + 1)) ha (by omega)
  have e : p - i = (p - (i + 1)) + 1 := by omega
  rw [e, e1]; rfl
theorem back_next (hP : BackInv l p i) (hi : i < p) (hk : k = (p : Int) - 1 + (i : Int) * -1) (ha : AtIx l k c) (h : (c == 2381 || c == 769) = true) : BackInv l p (i + 1) := by
  unfold BackInv at hP ⊢
  have e : isT c = true := h
  rw [hP, back_unf hi hk ha, e]; rfl
theorem back_stop (hP : BackInv l p i) (hi : i < p) (hk : k = (p : Int) - 1 + (i : Int) * -1) (ha : AtIx l k c) (h : isT c = false) : back l p = (c == 1576) := by
  unfold BackInv at hP
  rw [hP, back_unf hi hk ha, h]; rfl
theorem back_yes (hJ : JCut l p) (hP : BackInv l p i) (hi : i < p) (hk : k = (p : Int) - 1 + (i : Int) * -1) (ha : AtIx l k c) (h : (c == 1576) = true) : JCut2 l p := by
  have e : c = 1576 := beq_iff_eq.mp h
  unfold JCut at hJ; unfold JCut2
  rw [hJ, back_stop hP hi hk ha (by rw [e]; rfl), h, Bool.true_and]
theorem back_noC (hJ : JCut l p) (hP : BackInv l p i) (hi : i < p) (hk : k = (p : Int) - 1 + (i : Int) * -1) (ha : AtIx l k c) (h : (c == 8205) = true) : ctxj l p = false := by
  have e : c = 8205 := beq_iff_eq.mp h
  unfold JCut at hJ
  rw [hJ, back_stop hP hi hk ha (by rw [e]; rfl), e]; rfl
theorem back_noR (hJ : JCut l p) (hP : BackInv l p i) (hi : i < p) (hk : k = (p : Int) - 1 + (i : Int) * -1) (ha : AtIx l k c) (h : (c == 1575) = true) : ctxj l p = false := by
  have e : c = 1575 := beq_iff_eq.mp h
  unfold JCut at hJ
  rw [hJ, back_stop hP hi hk ha (by rw [e]; rfl), e]; rfl
theorem back_no (hJ : JCut l p) (hP : BackInv l p i) (hi : i < p) (hk : k = (p : Int) - 1 + (i : Int) * -1) (ha : AtIx l k c) (h : (c == 8205 || c == 1576 || c == 1575 || c == 2381 || c == 769) = false) : ctxj l p = false := by
  have e := isT_no h
  unfold JCut at hJ
  rw [hJ, back_stop hP hi hk ha e.1, e.2.1, Bool.false_and]
theorem back_done (hJ : JCut l p) (hP : BackInv l p p) : ctxj l p = false := by
  unfold BackInv at hP
  unfold JCut at hJ
  rw [hJ, hP, Nat.sub_self]; rfl
theorem fwd_zero : FwdInv l p 0 := rfl
theorem fwd_unf (hi : p + 1 + i < l.length) (hk : k = (p : Int) + 1 + (i : Int) * 1) (ha : AtIx l k c) : fwd (l.drop (p + 1 + i)) = if isT c then fwd (l.drop (p + 1 + (i + 1))) else (c == 1576 || c == 1575) := by
  have e1 := at_nat (i := p + 1 + i) ha (by omega)
  rw [List.drop_eq_getElem_cons hi]
  have e2 : l[p + 1 + i] = c := by rw [e1, List.getD_eq_getElem?_getD, List.getElem?_eq_getElem hi]; rfl
  rw [e2]; rfl
theorem fwd_next (hP : FwdInv l p i) (hi : p + 1 + i < l.length) (hk : k = (p : Int) + 1 + (i : Int) * 1) (ha : AtIx l k c) (h : (c == 2381 || c == 769) = true) : FwdInv l p (i + 1) := by
  unfold FwdInv at hP ⊢
  have e : isT c = true := h
  rw [hP, fwd_unf hi hk ha, e]; rfl
theorem fwd_stop (hJ : JCut2 l p) (hP : FwdInv l p i) (hi : p + 1 + i < l.length) (hk : k = (p : Int) + 1 + (i : Int) * 1) (ha : AtIx l k c) (h : isT c = false) : ctxj l p = (c == 1576 || c == 1575) := by
  unfold FwdInv at hP
  unfold JCut2 at hJ
  rw [hJ, hP, fwd_unf hi hk ha, h]; rfl
theorem fwd_C (hJ : JCut2 l p) (hP : FwdInv l p i) (hi : p + 1 + i < l.length) (hk : k = (p : Int) + 1 + (i : Int) * 1) (ha : AtIx l k c) (h : (c == 8205) = true) : ctxj l p = false := by
  have e : c = 8205 := beq_iff_eq.mp h
  rw [fwd_stop hJ hP hi hk ha (by rw [e]; rfl), e]; rfl
theorem fwd_D (hJ : JCut2 l p) (hP : FwdInv l p i) (hi : p + 1 + i < l.length) (hk : k = (p : Int) + 1 + (i : Int) * 1) (ha : AtIx l k c) (h : (c == 1576) = true) : ctxj l p = true := by
  have e : c = 1576 := beq_iff_eq.mp h
  rw [fwd_stop hJ hP hi hk ha (by rw [e]; rfl), e]; rfl
theorem fwd_R (hJ : JCut2 l p) (hP : FwdInv l p i) (hi : p + 1 + i < l.length) (hk : k = (p : Int) + 1 + (i : Int) * 1) (ha : AtIx l k c) (h : (c == 1575) = true) : ctxj l p = true := by
  have e : c = 1575 := beq_iff_eq.mp h
  rw [fwd_stop hJ hP hi hk ha (by rw [e]; rfl), e]; rfl
theorem fwd_no (hJ : JCut2 l p) (hP : FwdInv l p i) (hi : p + 1 + i < l.length) (hk : k = (p : Int) + 1 + (i : Int) * 1) (ha : AtIx l k c) (h : (c == 8205 || c == 1576 || c == 1575 || c == 2381 || c == 769) = false) : ctxj l p = false := by
  have e := isT_no h
  rw [fwd_stop hJ hP hi hk ha e.1, e.2.1, e.2.2]; rfl
theorem fwd_done (hJ : JCut2 l p) (hP : FwdInv l p (l.length - (p + 1))) : ctxj l p = false := by
  unfold FwdInv at hP
  unfold JCut2 at hJ
  rw [hJ, hP, List.drop_of_length_le (by omega)]; rfl
theorem range_back (h : p ≤ 64) : Builtin.Range.small ((p : Int) - 1) (-1) (-1) = true ∧ Builtin.Range.rangeSize ((p : Int) - 1) (-1) (-1) = (p : Int) := by
  have e : Builtin.Range.rangeSize ((p : Int) - 1) (-1) (-1) = (p : Int) := by
    unfold Builtin.Range.rangeSize
    simp
    omega
  refine ⟨?_, e⟩
  unfold Builtin.Range.small Builtin.Range.rangeFitsLong
  rw [e]
  simp
  omega
theorem range_fwd (hp : p < l.length) (h : l.length ≤ 64) : Builtin.Range.small ((p : Int) + 1) (l.length : Int) 1 = true ∧ Builtin.Range.rangeSize ((p : Int) + 1) (l.length : Int) 1 = ((l.length - (p + 1) : Nat) : Int) := by
  have e : Builtin.Range.rangeSize ((p : Int) + 1) (l.length : Int) 1 = ((l.length - (p + 1) : Nat) : Int) := by
    unfold Builtin.Range.rangeSize
    simp
    omega
  refine ⟨?_, e⟩
  unfold Builtin.Range.small Builtin.Range.rangeFitsLong
  rw [e]
  simp
  omega
end
end Mine

-- FcIn
namespace Mine
open PySem.Calls
section
variable {prog : Program} {w : World} {A : Around} {E : Value → Shared → Prop} {s : Shared}
theorem eqBool_str_none {x : Str} {t : Tok} {Q : Bool → Shared → Prop} (h : Q false s) : wpAny (model prog w) A (eqBool (.str x t) .none) Q E s := by
  unfold eqBool
  refine wpAny_holding ?_
  have hab : ¬ (Value.str x t == Value.none) = true := by
    intro h
    have := eq_of_beq h
    cases this
  rw [if_neg hab]
  refine wpAny_bind (EqNone.eq_str_none ?_)
  exact wpAny_truthy_bool h
theorem tuple_contains_none {t : Addr} {items : Array Value} {ys : List Str} {P : Fin → Shared → Prop} (ht : IsTup s.heap t items) (hi : StrsAre items.toList ys)
    (h : P (.done (.ret (.bool false))) s) : wpAny (model prog w) A (Builtin.«tuple.__contains__» ⟨[.ref t, .none], []⟩) P E s := by
  show wpAny _ _ (Builtin.Tuple.tupleItemsOf (.ref t) >>= _) _ _ s
  refine wpAny_bind (tupleItemsOf_ ht ?_)
  refine wpAny_bind (forIn_array_ _ (fun rest b s' => b.1 = none ∧ s' = s ∧ ∃ ms, StrsAre rest ms) _ ?_ ?_ items _ ⟨rfl, rfl, ys, hi⟩)
  · rintro y rest b s' ⟨hb, rfl, ms, hm⟩
    cases hm with
    | cons n tk hm' =>
      refine wpAny_bind (eqBool_str_none ?_)
      exact wpAny_pure ⟨rfl, rfl, _, hm'⟩
  · rintro ⟨b1, b2⟩ s' ⟨hb, rfl, ms, hm⟩
    simp only at hb
    subst hb
    exact wpAny_pure h
theorem contains_tuple_none {t : Addr} {items : Array Value} {ys : List Str} {Q : Bool → Shared → Prop} (ht : IsTup s.heap t items) (hi : StrsAre items.toList ys)
    (h : Q false s) : wpAny (model prog w) A (PySem.contains (.ref t) .none) Q E s := by
  unfold PySem.contains
  refine wpAny_holding ?_
  refine wpAny_bind (wpAny_specialOf ht.typeIs slot_tuple_contains.lookup ?_)
  rw [if_neg (by decide)]
  exact wpAny_bind (wpAny_callSpecialUnlessNone?_slot (name := Str.ofString "__contains__") ht.typeIs slot_tuple_contains
    (wpAny_call_entry slot_tuple_contains ht.typeIs entry_tuple_contains (tuple_contains_none ht hi ⟨_, rfl, wpAny_truthy_bool h⟩) (args_tuple_contains _ _)))
theorem in_tuple_none {t : Addr} {items : Array Value} {ys : List Str} {Q : Value → Shared → Prop} (ht : IsTup s.heap t items) (hi : StrsAre items.toList ys)
    (h : Q (.bool false) s) : wpAny (model prog w) A (compareOp .In .none (.ref t)) Q E s := by
  show wpAny _ _ (do return .bool (← PySem.contains (.ref t) .none)) Q E s
  exact wpAny_bind (contains_tuple_none ht hi (wpAny_pure h))

variable {h₀ : Heap} {L : Addr} {m : Str → Option Value} {K : Frag} {dd : Option Addr} {k : Nat} {sl : Array (Option Value)} {r : Addr} {vs : List Value} {ss : List Str} {x : Str} {t : Tok} {Q : Value → Shared → Prop}
theorem k_inStrs (F : Fr h₀ L s.heap m) (X : K.In h₀) (hl : K.lookup r = some ⟨.type "tuple", dd, .seq vs.toArray k, sl⟩) (hi : StrsAre vs ss) (h : Q (.bool (ss.any (· == x))) s) :
    wpAny (model prog w) A (compareOp .In (.str x t) (.ref r)) Q E s := in_tuple_strs (tupK (X.keeps F.keep) hl) hi h
theorem k_inNone (F : Fr h₀ L s.heap m) (X : K.In h₀) (hl : K.lookup r = some ⟨.type "tuple", dd, .seq vs.toArray k, sl⟩) (hi : StrsAre vs ss) (h : Q (.bool false) s) :
    wpAny (model prog w) A (compareOp .In .none (.ref r)) Q E s := in_tuple_none (tupK (X.keeps F.keep) hl) hi h
end
end Mine

-- FcCtxj
namespace Mine
open PySem.Calls
local macro_rules | `(tactic| cell_enter) => `(tactic| (refine' code_defR ?k1 ?k2 ?k3 ?k4 ?k5 ?kA ?kF ?kK ?k6 ?k7 ?k8 ?k9 ?kB ?_ ?c2 ?c3 ?c4 ?c5; (case kA => exact rfl); (case kF => exact rfl); (case kK => assumption); (case k1 => k_asm); (case k2 => k_asm); (case k3 => k_asm); (case k4 => k_asm); (case k5 => k_asm); (case k6 => k_is); (case k7 => k_is); (case k8 => ktr_room); (case k9 => exact BindsTo.of_eq rfl); (case c5 => decide); (case kB => exact locs rfl); (case c2 => exact rfl); (case c3 => exact rfl); (case c4 => exact rfl); k_whole; intro g' L' h' FG' F' N' B' X' T'; (try dsimp only); (try k_lift B'); (try k_fold)))

local macro_rules | `(tactic| walk_at "call builtin:len") => `(tactic| (k_here; (with_reducible show wpAny _ _ (call (Value.builtin "len") [Value.str _ _]) _ _ _); (refine' k_strlen ?k1 ?_; (case k1 => with_reducible assumption); k_whole); intro t9 tk9))
local macro_rules | `(tactic| walk_at "subscriptTail Name Name str int") => `(tactic| (k_here; (with_reducible show wpAny _ _ (subscriptTail _ _ (Value.str _ _) (Value.int _ _)) _ _ _); with_unfolding_all (refine' k_chr ?k1 ?k2 ?k3 ?_ ?k4 ?k5; (case k1 => with_reducible assumption); (case k2 => omega); (case k3 => omega); (case k4 => with_unfolding_all rfl); (case k5 => (intro _; with_unfolding_all rfl)); k_whole); intro c9 t9 tk9 hc9 hi9))
local macro_rules | `(tactic| walk_at "subscriptTail Name BinOp str int") => `(tactic| (k_here; (with_reducible show wpAny _ _ (subscriptTail _ _ (Value.str _ _) (Value.int _ _)) _ _ _); with_unfolding_all (refine' k_chr ?k1 ?k2 ?k3 ?_ ?k4 ?k5; (case k1 => with_reducible assumption); (case k2 => omega); (case k3 => omega); (case k4 => with_unfolding_all rfl); (case k5 => (intro _; with_unfolding_all rfl)); k_whole); intro c9 t9 tk9 hc9 hi9))
local macro_rules | `(tactic| walk_at "call ref") => `(tactic| (k_here; (with_reducible show wpAny _ _ (call (Value.ref _) [Value.int _ _]) _ _ _); with_unfolding_all (refine' Claim.use (cc_claim ?h1) ?k1 ?k2 ?k3 ?k4 ?k5 ?kK ?kd ?ku ?_; (case k1 => k_asm); (case k2 => k_asm); (case k3 => k_asm); (case k4 => k_asm); (case k5 => k_asm); (case kK => first | exact rfl | assumption); (case kd => ktr_room); (case ku => ktr_units); (case h1 => with_reducible assumption); k_whole); (intro v9 more9 h9 tk9 hR9 F9 N9; (obtain ⟨hm9, t9, hv9⟩ := hR9); subst hm9; subst hv9; (replace N9 : News _ _ _ _ := N9); (try dsimp only); (try k_fold))))
local macro_rules | `(tactic| walk_at "call ref") => `(tactic| (k_here; (with_reducible show wpAny _ _ (call (Value.ref _) [Value.int _ _]) _ _ _); with_unfolding_all (refine' Claim.use (jt_claim ?h1) ?k1 ?k2 ?k3 ?k4 ?k5 ?kK ?kd ?ku ?_; (case k1 => k_asm); (case k2 => k_asm); (case k3 => k_asm); (case k4 => k_asm); (case k5 => k_asm); (case kK => first | exact rfl | assumption); (case kd => ktr_room); (case ku => ktr_units); (case h1 => with_reducible assumption); k_whole); (intro v9 more9 h9 tk9 hR9 F9 N9; (obtain ⟨hm9, hv9⟩ := hR9); subst hm9; (replace N9 : News _ _ _ _ := N9); cases hv9 <;> ((try dsimp only); (try k_fold)))))
local macro_rules | `(tactic| walk_at "exec For Name Call") => `(tactic| (k_here; (rename Fr _ _ _ _ => kF'); (with_unfolding_all refine' For_invVF kF' ?k1 ?k2 ?_; (case k1 => exact rfl); (case k2 => exact rfl); k_whole)))
local macro_rules | `(tactic| walk_at "pyIter ref") => `(tactic| (k_here; (with_reducible refine Stopped.go ?_)))

local macro_rules | `(tactic| walk_at "compareOp In str ref") => `(tactic| (k_here; (with_reducible show wpAny _ _ (compareOp CmpOp.In (Value.str _ _) (Value.ref _)) _ _ _); (with_unfolding_all refine' k_inStrs ?k1 ?k2 ?k3 ?k4 ?_; (case k1 => k_asm); (case k2 => k_asm); (case k3 => k_is); (case k4 => kde_strs); k_whole)))
local macro_rules | `(tactic| walk_at "compareOp In none ref") => `(tactic| (k_here; (with_reducible show wpAny _ _ (compareOp CmpOp.In Value.none (Value.ref _)) _ _ _); (with_unfolding_all refine' k_inNone ?k1 ?k2 ?k3 ?k4 ?_; (case k1 => k_asm); (case k2 => k_asm); (case k3 => k_is); (case k4 => kde_strs); k_whole)))
local macro_rules | `(tactic| walk_at "LoopStepV") => `(tactic| (k_here; (first | (with_reducible refine LoopStepV.brk ?_) | (with_reducible refine LoopStepV.ret ?_)); (try dsimp only)))
local macro_rules | `(tactic| k_steps) => `(tactic| repeat' (first | (k_unfold; (try dsimp only)) | walk1 | (dsimp only; walk1) | (leave1; walk_say "STEP leave1"; try dsimp only) | fail "no step"))
theorem ctxj_claim {w : World} {mg mb : Str → Option Value} {l : List Nat} {p : Nat} {t tp : Tok} {news : List (Addr × Obj)} (hl : Lab l) (hp : p < l.length) (hlen : l.length ≤ 64) :
    Claim w mg mb 5 150 [.str ⟨l.toArray⟩ t, .int (p : Int) tp] news (Gives (IsBoolV (ctxj l p))) := by
  unfold Claim theProg theLoose
  k_fill
  intro dp un gd cn cs a ccd cl outer A₀ base h₀ L m s Q E B F X N T hk hd1 hd2 hret
  refine wpAny_call ?_
  k_dflt cell_enter
  k_steps
  · refine hret _ [] _ _ ⟨rfl, ?_⟩ (by k_asm) (by first | k_asm | (refine' cb_drop ?cbN1 ?cbS1; (case cbN1 => assumption); (case cbS1 => (first | kcj_all | (intro p hp; simp only [List.nil_append, List.append_nil] at hp; simp only [List.mem_append, List.mem_cons, List.nil_append, List.append_nil]; simp only [hp, or_true])))))
    exact congrArg Value.bool (j_1 (by assumption) (by assumption) (by assumption) (by assumption) (by assumption)).symm
  · unfold Stopped
    have hrb := range_back (p := p) (by omega)
    have hJ : JCut l p := j_2 (by assumption) (by assumption) (by assumption) (by assumption) (by assumption)
    refine' k_rangeLoop (Str.ofString "joining_type") p (fun i => BackInv l p i) rfl (by assumption) hrb.1 hrb.2 (by k_asm) (by k_asm) back_zero ?_ ?_
    · intro i k tk9 h₁ tk₁ vi vj I own hi hk' hP F' N' off'
      have hk0 : 0 ≤ k := by omega
      have hk1 : k < l.length := by omega
      k_steps
      · refine hret _ [] _ _ ⟨rfl, ?_⟩ (by k_asm) (by first | k_asm | (refine' cb_drop ?cbN2 ?cbS2; (case cbN2 => assumption); (case cbS2 => (first | kcj_all | (intro p hp; simp only [List.nil_append, List.append_nil] at hp; simp only [List.mem_append, List.mem_cons, List.nil_append, List.append_nil]; simp only [hp, or_true])))))
        exact congrArg Value.bool (back_noC hJ hP hi hk' (by assumption) (by assumption)).symm
      · unfold Stopped
        have hrf := range_fwd hp hlen
        have hJ2 : JCut2 l p := back_yes hJ hP hi hk' (by assumption) (by assumption)
        refine' k_rangeLoop (Str.ofString "joining_type") (l.length - (p + 1)) (fun i => FwdInv l p i) rfl (by assumption) hrf.1 hrf.2 (by k_asm) (by k_asm) fwd_zero ?_ ?_
        · intro i2 k2 tk9 h₁ tk₁ vi vj I own hi2 hk2 hP2 F' N' off2
          have hk20 : 0 ≤ k2 := by omega
          have hk21 : k2 < l.length := by omega
          have hi3 : p + 1 + i2 < l.length := by omega
          k_steps
          · refine hret _ [] _ _ ⟨rfl, ?_⟩ (by k_asm) (by first | k_asm | (refine' cb_drop ?cbN3 ?cbS3; (case cbN3 => assumption); (case cbS3 => (first | kcj_all | (intro p hp; simp only [List.nil_append, List.append_nil] at hp; simp only [List.mem_append, List.mem_cons, List.nil_append, List.append_nil]; simp only [hp, or_true])))))
            exact congrArg Value.bool (fwd_C hJ2 hP2 hi3 hk2 (by assumption) (by assumption)).symm
          · refine hret _ [] _ _ ⟨rfl, ?_⟩ (by k_asm) (by first | k_asm | (refine' cb_drop ?cbN4 ?cbS4; (case cbN4 => assumption); (case cbS4 => (first | kcj_all | (intro p hp; simp only [List.nil_append, List.append_nil] at hp; simp only [List.mem_append, List.mem_cons, List.nil_append, List.append_nil]; simp only [hp, or_true])))))
            exact congrArg Value.bool (fwd_D hJ2 hP2 hi3 hk2 (by assumption) (by assumption)).symm
          · refine hret _ [] _ _ ⟨rfl, ?_⟩ (by k_asm) (by first | k_asm | (refine' cb_drop ?cbN5 ?cbS5; (case cbN5 => assumption); (case cbS5 => (first | kcj_all | (intro p hp; simp only [List.nil_append, List.append_nil] at hp; simp only [List.mem_append, List.mem_cons, List.nil_append, List.append_nil]; simp only [hp, or_true])))))
            exact congrArg Value.bool (fwd_R hJ2 hP2 hi3 hk2 (by assumption) (by assumption)).symm
          · exact LoopStepU.intro (by k_asm) (by k_asm) off2 ⟨rfl, ⟨_, _, bind2_find⟩, fwd_next hP2 hi3 hk2 (by assumption) (by assumption)⟩
          · refine hret _ [] _ _ ⟨rfl, ?_⟩ (by k_asm) (by first | k_asm | (refine' cb_drop ?cbN6 ?cbS6; (case cbN6 => assumption); (case cbS6 => (first | kcj_all | (intro p hp; simp only [List.nil_append, List.append_nil] at hp; simp only [List.mem_append, List.mem_cons, List.nil_append, List.append_nil]; simp only [hp, or_true])))))
            exact congrArg Value.bool (fwd_no hJ2 hP2 hi3 hk2 (by assumption) (by assumption)).symm
        · intro h9 tk9 vi vc F9 N9 hP2
          k_steps
          · refine hret _ [] _ _ ⟨rfl, ?_⟩ (by k_asm) (by first | k_asm | (refine' cb_drop ?cbN7 ?cbS7; (case cbN7 => assumption); (case cbS7 => (first | kcj_all | (intro p hp; simp only [List.nil_append, List.append_nil] at hp; simp only [List.mem_append, List.mem_cons, List.nil_append, List.append_nil]; simp only [hp, or_true])))))
            exact congrArg Value.bool (fwd_done hJ2 hP2).symm
      · refine hret _ [] _ _ ⟨rfl, ?_⟩ (by k_asm) (by first | k_asm | (refine' cb_drop ?cbN8 ?cbS8; (case cbN8 => assumption); (case cbS8 => (first | kcj_all | (intro p hp; simp only [List.nil_append, List.append_nil] at hp; simp only [List.mem_append, List.mem_cons, List.nil_append, List.append_nil]; simp only [hp, or_true])))))
        exact congrArg Value.bool (back_noR hJ hP hi hk' (by assumption) (by assumption)).symm
      · exact LoopStepU.intro (by k_asm) (by k_asm) off' ⟨rfl, ⟨_, _, bind2_find⟩, back_next hP hi hk' (by assumption) (by assumption)⟩
      · refine hret _ [] _ _ ⟨rfl, ?_⟩ (by k_asm) (by first | k_asm | (refine' cb_drop ?cbN9 ?cbS9; (case cbN9 => assumption); (case cbS9 => (first | kcj_all | (intro p hp; simp only [List.nil_append, List.append_nil] at hp; simp only [List.mem_append, List.mem_cons, List.nil_append, List.append_nil]; simp only [hp, or_true])))))
        exact congrArg Value.bool (back_no hJ hP hi hk' (by assumption) (by assumption)).symm
    · intro h9 tk9 vi vc F9 N9 hP
      k_steps
      · refine hret _ [] _ _ ⟨rfl, ?_⟩ (by k_asm) (by first | k_asm | (refine' cb_drop ?cbN10 ?cbS10; (case cbN10 => assumption); (case cbS10 => (first | kcj_all | (intro p hp; simp only [List.nil_append, List.append_nil] at hp; simp only [List.mem_append, List.mem_cons, List.nil_append, List.append_nil]; simp only [hp, or_true])))))
        exact congrArg Value.bool (back_done hJ hP).symm
  · unfold Stopped
    have hrb := range_back (p := p) (by omega)
    have hJ : JCut l p := j_2' (by assumption) (by assumption) (by assumption)
    refine' k_rangeLoop (Str.ofString "joining_type") p (fun i => BackInv l p i) rfl (by assumption) hrb.1 hrb.2 (by k_asm) (by k_asm) back_zero ?_ ?_
    · intro i k tk9 h₁ tk₁ vi vj I own hi
      exact absurd hi (by omega)
    · intro h9 tk9 vi vc F9 N9 hP
      k_steps
      · refine hret _ [] _ _ ⟨rfl, ?_⟩ (by k_asm) (by first | k_asm | (refine' cb_drop ?cbN11 ?cbS11; (case cbN11 => assumption); (case cbS11 => (first | kcj_all | (intro p hp; simp only [List.nil_append, List.append_nil] at hp; simp only [List.mem_append, List.mem_cons, List.nil_append, List.append_nil]; simp only [hp, or_true])))))
        exact congrArg Value.bool (back_done hJ hP).symm
  · refine hret _ [] _ _ ⟨rfl, ?_⟩ (by k_asm) (by first | k_asm | (refine' cb_drop ?cbN12 ?cbS12; (case cbN12 => assumption); (case cbS12 => (first | kcj_all | (intro p hp; simp only [List.nil_append, List.append_nil] at hp; simp only [List.mem_append, List.mem_cons, List.nil_append, List.append_nil]; simp only [hp, or_true])))))
    exact congrArg Value.bool (j_3 (by assumption) (by assumption) (by assumption) (by assumption) (by assumption)).symm
  · refine hret _ [] _ _ ⟨rfl, ?_⟩ (by k_asm) (by first | k_asm | (refine' cb_drop ?cbN13 ?cbS13; (case cbN13 => assumption); (case cbS13 => (first | kcj_all | (intro p hp; simp only [List.nil_append, List.append_nil] at hp; simp only [List.mem_append, List.mem_cons, List.nil_append, List.append_nil]; simp only [hp, or_true])))))
    exact congrArg Value.bool (j_4 (by assumption) (by assumption) (by assumption) (by assumption)).symm
  · refine hret _ [] _ _ ⟨rfl, ?_⟩ (by k_asm) (by first | k_asm | (refine' cb_drop ?cbN14 ?cbS14; (case cbN14 => assumption); (case cbS14 => (first | kcj_all | (intro p hp; simp only [List.nil_append, List.append_nil] at hp; simp only [List.mem_append, List.mem_cons, List.nil_append, List.append_nil]; simp only [hp, or_true])))))
    exact congrArg Value.bool (j_5 (by assumption) (by assumption) (by assumption)).symm
end Mine

-- FcGen
namespace Mine
open PySem.Calls
theorem code_is {h₀ h : Heap} {c P : Addr} {ps : Array Value} (H : CodeHd h₀ c P) (hk : ∀ b o, h₀.get? b = some o → h.get? b = some o) (hP : h.get? P = some (tabObj ps)) (htr : TriplesOk ps.toList) : h.IsCode c P ps ∧ h.TableAt c P ps :=
  ⟨(H.keeps hk).code hP htr, (H.keeps hk).tab hP⟩

/-- the ledger once the table at P holds ps -/
def led (P : Addr) (ps : Array Value) (ns : List (Addr × Obj)) : List (Addr × Obj) := (P, tabObj ps) :: ns.filter (fun p => p.1 != P)
theorem led_off {P : Addr} {ps : Array Value} {ns : List (Addr × Obj)} {p : Addr × Obj} (hp : p ∈ ns) (h : p.1 ≠ P) : p ∈ led P ps ns := .tail _ (List.mem_filter.mpr ⟨hp, by simpa using h⟩)
theorem led_news {h₀ h h' : Heap} {L P : Addr} {ps ps' : Array Value} {ns : List (Addr × Obj)} (N : News h₀ L h ns) (hin : (P, tabObj ps) ∈ ns) (hk : ∀ b o, b ≠ P → h.get? b = some o → h'.get? b = some o) (hP : h'.get? P = some (tabObj ps')) : News h₀ L h' (led P ps' ns) := by
  intro p hp
  rcases List.mem_cons.mp hp with rfl | hp
  · exact ⟨hP, (N _ hin).2.1, (N _ hin).2.2⟩
  · obtain ⟨hm, hne⟩ := List.mem_filter.mp hp
    have hne' : p.1 ≠ P := by simpa using hne
    exact ⟨hk _ _ hne' (N p hm).1, (N p hm).2⟩
theorem news_moved {h₀ h h' : Heap} {L : Addr} {ns : List (Addr × Obj)} (N : News h₀ L h ns) (hk : ∀ p ∈ ns, ∀ o, h.get? p.1 = some o → h'.get? p.1 = some o) : News h₀ L h' ns := fun p hp => ⟨hk p hp _ (N p hp).1, (N p hp).2⟩

theorem any_rangeO {β : Type} (B : List β) (q : β → Bool) : (List.range B.length).any (fun j => (B[j]?.map q).getD false) = B.any q := by
  rw [← any_rangeD B q]
  congr 1
  funext j
  cases B[j]? <;> rfl
section
variable {prog : Program} {w : World} {A : Around} {E : Value → Shared → Prop} {s : Shared} {h₀ : Heap} {c P L : Addr} {ps : Array Value} {m : Str → Option Value} {ns : List (Addr × Obj)}

theorem k_genexp {env : Env} {elt iter : Expr} {x : Str} {px : Pos} {scope : Scope} {cl : List (Str × Addr)} {pos : Pos} {Q : Value → Shared → Prop} {y : Str} {t : Tok} {q : Str → Bool}
    (F : Fr h₀ L s.heap m) (N : News h₀ L s.heap ns) (hin : (P, tabObj ps) ∈ ns) (G : AllBare s.gens) (hlim₀ : h₀.NoLimit) (hM : ∃ mg bm ob, BMod h₀ env.globals mg bm ob) (H : CodeHd h₀ c P) (htr : TriplesOk ps.toList) (hPs : P ≠ cStatics)
    (hcode : env.code = .ref c)
    (hh : A.handled = none) (hco : scope.isCoroutine = false) (hclos : closureFor scope env = pure cl) (hcell : ∀ y ∈ scope.names, y.2 ≠ .cell) (h0 : scope.names.lookup (".0" : Str) = some NameKind.local)
    (hx : scope.names.lookup x = some .local) (hkind : scope.kind = .function) (hroom : A.depth < recursionLimit)
    (hiter : wpAny (model prog w) A (eval iter env) (fun xv s₁ => xv = .str y t ∧ s₁ = s) E s)
    (helt : ∀ (code : Value) (C : Addr) (A' : Around) (E' : Value → Shared → Prop) (c₁ : Nat) (tk : Tok) (u : Shared) (m₂ : Str → Option Value), A'.handled = none → A'.depth ≤ A.depth + 1 → A'.units ≤ A.units + 8 → c₁ ∈ y.cps.toList → Fr h₀ C u.heap m₂ → m₂ x = some (.str ⟨#[c₁]⟩ tk) →
      wpAny (model prog w) A' (eval elt (genEnv scope cl C code builtinsNs env)) (fun r s₃ => r = .bool (q ⟨#[c₁]⟩) ∧ Keeps u s₃) E' u)
    (h : ∀ (a : Addr) (h₅ : Heap) (tk : Nat) (gs : Array GenState) (ps' : Array Value), Fr h₀ L h₅ m → News h₀ L h₅ (led P ps' ns) → TriplesOk ps'.toList → AllBare gs →
      (∀ (Q' E' : Value → Shared → Prop), (∀ (h₆ : Heap) (tk₆ : Nat) (gs₆ : Array GenState), Fr h₀ L h₆ m → News h₀ L h₆ (led P ps' ns) → AllBare gs₆ → Q' (.bool ((signs y).any q)) { s with heap := h₆, toks := tk₆, gens := gs₆ }) →
        wpAny (model prog w) A (call (.builtin "any") [.ref a]) Q' E' { s with heap := h₅, toks := tk, gens := gs }) →
      Q (.ref a) { s with heap := h₅, toks := tk, gens := gs })
    (hs : ∀ x, genFold iter env x = pure x) :
    wpAny (model prog w) A (eval (.GeneratorExp elt [⟨.Name x px, iter, [], 0⟩] scope pos) env) Q E s := by
  obtain ⟨mg, bm, ob, M⟩ := hM
  refine wpAny_GeneratorExp_walksQD hh hco hclos hcell h0 hx hkind hroom (wpAny_mono hiter (fun xv s₁ e => ?_) fun _ _ e => e) hs
  obtain ⟨rfl, rfl⟩ := e
  refine wpAny_pyIter_str fun o St W hst => ?_
  have hlim : s₁.heap.NoLimit := hlim₀.keeps F.keep
  have hlt : ∀ b o', s₁.heap.get? b = some o' → b < s₁.heap.objs.size := fun b o' e => Heap.lt_size e
  have hPget : s₁.heap.get? P = some (tabObj ps) := (N _ hin).1
  have hP0 : h₀.get? P = none := (N _ hin).2.2
  have hLP : P ≠ L := (N _ hin).2.1
  have hLlt : L < s₁.heap.objs.size := F.ns.lt
  have hst2 : cStatics < s₁.heap.objs.size := let ⟨_, hn, _⟩ := hlim; hn.lt
  have rest : ∀ (code : Value) (h₃ : Heap) (tk₃ : Nat) (ps' : Array Value), Heap.ExtBut P (s₁.heap.push o) h₃ → (s₁.heap.push o).objs.size ≤ h₃.objs.size → h₃.get? P = some (tabObj ps') → TriplesOk ps'.toList →
      wpAny (model prog w) A (builtinsFor env.globals env.builtins) (fun bi s₄ =>
        ∃ I fp wr n₀ Pp St₀ pz Fq, Value.ref s₁.heap.objs.size = .ref I ∧ (∀ A' : Around, A'.handled = none → Walks prog w A' I fp wr n₀ Pp St₀) ∧ St₀ 0 s₄.heap ∧ (∀ b ∈ fp, b < s₄.heap.objs.size) ∧ s₄.heap.NoLimit ∧ cStatics ∉ wr ∧
          (∀ href : Heap, (∀ b o, s₄.heap.get? b = some o → href.get? b = some o) →
            QuietGenD prog w (genEnv scope cl s₄.heap.objs.size code bi env) x [] elt (List.range s₄.heap.objs.size) wr Pp pz Fq href (A.depth + 1) (A.units + 8)) ∧
          (∀ a h₅ tk gs, gs.bare = true → s₄.heap.objs.size < a → h₅.objs.size = a + 1 → (∀ b o, s₄.heap.get? b = some o → h₅.get? b = some o) →
            WalksS prog w A.in4 a (a :: s₄.heap.objs.size :: List.range s₄.heap.objs.size) (s₄.heap.objs.size :: wr) (GenOnlyQ s₄.gens.size) (passing pz n₀ 0).length
              (fun j y => ∃ i, (passing pz n₀ 0)[j]? = some i ∧ Fq i y) (GenAt prog w A.in4 a s₄.gens.size s₄.heap.objs.size (List.range s₄.heap.objs.size) wr pz n₀ Fq) →
            GenAt prog w A.in4 a s₄.gens.size s₄.heap.objs.size (List.range s₄.heap.objs.size) wr pz n₀ Fq 0 { s₄ with gens := s₄.gens.push gs, toks := tk, heap := h₅ } →
            Q (.ref a) { s₄ with gens := s₄.gens.push gs, toks := tk, heap := h₅ })) E { s₁ with heap := h₃, toks := tk₃ } := by
    intro code h₃ tk₃ ps' hx₃ hsz hP₃ htr₃
    have hsz0 : s₁.heap.objs.size + 1 ≤ h₃.objs.size := by rw [← Heap.size_push s₁.heap o]; exact hsz
    have up : ∀ b o', b ≠ P → s₁.heap.get? b = some o' → h₃.get? b = some o' := fun b o' hb e => hx₃ b o' hb (Heap.get?_push_of_some _ e)
    have F₃ : Fr h₀ L h₃ m := ⟨by
        obtain ⟨oL, es, ep, e1, r⟩ := F.ns
        exact ⟨oL, es, ep, up L oL hLP.symm e1, r⟩, fun b o' e => up b o' (fun z => by rw [z, hP0] at e; cases e) (F.keep b o' e), F.above⟩
    have M₃ : BMod h₃ env.globals mg bm ob := M.keeps F₃.keep
    have hl₃ : h₃.NoLimit := hlim₀.keeps F₃.keep
    refine wpAny_builtinsFor M₃.ns M₃.name M₃.ne M₃.obj M₃.cls M₃.dict M₃.data ?_
    refine ⟨s₁.heap.objs.size, [s₁.heap.objs.size], [s₁.heap.objs.size], y.cps.size, SignAt y, St, fun _ => true, fun i r => ∃ b, (signs y)[i]? = some b ∧ r = .bool (q b), rfl, W, ?_, ?_, hl₃, ?_, ?_, ?_⟩
    · refine (W A hh).frame _ _ _ hst fun b hb o' e => hx₃ b o' ?_ e
      rw [List.mem_singleton.mp hb]
      exact Ne.symm (Nat.ne_of_lt (hlt _ _ hPget))
    · intro b hb
      rw [List.mem_singleton.mp hb]
      exact hsz0
    · intro hm
      exact absurd (List.mem_singleton.mp hm) (Nat.ne_of_lt hst2)
    · intro href hhref
      have inB : ∀ (u : Shared) m₂, u.heap.Ns h₃.objs.size m₂ → (∀ b ∈ List.range h₃.objs.size, b ∉ [s₁.heap.objs.size] → ∀ o', href.get? b = some o' → u.heap.get? b = some o') → Fr h₀ h₃.objs.size u.heap m₂ := fun u m₂ hn hkp =>
        ⟨hn, fun b o' e => hkp b (List.mem_range.mpr (Heap.lt_size (F₃.keep b o' e))) (fun hm => by
            have := Heap.lt_size (F.keep b o' e)
            rw [List.mem_singleton.mp hm] at this
            exact Nat.lt_irrefl _ this) o' (hhref b o' (F₃.keep b o' e)), Nat.le_trans F₃.above (Nat.le_of_lt F₃.ns.lt)⟩
      refine ⟨fun A' E' i v u m₂ hA hD hU hP hn hm hkp => ?_, fun A' E' i v u m₂ hA hD hU hP hp hn hm hkp => ?_⟩
      · exact wpAny_pure ⟨rfl, u.heap, u.toks, rfl, fun _ _ e => e⟩
      · obtain ⟨c₁, tk, hc, rfl⟩ := hP
        refine wpAny_mono (helt code _ A' E' c₁ tk u m₂ hA hD hU ?_ (inB u m₂ hn hkp) hm) (fun r s₃ z => ⟨⟨_, signs_at hc, z.1⟩, z.2⟩) fun _ _ e => e
        exact List.mem_of_getElem? (i := i) (by simpa using hc)
    · intro a h₅ tk gs hgb hag hsz₅ hk₅ W5 hat
      have F₅ : Fr h₀ L h₅ m := F₃.keeps hk₅
      have N₅ : News h₀ L h₅ (led P ps' ns) := led_news N hin (fun b o' hb e => hk₅ b o' (up b o' hb e)) (hk₅ _ _ hP₃)
      refine h a h₅ tk _ ps' F₅ N₅ htr₃ (G.push hgb) fun Q' E' hQ' => ?_
      have W6 := W5.in4_1
      refine call_any_walkS (W6.self 0 _ _ _ hat ⟨a, _, _, _, _, _, _, (fun j => ((signs y)[j]?.map q).getD false), rfl, W6, hat, ?_, fun s' hm => ?_⟩)
      · intro j v u Q2 E2 hv hQ2
        obtain ⟨i, hij, b, hb, rfl⟩ := hv
        have hi : i = j := by
          have hp : passing (fun _ => true) y.cps.size 0 = List.range y.cps.size := by simp [passing]
          rw [hp] at hij
          obtain ⟨h1, h2⟩ := List.getElem?_eq_some_iff.mp hij
          simpa using h2.symm
        subst hi
        simp only [hb, Option.map_some, Option.getD_some] at hQ2
        exact wpAny_truthy_bool hQ2
      · have hlen : (passing (fun _ => true) y.cps.size 0).length = (signs y).length := by
          have e1 : passing (fun _ => true) y.cps.size 0 = List.range y.cps.size := by simp [passing]
          rw [signs_length, e1, List.length_range]
          rfl
        have hany : ((List.range (passing (fun _ => true) y.cps.size 0).length).any fun j => ((signs y)[j]?.map q).getD false) = (signs y).any q := by
          rw [hlen]
          exact any_rangeO (signs y) q
        rw [hany]
        have hwr : ∀ b ∈ ((h₃.objs.size :: [s₁.heap.objs.size]) : List Addr), s₁.heap.objs.size ≤ b := by
          intro b hb
          rcases List.mem_cons.mp hb with rfl | hb
          · exact Nat.le_of_lt hsz0
          · rw [List.mem_singleton.mp hb]; exact Nat.le_refl _
        have F₆ : Fr h₀ L s'.heap m := F₅.moved hm fun b hb => Nat.lt_of_lt_of_le hLlt (hwr b hb)
        have N₆ : News h₀ L s'.heap (led P ps' ns) := news_moved N₅ fun p hp o' e => hm.heap _ _ (fun hmem => by
          have h1 := hwr _ hmem
          have h2 : p.1 < s₁.heap.objs.size := by
            rcases List.mem_cons.mp hp with rfl | hp
            · exact hlt _ _ hPget
            · exact hlt _ _ (N p (List.mem_filter.mp hp).1).1
          exact absurd h2 (Nat.not_lt.mpr h1)) e
        have e : s' = { s₁ with heap := s'.heap, toks := s'.toks, gens := s'.gens } := by
          have h1 := hm.drawn
          have h2 := hm.os
          obtain ⟨hp, g, d, tk', os⟩ := s'
          simp only at h1 h2
          subst h1 h2
          rfl
        rw [e]
        exact hQ' _ _ _ F₆ N₆ ((G.push hgb).movedS hm)
  refine ⟨hlim.push _, ?_⟩
  have H1 := code_is H (h := s₁.heap.push o) (ps := ps) (fun b o' e => Heap.get?_push_of_some _ (F.keep b o' e)) (Heap.get?_push_of_some _ hPget) htr
  cases hf : codeAmong pos ps.toList with
  | none =>
    refine wpAny_genexprCodeX hcode H1.1 H1.2 hf fun c' h₃ tk₃ hx₃ hge hlt₃ hcode₃ _ htab₃ _ => ?_
    refine rest _ h₃ tk₃ _ hx₃ (Nat.le_trans hge (Nat.le_of_lt hlt₃)) htab₃.2 ?_
    have : (ps ++ #[rawInt pos.line, rawInt pos.col, Value.ref c']).toList = ps.toList ++ [rawInt pos.line, rawInt pos.col, .ref c'] := by simp
    rw [this]
    exact TriplesOk_snoc _ _ _ _ htr
  | some c' =>
    refine wpAny_genexprCode_hit hcode H1.1 hf ?_
    exact rest _ _ _ ps (fun _ _ _ e => e) (Nat.le_refl _) (Heap.get?_push_of_some _ hPget) htr
end
end Mine

-- FcTxt
namespace Mine
open PySem.Calls
section
variable {prog : Program} {w : World} {A : Around} {E : Value → Shared → Prop} {s : Shared} {h₀ : Heap} {m : Str → Option Value} {news : List (Addr × Obj)}
/-- a turn of «for x in text», whose body stores nothing else -/
def TextTurn (prog : Program) (w : World) (A : Around) (h₀ : Heap) (env : Env) (body : List Stmt) (Q : Flow → Shared → Prop) (E : Value → Shared → Prop) (s : Shared) (m : Str → Option Value) (x : Str) (news : List (Addr × Obj)) (l : List Nat) (P : Nat → Prop) : Prop :=
  ∀ (i : Nat) (c : Nat) (t : Tok) (h₁ : Heap) (tk₁ : Nat) (vi : Option Value) (I : Addr) (own : List (Addr × Obj)), l[i]? = some c → P i →
    Fr h₀ env.locals h₁ (fun z => if z = x then some (.str ⟨#[c]⟩ t) else bindM m x vi z) → News h₀ env.locals h₁ (own ++ news) → (∀ p ∈ news, p.1 ∉ [I]) →
    wpAny (model prog w) A (execs body env)
      (LoopStepV h₀ env.locals [I] own (fun m' n' => n' = news ∧ (∃ vi, m' = bindM m x vi) ∧ P (i + 1)) { s with heap := h₁, toks := tk₁ } (fun v s' => Q (.ret v) s') fun s' => Q .next s') E { s with heap := h₁, toks := tk₁ }

theorem k_textLoop {env : Env} {body : List Stmt} {Q : Flow → Shared → Prop} {l : List Nat} {t : Tok} {x : Str} (P : Nat → Prop) (hh : A.handled = none) (F : Fr h₀ env.locals s.heap m) (N : News h₀ env.locals s.heap news) (h0 : P 0)
    (turn : TextTurn prog w A h₀ env body Q E s m x news l P)
    (done : ∀ h' tk vi, Fr h₀ env.locals h' (bindM m x vi) → News h₀ env.locals h' news → P l.length → Q .next { s with heap := h', toks := tk }) :
    wpAny (model prog w) A (pyIter (.str ⟨l.toArray⟩ t)) (fun it s₂ => LoopAtV prog w A h₀ env x body Q E it s₂) E s := by
  refine wpAny_pyIter_str fun o St W hst => ?_
  have hnew : h₀.get? s.heap.objs.size = none := next_is_new F
  have hLI : env.locals ≠ s.heap.objs.size := Nat.ne_of_lt F.ns.lt
  have hoff : ∀ p ∈ news, p.1 ∉ [s.heap.objs.size] := fun p hp hI => absurd (Heap.lt_size (N p hp).1) ((List.mem_singleton.mp hI) ▸ Nat.lt_irrefl _)
  have hsz : (⟨l.toArray⟩ : Str).cps.size = l.length := by simp
  refine ⟨s.heap.objs.size, [s.heap.objs.size], [s.heap.objs.size], l.length, _, _, m, news, (fun i m' n' => n' = news ∧ (∃ vi, m' = bindM m x vi) ∧ P i), rfl, (hsz ▸ W A hh).bound, ?_, ?_, hoff,
    hst, F.push _, (fun p hp => ⟨Heap.get?_push_of_some _ (N p hp).1, (N p hp).2⟩), ⟨rfl, ⟨m x, bindM_start m x⟩, h0⟩, ?_, ?_⟩
  · intro hm; exact hLI (List.mem_singleton.mp hm)
  · intro b hb
    rw [List.mem_singleton.mp hb]; exact hnew
  · rintro i v m₁ news₁ s₁ own ⟨h, tk, rfl⟩ hi hv ⟨rfl, ⟨vi, rfl⟩, hP⟩ _ _ _ _ _ F₁ N₁
    obtain ⟨_, c, t, hc, rfl⟩ := hv
    exact turn i c t h tk vi s.heap.objs.size own (by simpa using hc) hP F₁ N₁ hoff
  · rintro h' tk m' news' F' N' _ ⟨rfl, ⟨vi, rfl⟩, hP⟩
    exact done h' tk vi F' N' hP
end
end Mine

-- FcCtxq
namespace Mine
open PySem.Calls
def hkh (c : Nat) : Bool := c == 12363 || (c == 12459 || c == 19990)
def heb (c : Nat) : Bool := c == 1488 || (c == 1523 || c == 1524)
def digA (c : Nat) : Bool := decide (1632 ≤ c) && decide (c ≤ 1641)
def digX (c : Nat) : Bool := decide (1776 ≤ c) && decide (c ≤ 1785)
/-- what valid_contexto answers -/
def ctxo (l : List Nat) (p : Nat) : Bool :=
  if l.getD p 0 = 183 then decide (0 < p) && (decide (p + 1 < l.length) && (l.getD (p - 1) 0 == 108 && l.getD (p + 1) 0 == 108))
  else if l.getD p 0 = 885 then decide (p + 1 < l.length) && (l.getD (p + 1) 0 == 945 || l.getD (p + 1) 0 == 885)
  else if l.getD p 0 = 1523 ∨ l.getD p 0 = 1524 then decide (0 < p) && heb (l.getD (p - 1) 0)
  else if l.getD p 0 = 12539 then l.any hkh
  else if digA (l.getD p 0) = true then !(l.any digX)
  else if digX (l.getD p 0) = true then !(l.any digA)
  else false
section
variable {l : List Nat} {p c d f : Nat}
theorem int_beq (a b : Nat) : ((a : Int) == (b : Int)) = (a == b) := by
  rw [Bool.eq_iff_iff, beq_iff_eq, beq_iff_eq]; omega
theorem o_1 (h1 : AtIx l (p : Int) c) (e : (c : Int) = 183) (h2 : 0 < (p : Int)) (h3 : (p : Int) < (l.length : Int) - 1) (ha : AtIx l ((p : Int) - 1) d) (h4 : (d : Int) = 108) (hb : AtIx l ((p : Int) + 1) f) : ctxo l p = ((f : Int) == 108) := by
  have e1 := at_nat h1 rfl
  have e2 := at_nat (i := p - 1) ha (by omega)
  have e3 := at_nat (i := p + 1) hb (by omega)
  have e4 : d = 108 := by omega
  have e5 : 0 < p := by omega
  have e6 : p + 1 < l.length := by omega
  unfold ctxo
  rw [← e1, ← e2, ← e3, if_pos (by omega), e4]
  rw [show (108 : Int) = ((108 : Nat) : Int) from rfl, int_beq]
  simp [e5, e6]
theorem o_2 (h1 : AtIx l (p : Int) c) (e : (c : Int) = 183) (h2 : 0 < (p : Int)) (ha : AtIx l ((p : Int) - 1) d) (h4 : (d : Int) ≠ 108) : ctxo l p = ((d : Int) == 108) := by
  have e1 := at_nat h1 rfl
  have e2 := at_nat (i := p - 1) ha (by omega)
  have e4 : (d == 108) = false := beq_false_of_ne (by omega)
  unfold ctxo
  rw [← e1, ← e2, if_pos (by omega), show (108 : Int) = ((108 : Nat) : Int) from rfl, int_beq, e4]
  simp
theorem o_3 (h1 : AtIx l (p : Int) c) (e : (c : Int) = 183) (h3 : ¬ (p : Int) < (l.length : Int) - 1) : ctxo l p = decide ((p : Int) < (l.length : Int) - 1) := by
  have e1 := at_nat h1 rfl
  have e6 : ¬ p + 1 < l.length := by omega
  unfold ctxo
  rw [← e1, if_pos (by omega), decide_eq_false e6, decide_eq_false h3]
  simp
theorem o_4 (h1 : AtIx l (p : Int) c) (e : (c : Int) = 183) (h2 : ¬ 0 < (p : Int)) : ctxo l p = decide (0 < (p : Int)) := by
  have e1 := at_nat h1 rfl
  have e6 : ¬ 0 < p := by omega
  unfold ctxo
  rw [← e1, if_pos (by omega), decide_eq_false e6, decide_eq_false h2]
  simp
theorem o_5 (h1 : AtIx l (p : Int) c) (e : (c : Int) = 885) (h3 : (p : Int) < (l.length : Int) - 1) (hb : AtIx l ((p : Int) + 1) f) : ctxo l p = (f == 945 || f == 885) := by
  have e1 := at_nat h1 rfl
  have e3 := at_nat (i := p + 1) hb (by omega)
  have e6 : p + 1 < l.length := by omega
  unfold ctxo
  rw [← e1, ← e3, if_neg (by omega), if_pos (by omega)]
  simp [e6]
theorem o_6 (h1 : AtIx l (p : Int) c) (e : (c : Int) = 885) (h3 : ¬ (p : Int) < (l.length : Int) - 1) : ctxo l p = false := by
  have e1 := at_nat h1 rfl
  have e6 : ¬ p + 1 < l.length := by omega
  unfold ctxo
  rw [← e1, if_neg (by omega), if_pos (by omega), decide_eq_false e6]
  simp
theorem in_heb (h : (false || decide ((c : Int) = 1523) || decide ((c : Int) = 1524)) = true) : c = 1523 ∨ c = 1524 := by
  simp at h; omega
theorem not_heb (h : (false || decide ((c : Int) = 1523) || decide ((c : Int) = 1524)) = false) : ¬ (c = 1523 ∨ c = 1524) := by
  simp at h; omega
theorem o_7 (h1 : AtIx l (p : Int) c) (n : (c : Int) ≠ 183) (n2 : (c : Int) ≠ 885) (e : (false || decide ((c : Int) = 1523) || decide ((c : Int) = 1524)) = true) (h3 : 0 < (p : Int)) (hb : AtIx l ((p : Int) - 1) f) : ctxo l p = (f == 1488 || (f == 1523 || f == 1524)) := by
  have e1 := at_nat h1 rfl
  have e3 := at_nat (i := p - 1) hb (by omega)
  have e6 : 0 < p := by omega
  unfold ctxo
  rw [← e1, ← e3, if_neg (by omega), if_neg (by omega), if_pos (in_heb e)]
  simp [e6, heb]
theorem o_8 (h1 : AtIx l (p : Int) c) (n : (c : Int) ≠ 183) (n2 : (c : Int) ≠ 885) (e : (false || decide ((c : Int) = 1523) || decide ((c : Int) = 1524)) = true) (h3 : ¬ 0 < (p : Int)) : ctxo l p = false := by
  have e1 := at_nat h1 rfl
  have e6 : ¬ 0 < p := by omega
  unfold ctxo
  rw [← e1, if_neg (by omega), if_neg (by omega), if_pos (in_heb e), decide_eq_false e6]
  rfl
theorem o_9 (h1 : AtIx l (p : Int) c) (n : (c : Int) ≠ 183) (n2 : (c : Int) ≠ 885) (e : (false || decide ((c : Int) = 1523) || decide ((c : Int) = 1524)) = false) (e4 : (c : Int) = 12539) : ctxo l p = l.any hkh := by
  have e1 := at_nat h1 rfl
  unfold ctxo
  rw [← e1, if_neg (by omega), if_neg (by omega), if_neg (not_heb e), if_pos (by omega)]
theorem digA_yes (h : 1632 ≤ (c : Int)) (h' : (c : Int) ≤ 1641) : digA c = true := by
  unfold digA; rw [Bool.and_eq_true, decide_eq_true_eq, decide_eq_true_eq]; omega
theorem digX_yes (h : 1776 ≤ (c : Int)) (h' : (c : Int) ≤ 1785) : digX c = true := by
  unfold digX; rw [Bool.and_eq_true, decide_eq_true_eq, decide_eq_true_eq]; omega
theorem digA_no (h : ¬ (1632 ≤ (c : Int) ∧ (c : Int) ≤ 1641)) : ¬ digA c = true := by
  unfold digA; rw [Bool.and_eq_true, decide_eq_true_eq, decide_eq_true_eq]; omega
theorem digX_no (h : ¬ (1776 ≤ (c : Int) ∧ (c : Int) ≤ 1785)) : ¬ digX c = true := by
  unfold digX; rw [Bool.and_eq_true, decide_eq_true_eq, decide_eq_true_eq]; omega
theorem o_10 (h1 : AtIx l (p : Int) c) (n : (c : Int) ≠ 183) (n2 : (c : Int) ≠ 885) (e : (false || decide ((c : Int) = 1523) || decide ((c : Int) = 1524)) = false) (e4 : (c : Int) ≠ 12539) (g : 1632 ≤ (c : Int)) (g' : (c : Int) ≤ 1641) : ctxo l p = !(l.any digX) := by
  have e1 := at_nat h1 rfl
  unfold ctxo
  rw [← e1, if_neg (by omega), if_neg (by omega), if_neg (not_heb e), if_neg (by omega), if_pos (digA_yes g g')]
theorem o_11 (h1 : AtIx l (p : Int) c) (n : (c : Int) ≠ 183) (n2 : (c : Int) ≠ 885) (e : (false || decide ((c : Int) = 1523) || decide ((c : Int) = 1524)) = false) (e4 : (c : Int) ≠ 12539) (g : 1776 ≤ (c : Int)) (g' : (c : Int) ≤ 1785) : ctxo l p = !(l.any digA) := by
  have e1 := at_nat h1 rfl
  unfold ctxo
  rw [← e1, if_neg (by omega), if_neg (by omega), if_neg (not_heb e), if_neg (by omega), if_neg (digA_no (by omega)), if_pos (digX_yes g g')]
theorem o_12 (h1 : AtIx l (p : Int) c) (n : (c : Int) ≠ 183) (n2 : (c : Int) ≠ 885) (e : (false || decide ((c : Int) = 1523) || decide ((c : Int) = 1524)) = false) (e4 : (c : Int) ≠ 12539) (g : ¬ (1632 ≤ (c : Int) ∧ (c : Int) ≤ 1641)) (g' : ¬ (1776 ≤ (c : Int) ∧ (c : Int) ≤ 1785)) : ctxo l p = false := by
  have e1 := at_nat h1 rfl
  unfold ctxo
  rw [← e1, if_neg (by omega), if_neg (by omega), if_neg (not_heb e), if_neg (by omega), if_neg (digA_no g), if_neg (digX_no g')]

def AnyInv (l : List Nat) (i : Nat) : Prop := (l.take i).any hkh = false
theorem any_zero : AnyInv l 0 := by simp [AnyInv]
theorem any_next {i : Nat} (hP : AnyInv l i) (hi : l[i]? = some c) (h : hkh c = false) : AnyInv l (i + 1) := by
  unfold AnyInv at hP ⊢
  rw [List.take_add_one, hi, List.any_append, hP]
  simp [h]
theorem any_yes {i : Nat} (hi : l[i]? = some c) (h : hkh c = true) : l.any hkh = true := List.any_eq_true.mpr ⟨c, List.mem_of_getElem? hi, h⟩
theorem any_done (hP : AnyInv l l.length) : l.any hkh = false := by
  unfold AnyInv at hP
  rwa [List.take_length] at hP
theorem bind1_find {m : Str → Option Value} {x : Str} {vi : Option Value} {v : Value} : (fun z => if z = x then some v else bindM m x vi z) = bindM m x (some v) := by
  funext z
  unfold bindM
  by_cases h : z = x <;> simp [h]
theorem chr_is {d : Nat} (h : (({ cps := #[c] } : Str) == ⟨#[d]⟩) = true) : c = d := by
  have := congrArg (fun x : Str => x.cps[0]?) (eq_of_beq h)
  simpa using this
theorem hkh_dot (h : (({ cps := #[c] } : Str) == Str.ofString "・") = true) : hkh c = false := by
  have e : Str.ofString "・" = ⟨#[12539]⟩ := by decide +kernel
  rw [e] at h
  rw [chr_is h]; decide
theorem hkh_1 (h : (c == 12363) = true) : hkh c = true := by unfold hkh; rw [h]; rfl
theorem hkh_2 (h : (c == 12459) = true) : hkh c = true := by unfold hkh; rw [h]; simp
theorem hkh_3 (h : (c == 19990) = true) : hkh c = true := by unfold hkh; rw [h]; simp
theorem hkh_no (h : (c == 12363) = false) (h2 : (c == 12459) = false) (h3 : (c == 19990) = false) : hkh c = false := by unfold hkh; rw [h, h2, h3]; rfl
/-- the sign that a text of one sign holds -/
def cpOf (s : Str) : Nat := s.cps.getD 0 0
theorem eltX_1 (h : 1776 ≤ (c : Int)) : Value.bool (decide ((c : Int) ≤ 1785)) = Value.bool (digX (cpOf { cps := #[c] })) := by
  have e : cpOf { cps := #[c] } = c := rfl
  rw [e]; unfold digX
  congr 1
  rw [Bool.eq_iff_iff, Bool.and_eq_true, decide_eq_true_eq, decide_eq_true_eq, decide_eq_true_eq]; omega
theorem eltX_2 (h : ¬ 1776 ≤ (c : Int)) : Value.bool (decide (1776 ≤ (c : Int))) = Value.bool (digX (cpOf { cps := #[c] })) := by
  have e : cpOf { cps := #[c] } = c := rfl
  rw [e]; unfold digX
  congr 1
  rw [Bool.eq_iff_iff, Bool.and_eq_true, decide_eq_true_eq, decide_eq_true_eq, decide_eq_true_eq]; omega
theorem eltA_1 (h : 1632 ≤ (c : Int)) : Value.bool (decide ((c : Int) ≤ 1641)) = Value.bool (digA (cpOf { cps := #[c] })) := by
  have e : cpOf { cps := #[c] } = c := rfl
  rw [e]; unfold digA
  congr 1
  rw [Bool.eq_iff_iff, Bool.and_eq_true, decide_eq_true_eq, decide_eq_true_eq, decide_eq_true_eq]; omega
theorem eltA_2 (h : ¬ 1632 ≤ (c : Int)) : Value.bool (decide (1632 ≤ (c : Int))) = Value.bool (digA (cpOf { cps := #[c] })) := by
  have e : cpOf { cps := #[c] } = c := rfl
  rw [e]; unfold digA
  congr 1
  rw [Bool.eq_iff_iff, Bool.and_eq_true, decide_eq_true_eq, decide_eq_true_eq, decide_eq_true_eq]; omega
theorem any_signs (q : Nat → Bool) : (signs ⟨l.toArray⟩).any (fun s => q (cpOf s)) = l.any q := by
  unfold signs
  simp [cpOf, List.any_map, Function.comp_def]
end
section
variable {prog : Program} {w : World} {A : Around} {E : Value → Shared → Prop} {s : Shared} {h₀ : Heap} {L : Addr} {m mg mb : Str → Option Value} {K : Frag} {p : Program} {loose : List Str}
theorem nameGen_B {scope : Scope} {cl : List (Str × Addr)} {C : Addr} {code : Value} {env : Env} {x : Str} {pos : Pos} {v : Value} {Q : Value → Shared → Prop} (F : Fr h₀ L s.heap m) (X : K.In h₀) (T : TopRead p loose mg mb h₀) (e : nsIn K mainGlobals x = some none) (hv : bootBuiltins x = some v) (hn : x ≠ "__name__") (h : Q v s)
    (hg : env.globals = mainGlobals) (hk : scope.kind = .function) (hx : (genEnv scope cl C code builtinsNs env).kindOf x = some .globalImplicit) (hd : (x == ("__debug__" : Str)) = false) :
    wpAny (model prog w) A (eval (.Name x pos) (genEnv scope cl C code builtinsNs env)) Q E s :=
  Name_function_global hk hx (loadGlobal_builtin (env := genEnv scope cl C code builtinsNs env) (by show s.heap.Ns env.globals mg; rw [hg]; exact T.g.keeps F.keep) (mg_none_of X T.g e) (T.b.keeps F.keep) ((T.builtins x hn).trans hv) h) hd
end
end Mine

-- FcCtxo
namespace Mine
open PySem.Calls
local macro_rules | `(tactic| cell_enter) => `(tactic| (refine' code_defR ?k1 ?k2 ?k3 ?k4 ?k5 ?kA ?kF ?kK ?k6 ?k7 ?k8 ?k9 ?kB ?_ ?c2 ?c3 ?c4 ?c5; (case kA => exact rfl); (case kF => exact rfl); (case kK => assumption); (case k1 => k_asm); (case k2 => k_asm); (case k3 => k_asm); (case k4 => k_asm); (case k5 => k_asm); (case k6 => k_is); (case k7 => k_is); (case k8 => ktr_room); (case k9 => first | exact BindsTo.of_eq rfl | exact binds_K (by k_in) rfl (by k_is) rfl rfl rfl); (case c5 => decide); (case kB => exact locs rfl); (case c2 => exact rfl); (case c3 => exact rfl); (case c4 => exact rfl); k_whole; intro g' L' h' FG' F' N' B' X' T'; (try dsimp only); (try k_lift B'); (try k_fold)))
local macro_rules | `(tactic| walk_at "call builtin:len") => `(tactic| (k_here; (with_reducible show wpAny _ _ (call (Value.builtin "len") [Value.str _ _]) _ _ _); (refine' k_strlen ?k1 ?_; (case k1 => with_reducible assumption); k_whole); intro t9 tk9))
local macro_rules | `(tactic| walk_at "subscriptTail Name Name str int") => `(tactic| (k_here; (with_reducible show wpAny _ _ (subscriptTail _ _ (Value.str _ _) (Value.int _ _)) _ _ _); with_unfolding_all (refine' k_chr ?k1 ?k2 ?k3 ?_ ?k4 ?k5; (case k1 => with_reducible assumption); (case k2 => omega); (case k3 => omega); (case k4 => with_unfolding_all rfl); (case k5 => (intro _; with_unfolding_all rfl)); k_whole); intro c9 t9 tk9 hc9 hi9))
local macro_rules | `(tactic| walk_at "subscriptTail Name BinOp str int") => `(tactic| (k_here; (with_reducible show wpAny _ _ (subscriptTail _ _ (Value.str _ _) (Value.int _ _)) _ _ _); with_unfolding_all (refine' k_chr ?k1 ?k2 ?k3 ?_ ?k4 ?k5; (case k1 => with_reducible assumption); (case k2 => omega); (case k3 => omega); (case k4 => with_unfolding_all rfl); (case k5 => (intro _; with_unfolding_all rfl)); k_whole); intro c9 t9 tk9 hc9 hi9))
local macro_rules | `(tactic| walk_at "call ref") => `(tactic| (k_here; (with_reducible show wpAny _ _ (call (Value.ref _) [Value.str _ _, Value.str (Str.ofString "Greek") _]) _ _ _); with_unfolding_all (refine' Claim.use (greek_claim ?h1) ?k1 ?k2 ?k3 ?k4 ?k5 ?kK ?kd ?ku ?_; (case k1 => k_asm); (case k2 => k_asm); (case k3 => k_asm); (case k4 => k_asm); (case k5 => k_asm); (case kK => first | exact rfl | assumption); (case kd => ktr_room); (case ku => ktr_units); (case h1 => with_reducible assumption); k_whole); (intro v9 more9 h9 tk9 hR9 F9 N9; (obtain ⟨hm9, hv9⟩ := hR9); subst hm9; subst hv9; (replace N9 : News _ _ _ _ := N9); (try dsimp only); (try k_fold))))
local macro_rules | `(tactic| walk_at "call ref") => `(tactic| (k_here; (with_reducible show wpAny _ _ (call (Value.ref _) [Value.str _ _, Value.str (Str.ofString "Hebrew") _]) _ _ _); with_unfolding_all (refine' Claim.use (hebrew_claim ?h1) ?k1 ?k2 ?k3 ?k4 ?k5 ?kK ?kd ?ku ?_; (case k1 => k_asm); (case k2 => k_asm); (case k3 => k_asm); (case k4 => k_asm); (case k5 => k_asm); (case kK => first | exact rfl | assumption); (case kd => ktr_room); (case ku => ktr_units); (case h1 => with_reducible assumption); k_whole); (intro v9 more9 h9 tk9 hR9 F9 N9; (obtain ⟨hm9, hv9⟩ := hR9); subst hm9; subst hv9; (replace N9 : News _ _ _ _ := N9); (try dsimp only); (try k_fold))))
local macro_rules | `(tactic| walk_at "call ref") => `(tactic| (k_here; (with_reducible show wpAny _ _ (call (Value.ref _) [Value.str _ _, Value.str (Str.ofString "Hiragana") _]) _ _ _); with_unfolding_all (refine' Claim.use (hiragana_claim ?h1) ?k1 ?k2 ?k3 ?k4 ?k5 ?kK ?kd ?ku ?_; (case k1 => k_asm); (case k2 => k_asm); (case k3 => k_asm); (case k4 => k_asm); (case k5 => k_asm); (case kK => first | exact rfl | assumption); (case kd => ktr_room); (case ku => ktr_units); (case h1 => with_reducible assumption); k_whole); (intro v9 more9 h9 tk9 hR9 F9 N9; (obtain ⟨hm9, hv9⟩ := hR9); subst hm9; subst hv9; (replace N9 : News _ _ _ _ := N9); (try dsimp only); (try k_fold))))
local macro_rules | `(tactic| walk_at "call ref") => `(tactic| (k_here; (with_reducible show wpAny _ _ (call (Value.ref _) [Value.str _ _, Value.str (Str.ofString "Katakana") _]) _ _ _); with_unfolding_all (refine' Claim.use (katakana_claim ?h1) ?k1 ?k2 ?k3 ?k4 ?k5 ?kK ?kd ?ku ?_; (case k1 => k_asm); (case k2 => k_asm); (case k3 => k_asm); (case k4 => k_asm); (case k5 => k_asm); (case kK => first | exact rfl | assumption); (case kd => ktr_room); (case ku => ktr_units); (case h1 => with_reducible assumption); k_whole); (intro v9 more9 h9 tk9 hR9 F9 N9; (obtain ⟨hm9, hv9⟩ := hR9); subst hm9; subst hv9; (replace N9 : News _ _ _ _ := N9); (try dsimp only); (try k_fold))))
local macro_rules | `(tactic| walk_at "call ref") => `(tactic| (k_here; (with_reducible show wpAny _ _ (call (Value.ref _) [Value.str _ _, Value.str (Str.ofString "Han") _]) _ _ _); with_unfolding_all (refine' Claim.use (han_claim ?h1) ?k1 ?k2 ?k3 ?k4 ?k5 ?kK ?kd ?ku ?_; (case k1 => k_asm); (case k2 => k_asm); (case k3 => k_asm); (case k4 => k_asm); (case k5 => k_asm); (case kK => first | exact rfl | assumption); (case kd => ktr_room); (case ku => ktr_units); (case h1 => with_reducible assumption); k_whole); (intro v9 more9 h9 tk9 hR9 F9 N9; (obtain ⟨hm9, hv9⟩ := hR9); subst hm9; subst hv9; (replace N9 : News _ _ _ _ := N9); (try dsimp only); (try k_fold))))
local macro_rules | `(tactic| walk_at "exec For Name Name") => `(tactic| (k_here; (rename Fr _ _ _ _ => kF'); (with_unfolding_all refine' For_invVF kF' ?k1 ?k2 ?_; (case k1 => exact rfl); (case k2 => exact rfl); k_whole)))
local macro_rules | `(tactic| walk_at "pyIter str") => `(tactic| (k_here; (with_reducible refine Stopped.go ?_)))
local macro_rules | `(tactic| walk_at "eval GeneratorExp") => `(tactic| (k_here; (with_reducible refine Stopped.go ?_)))
local macro_rules | `(tactic| walk_at "LoopStepV") => `(tactic| (k_here; (first | (with_reducible refine LoopStepV.brk ?_) | (with_reducible refine LoopStepV.ret ?_)); (try dsimp only)))
local macro_rules | `(tactic| walk_at "eval Name") => `(tactic| (k_here; (with_reducible show wpAny _ _ (eval (Expr.Name _ _) (genEnv _ _ _ _ _ _)) _ _ _); k_dflt (first | (refine' ldVarG ?g1 ?g2 ?_; (case g1 => with_reducible assumption); (case g2 => with_reducible assumption); k_whole) | (refine' nameGen_B ?n1 ?n2 ?n3 ?n4 ?n5 ?n6 ?_ ?n7 ?n8 ?n9 ?n10; (case n1 => with_reducible assumption); (case n2 => k_asm); (case n3 => k_asm); (case n4 => k_is); (case n5 => boot_by_name); (case n6 => decide); (case n7 => rfl); (case n8 => rfl); (case n9 => rfl); (case n10 => decide); k_whole))))
local macro_rules | `(tactic| walk_at "call builtin:any") => `(tactic| (k_here; (with_reducible refine Stopped.go ?_)))
local macro_rules | `(tactic| k_steps) => `(tactic| repeat' (first | (k_unfold; (try dsimp only)) | walk1 | (dsimp only; walk1) | (leave1; walk_say "STEP leave1"; try dsimp only) | fail "no step"))
def BM (h : Heap) : Prop := ∃ mg bm ob, BMod h mainGlobals mg bm ob
/-- a call that may make generator expressions over the code table at 153 -/
def ClaimG (w : World) (mg mb : Str → Option Value) (D : Nat) (f : Addr) (vs : List Value) (news : List (Addr × Obj)) (b : Bool) : Prop :=
  ∀ (dp un : Nat) (gd : Option (List Code)) (cn : Str) (cs : Scope) (a : Addr) (ccd : Value) (cl : List (Str × Addr)) (outer : List Env) (A₀ : Around) (base h₀ : Heap) (L : Addr) (m : Str → Option Value) (s : Shared) (Q E : Value → Shared → Prop) (ps : Array Value),
    Below A₀ base outer h₀ → Fr h₀ L s.heap m → (hd.heap_39 w.params).In h₀ → News h₀ L s.heap ((153, tabObj ps) :: news) → TopRead hd.view_39 theLoose mg mb h₀ → cs.kind = .function → dp + D < recursionLimit → un + 10 * D < cLine →
    (∀ p ∈ news, p.1 ≠ 153) → TriplesOk ps.toList → AllBare s.gens → BM h₀ →
    (∀ (h' : Heap) (tk' : Nat) (gs' : Array GenState) (ps' : Array Value), Fr h₀ L h' m → News h₀ L h' ((153, tabObj ps') :: news) → TriplesOk ps'.toList → AllBare gs' → Q (.bool b) { s with heap := h', toks := tk', gens := gs' }) →
    wpAny (model theProg w) (ktrTop dp un gd cn cs L a ccd cl outer) (call (.ref f) vs) Q E s
theorem BM.keeps {h₀ h : Heap} (x : BM h₀) (hk : ∀ b o, h₀.get? b = some o → h.get? b = some o) : BM h := let ⟨mg, bm, ob, y⟩ := x; ⟨mg, bm, ob, y.keeps hk⟩
theorem ctxo_claim {w : World} {mg mb : Str → Option Value} {l : List Nat} {p : Nat} {t tp : Tok} {news : List (Addr × Obj)} (hl : Lab l) (hp : p < l.length) (hlen : l.length ≤ 64) :
    ClaimG w mg mb 5 158 [.str ⟨l.toArray⟩ t, .int (p : Int) tp] news (ctxo l p) := by
  unfold ClaimG theProg theLoose
  k_fill
  intro dp un gd cn cs a ccd cl outer A₀ base h₀ L m s Q E ps B F X N T hk hd1 hd2 hoff hps hG hBM hret
  refine wpAny_call ?_
  k_dflt cell_enter
  k_steps
  · have hv : ctxo l p = _ := o_1 (by assumption) (by assumption) (by assumption) (by assumption) (by assumption) (by assumption) (by assumption)
    rw [hv] at hret
    refine hret _ _ _ ps (by k_asm) (by first | k_asm | (refine' cb_drop ?cbN1 ?cbS1; (case cbN1 => assumption); (case cbS1 => (intro p9 hp9; simp only [List.nil_append, List.append_nil, List.mem_cons, List.mem_append] at hp9 ⊢; rcases hp9 with h9 | h9 <;> simp only [h9, true_or, or_true])))) hps hG
  · have hv : ctxo l p = _ := o_2 (by assumption) (by assumption) (by assumption) (by assumption) (by assumption)
    rw [hv] at hret
    refine hret _ _ _ ps (by k_asm) (by first | k_asm | (refine' cb_drop ?cbN2 ?cbS2; (case cbN2 => assumption); (case cbS2 => (intro p9 hp9; simp only [List.nil_append, List.append_nil, List.mem_cons, List.mem_append] at hp9 ⊢; rcases hp9 with h9 | h9 <;> simp only [h9, true_or, or_true])))) hps hG
  · have hv : ctxo l p = _ := o_3 (by assumption) (by assumption) (by assumption)
    rw [hv] at hret
    refine hret _ _ _ ps (by k_asm) (by first | k_asm | (refine' cb_drop ?cbN3 ?cbS3; (case cbN3 => assumption); (case cbS3 => (intro p9 hp9; simp only [List.nil_append, List.append_nil, List.mem_cons, List.mem_append] at hp9 ⊢; rcases hp9 with h9 | h9 <;> simp only [h9, true_or, or_true])))) hps hG
  · have hv : ctxo l p = _ := o_4 (by assumption) (by assumption) (by assumption)
    rw [hv] at hret
    refine hret _ _ _ ps (by k_asm) (by first | k_asm | (refine' cb_drop ?cbN4 ?cbS4; (case cbN4 => assumption); (case cbS4 => (intro p9 hp9; simp only [List.nil_append, List.append_nil, List.mem_cons, List.mem_append] at hp9 ⊢; rcases hp9 with h9 | h9 <;> simp only [h9, true_or, or_true])))) hps hG
  · have hv : ctxo l p = _ := o_5 (by assumption) (by assumption) (by assumption) (by assumption)
    rw [hv] at hret
    refine hret _ _ _ ps (by k_asm) (by first | k_asm | (refine' cb_drop ?cbN5 ?cbS5; (case cbN5 => assumption); (case cbS5 => (intro p9 hp9; simp only [List.nil_append, List.append_nil, List.mem_cons, List.mem_append] at hp9 ⊢; rcases hp9 with h9 | h9 <;> simp only [h9, true_or, or_true])))) hps hG
  · have hv : ctxo l p = _ := o_6 (by assumption) (by assumption) (by assumption)
    rw [hv] at hret
    refine hret _ _ _ ps (by k_asm) (by first | k_asm | (refine' cb_drop ?cbN6 ?cbS6; (case cbN6 => assumption); (case cbS6 => (intro p9 hp9; simp only [List.nil_append, List.append_nil, List.mem_cons, List.mem_append] at hp9 ⊢; rcases hp9 with h9 | h9 <;> simp only [h9, true_or, or_true])))) hps hG
  · have hv : ctxo l p = _ := o_7 (by assumption) (by assumption) (by assumption) (by assumption) (by assumption) (by assumption)
    rw [hv] at hret
    refine hret _ _ _ ps (by k_asm) (by first | k_asm | (refine' cb_drop ?cbN7 ?cbS7; (case cbN7 => assumption); (case cbS7 => (intro p9 hp9; simp only [List.nil_append, List.append_nil, List.mem_cons, List.mem_append] at hp9 ⊢; rcases hp9 with h9 | h9 <;> simp only [h9, true_or, or_true])))) hps hG
  · have hv : ctxo l p = _ := o_8 (by assumption) (by assumption) (by assumption) (by assumption) (by assumption)
    rw [hv] at hret
    refine hret _ _ _ ps (by k_asm) (by first | k_asm | (refine' cb_drop ?cbN8 ?cbS8; (case cbN8 => assumption); (case cbS8 => (intro p9 hp9; simp only [List.nil_append, List.append_nil, List.mem_cons, List.mem_append] at hp9 ⊢; rcases hp9 with h9 | h9 <;> simp only [h9, true_or, or_true])))) hps hG
  · have hv : ctxo l p = _ := o_9 (by assumption) (by assumption) (by assumption) (by assumption) (by assumption)
    rw [hv] at hret
    unfold Stopped
    refine' k_textLoop (fun i => AnyInv l i) rfl (by k_asm) (by k_asm) any_zero ?_ ?_
    · intro i c t h₁ tk₁ vi I own hget hP F₁ N₁ hoff1
      have hcc : IsCode c := IsCode.of (hl.all _ (List.mem_of_getElem? hget))
      k_steps
      · exact LoopStepU.intro (by k_asm) (by k_asm) hoff1 ⟨rfl, ⟨_, bind1_find⟩, any_next hP hget (hkh_dot (by assumption))⟩
      · have hz := any_yes hget (hkh_1 (by assumption))
        rw [hz] at hret
        refine hret _ _ _ ps (by k_asm) (by first | k_asm | (refine' cb_drop ?cbN9 ?cbS9; (case cbN9 => assumption); (case cbS9 => (intro p9 hp9; simp only [List.nil_append, List.append_nil, List.mem_cons, List.mem_append] at hp9 ⊢; rcases hp9 with h9 | h9 <;> simp only [h9, true_or, or_true])))) hps hG
      · have hz := any_yes hget (hkh_2 (by assumption))
        rw [hz] at hret
        refine hret _ _ _ ps (by k_asm) (by first | k_asm | (refine' cb_drop ?cbN10 ?cbS10; (case cbN10 => assumption); (case cbS10 => (intro p9 hp9; simp only [List.nil_append, List.append_nil, List.mem_cons, List.mem_append] at hp9 ⊢; rcases hp9 with h9 | h9 <;> simp only [h9, true_or, or_true])))) hps hG
      · have hz := any_yes hget (hkh_3 (by assumption))
        rw [hz] at hret
        refine hret _ _ _ ps (by k_asm) (by first | k_asm | (refine' cb_drop ?cbN11 ?cbS11; (case cbN11 => assumption); (case cbS11 => (intro p9 hp9; simp only [List.nil_append, List.append_nil, List.mem_cons, List.mem_append] at hp9 ⊢; rcases hp9 with h9 | h9 <;> simp only [h9, true_or, or_true])))) hps hG
      · exact LoopStepU.intro (by k_asm) (by k_asm) hoff1 ⟨rfl, ⟨_, bind1_find⟩, any_next hP hget (hkh_no (by assumption) (by assumption) (by assumption))⟩
    · intro h' tk vi F9 N9 hP
      k_steps
      · have hz := any_done hP
        rw [hz] at hret
        refine hret _ _ _ ps (by k_asm) (by first | k_asm | (refine' cb_drop ?cbN12 ?cbS12; (case cbN12 => assumption); (case cbS12 => (intro p9 hp9; simp only [List.nil_append, List.append_nil, List.mem_cons, List.mem_append] at hp9 ⊢; rcases hp9 with h9 | h9 <;> simp only [h9, true_or, or_true])))) hps hG
  · have hv : ctxo l p = _ := o_10 (by assumption) (by assumption) (by assumption) (by assumption) (by assumption) (by assumption) (by assumption)
    rw [hv] at hret
    unfold Stopped
    rename Fr h₀ _ _ m => FG9
    rename Fr _ _ _ _ => F9
    rename News _ _ _ _ => N9
    rename TopRead _ _ _ _ _ => T9
    rename Frag.In _ _ => X9
    have HM : BM _ := BM.keeps hBM FG9.keep
    refine' k_genexp (q := fun d => digX (cpOf d)) (y := ⟨l.toArray⟩) (t := t) (cl := []) F9 N9 (ps := ps) ?hin13 hG T9.nolimit HM (codeHd_of_K (c := 157) (P := 153) X9 (by kernel_rfl)) hps (by decide) rfl rfl rfl ?clos13 ?cell13 rfl rfl rfl ?room13 ?iter13 ?elt13 ?cont13 ?hs13
    case hin13 => first | exact .head _ | exact .tail _ (.head _)
    case clos13 => with_unfolding_all rfl
    case cell13 => decide
    case room13 => ktr_room
    case iter13 => k_steps
    case hs13 => (intro _; with_unfolding_all rfl)
    case elt13 =>
      intro code C A' E' c₁ tk u m₂ hA hD hU hc F2 hm2
      have hcc : IsCode c₁ := IsCode.of (hl.all _ hc)
      k_steps
      · exact eltX_1 (by assumption)
      · exact ⟨_, _, rfl, fun _ _ e => e⟩
      · exact eltX_2 (by assumption)
      · exact ⟨_, _, rfl, fun _ _ e => e⟩
    case cont13 =>
      intro a9 h5 tk5 gs5 ps5 F5 N5 htr5 G5 hany
      k_steps
      unfold Stopped
      refine hany _ _ fun h6 tk6 gs6 F6 N6 G6 => ?_
      rw [any_signs]
      k_steps
      refine hret _ _ gs6 ps5 (by k_asm) ?_ htr5 G6
      refine' cb_drop ?cbM13 ?cbO13
      case cbM13 => assumption
      case cbO13 =>
        intro p9 hp9
        rcases List.mem_cons.mp hp9 with h9 | h9
        · rw [h9]; exact .head _
        · exact led_off (by simp only [List.mem_cons, List.mem_append, h9, true_or, or_true]) (hoff p9 h9)
  · have hv : ctxo l p = _ := o_11 (by assumption) (by assumption) (by assumption) (by assumption) (by assumption) (by assumption) (by assumption)
    rw [hv] at hret
    unfold Stopped
    rename Fr h₀ _ _ m => FG9
    rename Fr _ _ _ _ => F9
    rename News _ _ _ _ => N9
    rename TopRead _ _ _ _ _ => T9
    rename Frag.In _ _ => X9
    have HM : BM _ := BM.keeps hBM FG9.keep
    refine' k_genexp (q := fun d => digA (cpOf d)) (y := ⟨l.toArray⟩) (t := t) (cl := []) F9 N9 (ps := ps) ?hin14 hG T9.nolimit HM (codeHd_of_K (c := 157) (P := 153) X9 (by kernel_rfl)) hps (by decide) rfl rfl rfl ?clos14 ?cell14 rfl rfl rfl ?room14 ?iter14 ?elt14 ?cont14 ?hs14
    case hin14 => first | exact .head _ | exact .tail _ (.head _)
    case clos14 => with_unfolding_all rfl
    case cell14 => decide
    case room14 => ktr_room
    case iter14 => k_steps
    case hs14 => (intro _; with_unfolding_all rfl)
    case elt14 =>
      intro code C A' E' c₁ tk u m₂ hA hD hU hc F2 hm2
      have hcc : IsCode c₁ := IsCode.of (hl.all _ hc)
      k_steps
      · exact eltA_1 (by assumption)
      · exact ⟨_, _, rfl, fun _ _ e => e⟩
      · exact eltA_2 (by assumption)
      · exact ⟨_, _, rfl, fun _ _ e => e⟩
    case cont14 =>
      intro a9 h5 tk5 gs5 ps5 F5 N5 htr5 G5 hany
      k_steps
      unfold Stopped
      refine hany _ _ fun h6 tk6 gs6 F6 N6 G6 => ?_
      rw [any_signs]
      k_steps
      refine hret _ _ gs6 ps5 (by k_asm) ?_ htr5 G6
      refine' cb_drop ?cbM14 ?cbO14
      case cbM14 => assumption
      case cbO14 =>
        intro p9 hp9
        rcases List.mem_cons.mp hp9 with h9 | h9
        · rw [h9]; exact .head _
        · exact led_off (by simp only [List.mem_cons, List.mem_append, h9, true_or, or_true]) (hoff p9 h9)
  · have hv : ctxo l p = _ := o_12 (by assumption) (by assumption) (by assumption) (by assumption) (by assumption) (by omega) (by omega)
    rw [hv] at hret
    refine hret _ _ _ ps (by k_asm) (by first | k_asm | (refine' cb_drop ?cbN15 ?cbS15; (case cbN15 => assumption); (case cbS15 => (intro p9 hp9; simp only [List.nil_append, List.append_nil, List.mem_cons, List.mem_append] at hp9 ⊢; rcases hp9 with h9 | h9 <;> simp only [h9, true_or, or_true])))) hps hG
  · have hv : ctxo l p = _ := o_12 (by assumption) (by assumption) (by assumption) (by assumption) (by assumption) (by omega) (by omega)
    rw [hv] at hret
    refine hret _ _ _ ps (by k_asm) (by first | k_asm | (refine' cb_drop ?cbN16 ?cbS16; (case cbN16 => assumption); (case cbS16 => (intro p9 hp9; simp only [List.nil_append, List.append_nil, List.mem_cons, List.mem_append] at hp9 ⊢; rcases hp9 with h9 | h9 <;> simp only [h9, true_or, or_true])))) hps hG
  · have hv : ctxo l p = _ := o_12 (by assumption) (by assumption) (by assumption) (by assumption) (by assumption) (by omega) (by omega)
    rw [hv] at hret
    refine hret _ _ _ ps (by k_asm) (by first | k_asm | (refine' cb_drop ?cbN17 ?cbS17; (case cbN17 => assumption); (case cbS17 => (intro p9 hp9; simp only [List.nil_append, List.append_nil, List.mem_cons, List.mem_append] at hp9 ⊢; rcases hp9 with h9 | h9 <;> simp only [h9, true_or, or_true])))) hps hG
end Mine

-- FcLs
namespace Mine
open PyProof.V PySem.Calls PySem.Spec
theorem strs_canLay (ns : List Str) (h : ∀ x ∈ ns, PyData.strOk x = true) : PyData.canLayAll0 (ns.map PyData.str) = true := by
  rw [canLayAll_strs', List.all_eq_true]; exact h
theorem strs_depth : ∀ ns : List Str, PyData.depthAll (ns.map PyData.str) = 0
  | [] => rfl
  | _ :: r => by simp [PyData.depthAll, PyData.depth, strs_depth r]
theorem strs_shaped (ns : List Str) (h : ∀ x ∈ ns, PyData.strOk x = true) : SeqAt.shaped (.list (ns.map PyData.str)) = true := by
  simp [SeqAt.shaped, PyData.canLay0, PyData.depth, strs_canLay ns h, strs_depth]
theorem strs_same_nil : ∀ ns : List Str, PySem.Spec.same (.list (ns.map PyData.str)) (.list (([] : List Str).map PyData.str)) = ns.isEmpty
  | [] => by simp [PySem.Spec.same, PySem.Spec.sameAll]
  | _ :: _ => by simp [PySem.Spec.same, PySem.Spec.sameAll]
section
variable {prog : Program} {w : World} {A : Around} {E : Value → Shared → Prop} {s : Shared} {a b : Addr} {xs : List Value} {ts : List Str} {Q : Value → Shared → Prop} {h₀ : Heap} {L : Addr} {news : List (Addr × Obj)} {o o' : Obj} {n : Nat}
theorem k_eqNil (N : News h₀ L s.heap news) (ha : (a, o) ∈ news) (hb : (b, o') ∈ news) (hc : o.cls = .type "list") (hd : o.data = .seq xs.toArray n) (hc' : o'.cls = .type "list") (hd' : o'.data = .seq #[] 0) (hi : CarriedAll xs (ts.map PyData.str)) (hok : ∀ x ∈ ts, PyData.strOk x = true) (hu : A.units + 64 < cLine) (h : Q (.bool ts.isEmpty) s) :
    wpAny (model prog w) A (compareOp .Eq (.ref a) (.ref b)) Q E s :=
  eq_dataH_same (reads_newData ⟨o, (N _ ha).1, hc, n, hd⟩ hi) (reads_newData (ys := []) (ds := ([] : List Str).map PyData.str) ⟨o', (N _ hb).1, hc', 0, hd'⟩ CarriedAll.nil) (strs_shaped _ hok) (strs_shaped [] (fun _ h => nomatch h)) hu (SeqAt.noMix_of_shape (.list .str) rfl _ _ (list_map_has fun _ => rfl) (list_map_has (l := ([] : List Str)) fun _ => rfl)) (by
    rw [strs_same_nil ts]; exact h)
theorem k_neNil (N : News h₀ L s.heap news) (ha : (a, o) ∈ news) (hb : (b, o') ∈ news) (hc : o.cls = .type "list") (hd : o.data = .seq xs.toArray n) (hc' : o'.cls = .type "list") (hd' : o'.data = .seq #[] 0) (hi : CarriedAll xs (ts.map PyData.str)) (hok : ∀ x ∈ ts, PyData.strOk x = true) (hu : A.units + 64 < cLine) (h : Q (.bool (!ts.isEmpty)) s) :
    wpAny (model prog w) A (compareOp .NotEq (.ref a) (.ref b)) Q E s :=
  ne_dataH_same (reads_newData ⟨o, (N _ ha).1, hc, n, hd⟩ hi) (reads_newData (ys := []) (ds := ([] : List Str).map PyData.str) ⟨o', (N _ hb).1, hc', 0, hd'⟩ CarriedAll.nil) (strs_shaped _ hok) (strs_shaped [] (fun _ h => nomatch h)) hu (SeqAt.noMix_of_shape (.list .str) rfl _ _ (list_map_has fun _ => rfl) (list_map_has (l := ([] : List Str)) fun _ => rfl)) (by
    rw [strs_same_nil ts]; exact h)
end
theorem slice_mem {l : List Nat} {a b : Option Int} {c : Nat} (h : c ∈ (Txt.slice ⟨l.toArray⟩ a b).cps.toList) : c ∈ l := by
  unfold Txt.slice at h
  split at h
  · simpa using h
  · simp only [List.mem_filterMap] at h
    obtain ⟨i, _, hi⟩ := h
    have := Array.mem_of_getElem? hi
    simpa using this
theorem ok_slice {l : List Nat} {a b : Option Int} {f : Str → Bool} (hl : Lab l) : ∀ x ∈ List.filter f (signs (Txt.slice ⟨l.toArray⟩ a b)), PyData.strOk x = true := by
  intro x hx
  have hx := (List.mem_filter.mp hx).1
  unfold signs at hx
  obtain ⟨c, hc, rfl⟩ := List.mem_map.mp hx
  have hcc := IsCode.of (hl.all _ (slice_mem hc))
  unfold PyData.strOk
  have := hcc.hi
  simp
  omega
theorem ok_signs {l : List Nat} {f : Str → Bool} (hl : Lab l) : ∀ x ∈ List.filter f (signs ⟨l.toArray⟩), PyData.strOk x = true := by
  intro x hx
  have hx := (List.mem_filter.mp hx).1
  unfold signs at hx
  obtain ⟨c, hc, rfl⟩ := List.mem_map.mp hx
  have hcc := IsCode.of (hl.all _ (by simpa using hc))
  unfold PyData.strOk
  have := hcc.hi
  simp
  omega
end Mine

-- FcLr
namespace Mine
open PyProof.V PySem.Calls PySem.Spec
def chr (c : Nat) : Str := ⟨#[c]⟩
theorem idx_none {p n : Nat} (h : p ≤ n) : Builtin.Str.strSliceIndices none (some (p : Int)) 1 n = List.range p := by
  unfold Builtin.Str.strSliceIndices sliceRange
  have e1 : max (0 : Int) (min (p : Int) (n : Int)) = (p : Int) := by omega
  have e2 : ¬ ((p : Int) < 0) := by omega
  simp only [show (1 : Int) > 0 by decide, if_true, e2, if_false, e1]
  have e3 : (if (0 : Int) < (p : Int) then ((p : Int) - 0 + 1 - 1) / 1 else 0).toNat = p := by
    split
    · rw [Int.ediv_one]; omega
    · omega
  rw [e3]
  refine List.ext_getElem (by simp) fun i h1 h2 => ?_
  simp
theorem idx_some {p n : Nat} (h : p + 1 ≤ n) : Builtin.Str.strSliceIndices (some ((p : Int) + 1)) none 1 n = (List.range (n - (p + 1))).map (· + (p + 1)) := by
  unfold Builtin.Str.strSliceIndices sliceRange
  have e1 : max (0 : Int) (min ((p : Int) + 1) (n : Int)) = (p : Int) + 1 := by omega
  have e2 : ¬ ((p : Int) + 1 < 0) := by omega
  simp only [show (1 : Int) > 0 by decide, if_true, e2, if_false, e1]
  have e3 : (if (p : Int) + 1 < (n : Int) then ((n : Int) - ((p : Int) + 1) + 1 - 1) / 1 else 0).toNat = n - (p + 1) := by
    split
    · rw [Int.ediv_one]; omega
    · omega
  rw [e3]
  refine List.ext_getElem (by simp) fun i h1 h2 => ?_
  simp only [List.getElem_map, List.getElem_range]
  omega
theorem pick_take (l : List Nat) : ∀ p : Nat, (List.range p).filterMap (fun i => l[i]?) = l.take p
  | 0 => by simp
  | p + 1 => by
    rw [List.range_succ, List.filterMap_append, pick_take l p, List.take_add_one]
    congr 1
theorem slice_take {l : List Nat} {p : Nat} (h : p ≤ l.length) : Txt.slice ⟨l.toArray⟩ none (some (p : Int)) = ⟨(l.take p).toArray⟩ := by
  have e0 : Str.length ⟨l.toArray⟩ = l.length := by unfold Str.length; simp
  unfold Txt.slice
  rw [e0, idx_none h, List.length_range]
  split
  · rename_i q
    have : p = l.length := by simpa using q
    rw [this, List.take_length]
  · congr 2
    rw [← pick_take]
    simp
theorem slice_drop {l : List Nat} {p : Nat} (h : p < l.length) : Txt.slice ⟨l.toArray⟩ (some ((p : Int) + 1)) none = ⟨(l.drop (p + 1)).toArray⟩ := by
  have e0 : Str.length ⟨l.toArray⟩ = l.length := by unfold Str.length; simp
  unfold Txt.slice
  rw [e0, idx_some h]
  split
  · rename_i q
    simp at q
    omega
  · congr 2
    rw [List.filterMap_map]
    have e : (List.range (l.length - (p + 1))).filterMap (fun i => (l.drop (p + 1))[i]?) = l.drop (p + 1) := by
      rw [pick_take, List.take_of_length_le (by simp)]
    refine Eq.trans ?_ e
    congr 1
    funext i
    simp [Nat.add_comm]
theorem signs_list (l : List Nat) : signs ⟨l.toArray⟩ = l.map chr := by unfold signs; simp [chr]
theorem filt {l : List Nat} {f : Str → Bool} {g : Nat → Bool} (hl : ∀ c ∈ l, c ∈ codes) (hf : (codes.all fun c => f (chr c) == g c) = true) : List.filter f (l.map chr) = (l.filter g).map chr := by
  rw [List.filter_map]
  congr 1
  refine List.filter_congr fun c hc => ?_
  have := List.all_eq_true.mp hf c (hl c hc)
  simpa using this
def nT (c : Nat) : Bool := !isT c
def lf (l : List Nat) (p : Nat) : List Nat := (l.take p).filter nT
def rt (l : List Nat) (p : Nat) : List Nat := (l.drop (p + 1)).filter nT
theorem left_ts {l : List Nat} {p : Nat} {f : Str → Bool} (hl : Lab l) (h : p < l.length) (hf : (codes.all fun c => f (chr c) == nT c) = true) : List.filter f (signs (Txt.slice ⟨l.toArray⟩ none (some (p : Int)))) = (lf l p).map chr := by
  rw [slice_take (Nat.le_of_lt h), signs_list]
  exact filt (fun c hc => hl.all _ (List.mem_of_mem_take hc)) hf
theorem right_ts {l : List Nat} {p : Nat} {f : Str → Bool} (hl : Lab l) (h : p < l.length) (hf : (codes.all fun c => f (chr c) == nT c) = true) : List.filter f (signs (Txt.slice ⟨l.toArray⟩ (some ((p : Int) + 1)) none)) = (rt l p).map chr := by
  rw [slice_drop h, signs_list]
  exact filt (fun c hc => hl.all _ (List.mem_of_mem_drop hc)) hf
theorem digX_ts {l : List Nat} {f : Str → Bool} (hl : Lab l) (hf : (codes.all fun c => f (chr c) == digX c) = true) : List.filter f (signs ⟨l.toArray⟩) = (l.filter digX).map chr := by
  rw [signs_list]; exact filt hl.all hf
theorem digA_ts {l : List Nat} {f : Str → Bool} (hl : Lab l) (hf : (codes.all fun c => f (chr c) == digA c) = true) : List.filter f (signs ⟨l.toArray⟩) = (l.filter digA).map chr := by
  rw [signs_list]; exact filt hl.all hf
/-- signs of labels only -/
def AllC (us : List Nat) : Prop := ∀ c ∈ us, IsCode c
theorem lf_c {l : List Nat} {p : Nat} (hl : Lab l) : AllC (lf l p) := fun _ hc => IsCode.of (hl.all _ (List.mem_of_mem_take (List.mem_filter.mp hc).1))
theorem rt_c {l : List Nat} {p : Nat} (hl : Lab l) : AllC (rt l p) := fun _ hc => IsCode.of (hl.all _ (List.mem_of_mem_drop (List.mem_filter.mp hc).1))
theorem fl_c {l : List Nat} {g : Nat → Bool} (hl : Lab l) : AllC (l.filter g) := fun _ hc => IsCode.of (hl.all _ (List.mem_filter.mp hc).1)
theorem ok_chr {us : List Nat} (h : AllC us) : ∀ x ∈ us.map chr, PyData.strOk x = true := by
  intro x hx
  obtain ⟨c, hc, rfl⟩ := List.mem_map.mp hx
  have := (h c hc).hi
  unfold PyData.strOk chr
  simp
  omega
def LastIs (us : List Nat) (c : Nat) : Prop := us.getLast? = some c
def HeadIs (us : List Nat) (c : Nat) : Prop := us.head? = some c
theorem carried_get : ∀ {xs : List Value} {us : List Nat} {i c : Nat}, CarriedAll xs ((us.map chr).map PyData.str) → us[i]? = some c → ∃ t, xs[i]? = some (.str ⟨#[c]⟩ t)
  | _, [], _, _, _, h => by simp at h
  | _, u :: r, i, c, h, e => by
    cases h with
    | cons h1 h2 =>
      cases i with
      | zero =>
        cases h1 with
        | str _ t =>
          simp at e
          subst e
          exact ⟨t, rfl⟩
      | succ j => exact carried_get (i := j) h2 (by simpa using e)
theorem carried_len : ∀ {xs : List Value} {ds : List PyData}, CarriedAll xs ds → xs.length = ds.length
  | _, _, .nil => rfl
  | _, _, .cons _ r => by simp [carried_len r]
section
variable {prog : Program} {w : World} {A : Around} {E : Value → Shared → Prop} {s : Shared} {a b : Addr} {xs : List Value} {ts : List Str} {us : List Nat} {Q : Value → Shared → Prop} {h₀ : Heap} {L : Addr} {news : List (Addr × Obj)} {o o' : Obj} {n : Nat} {value slice : Expr} {u : Tok}
theorem emp (us : List Nat) : (us.map chr).isEmpty = us.isEmpty := by cases us <;> rfl
theorem k_eqN (N : News h₀ L s.heap news) (ha : (a, o) ∈ news) (hb : (b, o') ∈ news) (hc : o.cls = .type "list") (hd : o.data = .seq xs.toArray n) (hc' : o'.cls = .type "list") (hd' : o'.data = .seq #[] 0) (hi : CarriedAll xs (ts.map PyData.str)) (hts : ts = us.map chr) (hus : AllC us) (hu : A.units + 64 < cLine) (h : Q (.bool us.isEmpty) s) :
    wpAny (model prog w) A (compareOp .Eq (.ref a) (.ref b)) Q E s := by
  subst hts
  exact k_eqNil N ha hb hc hd hc' hd' hi (ok_chr hus) hu (by rw [emp]; exact h)
theorem k_neN (N : News h₀ L s.heap news) (ha : (a, o) ∈ news) (hb : (b, o') ∈ news) (hc : o.cls = .type "list") (hd : o.data = .seq xs.toArray n) (hc' : o'.cls = .type "list") (hd' : o'.data = .seq #[] 0) (hi : CarriedAll xs (ts.map PyData.str)) (hts : ts = us.map chr) (hus : AllC us) (hu : A.units + 64 < cLine) (h : Q (.bool (!us.isEmpty)) s) :
    wpAny (model prog w) A (compareOp .NotEq (.ref a) (.ref b)) Q E s := by
  subst hts
  exact k_neNil N ha hb hc hd hc' hd' hi (ok_chr hus) hu (by rw [emp]; exact h)
theorem k_last (N : News h₀ L s.heap news) (ha : (a, o) ∈ news) (hc : o.cls = .type "list") (hd : o.data = .seq xs.toArray n) (hi : CarriedAll xs (ts.map PyData.str)) (hts : ts = us.map chr) (hus : AllC us) (hne : us.isEmpty = false)
    (h : ∀ (c : Nat) t', LastIs us c → IsCode c → Q (.str ⟨#[c]⟩ t') s)
    (hs : subscripted slice false (.ref a) (.int (-1) u) = operate [.ref a, .int (-1) u] (getItem (.ref a) (.int (-1) u)) := by with_unfolding_all rfl) :
    wpAny (model prog w) A (subscriptTail value slice (.ref a) (.int (-1) u)) Q E s := by
  subst hts
  have hL : s.heap.IsList a xs.toArray := ⟨o, (N _ ha).1, hc, n, hd⟩
  have hlen : xs.length = us.length := by rw [carried_len hi]; simp
  have hpos : 0 < us.length := by cases us with
    | nil => simp at hne
    | cons _ _ => simp
  obtain ⟨c, hcl⟩ : ∃ c, us[us.length - 1]? = some c := ⟨us[us.length - 1], List.getElem?_eq_getElem (by omega)⟩
  obtain ⟨t, ht⟩ := carried_get hi hcl
  refine tail_any hL.typeIs slot_list_getitem.lookup (wpAny_getItem_list_neg hL (by omega) (by simp; omega) (by omega) (x := .str ⟨#[c]⟩ t) ?_ (h c t ?_ (hus c (List.mem_of_getElem? hcl)))) hs
  · have e : ((-1 : Int) + (xs.toArray.size : Int)).toNat = us.length - 1 := by simp; omega
    rw [e]
    simpa using ht
  · unfold LastIs
    rw [List.getLast?_eq_getElem?]; exact hcl
theorem k_head (N : News h₀ L s.heap news) (ha : (a, o) ∈ news) (hc : o.cls = .type "list") (hd : o.data = .seq xs.toArray n) (hi : CarriedAll xs (ts.map PyData.str)) (hts : ts = us.map chr) (hus : AllC us) (hne : us.isEmpty = false)
    (h : ∀ (c : Nat) t', HeadIs us c → IsCode c → Q (.str ⟨#[c]⟩ t') s)
    (hs : subscripted slice false (.ref a) (.int 0 u) = operate [.ref a, .int 0 u] (getItem (.ref a) (.int 0 u)) := by with_unfolding_all rfl) :
    wpAny (model prog w) A (subscriptTail value slice (.ref a) (.int 0 u)) Q E s := by
  subst hts
  have hL : s.heap.IsList a xs.toArray := ⟨o, (N _ ha).1, hc, n, hd⟩
  have hpos : 0 < us.length := by cases us with
    | nil => simp at hne
    | cons _ _ => simp
  obtain ⟨c, hcl⟩ : ∃ c, us[0]? = some c := ⟨us[0], List.getElem?_eq_getElem (by omega)⟩
  obtain ⟨t, ht⟩ := carried_get hi hcl
  refine tail_any hL.typeIs slot_list_getitem.lookup (wpAny_getItem_list hL (by omega) (by omega) (x := .str ⟨#[c]⟩ t) (by simpa using ht) (h c t ?_ (hus c (List.mem_of_getElem? hcl)))) hs
  unfold HeadIs
  rw [List.head?_eq_getElem?]; exact hcl
/-- a text that is computed on more than one road -/
def StrEnd (x : Str) (s : Shared) (v : Value) (s' : Shared) : Prop := ∃ t tk, v = .str x t ∧ s' = { s with toks := tk }
theorem StrEnd.intro {x x' : Str} {t : Tok} {tk : Nat} (e : x' = x) : StrEnd x s (.str x' t) { s with toks := tk } := ⟨t, tk, by rw [e], rfl⟩
theorem cutStr {M : Model} {e : Sem Value} (x : Str) (h : wpAny M A e (StrEnd x s) E s) (k : ∀ t tk, Q (.str x t) { s with toks := tk }) : wpAny M A e Q E s :=
  wpAny_mono h (by rintro _ _ ⟨t, tk, rfl, rfl⟩; exact k t tk) fun _ _ e => e
end
end Mine

-- FcLetq
namespace Mine
open PySem.Calls
theorem chr_beq (a b : Nat) : (chr a == chr b) = (a == b) := by
  rw [Bool.eq_iff_iff, beq_iff_eq, beq_iff_eq]
  constructor
  · intro h
    have := congrArg (fun x : Str => x.cps[0]?) h
    simpa [chr] using this
  · rintro rfl; rfl
theorem lit_l : Str.ofString "l" = chr 108 := by decide +kernel
theorem lit_183 : Str.ofString "·" = chr 183 := by decide +kernel
theorem lit_885 : Str.ofString "͵" = chr 885 := by decide +kernel
theorem lit_945 : Str.ofString "α" = chr 945 := by decide +kernel
theorem lit_12539 : Str.ofString "・" = chr 12539 := by decide +kernel
theorem lit_1488 : Str.ofString "א" = chr 1488 := by decide +kernel
theorem lit_1523 : Str.ofString "׳" = chr 1523 := by decide +kernel
theorem lit_1524 : Str.ofString "״" = chr 1524 := by decide +kernel
theorem lit_ka : Str.ofString "か" = chr 12363 := by decide +kernel
theorem lit_KA : Str.ofString "カ" = chr 12459 := by decide +kernel
theorem lit_se : Str.ofString "世" = chr 19990 := by decide +kernel
theorem lit_2381 : Str.ofString "्" = chr 2381 := by decide +kernel
theorem lit_8205 : Str.ofString "‍" = chr 8205 := by decide +kernel
theorem lit_1576 : Str.ofString "ب" = chr 1576 := by decide +kernel
theorem lit_none : Str.ofString "" = ⟨#[]⟩ := by decide +kernel
theorem none_chr (b : Nat) : ((⟨#[]⟩ : Str) == chr b) = false := by
  rw [beq_eq_false_iff_ne]
  intro h
  have := congrArg (fun x : Str => x.cps.size) h
  simp [chr] at this
def occ (y x : Str) : Bool := (Builtin.Str.occurrences y x 0 y.length 1).isEmpty
theorem occ_heb {c : Nat} (h : c ∈ codes) : occ (Str.ofString "׳״") (chr c) = !(c == 1523 || c == 1524) := by
  have e : (codes.all fun c => occ (Str.ofString "׳״") (chr c) == !(c == 1523 || c == 1524)) = true := by decide +kernel
  exact beq_iff_eq.mp (List.all_eq_true.mp e c h)
theorem occ_A {c : Nat} (h : c ∈ codes) : occ (Str.ofString "٠٣٩") (chr c) = !(digA c) := by
  have e : (codes.all fun c => occ (Str.ofString "٠٣٩") (chr c) == !(digA c)) = true := by decide +kernel
  exact beq_iff_eq.mp (List.all_eq_true.mp e c h)
theorem occ_X {c : Nat} (h : c ∈ codes) : occ (Str.ofString "۰۴۹") (chr c) = !(digX c) := by
  have e : (codes.all fun c => occ (Str.ofString "۰۴۹") (chr c) == !(digX c)) = true := by decide +kernel
  exact beq_iff_eq.mp (List.all_eq_true.mp e c h)
theorem occ_lab (l : List Nat) (d : Nat) : occ ⟨l.toArray⟩ (chr d) = !(l.any (· == d)) := by
  have h := StrLaws.found_one ⟨l.toArray⟩ d
  have e : decide (d ∈ (⟨l.toArray⟩ : Str).cps.toList) = l.any (· == d) := by
    rw [Bool.eq_iff_iff, decide_eq_true_eq, List.any_eq_true]
    simp
  rw [e] at h
  unfold occ chr
  rw [← h, Bool.not_not]
def pv (l : List Nat) (p : Nat) : Str := if 0 < p then chr (l.getD (p - 1) 0) else Str.ofString ""
def nv (l : List Nat) (p : Nat) : Str := if p + 1 < l.length then chr (l.getD (p + 1) 0) else Str.ofString ""
theorem pv_beq (l : List Nat) (p b : Nat) : (pv l p == chr b) = (decide (0 < p) && (l.getD (p - 1) 0 == b)) := by
  unfold pv
  split
  · rename_i h; rw [chr_beq, decide_eq_true h, Bool.true_and]
  · rename_i h; rw [lit_none, none_chr, decide_eq_false h, Bool.false_and]
theorem nv_beq (l : List Nat) (p b : Nat) : (nv l p == chr b) = (decide (p + 1 < l.length) && (l.getD (p + 1) 0 == b)) := by
  unfold nv
  split
  · rename_i h; rw [chr_beq, decide_eq_true h, Bool.true_and]
  · rename_i h; rw [lit_none, none_chr, decide_eq_false h, Bool.false_and]
section
variable {l : List Nat} {p c : Nat}
theorem is_yes {d : Nat} {x : Str} (hx : x = chr d) (h : (({ cps := #[c] } : Str) == x) = true) : c = d := by
  subst hx
  exact beq_iff_eq.mp ((chr_beq c d).symm.trans h)
theorem is_no {d : Nat} {x : Str} (hx : x = chr d) (h : (({ cps := #[c] } : Str) == x) = false) : c ≠ d := by
  subst hx
  exact beq_eq_false_iff_ne.mp ((chr_beq c d).symm.trans h)
theorem swap (a b : Str) : (a == b) = (b == a) := by rw [Bool.eq_iff_iff, beq_iff_eq, beq_iff_eq]; exact eq_comm
theorem at_codes (hl : Lab l) (hp : p < l.length) (h : AtIx l (p : Int) c) : c ∈ codes ∧ c = l.getD p 0 := by
  have e := at_nat h rfl
  refine ⟨?_, e⟩
  rw [e, List.getD_eq_getElem?_getD, List.getElem?_eq_getElem hp]
  exact hl.all _ (List.getElem_mem hp)
theorem q_1 (hl : Lab l) (hp : p < l.length) (h : AtIx l (p : Int) c) (a1 : (({ cps := #[c] } : Str) == Str.ofString "·") = true) (a2 : (pv l p == Str.ofString "l") = true) : ctxo l p = (nv l p == Str.ofString "l") := by
  obtain ⟨_, e⟩ := at_codes hl hp h
  have e1 := is_yes lit_183 a1
  rw [lit_l, pv_beq, Bool.and_eq_true] at a2
  unfold ctxo
  rw [← e, if_pos e1, lit_l, nv_beq, a2.1, a2.2]
  simp
theorem q_2 (hl : Lab l) (hp : p < l.length) (h : AtIx l (p : Int) c) (a1 : (({ cps := #[c] } : Str) == Str.ofString "·") = true) (a2 : (pv l p == Str.ofString "l") = false) : ctxo l p = (pv l p == Str.ofString "l") := by
  obtain ⟨_, e⟩ := at_codes hl hp h
  have e1 := is_yes lit_183 a1
  rw [a2]
  rw [lit_l, pv_beq] at a2
  unfold ctxo
  rw [← e, if_pos e1]
  generalize decide (0 < p) = b1 at a2 ⊢
  generalize (l.getD (p - 1) 0 == 108) = b2 at a2 ⊢
  generalize decide (p + 1 < l.length) = b3
  generalize (l.getD (p + 1) 0 == 108) = b4
  cases b1 <;> cases b2 <;> cases b3 <;> cases b4 <;> first | rfl | exact absurd a2 (by decide)
theorem q_3 (hl : Lab l) (hp : p < l.length) (h : AtIx l (p : Int) c) (_ : (({ cps := #[c] } : Str) == Str.ofString "·") = false) (a2 : (({ cps := #[c] } : Str) == Str.ofString "͵") = true) : ctxo l p = ([Str.ofString "α", Str.ofString "͵"].any fun x => x == nv l p) := by
  obtain ⟨_, e⟩ := at_codes hl hp h
  have e1 := is_yes lit_885 a2
  unfold ctxo
  simp only [List.any_cons, List.any_nil, Bool.or_false]
  rw [← e, if_neg (by omega), if_pos e1, swap (Str.ofString "α"), swap (Str.ofString "͵"), lit_945, lit_885, nv_beq, nv_beq, ← Bool.and_or_distrib_left]
theorem q_4 (hl : Lab l) (hp : p < l.length) (h : AtIx l (p : Int) c) (a1 : (({ cps := #[c] } : Str) == Str.ofString "·") = false) (a2 : (({ cps := #[c] } : Str) == Str.ofString "͵") = false) (a3 : occ (Str.ofString "׳״") (chr c) = false) :
    ctxo l p = ([Str.ofString "א", Str.ofString "׳", Str.ofString "״"].any fun x => x == pv l p) := by
  obtain ⟨hc, e⟩ := at_codes hl hp h
  have e1 := is_no lit_183 a1
  have e2 := is_no lit_885 a2
  rw [occ_heb hc] at a3
  have e3 : c = 1523 ∨ c = 1524 := by simp at a3; omega
  unfold ctxo
  simp only [List.any_cons, List.any_nil, Bool.or_false]
  rw [← e, if_neg e1, if_neg e2, if_pos e3, swap (Str.ofString "א"), swap (Str.ofString "׳"), swap (Str.ofString "״"), lit_1488, lit_1523, lit_1524, pv_beq, pv_beq, pv_beq, ← Bool.and_or_distrib_left, ← Bool.and_or_distrib_left]
  rfl
theorem no_heb (hc : c ∈ codes) (a3 : occ (Str.ofString "׳״") (chr c) = true) : ¬ (c = 1523 ∨ c = 1524) := by
  rw [occ_heb hc] at a3
  simpa using a3
theorem q_5 (hl : Lab l) (hp : p < l.length) (h : AtIx l (p : Int) c) (a1 : (({ cps := #[c] } : Str) == Str.ofString "·") = false) (a2 : (({ cps := #[c] } : Str) == Str.ofString "͵") = false) (a3 : occ (Str.ofString "׳״") (chr c) = true)
    (a4 : (({ cps := #[c] } : Str) == Str.ofString "・") = true) : ctxo l p = l.any hkh := by
  obtain ⟨hc, e⟩ := at_codes hl hp h
  unfold ctxo
  rw [← e, if_neg (is_no lit_183 a1), if_neg (is_no lit_885 a2), if_neg (no_heb hc a3), if_pos (is_yes lit_12539 a4)]
theorem any_hkh (l : List Nat) : l.any hkh = (l.any (· == 12363) || (l.any (· == 12459) || l.any (· == 19990))) := by
  induction l with
  | nil => rfl
  | cons a r ih =>
    simp only [List.any_cons, ih]
    unfold hkh
    cases (a == 12363) <;> cases (a == 12459) <;> cases (a == 19990) <;> simp
theorem q_6 (a6 : occ ⟨l.toArray⟩ (Str.ofString "カ") = true) (a7 : occ ⟨l.toArray⟩ (Str.ofString "か") = true) : l.any hkh = !(occ ⟨l.toArray⟩ (Str.ofString "世")) := by
  rw [lit_KA, occ_lab] at a6
  rw [lit_ka, occ_lab] at a7
  rw [lit_se, occ_lab, any_hkh]
  simp only [Bool.not_eq_true'] at a6 a7
  rw [a6, a7]; simp
theorem q_7 (a7 : occ ⟨l.toArray⟩ (Str.ofString "か") = false) : l.any hkh = !(occ ⟨l.toArray⟩ (Str.ofString "か")) := by
  rw [a7]
  rw [lit_ka, occ_lab] at a7
  simp only [Bool.not_eq_false'] at a7
  rw [any_hkh, a7]; simp
theorem q_8 (a7 : occ ⟨l.toArray⟩ (Str.ofString "カ") = false) : l.any hkh = !(occ ⟨l.toArray⟩ (Str.ofString "カ")) := by
  rw [a7]
  rw [lit_KA, occ_lab] at a7
  simp only [Bool.not_eq_false'] at a7
  rw [any_hkh, a7]; simp
theorem fil_emp (l : List Nat) (g : Nat → Bool) : (l.filter g).isEmpty = !(l.any g) := by
  induction l with
  | nil => rfl
  | cons a r ih =>
    simp only [List.filter_cons, List.any_cons]
    cases g a <;> simp [ih]
theorem q_9 (hl : Lab l) (hp : p < l.length) (h : AtIx l (p : Int) c) (a1 : (({ cps := #[c] } : Str) == Str.ofString "·") = false) (a2 : (({ cps := #[c] } : Str) == Str.ofString "͵") = false) (a3 : occ (Str.ofString "׳״") (chr c) = true)
    (a4 : (({ cps := #[c] } : Str) == Str.ofString "・") = false) (a5 : occ (Str.ofString "٠٣٩") (chr c) = true) (a6 : occ (Str.ofString "۰۴۹") (chr c) = true) : ctxo l p = !(occ (Str.ofString "۰۴۹") (chr c)) := by
  obtain ⟨hc, e⟩ := at_codes hl hp h
  rw [a6]
  rw [occ_A hc] at a5
  rw [occ_X hc] at a6
  unfold ctxo
  rw [← e, if_neg (is_no lit_183 a1), if_neg (is_no lit_885 a2), if_neg (no_heb hc a3), if_neg (is_no lit_12539 a4), if_neg (by simpa using a5), if_neg (by simpa using a6)]
  rfl
theorem q_10 (hl : Lab l) (hp : p < l.length) (h : AtIx l (p : Int) c) (a1 : (({ cps := #[c] } : Str) == Str.ofString "·") = false) (a2 : (({ cps := #[c] } : Str) == Str.ofString "͵") = false) (a3 : occ (Str.ofString "׳״") (chr c) = true)
    (a4 : (({ cps := #[c] } : Str) == Str.ofString "・") = false) (a5 : occ (Str.ofString "٠٣٩") (chr c) = true) (a6 : occ (Str.ofString "۰۴۹") (chr c) = false) : ctxo l p = (l.filter digA).isEmpty := by
  obtain ⟨hc, e⟩ := at_codes hl hp h
  rw [occ_A hc] at a5
  rw [occ_X hc] at a6
  unfold ctxo
  rw [← e, if_neg (is_no lit_183 a1), if_neg (is_no lit_885 a2), if_neg (no_heb hc a3), if_neg (is_no lit_12539 a4), if_neg (by simpa using a5), if_pos (by simpa using a6), fil_emp]
theorem q_11 (hl : Lab l) (hp : p < l.length) (h : AtIx l (p : Int) c) (a1 : (({ cps := #[c] } : Str) == Str.ofString "·") = false) (a2 : (({ cps := #[c] } : Str) == Str.ofString "͵") = false) (a3 : occ (Str.ofString "׳״") (chr c) = true)
    (a4 : (({ cps := #[c] } : Str) == Str.ofString "・") = false) (a5 : occ (Str.ofString "٠٣٩") (chr c) = false) : ctxo l p = (l.filter digX).isEmpty := by
  obtain ⟨hc, e⟩ := at_codes hl hp h
  rw [occ_A hc] at a5
  unfold ctxo
  rw [← e, if_neg (is_no lit_183 a1), if_neg (is_no lit_885 a2), if_neg (no_heb hc a3), if_neg (is_no lit_12539 a4), if_pos (by simpa using a5), fil_emp]
end
end Mine

-- FcJoinq
namespace Mine
open PySem.Calls
def lastOk (us : List Nat) : Bool := match us.getLast? with | some c => c == 1576 | none => false
def headOk (us : List Nat) : Bool := match us.head? with | some c => (c == 1576 || c == 1575) | none => false
/-- what _law_joins answers -/
def joins (l : List Nat) (p : Nat) : Bool :=
  if 0 < p ∧ l.getD (p - 1) 0 = 2381 then true else if l.getD p 0 = 8205 then false else lastOk (lf l p) && headOk (rt l p)
theorem back_last {l : List Nat} : ∀ p : Nat, p ≤ l.length → back l p = lastOk ((l.take p).filter nT)
  | 0, _ => by simp [back, lastOk]
  | p + 1, h => by
    have hp : p < l.length := by omega
    have e : l.getD p 0 = l[p] := by rw [List.getD_eq_getElem?_getD, List.getElem?_eq_getElem hp]; rfl
    rw [List.take_add_one, List.getElem?_eq_getElem hp, List.filter_append]
    unfold back
    rw [e, back_last p (by omega)]
    cases hT : isT l[p] with
    | true => simp [nT, hT]
    | false => simp [nT, hT, lastOk]
theorem fwd_head : ∀ r : List Nat, fwd r = headOk (r.filter nT)
  | [] => rfl
  | c :: r => by
    unfold fwd
    rw [fwd_head r]
    cases hT : isT c with
    | true => simp [nT, hT]
    | false => simp [nT, hT, headOk]
theorem ccv_9 (d : Nat) : (ccv d == 9) = decide (d = 2381) := by
  unfold ccv
  by_cases h : d = 2381
  · subst h; decide
  · rw [decide_eq_false h]
    repeat' split
    all_goals first | rfl | omega
theorem ctxj_joins {l : List Nat} {p : Nat} (hp : p < l.length) (h : l.getD p 0 = 8204 ∨ l.getD p 0 = 8205) : ctxj l p = joins l p := by
  unfold ctxj joins lf rt
  rw [ccv_9, back_last p (Nat.le_of_lt hp), fwd_head]
  by_cases h1 : 0 < p
  · by_cases h2 : l.getD (p - 1) 0 = 2381
    · rcases h with h | h
      · rw [if_pos h]; simp only [h1, h2]; simp
      · rw [if_neg (by omega), if_pos h]; simp only [h1, h2]; simp
    · rcases h with h | h
      · rw [if_pos h, if_neg (by omega), if_neg (by omega), decide_eq_true h1, decide_eq_false h2]; simp
      · rw [if_neg (by omega), if_pos h, if_neg (by omega), if_pos h, decide_eq_false h2]; simp
  · rcases h with h | h
    · rw [if_pos h, if_neg (by omega), if_neg (by omega), decide_eq_false h1]; simp
    · rw [if_neg (by omega), if_pos h, if_neg (by omega), if_pos h, decide_eq_false h1]; simp
theorem ctxj_no {l : List Nat} {p : Nat} (h : ¬ (l.getD p 0 = 8204 ∨ l.getD p 0 = 8205)) : ctxj l p = false := by
  unfold ctxj
  rw [if_neg (by omega), if_neg (by omega)]
theorem occ_J {c : Nat} (h : c ∈ codes) : occ (Str.ofString "‌‍") (chr c) = !(c == 8204 || c == 8205) := by
  have e : (codes.all fun c => occ (Str.ofString "‌‍") (chr c) == !(c == 8204 || c == 8205)) = true := by decide +kernel
  exact beq_iff_eq.mp (List.all_eq_true.mp e c h)
theorem occ_ba {c : Nat} (h : c ∈ codes) : occ (Str.ofString "با") (chr c) = !(c == 1576 || c == 1575) := by
  have e : (codes.all fun c => occ (Str.ofString "با") (chr c) == !(c == 1576 || c == 1575)) = true := by decide +kernel
  exact beq_iff_eq.mp (List.all_eq_true.mp e c h)
section
variable {l : List Nat} {p c d f : Nat}
theorem cu_1 (h : 0 < (p : Int)) (ha : AtIx l ((p : Int) - 1) d) (e : (({ cps := #[d] } : Str) == Str.ofString "्") = true) : decide (0 < p ∧ l.getD (p - 1) 0 = 2381) = true := by
  have e2 := at_nat (i := p - 1) ha (by omega)
  have e3 := is_yes lit_2381 e
  exact decide_eq_true ⟨by omega, by omega⟩
theorem cu_2 (h : 0 < (p : Int)) (ha : AtIx l ((p : Int) - 1) d) (e : (({ cps := #[d] } : Str) == Str.ofString "्") = false) : decide (0 < p ∧ l.getD (p - 1) 0 = 2381) = false := by
  have e2 := at_nat (i := p - 1) ha (by omega)
  have e3 := is_no lit_2381 e
  exact decide_eq_false (by omega)
theorem cu_3 (h : ¬ 0 < (p : Int)) : decide (0 < p ∧ l.getD (p - 1) 0 = 2381) = false := decide_eq_false (by omega)
theorem jn_4 (hb : decide (0 < p ∧ l.getD (p - 1) 0 = 2381) = true) : joins l p = true := by
  unfold joins
  rw [if_pos (of_decide_eq_true hb)]
theorem jn_5 (hb : decide (0 < p ∧ l.getD (p - 1) 0 = 2381) = false) (ha : AtIx l (p : Int) c) (e : (({ cps := #[c] } : Str) == Str.ofString "‍") = true) : joins l p = false := by
  have e1 := at_nat ha rfl
  unfold joins
  rw [if_neg (of_decide_eq_false hb), ← e1, if_pos (is_yes lit_8205 e)]
theorem jn_0 (hb : decide (0 < p ∧ l.getD (p - 1) 0 = 2381) = false) (ha : AtIx l (p : Int) c) (e : (({ cps := #[c] } : Str) == Str.ofString "‍") = false) : joins l p = (lastOk (lf l p) && headOk (rt l p)) := by
  have e1 := at_nat ha rfl
  unfold joins
  rw [if_neg (of_decide_eq_false hb), ← e1, if_neg (is_no lit_8205 e)]
theorem jn_6 (h0 : joins l p = (lastOk (lf l p) && headOk (rt l p))) (h : (lf l p).isEmpty = true) : joins l p = !(lf l p).isEmpty := by
  rw [h0, h, List.isEmpty_iff.mp h]; rfl
theorem jn_l (h : LastIs (lf l p) d) : lastOk (lf l p) = (d == 1576) := by
  unfold LastIs at h
  unfold lastOk
  rw [h]
theorem jn_7 (h0 : joins l p = (lastOk (lf l p) && headOk (rt l p))) (h : (rt l p).isEmpty = true) : joins l p = !(rt l p).isEmpty := by
  rw [h0, h, List.isEmpty_iff.mp h]; simp [headOk]
theorem jn_8 (h0 : joins l p = (lastOk (lf l p) && headOk (rt l p))) (h : LastIs (lf l p) d) (e : (({ cps := #[d] } : Str) == Str.ofString "ب") = true) (h2 : HeadIs (rt l p) f) (hf : IsCode f) : joins l p = !(occ (Str.ofString "با") (chr f)) := by
  rw [h0, jn_l h, occ_ba hf.mem, Bool.not_not, is_yes lit_1576 e]
  unfold HeadIs at h2
  unfold headOk
  rw [h2]; rfl
theorem jn_9 (h0 : joins l p = (lastOk (lf l p) && headOk (rt l p))) (h : LastIs (lf l p) d) (e : (({ cps := #[d] } : Str) == Str.ofString "ب") = false) : joins l p = (({ cps := #[d] } : Str) == Str.ofString "ب") := by
  rw [h0, jn_l h, e, beq_false_of_ne (is_no lit_1576 e)]; rfl
end
end Mine

-- FcLets
namespace Mine
open PySem.Calls
local macro_rules | `(tactic| cell_enter) => `(tactic| (refine' code_defR ?k1 ?k2 ?k3 ?k4 ?k5 ?kA ?kF ?kK ?k6 ?k7 ?k8 ?k9 ?kB ?_ ?c2 ?c3 ?c4 ?c5; (case kA => exact rfl); (case kF => exact rfl); (case kK => assumption); (case k1 => k_asm); (case k2 => k_asm); (case k3 => k_asm); (case k4 => k_asm); (case k5 => k_asm); (case k6 => k_is); (case k7 => k_is); (case k8 => ktr_room); (case k9 => first | exact BindsTo.of_eq rfl | exact binds_K (by k_in) rfl (by k_is) rfl rfl rfl); (case c5 => decide); (case kB => exact locs rfl); (case c2 => exact rfl); (case c3 => exact rfl); (case c4 => exact rfl); k_whole; intro g' L' h' FG' F' N' B' X' T'; (try dsimp only); (try k_lift B'); (try k_fold)))
local macro_rules | `(tactic| walk_at "call builtin:len") => `(tactic| (k_here; (with_reducible show wpAny _ _ (call (Value.builtin "len") [Value.str _ _]) _ _ _); (refine' k_strlen ?k1 ?_; (case k1 => with_reducible assumption); k_whole); intro t9 tk9))
local macro_rules | `(tactic| walk_at "subscriptTail Name Name str int") => `(tactic| (k_here; (with_reducible show wpAny _ _ (subscriptTail _ _ (Value.str _ _) (Value.int _ _)) _ _ _); with_unfolding_all (refine' k_chr ?k1 ?k2 ?k3 ?_ ?k4 ?k5; (case k1 => with_reducible assumption); (case k2 => omega); (case k3 => omega); (case k4 => with_unfolding_all rfl); (case k5 => (intro _; with_unfolding_all rfl)); k_whole); intro c9 t9 tk9 hc9 hi9))
local macro_rules | `(tactic| walk_at "subscriptTail Name BinOp str int") => `(tactic| (k_here; (with_reducible show wpAny _ _ (subscriptTail _ _ (Value.str _ _) (Value.int _ _)) _ _ _); with_unfolding_all (refine' k_chr ?k1 ?k2 ?k3 ?_ ?k4 ?k5; (case k1 => with_reducible assumption); (case k2 => omega); (case k3 => omega); (case k4 => with_unfolding_all rfl); (case k5 => (intro _; with_unfolding_all rfl)); k_whole); intro c9 t9 tk9 hc9 hi9))
local macro_rules | `(tactic| walk_at "LoopStepV") => `(tactic| (k_here; (first | (with_reducible refine LoopStepV.brk ?_) | (with_reducible refine LoopStepV.ret ?_)); (try dsimp only)))
local macro_rules | `(tactic| walk_at "compareOp NotEq ref ref") => `(tactic| (k_here; (with_reducible show wpAny _ _ (compareOp CmpOp.NotEq (Value.ref _) (Value.ref _)) _ _ _); k_dflt (refine' k_neN ?zN ?za ?zb ?zc ?zd ?ze ?zf ?zi ?zt ?zo ?zu ?_; (case zN => k_asm); (case za => k_mem); (case zb => k_mem); (case zc => rfl); (case zd => rfl); (case ze => rfl); (case zf => rfl); (case zi => with_reducible assumption); (case zt => first | exact left_ts (by assumption) (by assumption) (by decide +kernel) | exact right_ts (by assumption) (by assumption) (by decide +kernel) | exact digX_ts (by assumption) (by decide +kernel) | exact digA_ts (by assumption) (by decide +kernel)); (case zo => first | exact lf_c (by assumption) | exact rt_c (by assumption) | exact fl_c (by assumption)); (case zu => first | ktr_units | ke_room); k_whole)))
local macro_rules | `(tactic| walk_at "compareOp Eq ref ref") => `(tactic| (k_here; (with_reducible show wpAny _ _ (compareOp CmpOp.Eq (Value.ref _) (Value.ref _)) _ _ _); k_dflt (refine' k_eqN ?zN ?za ?zb ?zc ?zd ?ze ?zf ?zi ?zt ?zo ?zu ?_; (case zN => k_asm); (case za => k_mem); (case zb => k_mem); (case zc => rfl); (case zd => rfl); (case ze => rfl); (case zf => rfl); (case zi => with_reducible assumption); (case zt => first | exact left_ts (by assumption) (by assumption) (by decide +kernel) | exact right_ts (by assumption) (by assumption) (by decide +kernel) | exact digX_ts (by assumption) (by decide +kernel) | exact digA_ts (by assumption) (by decide +kernel)); (case zo => first | exact lf_c (by assumption) | exact rt_c (by assumption) | exact fl_c (by assumption)); (case zu => first | ktr_units | ke_room); k_whole)))
local macro_rules | `(tactic| walk_at "subscriptTail Name UnaryOp ref int") => `(tactic| (k_here; (with_reducible show wpAny _ _ (subscriptTail _ _ (Value.ref _) (Value.int _ _)) _ _ _); with_unfolding_all (refine' k_last ?zN ?za ?zc ?zd ?zi ?zt ?zo ?zn ?_ ?zs; (case zN => k_asm); (case za => k_mem); (case zc => rfl); (case zd => rfl); (case zi => with_reducible assumption); (case zt => first | exact left_ts (by assumption) (by assumption) (by decide +kernel) | exact right_ts (by assumption) (by assumption) (by decide +kernel) | exact digX_ts (by assumption) (by decide +kernel) | exact digA_ts (by assumption) (by decide +kernel)); (case zo => first | exact lf_c (by assumption) | exact rt_c (by assumption) | exact fl_c (by assumption)); (case zn => with_reducible assumption); (case zs => with_unfolding_all rfl); k_whole); intro c9 t9 hc9 hi9))
local macro_rules | `(tactic| walk_at "subscriptTail Name Constant ref int") => `(tactic| (k_here; (with_reducible show wpAny _ _ (subscriptTail _ _ (Value.ref _) (Value.int _ _)) _ _ _); with_unfolding_all (refine' k_head ?zN ?za ?zc ?zd ?zi ?zt ?zo ?zn ?_ ?zs; (case zN => k_asm); (case za => k_mem); (case zc => rfl); (case zd => rfl); (case zi => with_reducible assumption); (case zt => first | exact left_ts (by assumption) (by assumption) (by decide +kernel) | exact right_ts (by assumption) (by assumption) (by decide +kernel) | exact digX_ts (by assumption) (by decide +kernel) | exact digA_ts (by assumption) (by decide +kernel)); (case zo => first | exact lf_c (by assumption) | exact rt_c (by assumption) | exact fl_c (by assumption)); (case zn => with_reducible assumption); (case zs => with_unfolding_all rfl); k_whole); intro c9 t9 hc9 hi9))
local macro_rules | `(tactic| walk_at "eval IfExp") => `(tactic| (k_here; (with_reducible refine Stopped.go ?_)))
local macro_rules | `(tactic| k_steps) => `(tactic| repeat' (first | (k_unfold; (try dsimp only)) | walk1 | (dsimp only; walk1) | (leave1; walk_say "STEP leave1"; try dsimp only) | fail "no step"))
theorem lets_claim {w : World} {mg mb : Str → Option Value} {l : List Nat} {p : Nat} {t tp : Tok} {news : List (Addr × Obj)} (hl : Lab l) (hp : p < l.length) (hlen : l.length ≤ 64) :
    Claim w mg mb 12 170 [.str ⟨l.toArray⟩ t, .int (p : Int) tp] news (Gives (IsBoolV (ctxo l p))) := by
  unfold Claim theProg theLoose
  k_fill
  intro dp un gd cn cs a ccd cl outer A₀ base h₀ L m s Q E B F X N T hk hd1 hd2 hret
  refine wpAny_call ?_
  k_dflt cell_enter
  k_steps
  unfold Stopped
  refine cutStr (pv l p) ?_ ?_
  · unfold pv
    refine IfExp_ ?_
    k_steps
    · exact StrEnd.intro (by rw [if_pos (by omega), ← at_nat (i := p - 1) (by assumption) (by omega)]; rfl)
    · exact StrEnd.intro (by rw [if_neg (by omega)])
  intro t1 tk1
  k_steps
  unfold Stopped
  refine cutStr (nv l p) ?_ ?_
  · unfold nv
    refine IfExp_ ?_
    k_steps
    · exact StrEnd.intro (by rw [if_pos (by omega), ← at_nat (i := p + 1) (by assumption) (by omega)]; rfl)
    · exact StrEnd.intro (by rw [if_neg (by omega)])
  intro t2 tk2
  k_steps
  · have hv : ctxo l p = _ := q_1 hl hp (by assumption) (by assumption) (by assumption)
    rw [hv] at hret
    exact hret _ [] _ _ ⟨rfl, rfl⟩ (by k_asm) (by first | k_asm | (refine' cb_drop ?cbN1 ?cbS1; (case cbN1 => assumption); (case cbS1 => (first | kcj_all | (intro p9 hp9; simp only [List.nil_append, List.append_nil, List.mem_cons, List.mem_append] at hp9 ⊢; simp only [hp9, or_true])))))
  · have hv : ctxo l p = _ := q_2 hl hp (by assumption) (by assumption) (by assumption)
    rw [hv] at hret
    exact hret _ [] _ _ ⟨rfl, rfl⟩ (by k_asm) (by first | k_asm | (refine' cb_drop ?cbN2 ?cbS2; (case cbN2 => assumption); (case cbS2 => (first | kcj_all | (intro p9 hp9; simp only [List.nil_append, List.append_nil, List.mem_cons, List.mem_append] at hp9 ⊢; simp only [hp9, or_true])))))
  · have hv : ctxo l p = _ := q_3 hl hp (by assumption) (by assumption) (by assumption)
    rw [hv] at hret
    exact hret _ [] _ _ ⟨rfl, rfl⟩ (by k_asm) (by first | k_asm | (refine' cb_drop ?cbN3 ?cbS3; (case cbN3 => assumption); (case cbS3 => (first | kcj_all | (intro p9 hp9; simp only [List.nil_append, List.append_nil, List.mem_cons, List.mem_append] at hp9 ⊢; simp only [hp9, or_true])))))
  · have hv : ctxo l p = _ := (q_5 hl hp (by assumption) (by assumption) (by assumption) (by assumption) (by assumption)).trans (q_6 (by assumption) (by assumption))
    rw [hv] at hret
    exact hret _ [] _ _ ⟨rfl, rfl⟩ (by k_asm) (by first | k_asm | (refine' cb_drop ?cbN6 ?cbS6; (case cbN6 => assumption); (case cbS6 => (first | kcj_all | (intro p9 hp9; simp only [List.nil_append, List.append_nil, List.mem_cons, List.mem_append] at hp9 ⊢; simp only [hp9, or_true])))))
  · have hv : ctxo l p = _ := (q_5 hl hp (by assumption) (by assumption) (by assumption) (by assumption) (by assumption)).trans (q_7 (by assumption))
    rw [hv] at hret
    exact hret _ [] _ _ ⟨rfl, rfl⟩ (by k_asm) (by first | k_asm | (refine' cb_drop ?cbN7 ?cbS7; (case cbN7 => assumption); (case cbS7 => (first | kcj_all | (intro p9 hp9; simp only [List.nil_append, List.append_nil, List.mem_cons, List.mem_append] at hp9 ⊢; simp only [hp9, or_true])))))
  · have hv : ctxo l p = _ := (q_5 hl hp (by assumption) (by assumption) (by assumption) (by assumption) (by assumption)).trans (q_8 (by assumption))
    rw [hv] at hret
    exact hret _ [] _ _ ⟨rfl, rfl⟩ (by k_asm) (by first | k_asm | (refine' cb_drop ?cbN8 ?cbS8; (case cbN8 => assumption); (case cbS8 => (first | kcj_all | (intro p9 hp9; simp only [List.nil_append, List.append_nil, List.mem_cons, List.mem_append] at hp9 ⊢; simp only [hp9, or_true])))))
  · have hv : ctxo l p = _ := q_9 hl hp (by assumption) (by assumption) (by assumption) (by assumption) (by assumption) (by assumption) (by assumption)
    rw [hv] at hret
    exact hret _ [] _ _ ⟨rfl, rfl⟩ (by k_asm) (by first | k_asm | (refine' cb_drop ?cbN9 ?cbS9; (case cbN9 => assumption); (case cbS9 => (first | kcj_all | (intro p9 hp9; simp only [List.nil_append, List.append_nil, List.mem_cons, List.mem_append] at hp9 ⊢; simp only [hp9, or_true])))))
  · have hv : ctxo l p = _ := q_10 hl hp (by assumption) (by assumption) (by assumption) (by assumption) (by assumption) (by assumption) (by assumption)
    rw [hv] at hret
    exact hret _ [] _ _ ⟨rfl, rfl⟩ (by k_asm) (by first | k_asm | (refine' cb_drop ?cbN10 ?cbS10; (case cbN10 => assumption); (case cbS10 => (first | kcj_all | (intro p9 hp9; simp only [List.nil_append, List.append_nil, List.mem_cons, List.mem_append] at hp9 ⊢; simp only [hp9, or_true])))))
  · have hv : ctxo l p = _ := q_11 hl hp (by assumption) (by assumption) (by assumption) (by assumption) (by assumption) (by assumption)
    rw [hv] at hret
    exact hret _ [] _ _ ⟨rfl, rfl⟩ (by k_asm) (by first | k_asm | (refine' cb_drop ?cbN11 ?cbS11; (case cbN11 => assumption); (case cbS11 => (first | kcj_all | (intro p9 hp9; simp only [List.nil_append, List.append_nil, List.mem_cons, List.mem_append] at hp9 ⊢; simp only [hp9, or_true])))))
  · have hv : ctxo l p = _ := q_4 hl hp (by assumption) (by assumption) (by assumption) (by assumption)
    rw [hv] at hret
    exact hret _ [] _ _ ⟨rfl, rfl⟩ (by k_asm) (by first | k_asm | (refine' cb_drop ?cbN4 ?cbS4; (case cbN4 => assumption); (case cbS4 => (first | kcj_all | (intro p9 hp9; simp only [List.nil_append, List.append_nil, List.mem_cons, List.mem_append] at hp9 ⊢; simp only [hp9, or_true])))))
end Mine

-- FcJoins
namespace Mine
open PySem.Calls
local macro_rules | `(tactic| cell_enter) => `(tactic| (refine' code_defR ?k1 ?k2 ?k3 ?k4 ?k5 ?kA ?kF ?kK ?k6 ?k7 ?k8 ?k9 ?kB ?_ ?c2 ?c3 ?c4 ?c5; (case kA => exact rfl); (case kF => exact rfl); (case kK => assumption); (case k1 => k_asm); (case k2 => k_asm); (case k3 => k_asm); (case k4 => k_asm); (case k5 => k_asm); (case k6 => k_is); (case k7 => k_is); (case k8 => ktr_room); (case k9 => first | exact BindsTo.of_eq rfl | exact binds_K (by k_in) rfl (by k_is) rfl rfl rfl); (case c5 => decide); (case kB => exact locs rfl); (case c2 => exact rfl); (case c3 => exact rfl); (case c4 => exact rfl); k_whole; intro g' L' h' FG' F' N' B' X' T'; (try dsimp only); (try k_lift B'); (try k_fold)))
local macro_rules | `(tactic| walk_at "call builtin:len") => `(tactic| (k_here; (with_reducible show wpAny _ _ (call (Value.builtin "len") [Value.str _ _]) _ _ _); (refine' k_strlen ?k1 ?_; (case k1 => with_reducible assumption); k_whole); intro t9 tk9))
local macro_rules | `(tactic| walk_at "subscriptTail Name Name str int") => `(tactic| (k_here; (with_reducible show wpAny _ _ (subscriptTail _ _ (Value.str _ _) (Value.int _ _)) _ _ _); with_unfolding_all (refine' k_chr ?k1 ?k2 ?k3 ?_ ?k4 ?k5; (case k1 => with_reducible assumption); (case k2 => omega); (case k3 => omega); (case k4 => with_unfolding_all rfl); (case k5 => (intro _; with_unfolding_all rfl)); k_whole); intro c9 t9 tk9 hc9 hi9))
local macro_rules | `(tactic| walk_at "subscriptTail Name BinOp str int") => `(tactic| (k_here; (with_reducible show wpAny _ _ (subscriptTail _ _ (Value.str _ _) (Value.int _ _)) _ _ _); with_unfolding_all (refine' k_chr ?k1 ?k2 ?k3 ?_ ?k4 ?k5; (case k1 => with_reducible assumption); (case k2 => omega); (case k3 => omega); (case k4 => with_unfolding_all rfl); (case k5 => (intro _; with_unfolding_all rfl)); k_whole); intro c9 t9 tk9 hc9 hi9))
local macro_rules | `(tactic| walk_at "LoopStepV") => `(tactic| (k_here; (first | (with_reducible refine LoopStepV.brk ?_) | (with_reducible refine LoopStepV.ret ?_)); (try dsimp only)))
local macro_rules | `(tactic| walk_at "compareOp NotEq ref ref") => `(tactic| (k_here; (with_reducible show wpAny _ _ (compareOp CmpOp.NotEq (Value.ref _) (Value.ref _)) _ _ _); k_dflt (refine' k_neN ?zN ?za ?zb ?zc ?zd ?ze ?zf ?zi ?zt ?zo ?zu ?_; (case zN => k_asm); (case za => k_mem); (case zb => k_mem); (case zc => rfl); (case zd => rfl); (case ze => rfl); (case zf => rfl); (case zi => with_reducible assumption); (case zt => first | exact left_ts (by assumption) (by assumption) (by decide +kernel) | exact right_ts (by assumption) (by assumption) (by decide +kernel) | exact digX_ts (by assumption) (by decide +kernel) | exact digA_ts (by assumption) (by decide +kernel)); (case zo => first | exact lf_c (by assumption) | exact rt_c (by assumption) | exact fl_c (by assumption)); (case zu => first | ktr_units | ke_room); k_whole)))
local macro_rules | `(tactic| walk_at "compareOp Eq ref ref") => `(tactic| (k_here; (with_reducible show wpAny _ _ (compareOp CmpOp.Eq (Value.ref _) (Value.ref _)) _ _ _); k_dflt (refine' k_eqN ?zN ?za ?zb ?zc ?zd ?ze ?zf ?zi ?zt ?zo ?zu ?_; (case zN => k_asm); (case za => k_mem); (case zb => k_mem); (case zc => rfl); (case zd => rfl); (case ze => rfl); (case zf => rfl); (case zi => with_reducible assumption); (case zt => first | exact left_ts (by assumption) (by assumption) (by decide +kernel) | exact right_ts (by assumption) (by assumption) (by decide +kernel) | exact digX_ts (by assumption) (by decide +kernel) | exact digA_ts (by assumption) (by decide +kernel)); (case zo => first | exact lf_c (by assumption) | exact rt_c (by assumption) | exact fl_c (by assumption)); (case zu => first | ktr_units | ke_room); k_whole)))
local macro_rules | `(tactic| walk_at "subscriptTail Name UnaryOp ref int") => `(tactic| (k_here; (with_reducible show wpAny _ _ (subscriptTail _ _ (Value.ref _) (Value.int _ _)) _ _ _); with_unfolding_all (refine' k_last ?zN ?za ?zc ?zd ?zi ?zt ?zo ?zn ?_ ?zs; (case zN => k_asm); (case za => k_mem); (case zc => rfl); (case zd => rfl); (case zi => with_reducible assumption); (case zt => first | exact left_ts (by assumption) (by assumption) (by decide +kernel) | exact right_ts (by assumption) (by assumption) (by decide +kernel) | exact digX_ts (by assumption) (by decide +kernel) | exact digA_ts (by assumption) (by decide +kernel)); (case zo => first | exact lf_c (by assumption) | exact rt_c (by assumption) | exact fl_c (by assumption)); (case zn => with_reducible assumption); (case zs => with_unfolding_all rfl); k_whole); intro c9 t9 hc9 hi9))
local macro_rules | `(tactic| walk_at "subscriptTail Name Constant ref int") => `(tactic| (k_here; (with_reducible show wpAny _ _ (subscriptTail _ _ (Value.ref _) (Value.int _ _)) _ _ _); with_unfolding_all (refine' k_head ?zN ?za ?zc ?zd ?zi ?zt ?zo ?zn ?_ ?zs; (case zN => k_asm); (case za => k_mem); (case zc => rfl); (case zd => rfl); (case zi => with_reducible assumption); (case zt => first | exact left_ts (by assumption) (by assumption) (by decide +kernel) | exact right_ts (by assumption) (by assumption) (by decide +kernel) | exact digX_ts (by assumption) (by decide +kernel) | exact digA_ts (by assumption) (by decide +kernel)); (case zo => first | exact lf_c (by assumption) | exact rt_c (by assumption) | exact fl_c (by assumption)); (case zn => with_reducible assumption); (case zs => with_unfolding_all rfl); k_whole); intro c9 t9 hc9 hi9))
local macro_rules | `(tactic| walk_at "eval IfExp") => `(tactic| (k_here; (with_reducible refine Stopped.go ?_)))
local macro_rules | `(tactic| walk_at "exec If") => `(tactic| (k_here; (with_reducible refine Stopped.go ?_)))
local macro_rules | `(tactic| k_steps) => `(tactic| repeat' (first | (k_unfold; (try dsimp only)) | walk1 | (dsimp only; walk1) | (leave1; walk_say "STEP leave1"; try dsimp only) | fail "no step"))
theorem joins_claim {w : World} {mg mb : Str → Option Value} {l : List Nat} {p : Nat} {t tp : Tok} {news : List (Addr × Obj)} (hl : Lab l) (hp : p < l.length) (hlen : l.length ≤ 64) :
    Claim w mg mb 12 175 [.str ⟨l.toArray⟩ t, .int (p : Int) tp] news (Gives (IsBoolV (joins l p))) := by
  unfold Claim theProg theLoose
  k_fill
  intro dp un gd cn cs a ccd cl outer A₀ base h₀ L m s Q E B F X N T hk hd1 hd2 hret
  refine wpAny_call ?_
  k_dflt cell_enter
  k_steps
  unfold Stopped
  refine if_cut (decide (0 < p ∧ l.getD (p - 1) 0 = 2381)) (by k_asm) (by k_asm) ?_ ?_
  · k_steps
    · exact CutEnd.intro (by first | exact (cu_1 (by assumption) (by assumption) (by assumption)).symm | (rename_i e9; rw [e9]; exact (cu_1 (by assumption) (by assumption) (by assumption)).symm)) (by k_asm) (by k_asm)
    · exact CutEnd.intro (by first | exact (cu_2 (by assumption) (by assumption) (by assumption)).symm | (rename_i e9; rw [e9]; exact (cu_2 (by assumption) (by assumption) (by assumption)).symm)) (by k_asm) (by k_asm)
    · exact CutEnd.intro (by first | exact (cu_3 (by assumption)).symm | (rw [cu_3 (by assumption)]; exact decide_eq_false (by assumption))) (by k_asm) (by k_asm)
  intro h9 tk9 F9 N9
  rcases Bool.eq_false_or_eq_true (decide (0 < p ∧ l.getD (p - 1) 0 = 2381)) with hb1 | hb1
  · rw [if_pos hb1]
    k_steps
    · have hv : joins l p = _ := jn_4 hb1
      rw [hv] at hret
      exact hret _ [] _ _ ⟨rfl, rfl⟩ (by k_asm) (by first | k_asm | (refine' cb_drop ?cbN20 ?cbS20; (case cbN20 => assumption); (case cbS20 => (first | kcj_all | (intro p9 hp9; simp only [List.nil_append, List.append_nil, List.mem_cons, List.mem_append] at hp9 ⊢; simp only [hp9, or_true])))))
  rw [if_neg (by rw [hb1]; exact Bool.false_ne_true)]
  k_steps
  unfold Stopped
  refine wpAny_If ?_
  k_steps
  · have hv : joins l p = _ := jn_5 (by assumption) (by assumption) (by assumption)
    rw [hv] at hret
    exact hret _ [] _ _ ⟨rfl, rfl⟩ (by k_asm) (by first | k_asm | (refine' cb_drop ?cbN21 ?cbS21; (case cbN21 => assumption); (case cbS21 => (first | kcj_all | (intro p9 hp9; simp only [List.nil_append, List.append_nil, List.mem_cons, List.mem_append] at hp9 ⊢; simp only [hp9, or_true])))))
  · have hv : joins l p = _ := jn_6 (jn_0 (by assumption) (by assumption) (by assumption)) (by assumption)
    rw [hv] at hret
    exact hret _ [] _ _ ⟨rfl, rfl⟩ (by k_asm) (by first | k_asm | (refine' cb_drop ?cbN22 ?cbS22; (case cbN22 => assumption); (case cbS22 => (first | kcj_all | (intro p9 hp9; simp only [List.nil_append, List.append_nil, List.mem_cons, List.mem_append] at hp9 ⊢; simp only [hp9, or_true])))))
  · have hv : joins l p = _ := jn_7 (jn_0 (by assumption) (by assumption) (by assumption)) (by assumption)
    rw [hv] at hret
    exact hret _ [] _ _ ⟨rfl, rfl⟩ (by k_asm) (by first | k_asm | (refine' cb_drop ?cbN23 ?cbS23; (case cbN23 => assumption); (case cbS23 => (first | kcj_all | (intro p9 hp9; simp only [List.nil_append, List.append_nil, List.mem_cons, List.mem_append] at hp9 ⊢; simp only [hp9, or_true])))))
  · have hv : joins l p = _ := jn_8 (jn_0 (by assumption) (by assumption) (by assumption)) (by assumption) (by assumption) (by assumption) (by assumption)
    rw [hv] at hret
    exact hret _ [] _ _ ⟨rfl, rfl⟩ (by k_asm) (by first | k_asm | (refine' cb_drop ?cbN24 ?cbS24; (case cbN24 => assumption); (case cbS24 => (first | kcj_all | (intro p9 hp9; simp only [List.nil_append, List.append_nil, List.mem_cons, List.mem_append] at hp9 ⊢; simp only [hp9, or_true])))))
  · have hv : joins l p = _ := jn_9 (jn_0 (by assumption) (by assumption) (by assumption)) (by assumption) (by assumption)
    rw [hv] at hret
    exact hret _ [] _ _ ⟨rfl, rfl⟩ (by k_asm) (by first | k_asm | (refine' cb_drop ?cbN25 ?cbS25; (case cbN25 => assumption); (case cbS25 => (first | kcj_all | (intro p9 hp9; simp only [List.nil_append, List.append_nil, List.mem_cons, List.mem_append] at hp9 ⊢; simp only [hp9, or_true])))))
end Mine

-- FcLabel
namespace Mine
open PySem.Calls
/-- a text of one sign of the law -/
def OneSign (x : Str) : Prop := ∃ c ∈ codes, x = chr c
theorem all_chr : ∀ xs : List Str, (∀ x ∈ xs, OneSign x) → ∃ cs : List Nat, xs = cs.map chr ∧ ∀ c ∈ cs, c ∈ codes
  | [], _ => ⟨[], rfl, fun _ h => nomatch h⟩
  | x :: r, h => by
    obtain ⟨c, hc, rfl⟩ := h x List.mem_cons_self
    obtain ⟨cs, rfl, hcs⟩ := all_chr r fun y hy => h y (List.mem_cons_of_mem _ hy)
    refine ⟨c :: cs, rfl, fun d hd => ?_⟩
    rcases List.mem_cons.mp hd with rfl | hd
    · exact hc
    · exact hcs d hd
theorem fold_chr : ∀ (cs : List Nat) (acc : Array Nat), (cs.map chr).foldl (fun acc p => acc ++ (Str.ofString "").cps ++ p.cps) acc = acc ++ cs.toArray
  | [], acc => by simp
  | c :: r, acc => by
    rw [List.map_cons, List.foldl_cons, fold_chr r]
    have e : (Str.ofString "").cps = #[] := by decide +kernel
    rw [e]
    simp [chr]
theorem join_chr (cs : List Nat) : Txt.join (Str.ofString "") (cs.map chr) = ⟨cs.toArray⟩ := by
  show Builtin.Str.glued _ _ = _
  unfold Builtin.Str.glued
  cases cs with
  | nil => rfl
  | cons c r =>
    rw [List.map_cons, List.drop_one, List.tail_cons, fold_chr]
    simp [chr]
theorem join_label : ∀ xs : List Str, (∀ x ∈ xs, OneSign x) → xs.length ≤ 64 → ∃ l : List Nat, Txt.join (Str.ofString "") xs = ⟨l.toArray⟩ ∧ Lab l ∧ l.length = xs.length := by
  intro xs hx hn
  obtain ⟨cs, rfl, hc⟩ := all_chr xs hx
  rw [List.length_map] at hn
  exact ⟨cs, join_chr cs, ⟨hc, hn⟩, (List.length_map _).symm⟩
theorem item_sign {k : Int} (h0 : 0 ≤ k) (h1 : k < 25) : OneSign (Txt.item (Str.ofString "laαאカ世٣۴با्·͵׳・‌‍́״かء٠٩۰۹") k) := by
  have e : Str.ofString "laαאカ世٣۴با्·͵׳・‌‍́״かء٠٩۰۹" = ⟨codes.toArray⟩ := by decide +kernel
  have hlen : codes.length = 25 := by decide
  rw [e, item_lab h0 (by omega)]
  refine ⟨codes.getD k.toNat 0, ?_, rfl⟩
  have hlt : k.toNat < codes.length := by omega
  rw [List.getD_eq_getElem?_getD, List.getElem?_eq_getElem hlt]
  exact List.getElem_mem hlt
theorem label_fr {h₀ h : Heap} {L : Addr} {m : Str → Option Value} {x : Str} {t : Tok} {xs : List Str} (F : Fr h₀ L h (fun y => if y = x then some (Value.str (Txt.join (Str.ofString "") xs) t) else m y)) (hx : ∀ z ∈ xs, OneSign z) (hn : xs.length ≤ 64) :
    ∃ l : List Nat, Lab l ∧ l.length ≤ 64 ∧ Fr h₀ L h (fun y => if y = x then some (.str ⟨l.toArray⟩ t) else m y) := by
  obtain ⟨l, e, hl, hlen⟩ := join_label xs hx hn
  rw [e] at F
  exact ⟨l, hl, by omega, F⟩
end Mine

-- FcLoop
namespace Mine
open PySem.Calls
section
variable {prog : Program} {w : World} {A : Around} {s : Shared} {env : Env} {h₀ : Heap} {P : Addr}
/-- what a turn of the loop may leave: the table at P and the generators may grow -/
def StepG (h₀ : Heap) (L P : Addr) (own news : List (Addr × Obj)) (J : (Str → Option Value) → Prop) (s₁ : Shared) (Qr : Value → Shared → Prop) (Qb : Shared → Prop) (f : Flow) (s₂ : Shared) : Prop :=
  match f with
  | .next | .cont => ∃ (h' : Heap) (tk : Nat) (gs : Array GenState) (ps : Array Value) (m₂ : Str → Option Value), s₂ = { s₁ with heap := h', toks := tk, gens := gs } ∧ Fr h₀ L h' m₂ ∧ News h₀ L h' (own ++ (P, tabObj ps) :: news) ∧ TriplesOk ps.toList ∧ AllBare gs ∧ J m₂
  | .brk => Qb s₂
  | .ret v => Qr v s₂
def PairG (prog : Program) (w : World) (A : Around) (h₀ : Heap) (P : Addr) (env : Env) (xi xc : Str) (body : List Stmt) (Q : Flow → Shared → Prop) (E : Value → Shared → Prop) (it : Value) (s₂ : Shared) : Prop :=
  ∃ (I : Addr) (fp wr : List Addr) (n : Nat) (Pt : Nat → Array Value → Prop) (St : Nat → Heap → Prop) (Mid : Nat → Addr → Heap → Prop) (P2 : Nat → Value → Value → Prop) (m : Str → Option Value) (news : List (Addr × Obj)) (ps : Array Value)
    (J : Nat → (Str → Option Value) → Prop),
    it = .ref I ∧ WalksT prog w A I fp wr n Pt St Mid ∧ (∀ i vals, Pt i vals → ∃ v0 v1, vals = #[v0, v1] ∧ P2 i v0 v1) ∧ env.locals ∉ fp ∧ (∀ b ∈ wr, h₀.get? b = none) ∧ P ∉ wr ∧ P ∉ fp ∧ (∀ p ∈ news, p.1 ∉ wr) ∧ St 0 s₂.heap ∧
    Fr h₀ env.locals s₂.heap m ∧ News h₀ env.locals s₂.heap ((P, tabObj ps) :: news) ∧ TriplesOk ps.toList ∧ AllBare s₂.gens ∧ J 0 m ∧
    (∀ i v0 v1 m₁ (h₁ : Heap) (tk₁ : Nat) (gs₁ : Array GenState) (ps₁ : Array Value) own, i < n → P2 i v0 v1 → J i m₁ → (∀ p ∈ own, p.1 ∈ fp) → TriplesOk ps₁.toList → AllBare gs₁ →
      Fr h₀ env.locals h₁ (fun y => if y = xc then some v1 else if y = xi then some v0 else m₁ y) → News h₀ env.locals h₁ (own ++ (P, tabObj ps₁) :: news) →
      wpAny (model prog w) A (execs body env) (StepG h₀ env.locals P own news (J (i + 1)) { s₂ with heap := h₁, toks := tk₁, gens := gs₁ } (fun v s' => Q (.ret v) s') fun s' => Q .next s') E { s₂ with heap := h₁, toks := tk₁, gens := gs₁ }) ∧
    (∀ h' tk gs ps' m', Fr h₀ env.locals h' m' → News h₀ env.locals h' ((P, tabObj ps') :: news) → TriplesOk ps'.toList → AllBare gs → J n m' → Q .next { s₂ with heap := h', toks := tk, gens := gs })

theorem for_pairG {E : Value → Shared → Prop} {Q : Flow → Shared → Prop} {xi xc : Str} {pk pv pt pos : Pos} {x1 : Nat} {iter : Expr} {body : List Stmt} (h₀ : Heap) (hh : A.handled = none)
    (hxi : env.kindOf xi = some .local) (hxc : env.kindOf xc = some .local)
    (hp : (env.scope.kind == .class || (env.scope.kind == .module && env.locals != env.globals)) = false)
    (h : wpAny (model prog w) A (eval iter env) (fun xv s₁ => wpAny (model prog w) A (pyIter xv) (fun it s₂ => PairG prog w A h₀ P env xi xc body Q E it s₂) E s₁) E s)
    (hs : ∀ x, foldedSetIterable iter env x = pure x)
    (hE : PassesOwn (model prog w) A env E := by passes_own) :
    wpAny (model prog w) A (exec (.For (.Tuple [.Name xi pk, .Name xc pv] x1 pt) iter body [] pos) env) Q E s := by
  refine wpAny_For (wpAny_mono h (fun xv s₁ h₁ => wpAny_mono h₁ (fun it s h₂ => ?_) fun _ _ e => e) fun _ _ e => e) hs
  obtain ⟨I, fp, wr, n, Pt, St, Mid, P2, m, news, ps, J, rfl, W, h2, hLf, hwr, hPw, hPf, hnw, hst, F, N, htr, hG, h0, step, hQ⟩ := h₂
  have hLw : env.locals ∉ wr := fun h => hLf (W.sub _ h)
  have old : ∀ b o, h₀.get? b = some o → b ∉ wr := fun b o e hb => by rw [hwr b hb] at e; cases e
  refine codeAny_forLoop_any
    (fun k s' => ∃ h' tk gs ps' m' i, s' = { s with heap := h', toks := tk, gens := gs } ∧ St i h' ∧ Fr h₀ env.locals h' m' ∧ News h₀ env.locals h' ((P, tabObj ps') :: news) ∧ TriplesOk ps'.toList ∧ AllBare gs ∧ J i m' ∧ i ≤ n ∧ k = n + 1 - i) ?_ (n + 1)
    ⟨s.heap, s.toks, s.gens, ps, m, 0, rfl, hst, F, N, htr, hG, h0, Nat.zero_le _, rfl⟩
  rintro k s' ⟨H, tk, gs, ps', m', i, rfl, hst', F', N', htr', hG', hJ, hi, rfl⟩
  have next : ∀ h₁ : Heap, (∀ b o, b ∉ wr → H.get? b = some o → h₁.get? b = some o) → Fr h₀ env.locals h₁ m' ∧ News h₀ env.locals h₁ ((P, tabObj ps') :: news) := fun h₁ hk₁ =>
    ⟨⟨F'.ns.at' fun o e => hk₁ _ o hLw e, fun b o e => hk₁ b o (old b o e) (F'.keep b o e), F'.above⟩, fun p hp => ⟨hk₁ _ _ (by
      rcases List.mem_cons.mp hp with rfl | hp
      · exact hPw
      · exact hnw p hp) (N' p hp).1, (N' p hp).2⟩⟩
  by_cases hlt : i < n
  · refine W.item i _ _ _ hlt hst' fun T vals h₁ tk₁ hPt _ hT hMid hk₁ => ?_
    obtain ⟨v0, v1, rfl, hP2⟩ := h2 i vals hPt
    refine W.go _ x1 pt i T _ _ _ hMid fun h₂ hst₂ hk₂ => ?_
    have ht₂ : h₂.IsTuple T #[v0, v1] := hT.at fun o e => hk₂ T o (W.apart i T h₁ hMid) e
    refine wpAny_assign_Tuple hh ht₂ rfl rfl fun h₃ hx₃ => ?_
    replace hx₃ : Heap.ExtBut h₂.objs.size h₂ h₃ := hx₃
    have up₃ : ∀ b o, h₂.get? b = some o → h₃.get? b = some o := fun b o x => hx₃ b o (Nat.ne_of_lt (Heap.lt_size x)) x
    obtain ⟨F₃, N₃⟩ := next h₃ fun b o hb x => up₃ b o (hk₂ b o hb (hk₁ b o hb x))
    show wpAny _ A (do holding [v1] (assign (.Name xi pk) env v0); do holding [] (assign (.Name xc pv) env v1); pure ()) _ _ _
    refine wpAny_bind (wpAny_holding (wpAny_assign_Name (wpAny_storeName_local hxi F₃.ns (fun h₄ hn₄ hs₄ => ?_) hp)))
    replace hs₄ : Heap.SameBut env.locals h₃ h₄ := hs₄
    have F₄ := F₃.set hn₄ hs₄
    refine wpAny_bind (wpAny_holding (wpAny_assign_Name (wpAny_storeName_local hxc F₄.ns (fun h₅ hn₅ hs₅ => wpAny_pure ?_) hp)))
    replace hs₅ : Heap.SameBut env.locals h₄ h₅ := hs₅
    have F₅ := F₄.set hn₅ hs₅
    have N₅ : News h₀ env.locals h₅ ((P, tabObj ps') :: news) := (N₃.set hs₄).set hs₅
    have hst₅ : St (i + 1) h₅ := W.frame _ _ _ hst₂ fun b hb o e => hs₅.extBut b o (fun q => hLf (q ▸ hb)) (hs₄.extBut b o (fun q => hLf (q ▸ hb)) (up₃ b o e))
    refine wpAny_mono (wpAny_passesOwn hE (step i v0 v1 m' h₅ _ gs ps' (ownOf h₀ fp h₅) hlt hP2 hJ ownOf_sub htr' hG' F₅ ((news_ownOf hLf).append N₅))) (fun f s₃ h₆ => ?_) fun _ _ e => e
    have again : (∃ (h' : Heap) (tk₉ : Nat) (gs₉ : Array GenState) (ps₉ : Array Value) (m₂ : Str → Option Value), s₃ = { s with heap := h', toks := tk₉, gens := gs₉ } ∧ Fr h₀ env.locals h' m₂ ∧ News h₀ env.locals h' (ownOf h₀ fp h₅ ++ (P, tabObj ps₉) :: news) ∧ TriplesOk ps₉.toList ∧ AllBare gs₉ ∧ J (i + 1) m₂) →
        ∃ m₉, m₉ < n + 1 - i ∧ ∃ h' tk gs ps' m' i, s₃ = { s with heap := h', toks := tk, gens := gs } ∧ St i h' ∧ Fr h₀ env.locals h' m' ∧ News h₀ env.locals h' ((P, tabObj ps') :: news) ∧ TriplesOk ps'.toList ∧ AllBare gs ∧ J i m' ∧ i ≤ n ∧ m₉ = n + 1 - i := by
      rintro ⟨h₆', tk₆, gs₆, ps₆, m₂, rfl, F₆, N₆, htr₆, hG₆, hJ₆⟩
      refine ⟨n + 1 - (i + 1), by omega, h₆', tk₆, gs₆, ps₆, m₂, i + 1, rfl, ?_, F₆, N₆.right, htr₆, hG₆, hJ₆, hlt, rfl⟩
      refine W.frame _ _ _ hst₅ fun b hb o e => ?_
      cases hn : h₀.get? b with
      | some o₀ =>
        have : o₀ = o := by have q := F₅.keep b o₀ hn; rw [e] at q; exact (Option.some.inj q).symm
        exact this ▸ F₆.keep b o₀ hn
      | none => exact (N₆ _ (List.mem_append_left _ (mem_ownOf hb hn e))).1
    cases f with
    | ret v => exact h₆
    | brk => exact h₆
    | cont => exact again h₆
    | next => exact again h₆
  · have hin : i = n := by omega
    subst hin
    refine W.done _ _ _ hst' fun h₁ tk₁ hk₁ => wpAny_execs_nil ?_
    obtain ⟨F₁, N₁⟩ := next h₁ hk₁
    exact hQ h₁ tk₁ gs ps' m' F₁ N₁ htr' hG' hJ
end
end Mine

-- FcEnum
namespace Mine
open PySem.Calls
section
variable {prog : Program} {w : World} {A : Around} {E : Value → Shared → Prop} {s : Shared} {env : Env} {h₀ : Heap} {P : Addr} {m : Str → Option Value} {news : List (Addr × Obj)} {ps : Array Value}
theorem k_enumG {l : List Nat} {t : Tok} {xi xc : Str} {body : List Stmt} {Q : Flow → Shared → Prop} (hh : A.handled = none) (F : Fr h₀ env.locals s.heap m) (N : News h₀ env.locals s.heap ((P, tabObj ps) :: news)) (htr : TriplesOk ps.toList) (hG : AllBare s.gens)
    (step : ∀ (i c : Nat) (ti tc : Tok) (vi vc : Option Value) (h₁ : Heap) (tk₁ : Nat) (gs₁ : Array GenState) (ps₁ : Array Value) (own : List (Addr × Obj)), l[i]? = some c → (∀ p ∈ own, p.1 ≠ P) → TriplesOk ps₁.toList → AllBare gs₁ →
      Fr h₀ env.locals h₁ (fun y => if y = xc then some (.str ⟨#[c]⟩ tc) else if y = xi then some (.int (i : Int) ti) else bindM (bindM m xi vi) xc vc y) → News h₀ env.locals h₁ (own ++ (P, tabObj ps₁) :: news) →
      wpAny (model prog w) A (execs body env) (StepG h₀ env.locals P own news (fun m' => ∃ vi vc, m' = bindM (bindM m xi vi) xc vc) { s with heap := h₁, toks := tk₁, gens := gs₁ } (fun v s' => Q (.ret v) s') fun s' => Q .next s') E { s with heap := h₁, toks := tk₁, gens := gs₁ })
    (done : ∀ h' tk gs ps' vi vc, Fr h₀ env.locals h' (bindM (bindM m xi vi) xc vc) → News h₀ env.locals h' ((P, tabObj ps') :: news) → TriplesOk ps'.toList → AllBare gs → Q .next { s with heap := h', toks := tk, gens := gs }) :
    wpAny (model prog w) A (call (.type "enumerate") [.str ⟨l.toArray⟩ t]) (fun xv s₁ => wpAny (model prog w) A (pyIter xv) (fun it s₂ => PairG prog w A h₀ P env xi xc body Q E it s₂) E s₁) E s := by
  have hLs : env.locals < s.heap.objs.size := F.ns.lt
  have hab : h₀.objs.size ≤ env.locals := F.above
  have hPlt : P < s.heap.objs.size := Heap.lt_size (N _ (.head _)).1
  refine call_enumerate_str fun h' he hit hsz hk => ?_
  have F' : Fr h₀ env.locals h' m := ⟨F.ns.keeps hk, fun b o e => hk b o (F.keep b o e), F.above⟩
  have N' : News h₀ env.locals h' ((P, tabObj ps) :: news) := fun p hp => ⟨hk _ _ (N p hp).1, (N p hp).2⟩
  have side1 : s.heap.objs.size + 1 ∉ [s.heap.objs.size] := fun hm => Nat.succ_ne_self _ (List.mem_singleton.mp hm)
  have side2 : env.locals ∉ [s.heap.objs.size + 1, s.heap.objs.size] := fun hm => by
    rcases List.mem_cons.mp hm with e | hm
    · exact Nat.ne_of_lt (Nat.lt_succ_of_lt hLs) e
    · exact Nat.ne_of_lt hLs (List.mem_singleton.mp hm)
  have side4 : P ∉ [s.heap.objs.size + 1, s.heap.objs.size] := fun hm => by
    rcases List.mem_cons.mp hm with e | hm
    · exact Nat.ne_of_lt (Nat.lt_succ_of_lt hPlt) e
    · exact Nat.ne_of_lt hPlt (List.mem_singleton.mp hm)
  have side3 : ∀ q ∈ news, q.1 ∉ [s.heap.objs.size + 1, s.heap.objs.size] := fun q hq hb => by
    have hq1 : q.1 < s.heap.objs.size := Heap.lt_size (N q (.tail _ hq)).1
    rcases List.mem_cons.mp hb with e1 | hb
    · exact Nat.ne_of_lt (Nat.lt_succ_of_lt hq1) e1
    · exact Nat.ne_of_lt hq1 (List.mem_singleton.mp hb)
  have side5 : ∀ b ∈ [s.heap.objs.size + 1, s.heap.objs.size], h₀.get? b = none := fun b hb => by
    rcases List.mem_cons.mp hb with rfl | hb
    · exact Heap.get?_none_of_le (Nat.le_trans hab (Nat.le_of_lt (Nat.lt_succ_of_lt hLs)))
    · rw [List.mem_singleton.mp hb]
      exact Heap.get?_none_of_le (Nat.le_trans hab (Nat.le_of_lt hLs))
  have fin : ∀ {n : Nat} {Pv : Nat → Value → Prop} {St : Nat → Heap → Prop}, Draws prog w A.in1 s.heap.objs.size [s.heap.objs.size] n Pv St → St 0 h' → n = l.length → (∀ i v, Pv i v → ∃ c u, l[i]? = some c ∧ v = Value.str ⟨#[c]⟩ u) →
      wpAny (model prog w) A (pyIter (.ref (s.heap.objs.size + 1))) (fun it s₂ => PairG prog w A h₀ P env xi xc body Q E it s₂) E { s with heap := h' } := by
    intro n Pv St D hst hn hP
    refine wpAny_pyIter_enum he ?_
    refine ⟨s.heap.objs.size + 1, [s.heap.objs.size + 1, s.heap.objs.size], [s.heap.objs.size + 1, s.heap.objs.size], n, _, _, _, (fun i v0 v1 => ∃ t, v0 = .int i t ∧ Pv i v1), m, news, ps, (fun _ m' => ∃ vi vc, m' = bindM (bindM m xi vi) xc vc), rfl,
      WalksT.enumerateD D (s.heap.objs.size + 1) (Nat.succ_ne_self _) side1 (by simp), ?_, side2, side5, side4, side4, side3, ⟨⟨_, by simpa using he⟩, hst⟩, F', N', htr, hG, ⟨m xi, m xc, ?_⟩, ?_, ?_⟩
    · rintro i vals ⟨t, x, hPx, rfl⟩
      exact ⟨_, _, rfl, t, rfl, hPx⟩
    · rw [← bindM_start m xi]; exact bindM_start m xc
    · rintro i v0 v1 m₁ h₁ tk₁ gs₁ ps₁ own hi ⟨ti, rfl, hPx⟩ ⟨vi, vc, rfl⟩ hsub htr₁ hG₁ F₁ N₁
      obtain ⟨c, tc, hc, rfl⟩ := hP i v1 hPx
      exact step i c ti tc vi vc h₁ tk₁ gs₁ ps₁ own hc (fun p hp e => side4 (e ▸ hsub p hp)) htr₁ hG₁ F₁ N₁
    · rintro h9 tk9 gs9 ps9 m9 F9 N9 htr9 hG9 ⟨vi, vc, rfl⟩
      exact done h9 tk9 gs9 ps9 vi vc F9 N9 htr9 hG9
  have hP : ∀ i v, (∃ c u, (⟨l.toArray⟩ : Str).cps[i]? = some c ∧ v = Value.str ⟨#[c]⟩ u) → ∃ c u, l[i]? = some c ∧ v = Value.str ⟨#[c]⟩ u := fun i v hv => by
    obtain ⟨c, u, hc, rfl⟩ := hv
    exact ⟨c, u, by rw [← List.getElem?_toArray]; exact hc, rfl⟩
  cases ha : (⟨l.toArray⟩ : Str).cps.all (· < 128)
  · have hit' : h'.IsStrIter s.heap.objs.size "str_iterator" ⟨l.toArray⟩ t 0 := by
      simp only [strIterType, ha, Bool.false_eq_true, if_false] at hit
      exact hit
    exact fin (Draws.strWide (A := A.in1) hh s.heap.objs.size ⟨l.toArray⟩ t) hit' (by simp) hP
  · have hit' : h'.IsStrIter s.heap.objs.size "str_ascii_iterator" ⟨l.toArray⟩ t 0 := by
      simp only [strIterType, ha, if_true] at hit
      exact hit
    exact fin (Draws.strAscii (A := A.in1) hh s.heap.objs.size ⟨l.toArray⟩ t) hit' (by simp) hP
end
end Mine

-- FcHide
namespace Mine
open PySem.Calls
theorem hide_fr {h₀ h : Heap} {L : Addr} {m : Str → Option Value} (F : Fr h₀ L h m) (P : Addr) : Fr (h₀.hide P) L h m :=
  ⟨F.ns, fun b o e => F.keep b o (Heap.of_hide e), by rw [Heap.hide_size]; exact F.above⟩
theorem hide_news {h₀ h : Heap} {L P : Addr} {m : Str → Option Value} {ns : List (Addr × Obj)} {ps : Array Value} (F : Fr h₀ L h m) (N : News h₀ L h ns) (hP : h₀.get? P = some (tabObj ps)) : News (h₀.hide P) L h ((P, tabObj ps) :: ns) := by
  intro p hp
  rcases List.mem_cons.mp hp with rfl | hp
  · exact ⟨F.keep _ _ hP, Nat.ne_of_lt (Nat.lt_of_lt_of_le (Heap.lt_size hP) F.above), Heap.hide_self _ _⟩
  · refine ⟨(N p hp).1, (N p hp).2.1, ?_⟩
    cases e : (h₀.hide P).get? p.1 with
    | none => rfl
    | some o =>
      have := Heap.of_hide e
      rw [(N p hp).2.2] at this; cases this
theorem hide_off {h₀ h : Heap} {L P : Addr} {ns : List (Addr × Obj)} {ps : Array Value} (N : News h₀ L h ns) (hP : h₀.get? P = some (tabObj ps)) : ∀ p ∈ ns, p.1 ≠ P := by
  intro p hp e
  have := (N p hp).2.2
  rw [e, hP] at this; cases this
theorem hide_in {h₀ : Heap} {P : Addr} {K : Frag} (X : K.In h₀) (hK : K.lookup P = none) : K.In (h₀.hide P) := by
  intro a o e
  have hne : a ≠ P := fun z => by rw [z, hK] at e; cases e
  rw [Heap.hide_ne _ hne]
  exact X a o e
theorem hide_ns {h₀ : Heap} {P a : Addr} {m : Str → Option Value} {ps : Array Value} (hP : h₀.get? P = some (tabObj ps)) (n : h₀.Ns a m) : (h₀.hide P).Ns a m := by
  have hne : a ≠ P := fun e => by
    obtain ⟨o, es, ep, ho, hd, _⟩ := n
    rw [e, hP] at ho; cases ho; cases hd
  obtain ⟨o, es, ep, ho, r⟩ := n
  exact ⟨o, es, ep, by rw [Heap.hide_ne _ hne]; exact ho, r⟩
theorem hide_top {h₀ : Heap} {P : Addr} {p : Program} {loose : List Str} {mg mb : Str → Option Value} {ps : Array Value} (hP : h₀.get? P = some (tabObj ps)) (T : TopRead p loose mg mb h₀) : TopRead p loose mg mb (h₀.hide P) := by
  obtain ⟨mc, h1, h2⟩ := T.nolimit
  exact ⟨hide_ns hP T.g, hide_ns hP T.b, ⟨mc, hide_ns hP h1, h2⟩, T.builtins, T.free⟩
theorem hide_bm {h₀ : Heap} {P : Addr} {mg : Str → Option Value} {bm : Addr} {ob : Obj} {ps : Array Value} (hP : h₀.get? P = some (tabObj ps)) (M : BMod h₀ mainGlobals mg bm ob) : BM (h₀.hide P) := by
  have hne : bm ≠ P := fun e => by
    have := M.obj
    rw [e, hP] at this; cases this
    exact absurd M.cls (by simp [tabObj])
  exact ⟨mg, bm, ob, ⟨hide_ns hP M.ns, M.name, M.ne, by rw [Heap.hide_ne _ hne]; exact M.obj, M.cls, M.dict, M.data⟩⟩
end Mine

-- FcUse
namespace Mine
open PySem.Calls
theorem ClaimG.use {w : World} {mg mb : Str → Option Value} {D : Nat} {f : Addr} {vs : List Value} {ns : List (Addr × Obj)} {b : Bool} (C : ClaimG w mg mb D f vs (ns.filter (fun p => p.1 != 153)) b)
    {dp un : Nat} {gd : Option (List Code)} {cn : Str} {cs : Scope} {a : Addr} {ccd : Value} {cl : List (Str × Addr)} {outer : List Env} {A₀ : Around} {base h₀ : Heap} {L : Addr} {m : Str → Option Value} {s : Shared} {Q E : Value → Shared → Prop} {ps : Array Value}
    (B : Below A₀ base outer h₀) (F : Fr h₀ L s.heap m) (X : (hd.heap_39 w.params).In h₀) (N : News h₀ L s.heap ns) (hin : (153, tabObj ps) ∈ ns) (T : TopRead hd.view_39 theLoose mg mb h₀) (hk : cs.kind = .function) (hd : dp + D < recursionLimit) (hu : un + 10 * D < cLine)
    (hps : TriplesOk ps.toList) (hG : AllBare s.gens) (hBM : BM h₀)
    (ret : ∀ (h' : Heap) (tk' : Nat) (gs' : Array GenState) (ps' : Array Value), Fr h₀ L h' m → News h₀ L h' (led 153 ps' ns) → TriplesOk ps'.toList → AllBare gs' → Q (.bool b) { s with heap := h', toks := tk', gens := gs' }) :
    wpAny (model theProg w) (ktrTop dp un gd cn cs L a ccd cl outer) (call (.ref f) vs) Q E s :=
  C _ _ _ _ _ _ _ _ _ _ _ _ _ _ _ _ _ _ B F X (led_news N hin (fun _ _ _ e => e) (N _ hin).1) T hk hd hu (fun p hp => by simpa using (List.mem_filter.mp hp).2) hps hG hBM ret
/-- back to the ledger of the loop -/
theorem led_own {h₀ h : Heap} {L : Addr} {own news : List (Addr × Obj)} {ps ps' : Array Value} (N : News h₀ L h (led 153 ps' (own ++ (153, tabObj ps) :: news))) (ho : ∀ p ∈ own, p.1 ≠ 153) (hn : ∀ p ∈ news, p.1 ≠ 153) : News h₀ L h (own ++ (153, tabObj ps') :: news) := by
  intro p hp
  refine N p ?_
  rcases List.mem_append.mp hp with h | h
  · exact led_off (List.mem_append_left _ h) (ho p h)
  · rcases List.mem_cons.mp h with rfl | h
    · exact .head _
    · exact led_off (List.mem_append_right _ (.tail _ h)) (hn p h)
end Mine

-- FcFin
namespace Mine
open PySem.Calls
section
variable {l : List Nat} {i c : Nat}
theorem get_code (hl : Lab l) (h : l[i]? = some c) : c ∈ codes ∧ l.getD i 0 = c ∧ i < l.length := by
  refine ⟨hl.all _ (List.mem_of_getElem? h), ?_, (List.getElem?_eq_some_iff.mp h).1⟩
  rw [List.getD_eq_getElem?_getD, h]; rfl
theorem fin_no (hl : Lab l) (h : l[i]? = some c) (a1 : occ (Str.ofString "‌‍") (chr c) = true) : ctxj l i = false := by
  obtain ⟨hc, e, _⟩ := get_code hl h
  rw [occ_J hc] at a1
  refine ctxj_no ?_
  rw [e]
  simpa using a1
theorem fin_yes (hl : Lab l) (h : l[i]? = some c) (a1 : occ (Str.ofString "‌‍") (chr c) = false) : ctxj l i = joins l i := by
  obtain ⟨hc, e, hi⟩ := get_code hl h
  rw [occ_J hc] at a1
  refine ctxj_joins hi ?_
  rw [e]
  simp at a1
  omega
theorem fin_abs1 (hl : Lab l) (h : l[i]? = some c) (a1 : occ (Str.ofString "‌‍") (chr c) = true) (a2 : (ctxj l i != !(occ (Str.ofString "‌‍") (chr c))) = true) : False := by
  rw [fin_no hl h a1, a1] at a2
  exact absurd a2 (by decide)
theorem fin_abs2 (hl : Lab l) (h : l[i]? = some c) (a1 : occ (Str.ofString "‌‍") (chr c) = false) (a2 : (ctxj l i != joins l i) = true) : False := by
  rw [fin_yes hl h a1] at a2
  simp at a2
end
theorem lab_1 : Lab [108, 183, 108] := ⟨by decide, by decide⟩
theorem lab_2 : Lab [108, 183, 97] := ⟨by decide, by decide⟩
theorem lab_3 : Lab [1576, 8204, 1575] := ⟨by decide, by decide⟩
theorem lab_4 : Lab [1575, 8204, 1576] := ⟨by decide, by decide⟩
theorem val_1 : ctxo [108, 183, 108] 1 = true := by decide +kernel
theorem val_2 : ctxo [108, 183, 97] 1 = false := by decide +kernel
theorem val_3 : ctxj [1576, 8204, 1575] 1 = true := by decide +kernel
theorem val_4 : ctxj [1575, 8204, 1576] 1 = false := by decide +kernel
end Mine

-- FcEnd
namespace Mine
open PySem.Calls
theorem lit_t1 : Str.ofString "l·l" = ⟨[108, 183, 108].toArray⟩ := by decide +kernel
theorem lit_t2 : Str.ofString "l·a" = ⟨[108, 183, 97].toArray⟩ := by decide +kernel
theorem lit_t3 : Str.ofString "ب‌ا" = ⟨[1576, 8204, 1575].toArray⟩ := by decide +kernel
theorem lit_t4 : Str.ofString "ا‌ب" = ⟨[1575, 8204, 1576].toArray⟩ := by decide +kernel
section
variable {w : World} {mg mb : Str → Option Value} {t tp : Tok} {news : List (Addr × Obj)}
theorem ctxo_1 : ClaimG w mg mb 5 158 [.str (Str.ofString "l·l") t, .int 1 tp] news true := by
  have h := ctxo_claim (w := w) (mg := mg) (mb := mb) (t := t) (tp := tp) (news := news) lab_1 (p := 1) (by decide) (by decide)
  rw [val_1, ← lit_t1] at h
  exact h
theorem ctxo_2 : ClaimG w mg mb 5 158 [.str (Str.ofString "l·a") t, .int 1 tp] news false := by
  have h := ctxo_claim (w := w) (mg := mg) (mb := mb) (t := t) (tp := tp) (news := news) lab_2 (p := 1) (by decide) (by decide)
  rw [val_2, ← lit_t2] at h
  exact h
theorem ctxj_3 : Claim w mg mb 5 150 [.str (Str.ofString "ب‌ا") t, .int 1 tp] news (Gives (IsBoolV true)) := by
  have h := ctxj_claim (w := w) (mg := mg) (mb := mb) (t := t) (tp := tp) (news := news) lab_3 (p := 1) (by decide) (by decide)
  rw [val_3, ← lit_t3] at h
  exact h
theorem ctxj_4 : Claim w mg mb 5 150 [.str (Str.ofString "ا‌ب") t, .int 1 tp] news (Gives (IsBoolV false)) := by
  have h := ctxj_claim (w := w) (mg := mg) (mb := mb) (t := t) (tp := tp) (news := news) lab_4 (p := 1) (by decide) (by decide)
  rw [val_4, ← lit_t4] at h
  exact h
end
/-- the whole run: the heap of before keeps all but the code table, which has grown -/
theorem end_law {c : ClaimW} {cl : Str → Option Addr} {mean : ExcName → Option Value} {args : List WData} {s₁ s' : Shared} {L : Addr} {m : Str → Option Value} {ns : List (Addr × Obj)} {ps : Array Value}
    (F : Fr (s₁.heap.hide 153) L s'.heap m) (N : News (s₁.heap.hide 153) L s'.heap ns) (hin : (153, tabObj ps) ∈ ns) (hP : s₁.heap.get? 153 = some (tabObj #[])) (ht : isCodeTable s₁.heap 153) (hG : AllBare s'.gens)
    (hr : ∀ cls, c.raises args cls = false) (hp : c.post args (.bool true) args = true) (hos : s'.os = s₁.os) : GoodWG c cl mean args s₁ (.ok (.ret (.bool true))) s' := by
  have hg : s'.heap.get? 153 = some (tabObj ps) := (N _ hin).1
  refine ⟨.inl ⟨_, _, [], rfl, hr, ReadsW.bool true, hp, fun _ => ⟨List.nodup_nil, fun _ hm => (nomatch hm)⟩⟩, ⟨fun b o e => ?_, fun b o e => ?_⟩, hos, hG⟩
  · by_cases hb : b = 153
    · subst hb
      rw [hP] at e
      cases e
      exact .inr (.inl ⟨ht, rfl, #[], ps, rfl, by rw [Array.empty_append]; exact hg⟩)
    · exact .inl (F.keep b o (by rw [Heap.hide_ne _ hb]; exact e))
  · by_cases hb : b = 153
    · exact ⟨_, hb ▸ hg⟩
    · exact ⟨o, F.keep b o (by rw [Heap.hide_ne _ hb]; exact e)⟩
theorem code_table {h₀ h : Heap} (H : CodeHd h₀ 157 153) (hk : ∀ b o, h₀.get? b = some o → h.get? b = some o) (hP : h.get? 153 = some (tabObj #[])) : isCodeTable h 153 := (code_is H hk hP trivial).2.isCodeTable
theorem one_len {x : Str} (h : OneSign x) : x.length = 1 := by
  obtain ⟨c, _, rfl⟩ := h
  rfl
theorem pick_sign {b : Prop} {x y : Str} {d1 : Decidable (b ∧ 1 ≤ x.length ∧ x.length ≤ 1)} {d2 : Decidable (¬ b ∧ 1 ≤ y.length ∧ y.length ≤ 1)} (hx : OneSign x) (hy : OneSign y) : OneSign (@ite _ _ d1 x (@ite _ _ d2 y Str.empty)) := by
  have e1 := one_len hx
  have e2 := one_len hy
  split
  · exact hx
  · rename_i h1
    split
    · exact hy
    · rename_i h2
      by_cases hb : b
      · exact absurd ⟨hb, by omega, by omega⟩ h1
      · exact absurd ⟨hb, by omega, by omega⟩ h2
def StopMark : Prop := True
def SomeInt (s : Shared) (h₀ : Heap) (L : Addr) (m : Str → Option Value) (news : List (Addr × Obj)) (v : Value) (s' : Shared) : Prop := ∃ n t h' tk', v = .int n t ∧ s' = { s with heap := h', toks := tk' } ∧ Fr h₀ L h' m ∧ News h₀ L h' news
theorem SomeInt.intro {s : Shared} {h₀ : Heap} {L : Addr} {m : Str → Option Value} {news : List (Addr × Obj)} {h' : Heap} {tk' : Nat} {n : Int} {t : Tok} (F : Fr h₀ L h' m) (N : News h₀ L h' news) : SomeInt s h₀ L m news (.int n t) { s with heap := h', toks := tk' } := ⟨n, t, h', tk', rfl, rfl, F, N⟩
theorem int_cut {M : Model} {A : Around} {E : Value → Shared → Prop} {s : Shared} {x : Sem Value} {Q : Value → Shared → Prop} {h₀ : Heap} {L : Addr} {m : Str → Option Value} {news : List (Addr × Obj)}
    (_F : Fr h₀ L s.heap m) (_N : News h₀ L s.heap news)
    (ht : wpAny M A x (SomeInt s h₀ L m news) E s)
    (h : ∀ n t h' tk', Fr h₀ L h' m → News h₀ L h' news → Q (.int n t) { s with heap := h', toks := tk' }) : wpAny M A x Q E s :=
  wpAny_mono ht (fun v s' ⟨n, t, h', tk', e1, e2, F', N'⟩ => by subst e1; subst e2; exact h n t h' tk' F' N') fun _ _ e => e
theorem fmod_lo (n : Int) {d : Int} (h : 0 < d) : 0 ≤ n.fmod d := Int.fmod_nonneg_of_pos _ h
theorem fmod_hi (n : Int) {d : Int} (h : 0 < d) : n.fmod d < d := Int.fmod_lt_of_pos _ h
end Mine

-- FcLaw1

namespace Mine
open PySem.Calls
local macro_rules | `(tactic| walk_at "exec For Tuple Call") => `(tactic| (k_here; (with_reducible refine Stopped.go ?_)))
local macro_rules | `(tactic| walk_at "call type:enumerate") => `(tactic| (k_here; (with_reducible refine Stopped.go ?_)))
local macro_rules | `(tactic| walk_at "eval IfExp") => `(tactic| (k_here; (rename StopMark => mk9); (with_reducible refine Stopped.go ?_)))
theorem law_try : PySem.Challenge.rw_fc0084_01.Holds := hd (by
  k_fill
  intro w s₀ s₁ mg mb G Y fa o pm cd doc dV kV ho hd hcd hD hmg hg args vals as hpre hlay hrd hwl hlo
  have KX := km_in_of Y
  have hP : s₁.heap.get? 153 = some (tabObj #[]) := km_tabs_of Y 153 (.head _)
  have hT : isCodeTable s₁.heap 153 := code_table (codeHd_of_K (c := 157) (P := 153) KX (by kernel_rfl)) (fun _ _ e => e) hP
  have hG0 : AllBare s₁.gens := .of_eq hg
  have X := (Ground.X G).1
  have V := (Ground.X G).2
  try w_nolog (first | (have GL := glob_more (Ground.glob G (by first | k_qdec | decide +kernel) (by first | k_qdec | decide +kernel)) V) | (have GL := glob_more (Ground.glob G (by decide +kernel)) V))
  refine Ground.open G ?_
  intro T B D TE TW
  try (refine guard_noD D (by decide +kernel) ?_; clear D)
  obtain ⟨_, _, M⟩ := bmod_of_top T
  have TA := at_of_top T
  try (obtain ⟨_, _, he, B0⟩ := based_of_top T rfl hmg ho hd; have he' : cd = _ := he; subst he'; clear he)
  clear hmg
  wrow_args hpre hlay hrd hwl hlo
  first | refine callC_kw (enter_call ?_) | refine enter_call ?_ | refine callC_kw (enter_callW ?_) | refine enter_callW ?_ | w_how
  w_top on
  have K0 := below_caller (Top.heap T)
  w_call any ho hd hcd hD T F
  clear hd TA
  k_drop
  try k_fold
  have mk : StopMark := trivial
  k_steps
  unfold Stopped
  rename StopMark => mk0
  clear mk0
  refine int_cut (by k_asm) (by k_asm) ?_ ?_
  · k_steps
    all_goals exact SomeInt.intro (by k_asm) (by k_asm)
  intro n9 t9 h9 tk9 F9 N9
  k_steps
  unfold Stopped
  rename Fr _ _ _ _ => F0
  rename News _ _ _ _ => N0
  rename Top _ _ _ _ _ s₁.heap => T0
  rename BMod s₁.heap _ _ _ _ => M0
  have X0 : (hd.heap_39 w.params).In (s₁.heap.hide 153) := hide_in KX (by kernel_rfl)
  have F1 := hide_fr F0 153
  have N1 := hide_news F0 N0 hP
  have hoff1 := hide_off N0 hP
  have T1 : TopRead hd.view_39 theLoose mg mb (s₁.heap.hide 153) := hide_top hP (topRead_of T0)
  have M1 := hide_bm hP M0
  have hLF := label_fr F1 (by
    intro z hz
    obtain ⟨a9, _, rfl⟩ := List.mem_map.mp hz
    exact pick_sign (item_sign (fmod_lo _ (by decide)) (fmod_hi _ (by decide))) (item_sign (fmod_lo _ (by decide)) (fmod_hi _ (by decide)))) (by
    have hu := fmod_hi n9 (d := 6) (by decide)
    rw [List.length_map, rangeKs_length]
    omega)
  obtain ⟨l, hl, hlen, F2⟩ := hLF
  clear F1 F0 N0
  refine for_pairG (P := 153) (s₁.heap.hide 153) rfl rfl rfl rfl ?it ?hs
  case hs => intro _; with_unfolding_all rfl
  k_steps
  unfold Stopped
  refine k_enumG (ps := #[]) rfl (by k_asm) (by k_asm) trivial hG0 ?step ?done
  case step =>
    intro i c ti tc vi vc h₁ tk₁ gs₁ ps₁ own hget hown htr1 hG1 F3 N3
    k_steps
    have hp9 : i < l.length := (List.getElem?_eq_some_iff.mp hget).1
    have B9 := below_caller (s₁.heap.hide 153)
    rename Fr _ _ _ _ => F9
    rename News _ _ _ _ => N9
    with_unfolding_all refine ClaimG.use (ctxo_claim hl hp9 hlen) B9 F9 X0 N9 ?hin T1 rfl ?hd ?hu htr1 hG1 M1 ?ret
    case hin => exact List.mem_append_right _ (.head _)
    case hd => ktr_room
    case hu => ktr_units
    case ret =>
      intro h4 tk4 gs4 ps4 F4 N4 htr4 hG4
      k_steps
      rename Fr _ _ _ _ => F10
      rename News _ _ _ _ => N10
      with_unfolding_all refine Claim.use (lets_claim hl hp9 hlen) B9 F10 X0 N10 T1 rfl (by ktr_room) (by ktr_units) ?ret2
      case ret2 =>
        intro v9 more9 h9 tk9 hR9 F11 N11
        obtain ⟨hm9, hv9⟩ := hR9
        subst hm9
        subst hv9
        replace N11 : News _ _ _ _ := N11
        k_steps
        · have hz : (ctxo l i != ctxo l i) = true := by assumption
          exact absurd hz (by simp)
        rename Fr _ _ _ _ => F12
        rename News _ _ _ _ => N12
        with_unfolding_all refine Claim.use (ctxj_claim hl hp9 hlen) B9 F12 X0 N12 T1 rfl (by ktr_room) (by ktr_units) ?ret3
        case ret3 =>
          intro v9 more9 h9 tk9 hR9 F13 N13
          obtain ⟨hm9, hv9⟩ := hR9
          subst hm9
          subst hv9
          replace N13 : News _ _ _ _ := N13
          k_steps
          · exact (fin_abs1 hl hget (by assumption) (by assumption)).elim
          · exact ⟨_, _, gs4, ps4, _, rfl, by k_asm, led_own (by k_asm) hown hoff1, htr4, hG4, ⟨_, _, bind2_find⟩⟩
          rename Fr _ _ _ _ => F14
          rename News _ _ _ _ => N14
          with_unfolding_all refine Claim.use (joins_claim hl hp9 hlen) B9 F14 X0 N14 T1 rfl (by ktr_room) (by ktr_units) ?ret4
          case ret4 =>
            intro v9 more9 h9 tk9 hR9 F15 N15
            obtain ⟨hm9, hv9⟩ := hR9
            subst hm9
            subst hv9
            replace N15 : News _ _ _ _ := N15
            k_steps
            · exact (fin_abs2 hl hget (by assumption) (by assumption)).elim
            · exact ⟨_, _, gs4, ps4, _, rfl, by k_asm, led_own (by k_asm) hown hoff1, htr4, hG4, ⟨_, _, bind2_find⟩⟩
  case done =>
    intro h' tk gs ps' vi vc F3 N3 htr3 hG3
    k_steps
    have B9 := below_caller (s₁.heap.hide 153)
    rename Fr _ _ _ _ => F9
    rename News _ _ _ _ => N9
    with_unfolding_all refine ClaimG.use ctxo_1 B9 F9 X0 N9 ?hin T1 rfl ?hd ?hu htr3 hG3 M1 ?ret5
    case hin => first | exact .head _ | exact List.mem_append_right _ (.head _)
    case hd => ktr_room
    case hu => ktr_units
    case ret5 =>
      intro h4 tk4 gs4 ps4 F4 N4 htr4 hG4
      k_steps
      rename Fr _ _ _ _ => F10
      rename News _ _ _ _ => N10
      with_unfolding_all refine ClaimG.use ctxo_2 B9 F10 X0 N10 ?hin T1 rfl ?hd ?hu htr4 hG4 M1 ?ret6
      case hin => first | exact .head _ | exact List.mem_append_right _ (.head _)
      case hd => ktr_room
      case hu => ktr_units
      case ret6 =>
        intro h5 tk5 gs5 ps5 F5 N5 htr5 hG5
        k_steps
        rename Fr _ _ _ _ => F12
        rename News _ _ _ _ => N12
        with_unfolding_all refine Claim.use ctxj_3 B9 F12 X0 N12 T1 rfl (by ktr_room) (by ktr_units) ?ret7
        case ret7 =>
          intro v9 more9 h9 tk9 hR9 F13 N13
          obtain ⟨hm9, hv9⟩ := hR9
          subst hm9
          subst hv9
          replace N13 : News _ _ _ _ := N13
          k_steps
          rename Fr _ _ _ _ => F14
          rename News _ _ _ _ => N14
          with_unfolding_all refine Claim.use ctxj_4 B9 F14 X0 N14 T1 rfl (by ktr_room) (by ktr_units) ?ret8
          case ret8 =>
            intro v9 more9 h9 tk9 hR9 F15 N15
            obtain ⟨hm9, hv9⟩ := hR9
            subst hm9
            subst hv9
            replace N15 : News _ _ _ _ := N15
            k_steps
            exact end_law F15 N15 (.head _) hP hT hG5 (fun _ => rfl) (by first | rfl | wrow_post) rfl)
end Mine

theorem PySem.Challenge.cw_fc0084_01_holds : PySem.Challenge.rw_fc0084_01.Holds := by
  exact Mine.law_try
