import PyProof.Rows.All
import Wide.All
import OpenK.AllK
import Wide.FinOn
import Lean
import PySem.Challenge.RW_ez0015_01
open PySem PySem.W PyProof.Rows
set_option Elab.async false
set_option maxRecDepth 100000
set_option maxHeartbeats 8000000
namespace Mine
local macro_rules | `(tactic| o_head ($_ $K $as $e)) => `(tactic| o_head (kmHook $K $as $e [153]))
open_top hd for PySem.Challenge.rw_ez0015_01
theorem top_off : True := by
  w_top off
  trivial
end Mine
set_option rowWalk.seconds 0
open PySem.Calls
set_option exponentiation.threshold 256
namespace Mine
noncomputable abbrev LO : List Str := looseW Mine.hd.view_39 [Str.ofString "BTClibValueError", Str.ofString "BTClibTypeError", Str.ofString "bytes_from_octets", Str.ofString "next_bits", Str.ofString "ConsensusParams"]

section
variable {prog : Program} {w : World} {A A₀ : Around} {s : Shared} {K : Frag} {L : Addr} {h₀ base : Heap} {m mg mb : Str → Option Value} {news : List (Addr × Obj)} {p : Program} {loose : List Str} {mean : ExcName → Option Value}
/-- a call of a def of the text, as code_def, but what stands at the call stays whole (the def changes nothing that the caller made) -/
theorem code_pure {env : Env} {outer : List Env} {R : Result → Shared → Prop} {name qual : Str} {params : Arguments} {body : List Stmt} {scope : Scope} {dV kV doc pm cdv ct oc : Value} {an od : Option Addr} {osl : Array (Option Value)} {f : Addr} {args : Args} {binds : List (Str × Value)}
    (B : Below A₀ base outer h₀) (F : Fr h₀ L s.heap m) (X₀ : K.In h₀) (T : Top p loose mean mg mb h₀) (hA : A.frames = some (env :: outer)) (hf : env.frame = some L) (hke : env.scope.kind = .function)
    (ho : K.lookup f = some ⟨oc, od, .func (fnOf name qual params body scope dV kV doc pm an cdv ct), osl⟩) (hcd : codeIn K cdv qual = true) (hroom : A.depth < recursionLimit)
    (hbind : BindsTo s (fnOf name qual params body scope dV kV doc pm an cdv ct) args binds) (hloc : ∀ y ∈ binds, scope.names.lookup y.1 = some .local)
    (h : ∀ g L' h₁, s.heap.StaysIn g → Fr h₀ L g m → Fr g L' h₁ (fun y => binds.reverse.lookup y) → News g L' h₁ [] → Below A base (env :: outer) g → K.In g → Top p loose mean mg mb g →
      wpAny (model prog w) (A.deeper (envOf qual scope L' f cdv)) (execs body (envOf qual scope L' f cdv))
        (fun fl s' => LeaveK h₀ L m g R (match fl with | .ret v => v | _ => .none) s')
        (fun e s' => wpAny (model prog w) (A.deeper (envOf qual scope L' f cdv)) (leaving (envOf qual scope L' f cdv) e) (fun _ s'' => R (.error e) s'') (fun e' s'' => R (.error e') s'') s')
        { s with heap := h₁, toks := s.toks + binds.length })
    (hco : scope.isCoroutine = false) (hgen : scope.isGenerator = false) (hk : scope.kind = .function)
    (hcell : ∀ x ∈ scope.names, x.2 ≠ .cell) : codeAny (model prog w) A (.call (.ref f) args) R s := by
  obtain ⟨FG, BG, st, lv⟩ := groundX (R := R) (news := []) B F News.nil hA hf hke
  refine codeAny_call_def (fd := fnX name qual params body scope [] dV kV doc pm an cdv ct) (body := body) (binds := binds) hroom ((X₀.keeps F.keep) _ _ ho) rfl (T.nolimit.keeps F.keep) (codeRec_of (X₀.keeps F.keep) hcd) rfl hbind hcell hloc (fun h₁ hns hk₁ => ?_) hco hgen hk
  exact wpAny_mono (h _ s.heap.objs.size h₁ (fun _ _ e => e) FG ⟨hns, fun b o e => hk₁ b o e, Nat.le_refl _⟩ News.nil BG (X₀.keeps st) (T.keeps st)) (fun fl s' hl => lv _ _ hl) fun _ _ y => y
end

def Spec (w : World) (mean : ExcName → Option Value) (mg mb : Str → Option Value) (f : Addr) (need : Nat) (vs : List Value) (kw : List (Str × Value)) (R : Value → Prop) : Prop :=
  ∀ (dp un : Nat) (gd : Option (List Code)) (cn : Str) (cs : Scope) (a : Addr) (ccd : Value) (cl : List (Str × Addr)) (outer : List Env) (A₀ : Around) (base h₀ : Heap) (L : Addr) (m : Str → Option Value) (s : Shared)
    (Q E : Value → Shared → Prop),
    Below A₀ base outer h₀ → Fr h₀ L s.heap m → (Mine.hd.heap_39 w.params).In h₀ → Top Mine.hd.view_39 LO mean mg mb h₀ → cs.kind = .function →
    dp + need < recursionLimit → un + 8 * need < cLine →
    (∀ v h' tk', R v → Fr h₀ L h' m → s.heap.StaysIn h' → Q v { s with heap := h', toks := tk' }) →
    wpAny (model Challenge.rw_ez0015_01.row.prog w) (ktrTop dp un gd cn cs L a ccd cl outer) (call (.ref f) vs kw) Q E s

section
variable {w : World} {mean : ExcName → Option Value} {mg mb : Str → Option Value} {f : Addr} {need : Nat} {vs : List Value} {kw : List (Str × Value)} {R : Value → Prop}
theorem news_stays {h₀ h h' : Heap} {L : Addr} {news : List (Addr × Obj)} (N : News h₀ L h news) (st : h.StaysIn h') : News h₀ L h' news := fun p hp => ⟨st _ _ (N p hp).1, (N p hp).2⟩
theorem Spec.use {dp un : Nat} {gd : Option (List Code)} {cn : Str} {cs : Scope} {a : Addr} {ccd : Value} {cl : List (Str × Addr)} {outer : List Env} {A₀ : Around} {base h₀ : Heap} {L : Addr} {m : Str → Option Value} {news : List (Addr × Obj)} {s : Shared}
    {Q E : Value → Shared → Prop} (C : Spec w mean mg mb f need vs kw R) (B : Below A₀ base outer h₀) (F : Fr h₀ L s.heap m) (X : (Mine.hd.heap_39 w.params).In h₀) (N : News h₀ L s.heap news) (T : Top Mine.hd.view_39 LO mean mg mb h₀) (hk : cs.kind = .function)
    (hd : dp + need < recursionLimit) (hu : un + 8 * need < cLine)
    (ret : ∀ v h' tk', R v → Fr h₀ L h' m → News h₀ L h' news → Q v { s with heap := h', toks := tk' }) :
    wpAny (model Challenge.rw_ez0015_01.row.prog w) (ktrTop dp un gd cn cs L a ccd cl outer) (call (.ref f) vs kw) Q E s :=
  C _ _ _ _ _ _ _ _ _ _ _ _ _ _ _ _ _ B F X T hk hd hu fun v h' tk' r F' st => ret v h' tk' r F' (news_stays N st)
theorem ret_of {h₀ h' g : Heap} {L L' : Addr} {m m' : Str → Option Value} {s : Shared} {Q : Value → Shared → Prop} {R : Value → Prop} {v : Value} {tk' : Nat}
    (hret : ∀ v h' tk', R v → Fr h₀ L h' m → s.heap.StaysIn h' → Q v { s with heap := h', toks := tk' }) (hv : R v) (F : Fr h₀ L h' m) (st : s.heap.StaysIn g) (F' : Fr g L' h' m') : Q v { s with heap := h', toks := tk' } :=
  hret _ _ _ hv F fun b o e => F'.keep b o (st b o e)
theorem ri {x y : Int} {t : Tok} (e : y = x) : ∃ t', Value.int y t = Value.int x t' := ⟨t, by rw [e]⟩
theorem rb {x y : Bool} (e : y = x) : Value.bool y = Value.bool x := by rw [e]
end
/-- a contract at the law's own frame: the callee may catch what its callees raise -/
def SpecL (w : World) (mean : ExcName → Option Value) (mg mb : Str → Option Value) (f : Addr) (vs : List Value) (R : Value → Prop) : Prop :=
  ∀ (cn : Str) (cs : Scope) (a : Addr) (ccd : Value) (h₀ : Heap) (L : Addr) (m : Str → Option Value) (news : List (Addr × Obj)) (s : Shared) (Q E : Value → Shared → Prop),
    Fr h₀ L s.heap m → (Mine.hd.heap_39 w.params).In h₀ → News h₀ L s.heap news → Top Mine.hd.view_39 LO mean mg mb h₀ → cs.kind = .function →
    (∀ v h' tk', R v → Fr h₀ L h' m → News h₀ L h' news → Q v { s with heap := h', toks := tk' }) →
    wpAny (model Challenge.rw_ez0015_01.row.prog w) (callerA.deeper (envOf cn cs L a ccd)) (call (.ref f) vs) Q E s
theorem retL {h₀ h' : Heap} {L : Addr} {m : Str → Option Value} {news news' : List (Addr × Obj)} {s : Shared} {Q : Value → Shared → Prop} {R : Value → Prop} {v : Value} {tk' : Nat}
    (hret : ∀ v h' tk', R v → Fr h₀ L h' m → News h₀ L h' news → Q v { s with heap := h', toks := tk' }) (hv : R v) (F : Fr h₀ L h' m) (N : News h₀ L h' news') (hs : ∀ p ∈ news, p ∈ news') : Q v { s with heap := h', toks := tk' } :=
  hret _ _ _ hv F (cb_drop N hs)
end Mine

set_option exponentiation.threshold 256
namespace Mine

section rules
variable {prog : Program} {w : World} {A : Around} {E : Value → Shared → Prop} {s : Shared} {a b : Int} {t u : Tok} {Q : Value → Shared → Prop}

theorem fd_pos {x y : Int} (h : 0 < y) : x.fdiv y = x / y := Int.fdiv_eq_ediv_of_nonneg x (Int.le_of_lt h)
theorem fm_pos {x y : Int} (h : 0 < y) : x.fmod y = x % y := Int.fmod_eq_emod_of_nonneg x (Int.le_of_lt h)

theorem log_lt {y : Int} {k : Nat} (hk : k ≤ 9000) (h0 : 0 < y) (h : y < 2 ^ k) : y.natAbs.log2 < 9000 := by
  obtain ⟨n, rfl⟩ := Int.eq_ofNat_of_zero_le (Int.le_of_lt h0)
  have hn : n < 2 ^ k := by
    have e : ((2 : Int) ^ k) = ((2 ^ k : Nat) : Int) := by rw [Int.natCast_pow]; rfl
    rw [e] at h
    exact Int.ofNat_lt.mp h
  rw [Int.natAbs_natCast]
  have := (Nat.log2_lt (by omega)).mpr hn
  omega

theorem r_div (h0 : 0 < b) {k : Nat} (h1 : b < 2 ^ k) (hk : k ≤ 9000) (h : ∀ t', Q (.int (a / b) t') { s with toks := s.toks + 1 }) : wpAny (model prog w) A (binaryOp .FloorDiv (.int a t) (.int b u)) Q E s :=
  floordiv_int (by omega) (by rw [fd_pos h0]; exact h _) (Or.inl (PyProof.noPylong_of_log2 (log_lt hk h0 h1)))
theorem r_idiv (h0 : 0 < b) {k : Nat} (h1 : b < 2 ^ k) (hk : k ≤ 9000) (h : ∀ t', Q (.int (a / b) t') { s with toks := s.toks + 1 }) : wpAny (model prog w) A (inplaceOp .FloorDiv (.int a t) (.int b u)) Q E s :=
  ifloordiv_int (by omega) (by rw [fd_pos h0]; exact h _) (Or.inl (PyProof.noPylong_of_log2 (log_lt hk h0 h1)))
theorem r_mod (h0 : 0 < b) (h : ∀ t', Q (.int (a % b) t') { s with toks := s.toks + 1 }) : wpAny (model prog w) A (binaryOp .Mod (.int a t) (.int b u)) Q E s :=
  mod_int' (by omega) (by rw [fm_pos h0]; exact h _)
theorem r_pow (h0 : 0 ≤ b) (hb : b ≤ 1000) (ha : 0 ≤ a) (ha' : a ≤ 1000) (h : ∀ t', Q (.int (a ^ b.toNat) t') { s with toks := s.toks + 1 }) : wpAny (model prog w) A (binaryOp .Pow (.int a t) (.int b u)) Q E s :=
  pow_int_small h0 (by omega) (by omega) (h _)
theorem small_bits {x : Int} (h0 : -18446744073709551616 < x) (h1 : x < 18446744073709551616) : Builtin.Int.intBits x ≤ 64 := intBits_le_iff.mpr (by omega)
theorem r_mulL (h0 : -18446744073709551616 < a) (h1 : a < 18446744073709551616) (h : ∀ t', Q (.int (a * b) t') { s with toks := s.toks + 1 }) : wpAny (model prog w) A (binaryOp .Mult (.int a t) (.int b u)) Q E s :=
  mul_int (h _) (.of_left (small_bits h0 h1))
theorem r_mulR (h0 : -18446744073709551616 < b) (h1 : b < 18446744073709551616) (h : ∀ t', Q (.int (a * b) t') { s with toks := s.toks + 1 }) : wpAny (model prog w) A (binaryOp .Mult (.int a t) (.int b u)) Q E s :=
  mul_int (h _) (.of_right (small_bits h0 h1))
theorem r_add (h : ∀ t', Q (.int (a + b) t') { s with toks := s.toks + 1 }) : wpAny (model prog w) A (binaryOp .Add (.int a t) (.int b u)) Q E s := add_int (h _)
theorem r_sub (h : ∀ t', Q (.int (a - b) t') { s with toks := s.toks + 1 }) : wpAny (model prog w) A (binaryOp .Sub (.int a t) (.int b u)) Q E s := sub_int (h _)

theorem r_item {bs : Array UInt8} {ks : List Int} {k : Int} {value slice : PySem.Expr} (hk : KBw.bInts bs = ks) (hl : ks.length ≤ 1000000) (h0 : 0 ≤ a) (hi : ks[a.toNat]? = some k)
    (h : ∀ t' n, Q (.int k t') { s with toks := n })
    (hs : subscripted slice false (.bytes bs t) (.int a u) = operate [.bytes bs t, .int a u] (getItem (.bytes bs t) (.int a u)) := by with_unfolding_all rfl)
    (ht : ∀ r, letTemporaryGo value (.bytes bs t) r = pure () := by intro _; with_unfolding_all rfl) : wpAny (model prog w) A (subscriptTail value slice (.bytes bs t) (.int a u)) Q E s := by
  have hlt : a.toNat < ks.length := by
    by_cases c : a.toNat < ks.length
    · exact c
    · rw [List.getElem?_eq_none (Nat.le_of_not_lt c)] at hi; cases hi
  refine KBw.item_K hk (by omega) h0 (by omega) (fun t' n _ _ => ?_) hs ht
  rw [List.getD_eq_getElem?_getD, hi]
  exact h _ _
theorem r_len4 {bs : Array UInt8} {p x y z : Int} (hk : KBw.bInts bs = [p, x, y, z]) (h : ∀ t' n, Q (.int 4 t') { s with toks := n }) : wpAny (model prog w) A (call (.builtin "len") [.bytes bs t]) Q E s :=
  len_bytes (by have := KBw.ints_length bs; rw [hk] at this; rw [← this]; exact Nat.le_of_ble_eq_true rfl) (by
    have e : bs.size = 4 := by have := KBw.ints_length bs; rw [hk] at this; exact this.symm
    first | exact e ▸ h _ _ | (rw [e]; exact h _ _))
end rules

theorem pow256_pos (k : Nat) : (0 : Int) < 256 ^ k := Int.pow_pos (by decide)
theorem pow2_pos (k : Nat) : (0 : Int) < 2 ^ k := Int.pow_pos (by decide)
theorem pow256_lt {k : Nat} (h : k ≤ 1000) : (256 : Int) ^ k < 2 ^ 8001 := by
  have e : (256 : Nat) ^ k = 2 ^ (8 * k) := by rw [Nat.pow_mul]
  have h2 : (256 : Nat) ^ k < 2 ^ 8001 := by rw [e]; exact Nat.pow_lt_pow_right (by decide) (by omega)
  have e1 : ((256 : Int) ^ k) = ((256 ^ k : Nat) : Int) := by rw [Int.natCast_pow]; rfl
  have e2 : ((2 : Int) ^ 8001) = ((2 ^ 8001 : Nat) : Int) := by rw [Int.natCast_pow]; rfl
  rw [e1, e2]
  exact Int.ofNat_lt.mpr h2
end Mine
open Mine
local macro_rules | `(tactic| walk_at "m pos") => `(tactic| first | decide | omega | exact pow256_pos _ | exact pow2_pos _ | assumption)
open Mine
local macro_rules | `(tactic| walk_at "m arith") => `(tactic| first | decide | omega | assumption)
open Mine
local macro_rules | `(tactic| walk_at "binaryOp FloorDiv int int") => `(tactic| (k_here; (first
  | with_reducible refine r_div (k := 60) (by walk_at "m pos") (by walk_at "m arith") (by decide) ?_
  | with_reducible refine r_div (k := 8001) (by walk_at "m pos") (by exact pow256_lt (by omega)) (by decide) ?_); intro _))
open Mine
local macro_rules | `(tactic| walk_at "binaryOp Mod int int") => `(tactic| (k_here; (with_reducible refine r_mod (by walk_at "m pos") ?_); intro _))
open Mine
local macro_rules | `(tactic| walk_at "binaryOp Pow int int") => `(tactic| (k_here; (with_reducible refine r_pow (by walk_at "m arith") (by walk_at "m arith") (by walk_at "m arith") (by walk_at "m arith") ?_); intro _))
open Mine
local macro_rules | `(tactic| walk_at "binaryOp Mult int int") => `(tactic| (k_here; (first
  | with_reducible refine r_mulR (by walk_at "m arith") (by walk_at "m arith") ?_
  | with_reducible refine r_mulL (by walk_at "m arith") (by walk_at "m arith") ?_); intro _))
open Mine
local macro_rules | `(tactic| walk_at "binaryOp Add int int") => `(tactic| (k_here; (with_reducible refine r_add ?_); intro _))
open Mine
local macro_rules | `(tactic| walk_at "binaryOp Sub int int") => `(tactic| (k_here; (with_reducible refine r_sub ?_); intro _))
open Mine
local macro_rules | `(tactic| walk_at "subscriptTail") => `(tactic| (k_here; (with_reducible show wpAny _ _ (subscriptTail _ _ (Value.bytes _ _) (Value.int _ _)) _ _ _); (refine r_item (by kba_ints) (by exact Nat.le_of_ble_eq_true rfl) (by decide) (by with_unfolding_all rfl) ?_); intro _ _))
open Mine
local macro_rules | `(tactic| walk_at "call builtin:len") => `(tactic| (k_here; (with_reducible show wpAny _ _ (call (Value.builtin "len") [Value.bytes _ _]) _ _ _); (refine r_len4 (by assumption) ?_); intro _ _))
open Mine
local macro_rules | `(tactic| walk_at "m enter") => `(tactic| (refine' code_pure ?k1 ?k2 ?k3 ?k5 ?kA ?kF ?kK ?k6 ?k7 ?k8 ?k9 ?kB ?_ ?c2 ?c3 ?c4 ?c5; (case kA => exact rfl); (case kF => exact rfl); (case kK => assumption); (case k1 => k_asm); (case k2 => k_asm); (case k3 => k_asm); (case k5 => k_asm); (case k6 => k_is); (case k7 => k_is); (case k8 => ktr_room); (case k9 => first | exact BindsTo.of_eq rfl | exact binds_K (by k_in) rfl (by k_is) rfl rfl rfl | fail "m enter: arguments"); (case c5 => decide); (case kB => exact locs rfl); (case c2 => exact rfl); (case c3 => exact rfl); (case c4 => exact rfl); k_whole; intro g' L' h' st' FG' F' N' B' X' T'; (try dsimp only); (try k_lift B'); (try k_fold)))
open Mine
local macro_rules | `(tactic| walk_at "m ret") => `(tactic| (rename (∀ (_ : Value) (_ : Heap) (_ : Nat), _) => hret; (refine ret_of hret ?mR (by k_asm) (by with_reducible assumption) (by with_reducible assumption))))
open Mine
local macro_rules | `(tactic| walk_at "call ref") => `(tactic| (k_here; (fail_if_success k_inElt); kts_any; k_dflt (refine wpAny_call ?_; (first
  | (refine' code_defS0 ?k1 ?k2 ?k3 ?k4 ?k5 ?kA ?k6 ?k7 ?k8 ?k9 ?kB ?_ ?cK ?c2 ?c3 ?c4 ?c5; (case kA => exact rfl); (case k2 => k_asm); (case k1 => with_reducible assumption); (case k3 => k_asm); (case k4 => k_asm); (case k5 => k_asm); (case k6 => k_is); (case k7 => k_is); (case k8 => k_room); (case k9 => exact BindsTo.of_eq rfl); (case kB => exact locs rfl); (case cK => exact rfl); (case c2 => exact rfl); (case c3 => exact rfl); (case c4 => exact rfl); (case c5 => decide); k_whole; intro g' L' h' FG' F' N' B' X' T' D'; (try dsimp only); (try k_lift B'); (try k_fold))
  | (refine' code_defS ?k1 ?k2 ?k3 ?k4 ?k5 ?XB ?TB ?D ?T0 ?kA ?k6 ?k7 ?k8 ?k9 ?kB ?_ ?cK ?c2 ?c3 ?c4 ?c5; (case kA => exact rfl); (case k2 => k_asm); (case k1 => k_asm); (case XB => with_reducible assumption); (case TB => with_reducible assumption); (case D => with_reducible assumption); (case T0 => first | with_reducible assumption | exact KtsTurn.refl); (case k3 => k_asm); (case k4 => k_asm); (case k5 => k_asm); (case k6 => k_is); (case k7 => k_is); (case k8 => k_room); (case k9 => exact BindsTo.of_eq rfl); (case kB => exact locs rfl); (case cK => exact rfl); (case c2 => exact rfl); (case c3 => exact rfl); (case c4 => exact rfl); (case c5 => decide); k_whole; intro g' L' h' FG' F' N' B' X' T' D'; (try dsimp only); (try k_lift B'); (try k_fold))))))
namespace Mine
theorem int_fb0 (w : World) : Challenge.rw_ez0015_01 = Challenge.rw_ez0015_01 ∧ findCls (Mine.hd.heap_39 w.params) (.type "int") (.type "type") (PySem.Str.ofString "from_bytes") = some (.get (.builtin "classmethod_descriptor.__get__") (.builtin "int.from_bytes") .none (.type "int")) := by
  k_fill
  refine ⟨rfl, ?_⟩
  k_dflt k_is
theorem int_fb (w : World) : findCls (Mine.hd.heap_39 w.params) (.type "int") (.type "type") (PySem.Str.ofString "from_bytes") = some (.get (.builtin "classmethod_descriptor.__get__") (.builtin "int.from_bytes") .none (.type "int")) := (int_fb0 w).2
end Mine
open Mine
local macro_rules | `(tactic| walk_at "getMethod type:int") => `(tactic| (k_here; (with_reducible refine' KFB.getm ?kfbF ?kfbN ?kfbX ?kfbE ?_); k_dflt ((case kfbF => k_asm); (case kfbN => k_asm); (case kfbX => k_asm); (case kfbE => exact Mine.int_fb _); k_whole; intro x' h' F' N' l1; (try k_lt l1); (try k_sweep))))

set_option exponentiation.threshold 256
namespace Mine
/-- a name of the text's own or of the built-ins, as the top leaves it -/
def Known (x : Str) (v : Value) : Prop := (x == ("__debug__" : Str)) = false ∧ ∀ P : Params, nsIn (Mine.hd.heap_39 P) mainGlobals x = some (some v) ∨ (nsIn (Mine.hd.heap_39 P) mainGlobals x = some none ∧ bootBuiltins x = some v ∧ x ≠ "__name__")
theorem name_known {M : Model} {w : World} {A : Around} {E : Value → Shared → Prop} {s : Shared} {h₀ : Heap} {L a : Addr} {m mg mb : Str → Option Value} {cn : Str} {cs : Scope} {ccd : Value} {p : Program} {loose : List Str} {x : Str} {pos : Pos} {v : Value} {Q : Value → Shared → Prop}
    (e : Known x v) (F : Fr h₀ L s.heap m) (X : (Mine.hd.heap_39 w.params).In h₀) (T : TopRead p loose mg mb h₀) (hx : (envOf cn cs L a ccd).kindOf x = some .globalImplicit) (hk : cs.kind = .function) (h : Q v s) :
    wpAny M A (eval (.Name x pos) (envOf cn cs L a ccd)) Q E s := by
  rcases e.2 w.params with e' | ⟨e', hv, hn⟩
  · exact name_K F X T e' h hk hx e.1
  · exact name_B F X T e' hv hn h hk hx e.1
theorem kn_is_integer : Known "is_integer" (.ref 80) := ⟨by decide, fun P => .inl (by kernel_rfl)⟩
theorem kn_is_octets : Known "is_octets" (.ref 87) := ⟨by decide, fun P => .inl (by kernel_rfl)⟩
theorem kn_bytes_from_octets : Known "bytes_from_octets" (.ref 66) := ⟨by decide, fun P => .inl (by kernel_rfl)⟩
theorem kn_value_from_bits : Known "_value_from_bits" (.ref 94) := ⟨by decide, fun P => .inl (by kernel_rfl)⟩
theorem kn_target_from_bits : Known "target_from_bits" (.ref 101) := ⟨by decide, fun P => .inl (by kernel_rfl)⟩
theorem kn_is_negative_bits : Known "is_negative_bits" (.ref 108) := ⟨by decide, fun P => .inl (by kernel_rfl)⟩
theorem kn_bits_from_target : Known "bits_from_target" (.ref 115) := ⟨by decide, fun P => .inl (by kernel_rfl)⟩
theorem kn_retarget_first_height : Known "retarget_first_height" (.ref 122) := ⟨by decide, fun P => .inl (by kernel_rfl)⟩
theorem kn_next_bits : Known "next_bits" (.ref 130) := ⟨by decide, fun P => .inl (by kernel_rfl)⟩
theorem kn_bounding_target : Known "_bounding_target" (.ref 137) := ⟨by decide, fun P => .inl (by kernel_rfl)⟩
theorem kn_permitted_difficulty_transition : Known "permitted_difficulty_transition" (.ref 144) := ⟨by decide, fun P => .inl (by kernel_rfl)⟩
theorem kn_block_work : Known "block_work" (.ref 151) := ⟨by decide, fun P => .inl (by kernel_rfl)⟩
theorem kn_chain_work : Known "chain_work" (.ref 158) := ⟨by decide, fun P => .inl (by kernel_rfl)⟩
theorem kn_ConsensusParams : Known "ConsensusParams" (.ref 216) := ⟨by decide, fun P => .inl (by kernel_rfl)⟩
theorem kn_law_worth : Known "_law_worth" (.ref 227) := ⟨by decide, fun P => .inl (by kernel_rfl)⟩
theorem kn_law_form : Known "_law_form" (.ref 234) := ⟨by decide, fun P => .inl (by kernel_rfl)⟩
theorem kn_law_four : Known "_law_four" (.ref 241) := ⟨by decide, fun P => .inl (by kernel_rfl)⟩
theorem kn_law_number : Known "_law_number" (.ref 248) := ⟨by decide, fun P => .inl (by kernel_rfl)⟩
theorem kn_law_target : Known "_law_target" (.ref 255) := ⟨by decide, fun P => .inl (by kernel_rfl)⟩
theorem kn_law_next : Known "_law_next" (.ref 262) := ⟨by decide, fun P => .inl (by kernel_rfl)⟩
theorem kn_law_rules : Known "_law_rules" (.ref 269) := ⟨by decide, fun P => .inl (by kernel_rfl)⟩
theorem kn_law_let : Known "_law_let" (.ref 276) := ⟨by decide, fun P => .inl (by kernel_rfl)⟩
theorem kn_law_forms : Known "_law_forms" (.ref 283) := ⟨by decide, fun P => .inl (by kernel_rfl)⟩
theorem kn_law_spans : Known "_law_spans" (.ref 290) := ⟨by decide, fun P => .inl (by kernel_rfl)⟩
theorem kn_TARGET_SIZE : Known "TARGET_SIZE" (.int 32 287) := ⟨by decide, fun P => .inl (by kernel_rfl)⟩
theorem kn_SIGNIFICAND_MASK : Known "_SIGNIFICAND_MASK" (.int 8388607 289) := ⟨by decide, fun P => .inl (by kernel_rfl)⟩
theorem kn_SIGNIFICAND_SIGN_BIT : Known "_SIGNIFICAND_SIGN_BIT" (.int 8388608 291) := ⟨by decide, fun P => .inl (by kernel_rfl)⟩
theorem kn_POW_TARGET_TIMESPAN : Known "POW_TARGET_TIMESPAN" (.int 1209600 293) := ⟨by decide, fun P => .inl (by kernel_rfl)⟩
theorem kn_DIFFICULTY_ADJUSTMENT_INTERVAL : Known "DIFFICULTY_ADJUSTMENT_INTERVAL" (.int 2016 295) := ⟨by decide, fun P => .inl (by kernel_rfl)⟩
theorem kn_law_fortnight : Known "_law_fortnight" (.int 1209600 547) := ⟨by decide, fun P => .inl (by kernel_rfl)⟩
theorem kn_isinstance : Known "isinstance" (.builtin "isinstance") := ⟨by decide, fun P => .inr ⟨by kernel_rfl, by boot_by_name, by decide⟩⟩
theorem kn_len : Known "len" (.builtin "len") := ⟨by decide, fun P => .inr ⟨by kernel_rfl, by boot_by_name, by decide⟩⟩
theorem kn_max : Known "max" (.builtin "max") := ⟨by decide, fun P => .inr ⟨by kernel_rfl, by boot_by_name, by decide⟩⟩
theorem kn_min : Known "min" (.builtin "min") := ⟨by decide, fun P => .inr ⟨by kernel_rfl, by boot_by_name, by decide⟩⟩
theorem kn_sum : Known "sum" (.builtin "sum") := ⟨by decide, fun P => .inr ⟨by kernel_rfl, by boot_by_name, by decide⟩⟩
theorem kn_int : Known "int" (.type "int") := ⟨by decide, fun P => .inr ⟨by kernel_rfl, by boot_by_name, by decide⟩⟩
theorem kn_bool : Known "bool" (.type "bool") := ⟨by decide, fun P => .inr ⟨by kernel_rfl, by boot_by_name, by decide⟩⟩
theorem kn_str : Known "str" (.type "str") := ⟨by decide, fun P => .inr ⟨by kernel_rfl, by boot_by_name, by decide⟩⟩
theorem kn_bytes : Known "bytes" (.type "bytes") := ⟨by decide, fun P => .inr ⟨by kernel_rfl, by boot_by_name, by decide⟩⟩
theorem kn_bytearray : Known "bytearray" (.type "bytearray") := ⟨by decide, fun P => .inr ⟨by kernel_rfl, by boot_by_name, by decide⟩⟩
theorem kn_memoryview : Known "memoryview" (.type "memoryview") := ⟨by decide, fun P => .inr ⟨by kernel_rfl, by boot_by_name, by decide⟩⟩
theorem kn_range : Known "range" (.type "range") := ⟨by decide, fun P => .inr ⟨by kernel_rfl, by boot_by_name, by decide⟩⟩
end Mine
open Mine
local macro_rules | `(tactic| walk_at "eval Name") => `(tactic| (k_here; name_kind "globalImplicit"; (with_reducible refine' Mine.name_known ?ke ?k1 ?k2 ?k3 ?kx ?kk ?_); (case ke => with_reducible first | exact Mine.kn_is_integer | exact Mine.kn_is_octets | exact Mine.kn_bytes_from_octets | exact Mine.kn_value_from_bits | exact Mine.kn_target_from_bits | exact Mine.kn_is_negative_bits | exact Mine.kn_bits_from_target | exact Mine.kn_retarget_first_height | exact Mine.kn_next_bits | exact Mine.kn_bounding_target | exact Mine.kn_permitted_difficulty_transition | exact Mine.kn_block_work | exact Mine.kn_chain_work | exact Mine.kn_ConsensusParams | exact Mine.kn_law_worth | exact Mine.kn_law_form | exact Mine.kn_law_four | exact Mine.kn_law_number | exact Mine.kn_law_target | exact Mine.kn_law_next | exact Mine.kn_law_rules | exact Mine.kn_law_let | exact Mine.kn_law_forms | exact Mine.kn_law_spans | exact Mine.kn_TARGET_SIZE | exact Mine.kn_SIGNIFICAND_MASK | exact Mine.kn_SIGNIFICAND_SIGN_BIT | exact Mine.kn_POW_TARGET_TIMESPAN | exact Mine.kn_DIFFICULTY_ADJUSTMENT_INTERVAL | exact Mine.kn_law_fortnight | exact Mine.kn_isinstance | exact Mine.kn_len | exact Mine.kn_max | exact Mine.kn_min | exact Mine.kn_sum | exact Mine.kn_int | exact Mine.kn_bool | exact Mine.kn_str | exact Mine.kn_bytes | exact Mine.kn_bytearray | exact Mine.kn_memoryview | exact Mine.kn_range); k_dflt ((case k1 => k_asm); (case k2 => k_asm); (case k3 => k_asm); (case kx => kernel_rfl); (case kk => first | exact rfl | assumption); k_whole)))
open Mine
local macro_rules | `(tactic| walk_at "eval Name") => `(tactic| (k_here; name_kind "local"; k_dflt (refine' ld ?k1 ?k2 ?_; (case k1 => k_asm); (case k2 => exact rfl); k_whole)))
open Mine
local macro_rules | `(tactic| walk_at "callWith ref nil nil") => `(tactic| (k_here; (with_reducible refine' callWith_K ?k1 ?k2 ?_ ?k3 ?k4); k_dflt ((case k1 => k_asm); (case k2 => k_is); (case k3 => exact rfl); (case k4 => exact rfl); k_whole)))
open Mine
local macro_rules | `(tactic| walk_at "callWith builtin:int.to_bytes cons nil") => `(tactic| (k_here; (with_reducible refine' callWith_method1 ?_ ?ke ?kp); k_dflt ((case ke => exact rfl); (case kp => exact rfl))))
open Mine
local macro_rules | `(tactic| walk_at "callWith builtin:bytes.lstrip cons nil") => `(tactic| (k_here; (with_reducible refine' callWith_method1 ?_ ?ke ?kp); k_dflt ((case ke => exact rfl); (case kp => exact rfl))))
open Mine
local macro_rules | `(tactic| walk_at "callWith builtin:max nil nil") => `(tactic| (k_here; (with_reducible refine' callWith_builtin1 ?_ ?ke ?kp); k_dflt ((case ke => exact rfl); (case kp => exact rfl))))
open Mine
local macro_rules | `(tactic| walk_at "callWith builtin:min nil nil") => `(tactic| (k_here; (with_reducible refine' callWith_builtin1 ?_ ?ke ?kp); k_dflt ((case ke => exact rfl); (case kp => exact rfl))))
open Mine
local macro_rules | `(tactic| walk_at "callWith builtin:isinstance nil nil") => `(tactic| (k_here; (with_reducible refine' callWith_builtin1 ?_ ?ke ?kp); k_dflt ((case ke => exact rfl); (case kp => exact rfl))))
open Mine
local macro_rules | `(tactic| walk_at "callWith builtin:len nil nil") => `(tactic| (k_here; (with_reducible refine' callWith_builtin1 ?_ ?ke ?kp); k_dflt ((case ke => exact rfl); (case kp => exact rfl))))

set_option exponentiation.threshold 256
namespace Mine
section
variable {prog : Program} {w : World} {A : Around} {E : Value → Shared → Prop} {s : Shared}
theorem bb_look : typeLookup (.type "bytes") "__bytes__" = pure (some (.builtin "bytes.__bytes__")) := by rw [typeLookup_type, builtinLookup_eq_fast]; kernel_rfl
theorem bb_new {b : Array UInt8} {t : Tok} {Q : Value → Shared → Prop} (hQ : Q (.bytes b t) s) :
    codeAny (model prog w) A (.call (.builtin "bytes.__new__") ⟨[.type "bytes", .bytes b t], []⟩) (wants Q E) s := by
  refine codeAny_of_tree ?_
  show wpAny _ A.in1 (do checkBuiltinCall "bytes.__new__" ⟨[.type "bytes", .bytes b t], []⟩; again (.builtin "bytes.__new__" ⟨[.type "bytes", .bytes b t], []⟩)) _ _ s
  refine wpAny_bind (wpAny_of_eq (F.bm_newCall _) (wpAny_pure ⟨plainId_quiet F.bm_plain _, codeAny_builtin F.bm_entry ?_⟩))
  rw [Around.under_plainId F.bm_plain _]
  unfold Builtin.«bytes.__new__»
  refine wpAny_bind (wpAny_of_eq (a := true) rfl ?_)
  refine bm_if_false rfl ?_
  refine wpAny_bind (wpAny_of_eq F.bm_sub ?_)
  refine bm_if_false rfl ?_
  refine wpAny_bind (wpAny_of_eq (F.bm_bind _) ?_)
  refine wpAny_bind (wpAny_of_eq (a := ()) rfl ?_)
  refine wpAny_bind (wpAny_of_eq (a := ()) rfl ?_)
  refine bm_if_false rfl ?_
  refine wpAny_bind (wpAny_specialOf (PySem.W.typeIs_bytes _ _ _) bb_look ?_)
  first
    | refine wpAny_bind (wpAny_rule ?_)
    | (dsimp only; refine wpAny_bind (wpAny_rule ?_))
    | (with_unfolding_all refine wpAny_bind (wpAny_rule ?_))
  refine wpAny_bind (wpAny_of_eq (a := Value.type "bytes") rfl ?_)
  refine bm_if_true (by decide) ?_
  first | exact hQ | exact (wpAny_pure hQ)
theorem call_bytes_bytes {b : Array UInt8} {t : Tok} {Q : Value → Shared → Prop}
    (hQ : Q (.bytes b t) s) : wpAny (model prog w) A (call (.type "bytes") [.bytes b t]) Q E s := by
  refine callType_codes (Q₁ := fun obj s₁ => s₁.TypeIs obj "bytes" ∧ Q obj s₁) F.bm_called (F.bm_typeCall _) F.entry_object_init
    (bb_new ⟨PySem.W.typeIs_bytes _ _ _, hQ⟩) fun obj s₁ h₁ => ?_
  exact ⟨h₁.1, F.args_object_init_2 obj _, object_init_meets F.bm_called.init.lookup F.bm_called.made (by decide) prog w A.in1 _ s₁ ⟨h₁.1, rfl, h₁.2⟩⟩
end
end Mine
open Mine
local macro_rules | `(tactic| walk_at "call type:bytes") => `(tactic| (k_here; (with_reducible show wpAny _ _ (call (Value.type "bytes") [Value.bytes _ _]) _ _ _); (refine call_bytes_bytes ?_)))

set_option exponentiation.threshold 256
namespace Mine
section
variable {prog : Program} {w : World} {M : Model} {A : Around} {E : Value → Shared → Prop} {s : Shared} {K : Frag} {h₀ : Heap} {L : Addr} {m : PySem.Str → Option Value} {news : List (Addr × Obj)}
theorem keeps_bound {u : Addr} (h : Heap) (hs : KFB.StandsAt u h) : ∃ k, (k = Keeper.frame ∨ k = Keeper.machine ∨ k = Keeper.boundFrame) ∧ Looks M h (keeperOf (.ref u)) k :=
  ⟨.machine, .inr (.inl rfl), (Looks.ld (part := none) hs).andThen .now⟩
theorem callWith_boundKW {env : Env} {pos : Pos} {u : Addr} {first : List Value} {Q : Value → Shared → Prop} {e : Expr} {rest : List Expr} {kws : List Keyword} (_N : News h₀ L s.heap news) (_hm : (u, KFB.bound) ∈ news) (hall : (backToKw pos (keywordEach kws env)).all (·.1.isSome) = true)
    (h : wpAny M A (spliced (backTo pos (starEach (e :: rest) env))) (fun vs s₁ => wpAny M A (evalAll ((backToKw pos (keywordEach kws env)).map (·.2)))
      (fun ks s₂ => KFB.StandsAt u s₂.heap ∧ wpAny M A (call (.ref u) (first ++ vs) (((backToKw pos (keywordEach kws env)).filterMap (·.1)).zip ks)) Q E s₂) E s₁) E s)
    (hplain : ((backTo pos (starEach (e :: rest) env)).any (·.1) || (backToKw pos (keywordEach kws env)).any (·.1.isNone)) = false := by rfl) (he : starEach (e :: rest) env = (false, eval e env) :: starEach rest env := by rfl) :
    wpAny M A (callWith pos (.ref u) first (backTo pos (starEach (e :: rest) env)) (backToKw pos (keywordEach kws env))) Q E s :=
  callWith_of hplain keeps_bound (evalArgs_kw2 hall h he)

theorem grownG {n k : Nat} {Q : Value → Shared → Prop} (hk : k ≤ 100000) (hn : n < 2 ^ k) (h : ∀ t', Q (.int (n : Int) t') { s with toks := s.toks + 1 }) : wpAny M A (mkIntGrown (n : Int)) Q E s := by
  unfold mkIntGrown
  have hl : ¬ ((n : Int).natAbs.log2 ≥ bitsLine) := by
    rw [Int.natAbs_natCast]
    have hb : bitsLine = 134217728 := by first | rfl | decide
    by_cases hz : n = 0
    · subst hz
      rw [hb]
      decide
    · have h1 := (Nat.log2_lt hz).mpr hn
      omega
  rw [if_neg hl]
  exact wpAny_mkInt (h _)
theorem pow256_2 (k : Nat) : (256 : Nat) ^ k = 2 ^ (8 * k) := by rw [Nat.pow_mul]
theorem fb_tree {rest : List Value} {kw : List (Str × Value)} {sv : Option Value} {b : Array UInt8} {t u : Tok} {P : Fin → Shared → Prop}
    (hbind : Builtin.Int.intBindNamed "from_bytes" ["bytes", "byteorder", "signed"] 1 2 rest kw = pure [some (.bytes b t), some (.str (PySem.Str.ofString "big") u), sv])
    (hs : sv = none ∨ sv = some (.bool false)) (hl : b.size ≤ 1000) (h : ∀ t' k, P (.done (.ret (.int (KFB.value (KBw.bInts b)) t'))) { s with toks := k }) :
    wpAny M A (Builtin.«int.from_bytes» ⟨.type "int" :: rest, kw⟩) P E s := by
  have hv : ((b.toList.foldl (fun (acc : Nat) (b : UInt8) => acc * 256 + b.toNat) 0 : Nat) : Int) = KFB.value (KBw.bInts b) := KFB.fold_cast b.toList 0
  have hn : b.toList.foldl (fun (acc : Nat) (b : UInt8) => acc * 256 + b.toNat) 0 < 2 ^ (8 * b.size) := by
    have h1 := KFB.fold_lt b.toList 0
    rw [Nat.zero_add, Nat.one_mul, Array.length_toList, pow256_2] at h1
    exact h1
  unfold Builtin.«int.from_bytes»
  refine wpAny_bind (wpAny_of_eq (a := true) KFB.type_int ?_)
  refine KFB.if_not rfl ?_
  refine wpAny_bind (wpAny_of_eq (a := true) F.conv_sub_int ?_)
  refine KFB.if_not rfl ?_
  refine wpAny_bind (wpAny_of_eq hbind ?_)
  refine wpAny_bind (wpAny_of_eq (a := PySem.Str.ofString "big") (by kernel_rfl) ?_)
  rcases hs with rfl | rfl
  all_goals
    refine wpAny_bind (wpAny_of_eq (a := false) (by first | rfl | kernel_rfl) ?_)
    refine wpAny_bind (wpAny_of_eq (a := false) (by kernel_rfl) ?_)
    refine wpAny_bind (wpAny_of_eq (a := b) rfl ?_)
    show wpAny _ _ (mkIntGrown (b.toList.foldl (fun (acc : Int) (b : UInt8) => acc * 256 + (b.toNat : Int)) ((0 : Nat) : Int)) >>= fun v => _) _ _ _
    rw [KFB.foldI_eq]
    refine wpAny_bind (grownG (k := 8 * b.size) (by omega) hn fun t' => ?_)
    rw [hv]
    refine KFB.if_so (by decide +kernel) ?_
    exact wpAny_bind (wpAny_pure (wpAny_pure (h _ _)))
theorem fb_check0 {b : Array UInt8} {t u : Tok} {o : PySem.Str} : checkBoundCall "int.from_bytes" ⟨[.type "int", .bytes b t], [(PySem.Str.ofString "byteorder", .str o u), (PySem.Str.ofString "signed", .bool false)]⟩ = pure () := by first | kernel_rfl | rfl
theorem fb_check1 {b : Array UInt8} {t u : Tok} {o : PySem.Str} : checkBoundCall "int.from_bytes" ⟨[.type "int", .bytes b t, .str o u], [(PySem.Str.ofString "signed", .bool false)]⟩ = pure () := by first | kernel_rfl | rfl
theorem fb_check2 {b : Array UInt8} {t u : Tok} {o : PySem.Str} : checkBoundCall "int.from_bytes" ⟨[.type "int", .bytes b t, .str o u], []⟩ = pure () := by first | kernel_rfl | rfl
theorem fb_call {x : Addr} {rest : List Value} {kw : List (Str × Value)} {sv : Option Value} {b : Array UInt8} {t u : Tok} {Q : Value → Shared → Prop} (N : News h₀ L s.heap news) (hm : (x, KFB.bound) ∈ news)
    (hck : checkBoundCall "int.from_bytes" ⟨.type "int" :: rest, kw⟩ = pure ())
    (hbind : Builtin.Int.intBindNamed "from_bytes" ["bytes", "byteorder", "signed"] 1 2 rest kw = pure [some (.bytes b t), some (.str (PySem.Str.ofString "big") u), sv])
    (hs : sv = none ∨ sv = some (.bool false)) (hl : b.size ≤ 1000)
    (h : ∀ t' k, Q (.int (KFB.value (KBw.bInts b)) t') { s with toks := k }) : wpAny (model prog w) A (call (.ref x) rest kw) Q E s := by
  refine wpAny_call (codeAny_of_tree ?_)
  show wpAny _ A.in1 (callAny (.ref x) ⟨rest, kw⟩) _ _ s
  simp only [callAny]
  refine wpAny_bind (wpAny_load (KFB.at_of N hm) ?_)
  simp only [KFB.bound, show (Value.type "builtin_function_or_method" == Value.type "method" || Value.type "builtin_function_or_method" == Value.type "builtin_function_or_method" || Value.type "builtin_function_or_method" == Value.type "method-wrapper") = true by decide, if_true]
  refine KFB.if_so (by decide) ?_
  refine wpAny_bind (wpAny_of_eq (a := ()) hck ?_)
  refine wpAny_bind (wpAny_pure (wpAny_pure ?_))
  exact ⟨KFB.quiet_fb, codeAny_builtin KFB.entry_fb (fb_tree hbind hs hl h)⟩
theorem r_fb0 {x : Addr} {b : Array UInt8} {t u : Tok} {ks : List Int} {Q : Value → Shared → Prop} (N : News h₀ L s.heap news) (hm : (x, KFB.bound) ∈ news) (hk : KBw.bInts b = ks) (hl : ks.length ≤ 1000)
    (h : ∀ t' k, Q (.int (KFB.value ks) t') { s with toks := k }) : wpAny (model prog w) A (call (.ref x) [.bytes b t] [(PySem.Str.ofString "byteorder", .str (PySem.Str.ofString "big") u), (PySem.Str.ofString "signed", .bool false)]) Q E s := by
  subst hk
  exact fb_call (t := t) (u := u) N hm fb_check0 (by kernel_rfl) (.inr rfl) (by rw [← KBw.ints_length]; exact hl) h
theorem r_fb1 {x : Addr} {b : Array UInt8} {t u : Tok} {ks : List Int} {Q : Value → Shared → Prop} (N : News h₀ L s.heap news) (hm : (x, KFB.bound) ∈ news) (hk : KBw.bInts b = ks) (hl : ks.length ≤ 1000)
    (h : ∀ t' k, Q (.int (KFB.value ks) t') { s with toks := k }) : wpAny (model prog w) A (call (.ref x) [.bytes b t, .str (PySem.Str.ofString "big") u] [(PySem.Str.ofString "signed", .bool false)]) Q E s := by
  subst hk
  exact fb_call (t := t) (u := u) N hm fb_check1 (by kernel_rfl) (.inr rfl) (by rw [← KBw.ints_length]; exact hl) h
theorem r_fb2 {x : Addr} {b : Array UInt8} {t u : Tok} {ks : List Int} {Q : Value → Shared → Prop} (N : News h₀ L s.heap news) (hm : (x, KFB.bound) ∈ news) (hk : KBw.bInts b = ks) (hl : ks.length ≤ 1000)
    (h : ∀ t' k, Q (.int (KFB.value ks) t') { s with toks := k }) : wpAny (model prog w) A (call (.ref x) [.bytes b t, .str (PySem.Str.ofString "big") u] []) Q E s := by
  subst hk
  exact fb_call (t := t) (u := u) N hm fb_check2 (by kernel_rfl) (.inl rfl) (by rw [← KBw.ints_length]; exact hl) h
end
end Mine
open Mine
local macro_rules | `(tactic| walk_at "m small") => `(tactic| first | exact Nat.le_of_ble_eq_true rfl | omega | assumption)
open Mine
local macro_rules | `(tactic| walk_at "callWith ref") => `(tactic| (k_here; kfb_any; k_dflt (refine' callWith_boundKW ?kfbN ?kfbM ?kfbA ?_; (case kfbN => k_asm); (case kfbM => k_mem); (case kfbA => rfl); k_whole)))
open Mine
local macro_rules | `(tactic| walk_at "call ref") => `(tactic| (k_here; kfb_any; k_dflt (first
  | refine r_fb0 (by k_asm) (by k_mem) (by first | kba_ints | rfl) (by walk_at "m small") ?_
  | refine r_fb1 (by k_asm) (by k_mem) (by first | kba_ints | rfl) (by walk_at "m small") ?_
  | refine r_fb2 (by k_asm) (by k_mem) (by first | kba_ints | rfl) (by walk_at "m small") ?_); intro _ _))

set_option exponentiation.threshold 256
namespace Mine
theorem p2_256 {k : Int} (h : 0 ≤ k) : (2 : Int) ^ (8 * k).toNat = 256 ^ k.toNat := by
  obtain ⟨n, rfl⟩ := Int.eq_ofNat_of_zero_le h
  have e : (8 * (n : Int)).toNat = 8 * n := by omega
  rw [e, Int.toNat_natCast, Int.pow_mul]
  rfl
theorem tail_ints {c : Array UInt8} {p x y z : Int} (h : KBw.bInts c = List.take ([p, x, y, z].length - clipAt [p, x, y, z].length 1) (List.drop (clipAt [p, x, y, z].length 1) [p, x, y, z])) : KBw.bInts c = [x, y, z] := h
/-- the digits that to_bytes lays tell the number again -/
theorem value_snoc (ks : List Int) (d : Int) : KFB.value (ks ++ [d]) = KFB.value ks * 256 + d := by
  simp [KFB.value, List.foldl_append]
theorem value_little : ∀ (n : Nat) (x : Int), 0 ≤ x → x < 256 ^ n → KFB.value (KTBy.little n x).reverse = x
  | 0, x, h0, h1 => by
    have : x = 0 := by rw [Int.pow_zero] at h1; omega
    subst this; rfl
  | n + 1, x, h0, h1 => by
    show KFB.value ((x % 256 :: KTBy.little n (x / 256)).reverse) = x
    rw [List.reverse_cons, value_snoc, value_little n (x / 256) (by omega) (by rw [Int.pow_succ] at h1; omega)]
    omega
section rules
variable {prog : Program} {w : World} {A : Around} {E : Value → Shared → Prop} {s : Shared} {a b x : Int} {k : Nat} {t u v : Tok} {Q : Value → Shared → Prop}
theorem r_mask (h : ∀ t', Q (.int (a % 8388608) t') { s with toks := s.toks + 1 }) : wpAny (model prog w) A (binaryOp .BitAnd (.int a t) (.int 8388607 u)) Q E s :=
  and_int (by have e : Builtin.bitAnd a 8388607 = a % 8388608 := kbt_mask a 23
              rw [e]; exact h _)
theorem r_sign (h : ∀ t', Q (.int (a / 8388608 % 2 * 8388608) t') { s with toks := s.toks + 1 }) : wpAny (model prog w) A (binaryOp .BitAnd (.int a t) (.int 8388608 u)) Q E s :=
  and_int (by have e : Builtin.bitAnd a 8388608 = a / 8388608 % 2 * 8388608 := kbt_bit a 23
              rw [e]; exact h _)
theorem r_shr (h0 : 0 ≤ b) (h : ∀ t', Q (.int (a / 256 ^ b.toNat) t') { s with toks := s.toks + 1 }) : wpAny (model prog w) A (binaryOp .RShift (.int a t) (.int (8 * b) u)) Q E s :=
  rshift_int (by omega) (by rw [fd_pos (pow2_pos _), p2_256 h0]; exact h _)
theorem r_ishr8 (h : ∀ t', Q (.int (a / 256) t') { s with toks := s.toks + 1 }) : wpAny (model prog w) A (inplaceOp .RShift (.int a t) (.int 8 u)) Q E s :=
  irshift_int (by omega) (by have e : a.fdiv (2 ^ (8 : Int).toNat) = a / 256 := fd_pos (x := a) (y := 256) (by decide)
                             rw [e]; exact h _)
theorem r_shl (h0 : 0 ≤ b) (h1 : b ≤ 1000) (ha : -18446744073709551616 < a) (ha' : a < 18446744073709551616) (h : ∀ t', Q (.int (a * 256 ^ b.toNat) t') { s with toks := s.toks + 1 }) : wpAny (model prog w) A (binaryOp .LShift (.int a t) (.int (8 * b) u)) Q E s :=
  lshift_int_small (by omega) (by omega) (by omega) (by rw [p2_256 h0]; exact h _)

theorem callWith_kwF {pos : Pos} {env : Env} {id : String} {first : List Value} {e : Expr} {rest : List Expr} {kws : List Keyword} {M : Model}
    (h : wpAny M A (spliced (backTo pos (starEach (e :: rest) env))) (fun vs s₁ => wpAny M A (evalAll ((backToKw pos (keywordEach kws env)).map (·.2)))
      (fun kvs s₂ => wpAny M A (call (.builtin id) (first ++ vs) (((backToKw pos (keywordEach kws env)).filterMap (·.1)).zip kvs)) Q E s₂) E s₁) E s)
    (he : backTo pos (starEach (e :: rest) env) = (false, eval e env) :: backTo pos (starEach rest env) := by rfl)
    (hplain : (backTo pos (starEach (e :: rest) env)).any (·.1) = false := by rfl)
    (hall : (backToKw pos (keywordEach kws env)).all (·.1.isSome) = true := by rfl)
    (hkw : (backToKw pos (keywordEach kws env)).any (·.1.isNone) = false := by rfl) :
    wpAny M A (callWith pos (.builtin id) first (backTo pos (starEach (e :: rest) env)) (backToKw pos (keywordEach kws env))) Q E s := by
  refine callWith_builtin_kwB hplain hkw ?_
  rw [he] at h ⊢
  exact evalArgs_kwB hall h

theorem tb_gen {pos : List Value} {kw : List (Str × Value)} {sv : Option Value}
    (hargs : argsOk "int.to_bytes" ⟨.int x t :: pos, kw⟩)
    (hbind : Builtin.Int.intBindNamed "to_bytes" ["length", "byteorder", "signed"] 0 2 pos kw = pure [some (.int (k : Int) u), some (.str (PySem.Str.ofString "big") v), sv])
    (hs : sv = none ∨ sv = some (.bool false)) (hk : k ≤ 1000) (h0 : 0 ≤ x) (h1 : x < 256 ^ k)
    (h : ∀ (b : Array UInt8) t' k', KBw.bInts b = (KTBy.little k x).reverse → Q (.bytes b t') { s with toks := k' }) :
    wpAny (model prog w) A (call (.builtin "int.to_bytes") (.int x t :: pos) kw) Q E s := by
  refine wpAny_call_entry_kw KTBy.slot (typeIs_int s x t) KTBy.entry ?_ hargs
  have hb := KTBy.bits_le (x := x) rfl h0 h1
  show wpAny _ _ (Builtin.Int.intOfSelf (.int x t) >>= fun y => _) _ _ s
  refine wpAny_bind (wpAny_of_eq (a := x) rfl ?_)
  refine wpAny_bind (wpAny_of_eq hbind ?_)
  show wpAny _ _ (Builtin.Int.intIndex "int.to_bytes" (.int (k : Int) u) >>= fun n => _) _ _ s
  refine wpAny_bind (wpAny_of_eq (a := (k : Int)) rfl ?_)
  refine KTBy.if_not (by show (decide ((k : Int) < -(2 ^ 63 : Int)) || decide ((k : Int) ≥ 2 ^ 63)) = false; rw [decide_eq_false (show ¬ ((k : Int) < -(2 ^ 63 : Int)) by omega), decide_eq_false (show ¬ ((k : Int) ≥ 2 ^ 63) by omega)]; rfl) ?_
  refine wpAny_bind (wpAny_of_eq (a := PySem.Str.ofString "big") (by kernel_rfl) ?_)
  rcases hs with rfl | rfl
  all_goals
    refine wpAny_bind (wpAny_of_eq (a := false) (by first | rfl | kernel_rfl) ?_)
    refine wpAny_bind (wpAny_of_eq (a := false) (by kernel_rfl) ?_)
    refine wpAny_ite_false (decide_eq_false (show ¬ ((k : Int) < 0) by omega)) ?_
    refine wpAny_ite_false (decide_eq_false (show ¬ ((k : Int) > 2 ^ 63 - 1 - 33) by omega)) ?_
    refine wpAny_ite_false (decide_eq_false (show ¬ ((k : Int) > (sizeLine : Int)) by rw [sizeLine_eq]; omega)) ?_
    refine KTBy.if_not (by show (decide (x < 0) && !false) = false; rw [decide_eq_false (show ¬ x < 0 by omega)]; rfl) ?_
    refine KTBy.if_not (by show (_ && decide ((Builtin.Int.intBits x : Int) > 8 * (k : Int))) = false; rw [decide_eq_false (show ¬ ((Builtin.Int.intBits x : Int) > 8 * (k : Int)) by omega), Bool.and_false]) ?_
    refine wpAny_bind (wpAny_mkBytes (wpAny_pure ⟨_, rfl, h _ _ _ ?_⟩) (by show (List.reverse (KTBy.low x (Int.toNat (k : Int)))).length ≤ sizeLine; rw [List.length_reverse, KTBy.low_length, Int.toNat_natCast, sizeLine_eq]; omega))
    show (List.map (fun c : UInt8 => ((c.toNat : Nat) : Int)) (List.reverse (KTBy.low x (Int.toNat (k : Int))))) = (KTBy.little k x).reverse
    rw [Int.toNat_natCast, List.map_reverse, KTBy.low_ints h0 h1, ← KTBy.little_eq]
theorem tb_args1 (a b c : Value) : argsOk "int.to_bytes" ⟨[a, b, c], [(PySem.Str.ofString "signed", .bool false)]⟩ := by unfold argsOk; kernel_rfl
theorem r_tb32s (h0 : 0 ≤ x) (h1 : x < 256 ^ 32)
    (h : ∀ (b : Array UInt8) t' k', (KBw.bInts b).length = 32 → KFB.value (KBw.bInts b) = x → Q (.bytes b t') { s with toks := k' }) :
    wpAny (model prog w) A (call (.builtin "int.to_bytes") [.int x t, .int 32 u, .str (PySem.Str.ofString "big") v] [(PySem.Str.ofString "signed", .bool false)]) Q E s :=
  tb_gen (k := 32) (u := u) (v := v) (tb_args1 _ _ _) (by kernel_rfl) (.inr rfl) (by decide) h0 h1 fun b t' k' e => h b t' k' (by rw [e, List.length_reverse, KTBy.little_length]) (by rw [e]; exact value_little 32 x h0 h1)
theorem r_tb32 (h0 : 0 ≤ x) (h1 : x < 256 ^ 32)
    (h : ∀ (b : Array UInt8) t' k', (KBw.bInts b).length = 32 → KFB.value (KBw.bInts b) = x → Q (.bytes b t') { s with toks := k' }) :
    wpAny (model prog w) A (call (.builtin "int.to_bytes") [.int x t, .int 32 u, .str (PySem.Str.ofString "big") v]) Q E s :=
  tb_gen (k := 32) (u := u) (v := v) (KTBy.args _ _ _) (by kernel_rfl) (.inl rfl) (by decide) h0 h1 fun b t' k' e => h b t' k' (by rw [e, List.length_reverse, KTBy.little_length]) (by rw [e]; exact value_little 32 x h0 h1)
theorem r_tb3s (h0 : 0 ≤ x) (h1 : x < 16777216)
    (h : ∀ (b : Array UInt8) t' k', KBw.bInts b = [x / 65536, x / 256 % 256, x % 256] → Q (.bytes b t') { s with toks := k' }) :
    wpAny (model prog w) A (call (.builtin "int.to_bytes") [.int x t, .int 3 u, .str (PySem.Str.ofString "big") v] [(PySem.Str.ofString "signed", .bool false)]) Q E s :=
  tb_gen (k := 3) (u := u) (v := v) (tb_args1 _ _ _) (by kernel_rfl) (.inr rfl) (by decide) h0 h1 fun b t' k' e => h b t' k' (by
    rw [e]
    show [x / 256 / 256 % 256, x / 256 % 256, x % 256] = _
    have : x / 256 / 256 % 256 = x / 65536 := by omega
    rw [this])
end rules
end Mine
open Mine
local macro_rules | `(tactic| walk_at "binaryOp BitAnd int int") => `(tactic| (k_here; (first | with_reducible refine r_mask ?_ | with_reducible refine r_sign ?_); intro _))
open Mine
local macro_rules | `(tactic| walk_at "binaryOp RShift int int") => `(tactic| (k_here; (with_reducible refine r_shr (by walk_at "m arith") ?_); intro _))
open Mine
local macro_rules | `(tactic| walk_at "inplaceOp RShift int int") => `(tactic| (k_here; (with_reducible refine r_ishr8 ?_); intro _))
open Mine
local macro_rules | `(tactic| walk_at "binaryOp LShift int int") => `(tactic| (k_here; (with_reducible refine r_shl (by walk_at "m arith") (by walk_at "m arith") (by walk_at "m arith") (by walk_at "m arith") ?_); intro _))
open Mine
local macro_rules | `(tactic| walk_at "subscriptTail") => `(tactic| (k_here; (with_reducible show wpAny _ _ (subscriptTail _ (Expr.Slice _ _ none _) (Value.bytes _ _) (Value.ref _)) _ _ _); (with_reducible rename Fr _ _ _ _ => F'); (with_reducible rename News _ _ _ _ => N'); (refine KBc.slice_K (s := ⟨_, _, _, _, _⟩) F' N' (by kba_ints) (by constructor) (by constructor) (by exact Nat.le_of_ble_eq_true rfl) ?_); intro _ _ _ F' N' kbcK; (have kbc9 := tail_ints kbcK); clear kbcK))
open Mine
local macro_rules | `(tactic| walk_at "m lo") => `(tactic| first | omega | assumption)
open Mine
local macro_rules | `(tactic| walk_at "callWith") => `(tactic| (k_here; (try dsimp only); (with_reducible show wpAny _ _ (callWith _ (Value.builtin "int.to_bytes") _ _ _) _ _ _); k_dflt (refine callWith_kwF ?_); (try dsimp only [List.cons_append, List.nil_append])))
open Mine
local macro_rules | `(tactic| walk_at "call builtin:int.to_bytes") => `(tactic| (k_here; (first
  | (refine r_tb32s (by walk_at "m lo") (by walk_at "m lo") ?_; intro _ _ _ hl9 hv9)
  | (refine r_tb32 (by walk_at "m lo") (by walk_at "m lo") ?_; intro _ _ _ hl9 hv9)
  | (refine r_tb3s (by walk_at "m lo") (by walk_at "m lo") ?_; intro _ _ _ hb9))))

set_option exponentiation.threshold 256
namespace Mine
section
variable {prog : Program} {w : World} {A : Around} {E : Value → Shared → Prop} {s : Shared} {a b c : Int} {t u : Tok} {Q : Value → Shared → Prop}
theorem r_powL (hc : a ^ b.toNat = c) (h0 : 0 ≤ b) (hb : b ≤ 1000) (ha : 0 ≤ a) (ha' : a ≤ 1000) (h : ∀ t', Q (.int c t') { s with toks := s.toks + 1 }) : wpAny (model prog w) A (binaryOp .Pow (.int a t) (.int b u)) Q E s := by
  subst hc
  exact r_pow h0 hb ha ha' h
theorem r_p256_32 (h : ∀ t', Q (.int 115792089237316195423570985008687907853269984665640564039457584007913129639936 t') { s with toks := s.toks + 1 }) : wpAny (model prog w) A (binaryOp .Pow (.int 256 t) (.int 32 u)) Q E s := r_powL (by decide +kernel) (by decide) (by decide) (by decide) (by decide) h
theorem r_p2_256 (h : ∀ t', Q (.int 115792089237316195423570985008687907853269984665640564039457584007913129639936 t') { s with toks := s.toks + 1 }) : wpAny (model prog w) A (binaryOp .Pow (.int 2 t) (.int 256 u)) Q E s := r_powL (by decide +kernel) (by decide) (by decide) (by decide) (by decide) h
theorem r_p2_255 (h : ∀ t', Q (.int 57896044618658097711785492504343953926634992332820282019728792003956564819968 t') { s with toks := s.toks + 1 }) : wpAny (model prog w) A (binaryOp .Pow (.int 2 t) (.int 255 u)) Q E s := r_powL (by decide +kernel) (by decide) (by decide) (by decide) (by decide) h
theorem r_p10_7 (h : ∀ t', Q (.int 10000000 t') { s with toks := s.toks + 1 }) : wpAny (model prog w) A (binaryOp .Pow (.int 10 t) (.int 7 u)) Q E s := r_powL (by decide +kernel) (by decide) (by decide) (by decide) (by decide) h
theorem r_p10_9 (h : ∀ t', Q (.int 1000000000 t') { s with toks := s.toks + 1 }) : wpAny (model prog w) A (binaryOp .Pow (.int 10 t) (.int 9 u)) Q E s := r_powL (by decide +kernel) (by decide) (by decide) (by decide) (by decide) h
theorem r_p10_6 (h : ∀ t', Q (.int 1000000 t') { s with toks := s.toks + 1 }) : wpAny (model prog w) A (binaryOp .Pow (.int 10 t) (.int 6 u)) Q E s := r_powL (by decide +kernel) (by decide) (by decide) (by decide) (by decide) h
end
/-- what a compact form tells -/
def worth (p x y z : Int) : Int := if p < 3 then (x % 128 * 65536 + y * 256 + z) / 256 ^ (3 - p).toNat else (x % 128 * 65536 + y * 256 + z) * 256 ^ (p - 3).toNat
theorem worth_nonneg {p x y z : Int} (hy : 0 ≤ y) (hz : 0 ≤ z) : 0 ≤ worth p x y z := by
  have h : 0 ≤ x % 128 * 65536 + y * 256 + z := by omega
  unfold worth
  split
  · exact Int.ediv_nonneg h (Int.le_of_lt (pow256_pos _))
  · exact Int.mul_nonneg h (Int.le_of_lt (pow256_pos _))
theorem val3 {x y z : Int} (_hx : 0 ≤ x) (hy : 0 ≤ y ∧ y < 256) (hz : 0 ≤ z ∧ z < 256) : KFB.value [x, y, z] % 8388608 = x % 128 * 65536 + y * 256 + z := by
  show (((0 * 256 + x) * 256 + y) * 256 + z) % 8388608 = _
  omega
end Mine
open Mine
local macro_rules | `(tactic| walk_at "binaryOp Pow int int") => `(tactic| (k_here; (with_reducible refine r_p256_32 ?_); intro _))
open Mine
local macro_rules | `(tactic| walk_at "binaryOp Pow int int") => `(tactic| (k_here; (with_reducible refine r_p2_256 ?_); intro _))
open Mine
local macro_rules | `(tactic| walk_at "binaryOp Pow int int") => `(tactic| (k_here; (with_reducible refine r_p2_255 ?_); intro _))
open Mine
local macro_rules | `(tactic| walk_at "binaryOp Pow int int") => `(tactic| (k_here; (with_reducible refine r_p10_7 ?_); intro _))
open Mine
local macro_rules | `(tactic| walk_at "binaryOp Pow int int") => `(tactic| (k_here; (with_reducible refine r_p10_9 ?_); intro _))
open Mine
local macro_rules | `(tactic| walk_at "binaryOp Pow int int") => `(tactic| (k_here; (with_reducible refine r_p10_6 ?_); intro _))

set_option exponentiation.threshold 10000
namespace Mine
/-- 256 ^ i as an int -/
theorem p256_pos (i : Nat) : (0 : Int) < 256 ^ i := pow256_pos i
/-- the number's octets behind the power i -/
def part (n : Int) (i : Nat) : Int := n * 16777216 / 256 ^ i
def pw (n : Int) : Nat := ((List.range 34).find? fun q => decide (part n q < 8388608)).getD 33
def form (n : Int) : List Int := [(pw n : Int), part n (pw n) / 65536, part n (pw n) / 256 % 256, part n (pw n) % 256]
/-- the number that the form of n tells: n rounded down -/
def fl (n : Int) : Int := part n (pw n) * 256 ^ pw n / 16777216

theorem part_nonneg {n : Int} (h : 0 ≤ n) (i : Nat) : 0 ≤ part n i := Int.ediv_nonneg (by omega) (Int.le_of_lt (p256_pos i))
theorem part_zero (n : Int) : part n 0 = n * 16777216 := by simp [part]
theorem part_succ (n : Int) (i : Nat) : part n (i + 1) = part n i / 256 := by
  unfold part
  rw [Int.pow_succ, Int.ediv_ediv_of_nonneg (Int.le_of_lt (p256_pos i))]
theorem part_anti0 {n : Int} (h : 0 ≤ n) (i : Nat) : ∀ k, part n (i + k) ≤ part n i
  | 0 => Int.le_refl _
  | k + 1 => by
    have ih := part_anti0 h i k
    have h0 := part_nonneg h (i + k)
    have e : part n (i + (k + 1)) = part n (i + k) / 256 := part_succ n (i + k)
    omega
theorem part_anti {n : Int} (h : 0 ≤ n) {i j : Nat} (hij : i ≤ j) : part n j ≤ part n i := by
  obtain ⟨k, rfl⟩ := Nat.exists_eq_add_of_le hij
  exact part_anti0 h i k
theorem part_mono {n m : Int} (h : n ≤ m) (i : Nat) : part n i ≤ part m i := Int.ediv_le_ediv (p256_pos i) (by omega)
theorem part_33 {n : Int} (h : n ≤ 115792089237316195423570985008687907853269984665640564039457584007913129639936) : part n 33 < 8388608 := by
  have e : (256 : Int) ^ 33 = 29642774844752946028434172162224104410437116074403984394101141506025761187823616 := by decide
  unfold part
  rw [e]
  omega
/-- the numbers that have a form -/
abbrev Ok (n : Int) : Prop := 0 ≤ n ∧ n ≤ 115792089237316195423570985008687907853269984665640564039457584007913129639936
theorem pw_of {n : Int} {q : Nat} (hq : q < 34) (lt : part n q < 8388608) (ge : ∀ i, i < q → 8388608 ≤ part n i) : pw n = q := by
  have : (List.range 34).find? (fun q => decide (part n q < 8388608)) = some q := by
    rw [List.find?_range_eq_some]
    refine ⟨by simpa using lt, by simpa using hq, fun j hj => ?_⟩
    have := ge j hj
    simp
    omega
  rw [pw, this]
  rfl
theorem pw_spec {n : Int} (h : Ok n) : pw n < 34 ∧ part n (pw n) < 8388608 ∧ ∀ i, i < pw n → 8388608 ≤ part n i := by
  cases hf : (List.range 34).find? (fun q => decide (part n q < 8388608)) with
  | none =>
    have := List.find?_eq_none.mp hf 33 (by simp)
    have := part_33 h.2
    simp_all
  | some q =>
    have e : pw n = q := by rw [pw, hf]; rfl
    rw [List.find?_range_eq_some] at hf
    obtain ⟨h1, h2, h3⟩ := hf
    rw [e]
    refine ⟨by simpa using h2, by simpa using h1, fun i hi => ?_⟩
    have := h3 i hi
    simp at this
    omega
theorem pw_le {n : Int} (h : Ok n) {j : Nat} (hj : part n j < 8388608) : pw n ≤ j := by
  have := (pw_spec h).2.2 j
  omega
theorem fl_nonneg {n : Int} (h : 0 ≤ n) : 0 ≤ fl n := Int.ediv_nonneg (Int.mul_nonneg (part_nonneg h _) (Int.le_of_lt (p256_pos _))) (by decide)
theorem cut_le (n : Int) (i : Nat) : part n i * 256 ^ i ≤ n * 16777216 := Int.ediv_mul_le _ (Int.ne_of_gt (p256_pos i))
theorem fl_le (n : Int) : fl n ≤ n := by
  have := cut_le n (pw n)
  unfold fl
  omega
theorem fl_exact {n P : Int} {j : Nat} (h : Ok n) (hN : n * 16777216 = P * 256 ^ j) (hP : P < 8388608) : fl n = n := by
  have hj : part n j = P := by unfold part; rw [hN]; exact Int.mul_ediv_cancel _ (Int.ne_of_gt (p256_pos j))
  have hle := pw_le h (j := j) (by omega)
  obtain ⟨k, e⟩ := Nat.exists_eq_add_of_le hle
  have hd : part n (pw n) * 256 ^ pw n = n * 16777216 := by
    unfold part
    refine Int.ediv_mul_cancel ⟨P * 256 ^ k, ?_⟩
    rw [hN, e, Int.pow_add, Int.mul_comm (256 ^ pw n) (P * 256 ^ k), Int.mul_assoc, Int.mul_comm (256 ^ k)]
  unfold fl
  rw [hd]
  omega
theorem fl_small {n : Int} (h : Ok n) (hp : pw n ≤ 3) : fl n = n := by
  have hd : part n (pw n) * 256 ^ pw n = n * 16777216 := by
    unfold part
    refine Int.ediv_mul_cancel ?_
    have : pw n = 0 ∨ pw n = 1 ∨ pw n = 2 ∨ pw n = 3 := by omega
    rcases this with e | e | e | e <;> rw [e]
    · exact ⟨n * 16777216, by omega⟩
    · exact ⟨n * 65536, by omega⟩
    · exact ⟨n * 256, by omega⟩
    · exact ⟨n, by omega⟩
  unfold fl
  rw [hd]
  omega
theorem fl_mono {n m : Int} (h0 : 0 ≤ n) (hm : Ok m) (h : n ≤ m) : fl n ≤ fl m := by
  have hn : Ok n := ⟨h0, by have := hm.2; omega⟩
  have sn := pw_spec hn
  have sm := pw_spec hm
  have hle : pw n ≤ pw m := pw_le hn (Int.lt_of_le_of_lt (part_mono h _) sm.2.1)
  unfold fl
  refine Int.ediv_le_ediv (by decide) ?_
  rcases Nat.lt_or_ge (pw n) (pw m) with hlt | hge
  · obtain ⟨k, e⟩ := Nat.exists_eq_add_of_le (Nat.le_sub_one_of_lt hlt)
    have em : pw m = pw m - 1 + 1 := by omega
    have h1 : 8388608 ≤ part m (pw m - 1) := sm.2.2 _ (by omega)
    have h2 : part m (pw m) = part m (pw m - 1) / 256 := by rw [em]; exact part_succ m _
    have h3 : 32768 ≤ part m (pw m) := by omega
    have hk : (256 : Int) ^ pw m = 256 ^ k * 256 ^ pw n * 256 := by
      rw [em, e, Int.pow_succ, Int.pow_add, Int.mul_comm (256 ^ pw n)]
    have hk1 : (1 : Int) ≤ 256 ^ k := p256_pos k
    have hq := p256_pos (pw n)
    have h4 : part n (pw n) * 256 ^ pw n ≤ 8388608 * 256 ^ pw n := Int.mul_le_mul_of_nonneg_right (by omega) (Int.le_of_lt hq)
    have h5 : (256 : Int) ^ pw n ≤ 256 ^ k * 256 ^ pw n := by
      have := Int.mul_le_mul_of_nonneg_right hk1 (Int.le_of_lt hq)
      omega
    have h6 : 32768 * (256 : Int) ^ pw m ≤ part m (pw m) * 256 ^ pw m := Int.mul_le_mul_of_nonneg_right h3 (Int.le_of_lt (p256_pos _))
    rw [hk] at h6 ⊢
    omega
  · have e : pw n = pw m := Nat.le_antisymm hle hge
    rw [e]
    exact Int.mul_le_mul_of_nonneg_right (part_mono h _) (Int.le_of_lt (p256_pos _))
/-- what the parts of a number's form tell -/
theorem worth_form {n : Int} (h : Ok n) : worth (pw n) (part n (pw n) / 65536) (part n (pw n) / 256 % 256) (part n (pw n) % 256) = fl n := by
  have s := pw_spec h
  have h0 := part_nonneg h.1 (pw n)
  have e : part n (pw n) / 65536 % 128 * 65536 + part n (pw n) / 256 % 256 * 256 + part n (pw n) % 256 = part n (pw n) := by omega
  unfold worth fl
  rw [e]
  generalize part n (pw n) = P
  generalize pw n = p
  split
  · have : p = 0 ∨ p = 1 ∨ p = 2 := by omega
    rcases this with rfl | rfl | rfl
    · show P / 16777216 = P * 1 / 16777216; omega
    · show P / 65536 = P * 256 / 16777216; omega
    · show P / 256 = P * 65536 / 16777216; omega
  · obtain ⟨k, rfl⟩ : ∃ k, p = k + 3 := ⟨p - 3, by omega⟩
    have e1 : (((k + 3 : Nat) : Int) - 3).toNat = k := by omega
    have e2 : (256 : Int) ^ (k + 3) = 256 ^ k * 16777216 := by rw [Int.pow_add]; rfl
    rw [e1, e2, ← Int.mul_assoc]
    omega
theorem fl_worth {p x y z : Int} (hp : 0 ≤ p) (hx : 0 ≤ x) (hy : 0 ≤ y ∧ y < 256) (hz : 0 ≤ z ∧ z < 256) (h : Ok (worth p x y z)) : fl (worth p x y z) = worth p x y z := by
  by_cases c : p < 3
  · refine fl_exact (P := worth p x y z) (j := 3) h rfl ?_
    unfold worth
    rw [if_pos c]
    refine Int.lt_of_le_of_lt (Int.ediv_le_self _ (by omega)) (by omega)
  · refine fl_exact (P := x % 128 * 65536 + y * 256 + z) (j := p.toNat) h ?_ (by omega)
    unfold worth
    rw [if_neg c]
    obtain ⟨k, e⟩ : ∃ k, p.toNat = k + 3 := ⟨p.toNat - 3, by omega⟩
    have e1 : (p - 3).toNat = k := by omega
    have e2 : (256 : Int) ^ (k + 3) = 256 ^ k * 16777216 := by rw [Int.pow_add]; rfl
    rw [e, e1, e2, Int.mul_assoc]
/-- the next form's number lies above -/
theorem next_above {t : Int} (h : 0 ≤ t) (h1 : t < 115792089237316195423570985008687907853269984665640564039457584007913129639936) (h4 : 4 ≤ pw t) :
    Ok (fl t + 256 ^ (pw t - 3)) ∧ t < fl (fl t + 256 ^ (pw t - 3)) := by
  have ok : Ok t := ⟨h, by omega⟩
  have s := pw_spec ok
  obtain ⟨k, e⟩ : ∃ k, pw t = k + 3 := ⟨pw t - 3, by omega⟩
  have ek : pw t - 3 = k := by omega
  have e2 : (256 : Int) ^ (k + 3) = 256 ^ k * 16777216 := by rw [Int.pow_add]; rfl
  have hk := p256_pos k
  have hP : part t (pw t) = t / 256 ^ k := by
    unfold part
    rw [e, e2]
    exact Int.mul_ediv_mul_of_pos_left _ _ (by decide)
  have hfl : fl t = t / 256 ^ k * 256 ^ k := by
    unfold fl
    rw [hP, e, e2, ← Int.mul_assoc]
    omega
  have hsum : fl t + 256 ^ (pw t - 3) = (t / 256 ^ k + 1) * 256 ^ k := by
    rw [hfl, ek, Int.add_mul, Int.one_mul]
  rw [hsum]
  have hq0 : 0 ≤ t / 256 ^ k := Int.ediv_nonneg h (Int.le_of_lt hk)
  have hlt : t / 256 ^ k < 8388608 := by rw [← hP]; exact s.2.1
  have habove : t < (t / 256 ^ k + 1) * 256 ^ k := Int.lt_ediv_add_one_mul_self t hk
  have hok : Ok ((t / 256 ^ k + 1) * 256 ^ k) := by
    refine ⟨Int.le_trans h (Int.le_of_lt habove), ?_⟩
    have hk32 : k + (32 - k) = 32 := by omega
    have e32 : (115792089237316195423570985008687907853269984665640564039457584007913129639936 : Int) = 256 ^ (32 - k) * 256 ^ k := by
      rw [Int.mul_comm, ← Int.pow_add, hk32]; decide
    rw [e32] at h1 ⊢
    refine Int.mul_le_mul_of_nonneg_right ?_ (Int.le_of_lt hk)
    have := Int.ediv_lt_of_lt_mul hk h1
    omega
  refine ⟨hok, ?_⟩
  have hex : fl ((t / 256 ^ k + 1) * 256 ^ k) = (t / 256 ^ k + 1) * 256 ^ k := by
    by_cases c : t / 256 ^ k + 1 < 8388608
    · refine fl_exact (P := t / 256 ^ k + 1) (j := k + 3) hok ?_ c
      rw [e2, Int.mul_assoc]
    · refine fl_exact (P := 32768) (j := k + 4) hok ?_ (by decide)
      have e1 : t / 256 ^ k + 1 = 8388608 := by omega
      have e3 : (256 : Int) ^ (k + 4) = 256 ^ k * 4294967296 := by rw [Int.pow_add]; rfl
      rw [e1, e3]
      omega
  rw [hex]
  exact habove
/-- the law's own reckoning of a part -/
theorem part_lt {n q : Int} (h0 : 0 ≤ q) (h : q < 3) : n * 256 ^ (3 - q).toNat = part n q.toNat := by
  have : q = 0 ∨ q = 1 ∨ q = 2 := by omega
  unfold part
  rcases this with rfl | rfl | rfl
  · show n * 16777216 = n * 16777216 / 1; omega
  · show n * 65536 = n * 16777216 / 256; omega
  · show n * 256 = n * 16777216 / 65536; omega
theorem part_ge {n q : Int} (h : 3 ≤ q) : n / 256 ^ (q - 3).toNat = part n q.toNat := by
  obtain ⟨k, e⟩ : ∃ k, q.toNat = k + 3 := ⟨q.toNat - 3, by omega⟩
  have e1 : (q - 3).toNat = k := by omega
  have e2 : (256 : Int) ^ (k + 3) = 256 ^ k * 16777216 := by rw [Int.pow_add]; rfl
  unfold part
  rw [e, e1, e2]
  exact (Int.mul_ediv_mul_of_pos_left _ _ (by decide)).symm
theorem form_of {n : Int} {q : Nat} (hq : q < 34) (lt : part n q < 8388608) (ge : ∀ i, i < q → 8388608 ≤ part n i) : form n = [(q : Int), part n q / 65536, part n q / 256 % 256, part n q % 256] := by
  rw [form, pw_of hq lt ge]
/-- the project's own reckoning: by the number's octets -/
theorem bits_e {n : Int} (h0 : 0 ≤ n) (h1 : n < 115792089237316195423570985008687907853269984665640564039457584007913129639936) {e : Nat} (he : (((Builtin.Int.intBits n : Nat) : Int) + 7) / 8 = (e : Int)) :
    e ≤ 32 ∧ part n e < 16777216 ∧ ∀ i, i < e → 8388608 ≤ part n i := by
  have hL : Builtin.Int.intBits n ≤ 256 := intBits_le_iff.mpr (by
    have : (2 : Nat) ^ 256 = 115792089237316195423570985008687907853269984665640564039457584007913129639936 := by decide
    omega)
  have h256 (k : Nat) : ((256 : Int) ^ k) = ((2 ^ (8 * k) : Nat) : Int) := by rw [← pow256_2, Int.natCast_pow]; rfl
  have hup : n < 256 ^ e := by
    have := intBits_le_iff.mp (show Builtin.Int.intBits n ≤ 8 * e by omega)
    rw [h256]
    omega
  refine ⟨by omega, ?_, fun i hi => ?_⟩
  · unfold part
    refine Int.ediv_lt_of_lt_mul (p256_pos e) ?_
    have := p256_pos e
    omega
  · have hlo : 256 ^ (e - 1) ≤ n := by
      have hn : ¬ Builtin.Int.intBits n ≤ 8 * (e - 1) := by omega
      rw [intBits_le_iff] at hn
      rw [h256]
      omega
    have h2 : 16777216 ≤ part n (e - 1) := by
      unfold part
      refine Int.le_ediv_of_mul_le (p256_pos _) ?_
      omega
    have := part_anti h0 (i := i) (j := e - 1) (by omega)
    omega
theorem form_bits0 {n : Int} (h0 : 0 ≤ n) (h1 : n < 115792089237316195423570985008687907853269984665640564039457584007913129639936) {e : Nat} (he : (((Builtin.Int.intBits n : Nat) : Int) + 7) / 8 = (e : Int)) (hs : part n e / 8388608 % 2 * 8388608 = 0) :
    form n = [(e : Int), part n e / 65536, part n e / 256 % 256, part n e % 256] := by
  have b := bits_e h0 h1 he
  have := part_nonneg h0 e
  exact form_of (by omega) (by omega) b.2.2
theorem form_bits1 {n : Int} (h0 : 0 ≤ n) (h1 : n < 115792089237316195423570985008687907853269984665640564039457584007913129639936) {e : Nat} (he : (((Builtin.Int.intBits n : Nat) : Int) + 7) / 8 = (e : Int)) (hs : ¬ part n e / 8388608 % 2 * 8388608 = 0) :
    form n = [(e : Int) + 1, part n e / 256 / 65536, part n e / 256 / 256 % 256, part n e / 256 % 256] := by
  have b := bits_e h0 h1 he
  have := part_nonneg h0 e
  have hq := form_of (n := n) (q := e + 1) (by omega) (by rw [part_succ]; omega) (fun i hi => by
    rcases Nat.lt_or_ge i e with c | c
    · exact b.2.2 i c
    · have : i = e := by omega
      subst this; omega)
  rw [hq, part_succ]
  rfl
end Mine

set_option exponentiation.threshold 256
namespace Mine
section
variable {prog : Program} {w : World} {M : Model} {A : Around} {E : Value → Shared → Prop} {s : Shared} {a b c : Int} {t u : Tok} {Q : Value → Shared → Prop}
theorem r_lenG {bs : Array UInt8} (hl : (KBw.bInts bs).length ≤ 1000) (h : ∀ t' n, Q (.int ((KBw.bInts bs).length : Int) t') { s with toks := n }) : wpAny (model prog w) A (call (.builtin "len") [.bytes bs t]) Q E s :=
  len_bytes (by rw [KBw.ints_length] at hl; omega) (by
    have e : bs.size = (KBw.bInts bs).length := (KBw.ints_length bs).symm
    rw [e]; exact h _ _)
end
theorem sgn3 {x y z : Int} (hx : 0 ≤ x ∧ x < 256) (hy : 0 ≤ y ∧ y < 256) (hz : 0 ≤ z ∧ z < 256) : KFB.value [x, y, z] / 8388608 % 2 * 8388608 = if 128 ≤ x then 8388608 else 0 := by
  show (((0 * 256 + x) * 256 + y) * 256 + z) / 8388608 % 2 * 8388608 = _
  split <;> omega
/-- what the project's reckoning meets on its way -/
theorem bft_facts {n : Int} (h0 : 0 ≤ n) (h1 : n < 115792089237316195423570985008687907853269984665640564039457584007913129639936) :
    Builtin.Int.intBits n ≤ 256 ∧ ((((Builtin.Int.intBits n : Nat) : Int) + 7) / 8 ≤ 3 → n < 16777216) ∧
    ((((Builtin.Int.intBits n : Nat) : Int) + 7) / 8 ≤ 3 → 0 ≤ n * 256 ^ (3 - (((Builtin.Int.intBits n : Nat) : Int) + 7) / 8).toNat ∧ n * 256 ^ (3 - (((Builtin.Int.intBits n : Nat) : Int) + 7) / 8).toNat < 16777216) ∧
    (¬ (((Builtin.Int.intBits n : Nat) : Int) + 7) / 8 ≤ 3 → 0 ≤ n / 256 ^ ((((Builtin.Int.intBits n : Nat) : Int) + 7) / 8 - 3).toNat ∧ n / 256 ^ ((((Builtin.Int.intBits n : Nat) : Int) + 7) / 8 - 3).toNat < 16777216) := by
  obtain ⟨e, he⟩ : ∃ e : Nat, (((Builtin.Int.intBits n : Nat) : Int) + 7) / 8 = (e : Int) := ⟨((((Builtin.Int.intBits n : Nat) : Int) + 7) / 8).toNat, by omega⟩
  have bb := bits_e h0 h1 he
  have hp := part_nonneg h0 e
  refine ⟨by omega, fun h => ?_, fun h => ?_, fun h => ?_⟩
  · have := intBits_le_iff.mp (show Builtin.Int.intBits n ≤ 24 by omega)
    have e24 : (2 : Nat) ^ 24 = 16777216 := by decide
    omega
  · rw [he] at h ⊢
    rcases Int.lt_or_eq_of_le h with c | c
    · rw [part_lt (by omega) c, Int.toNat_natCast]; exact ⟨hp, bb.2.1⟩
    · have : e = 3 := by omega
      subst this
      have e3 : part n 3 = n := by unfold part; omega
      rw [e3] at bb
      show 0 ≤ n * 1 ∧ n * 1 < 16777216
      omega
  · rw [he] at h ⊢
    rw [part_ge (by omega), Int.toNat_natCast]; exact ⟨hp, bb.2.1⟩
theorem bft_lt {n : Int} (h : (((Builtin.Int.intBits n : Nat) : Int) + 7) / 8 ≤ 3) : n * 256 ^ (3 - (((Builtin.Int.intBits n : Nat) : Int) + 7) / 8).toNat = part n ((((Builtin.Int.intBits n : Nat) : Int) + 7) / 8).toNat := by
  obtain ⟨e, he⟩ : ∃ e : Nat, (((Builtin.Int.intBits n : Nat) : Int) + 7) / 8 = (e : Int) := ⟨((((Builtin.Int.intBits n : Nat) : Int) + 7) / 8).toNat, by omega⟩
  rw [he] at h ⊢
  rcases Int.lt_or_eq_of_le h with c | c
  · exact part_lt (by omega) c
  · have : e = 3 := by omega
    subst this
    have e3 : part n 3 = n := by unfold part; omega
    show n * 1 = part n 3
    omega
theorem bft0 {n s : Int} (h0 : 0 ≤ n) (h1 : n < 115792089237316195423570985008687907853269984665640564039457584007913129639936)
    (hs : s = part n ((((Builtin.Int.intBits n : Nat) : Int) + 7) / 8).toNat) (hb : s / 8388608 % 2 * 8388608 = 0) : [(((Builtin.Int.intBits n : Nat) : Int) + 7) / 8, s / 65536, s / 256 % 256, s % 256] = form n := by
  obtain ⟨e, he⟩ : ∃ e : Nat, (((Builtin.Int.intBits n : Nat) : Int) + 7) / 8 = (e : Int) := ⟨((((Builtin.Int.intBits n : Nat) : Int) + 7) / 8).toNat, by omega⟩
  rw [he, Int.toNat_natCast] at hs
  subst hs
  rw [form_bits0 h0 h1 he hb, he]
theorem bft1 {n s : Int} (h0 : 0 ≤ n) (h1 : n < 115792089237316195423570985008687907853269984665640564039457584007913129639936)
    (hs : s = part n ((((Builtin.Int.intBits n : Nat) : Int) + 7) / 8).toNat) (hb : ¬ s / 8388608 % 2 * 8388608 = 0) : [(((Builtin.Int.intBits n : Nat) : Int) + 7) / 8 + 1, s / 256 / 65536, s / 256 / 256 % 256, s / 256 % 256] = form n := by
  obtain ⟨e, he⟩ : ∃ e : Nat, (((Builtin.Int.intBits n : Nat) : Int) + 7) / 8 = (e : Int) := ⟨((((Builtin.Int.intBits n : Nat) : Int) + 7) / 8).toNat, by omega⟩
  rw [he, Int.toNat_natCast] at hs
  subst hs
  rw [form_bits1 h0 h1 he hb, he]
theorem bft_end {c : UInt8} {e x y z : Int} (hb : ((c.toNat : Nat) : Int) = e) : List.map (fun c : UInt8 => ((c.toNat : Nat) : Int)) [c] ++ [x, y, z] = [e, x, y, z] := by simp [hb]
theorem neg1 {x y z W : Int} (hx : 0 ≤ x ∧ x < 256) (hy : 0 ≤ y ∧ y < 256) (hz : 0 ≤ z ∧ z < 256) (h : KFB.value [x, y, z] / 8388608 % 2 * 8388608 ≠ 0) : (W != 0) = decide (128 ≤ x ∧ W ≠ 0) := by
  rw [sgn3 hx hy hz] at h
  have : 128 ≤ x := by
    by_cases c : 128 ≤ x
    · exact c
    · rw [if_neg c] at h; exact absurd rfl h
  by_cases c : W = 0 <;> simp [this, c]
theorem neg0 {x y z W : Int} (hx : 0 ≤ x ∧ x < 256) (hy : 0 ≤ y ∧ y < 256) (hz : 0 ≤ z ∧ z < 256) (h : KFB.value [x, y, z] / 8388608 % 2 * 8388608 = 0) : (KFB.value [x, y, z] / 8388608 % 2 * 8388608 != 0) = decide (128 ≤ x ∧ W ≠ 0) := by
  rw [h]
  rw [sgn3 hx hy hz] at h
  have : ¬ 128 ≤ x := by
    intro c
    rw [if_pos c] at h; cases h
  simp [this]
end Mine
open Mine
local macro_rules | `(tactic| walk_at "call builtin:len") => `(tactic| (k_here; (with_reducible show wpAny _ _ (call (Value.builtin "len") [Value.bytes _ _]) _ _ _); (first | (refine r_len4 (by assumption) ?_) | (refine r_lenG (by walk_at "m small") ?_)); intro _ _))

set_option exponentiation.threshold 256
namespace Mine
theorem s_worth (w : World) (mean : ExcName → Option Value) (mg mb : Str → Option Value) (b : Array UInt8) (tk : Tok) (p x y z : Int) (hb : KBw.bInts b = [p, x, y, z]) :
   Spec w mean mg mb 227 1 [.bytes b tk] [] (fun v => ∃ t, v = .int (worth p x y z) t) := by
  have hp := KBw.ints_in (k := p) (by rw [hb]; simp)
  have hx := KBw.ints_in (k := x) (by rw [hb]; simp)
  have hy := KBw.ints_in (k := y) (by rw [hb]; simp)
  have hz := KBw.ints_in (k := z) (by rw [hb]; simp)
  unfold Spec
  k_fill
  intro dp un gd cn cs a ccd cl outer A₀ base h₀ L m s Q E B F X T hk hd hu hret
  refine wpAny_call ?_
  k_dflt (walk_at "m enter")
  k_steps
  · walk_at "m ret"; exact ri (by rw [worth, if_pos (by assumption)])
  · walk_at "m ret"; exact ri (by rw [worth, if_neg (by assumption)])
end Mine
open Mine
local macro_rules | `(tactic| walk_at "call ref") => `(tactic| (k_here; (with_reducible show wpAny _ _ (call (Value.ref 227) [Value.bytes _ _] []) _ _ _); k_dflt (refine' Spec.use (s_worth _ _ _ _ _ _ _ _ _ _ ?hb) ?k1 ?k2 ?k3 ?k4 ?k5 ?kK ?kd ?ku ?_; (case k1 => k_asm); (case k2 => k_asm); (case k3 => k_asm); (case k4 => k_asm); (case k5 => k_asm); (case kK => first | exact rfl | assumption); (case hb => kba_ints); (case kd => ktr_room); (case ku => ktr_units)); intro v9 h9 tk9 R9 F9 N9; (obtain ⟨t9, e9⟩ := R9; subst e9); (try dsimp only); (try k_fold)))
namespace Mine
theorem s_isint (w : World) (mean : ExcName → Option Value) (mg mb : Str → Option Value) (n : Int) (tk : Tok) :
   Spec w mean mg mb 80 1 [.int n tk] [] (fun v => v = .bool true) := by
  unfold Spec
  k_fill
  intro dp un gd cn cs a ccd cl outer A₀ base h₀ L m s Q E B F X T hk hd hu hret
  refine wpAny_call ?_
  k_dflt (walk_at "m enter")
  k_steps
  walk_at "m ret"; rfl
end Mine
open Mine
local macro_rules | `(tactic| walk_at "call ref") => `(tactic| (k_here; (with_reducible show wpAny _ _ (call (Value.ref 80) [Value.int _ _] []) _ _ _); k_dflt (refine' Spec.use (s_isint _ _ _ _ _ _) ?k1 ?k2 ?k3 ?k4 ?k5 ?kK ?kd ?ku ?_; (case k1 => k_asm); (case k2 => k_asm); (case k3 => k_asm); (case k4 => k_asm); (case k5 => k_asm); (case kK => first | exact rfl | assumption);  (case kd => ktr_room); (case ku => ktr_units)); intro v9 h9 tk9 R9 F9 N9; (subst R9); (try dsimp only); (try k_fold)))
namespace Mine
theorem s_bfo4 (w : World) (mean : ExcName → Option Value) (mg mb : Str → Option Value) (b : Array UInt8) (tk : Tok) (p x y z : Int) (hb : KBw.bInts b = [p, x, y, z]) (tk2 : Tok) :
   Spec w mean mg mb 66 3 [.bytes b tk, .int 4 tk2] [] (fun v => ∃ t, v = .bytes b t) := by
  have hp := KBw.ints_in (k := p) (by rw [hb]; simp)
  have hx := KBw.ints_in (k := x) (by rw [hb]; simp)
  have hy := KBw.ints_in (k := y) (by rw [hb]; simp)
  have hz := KBw.ints_in (k := z) (by rw [hb]; simp)
  unfold Spec
  k_fill
  intro dp un gd cn cs a ccd cl outer A₀ base h₀ L m s Q E B F X T hk hd hu hret
  refine wpAny_call ?_
  k_dflt (walk_at "m enter")
  k_steps
  walk_at "m ret"; exact ⟨_, rfl⟩
end Mine
open Mine
local macro_rules | `(tactic| walk_at "call ref") => `(tactic| (k_here; (with_reducible show wpAny _ _ (call (Value.ref 66) [Value.bytes _ _, Value.int 4 _] []) _ _ _); k_dflt (refine' Spec.use (s_bfo4 _ _ _ _ _ _ _ _ _ _ ?hb _) ?k1 ?k2 ?k3 ?k4 ?k5 ?kK ?kd ?ku ?_; (case k1 => k_asm); (case k2 => k_asm); (case k3 => k_asm); (case k4 => k_asm); (case k5 => k_asm); (case kK => first | exact rfl | assumption); (case hb => kba_ints); (case kd => ktr_room); (case ku => ktr_units)); intro v9 h9 tk9 R9 F9 N9; (obtain ⟨t9, e9⟩ := R9; subst e9); (try dsimp only); (try k_fold)))
namespace Mine
theorem s_bfo (w : World) (mean : ExcName → Option Value) (mg mb : Str → Option Value) (b : Array UInt8) (tk : Tok) :
   Spec w mean mg mb 66 3 [.bytes b tk] [] (fun v => ∃ t, v = .bytes b t) := by
  unfold Spec
  k_fill
  intro dp un gd cn cs a ccd cl outer A₀ base h₀ L m s Q E B F X T hk hd hu hret
  refine wpAny_call ?_
  k_dflt (walk_at "m enter")
  k_steps
  walk_at "m ret"; exact ⟨_, rfl⟩
end Mine
open Mine
local macro_rules | `(tactic| walk_at "call ref") => `(tactic| (k_here; (with_reducible show wpAny _ _ (call (Value.ref 66) [Value.bytes _ _] []) _ _ _); k_dflt (refine' Spec.use (s_bfo _ _ _ _ _ _) ?k1 ?k2 ?k3 ?k4 ?k5 ?kK ?kd ?ku ?_; (case k1 => k_asm); (case k2 => k_asm); (case k3 => k_asm); (case k4 => k_asm); (case k5 => k_asm); (case kK => first | exact rfl | assumption);  (case kd => ktr_room); (case ku => ktr_units)); intro v9 h9 tk9 R9 F9 N9; (obtain ⟨t9, e9⟩ := R9; subst e9); (try dsimp only); (try k_fold)))
namespace Mine
theorem s_value (w : World) (mean : ExcName → Option Value) (mg mb : Str → Option Value) (b : Array UInt8) (tk : Tok) (p x y z : Int) (hb : KBw.bInts b = [p, x, y, z]) :
   Spec w mean mg mb 94 2 [.bytes b tk] [] (fun v => ∃ t, v = .int (worth p x y z) t) := by
  have hp := KBw.ints_in (k := p) (by rw [hb]; simp)
  have hx := KBw.ints_in (k := x) (by rw [hb]; simp)
  have hy := KBw.ints_in (k := y) (by rw [hb]; simp)
  have hz := KBw.ints_in (k := z) (by rw [hb]; simp)
  unfold Spec
  k_fill
  intro dp un gd cn cs a ccd cl outer A₀ base h₀ L m s Q E B F X T hk hd hu hret
  refine wpAny_call ?_
  k_dflt (walk_at "m enter")
  k_steps
  · walk_at "m ret"; exact ri (by rw [worth, if_pos (by assumption), val3 hx.1 hy hz])
  · walk_at "m ret"; exact ri (by rw [worth, if_neg (by assumption), val3 hx.1 hy hz])
end Mine
open Mine
local macro_rules | `(tactic| walk_at "call ref") => `(tactic| (k_here; (with_reducible show wpAny _ _ (call (Value.ref 94) [Value.bytes _ _] []) _ _ _); k_dflt (refine' Spec.use (s_value _ _ _ _ _ _ _ _ _ _ ?hb) ?k1 ?k2 ?k3 ?k4 ?k5 ?kK ?kd ?ku ?_; (case k1 => k_asm); (case k2 => k_asm); (case k3 => k_asm); (case k4 => k_asm); (case k5 => k_asm); (case kK => first | exact rfl | assumption); (case hb => kba_ints); (case kd => ktr_room); (case ku => ktr_units)); intro v9 h9 tk9 R9 F9 N9; (obtain ⟨t9, e9⟩ := R9; subst e9); (try dsimp only); (try k_fold)))
namespace Mine
theorem s_target (w : World) (mean : ExcName → Option Value) (mg mb : Str → Option Value) (b : Array UInt8) (tk : Tok) (p x y z : Int) (hb : KBw.bInts b = [p, x, y, z]) (hW : worth p x y z < 115792089237316195423570985008687907853269984665640564039457584007913129639936) :
   Spec w mean mg mb 101 5 [.bytes b tk] [] (fun v => ∃ b' t, v = .bytes b' t ∧ (KBw.bInts b').length = 32 ∧ KFB.value (KBw.bInts b') = worth p x y z) := by
  have hp := KBw.ints_in (k := p) (by rw [hb]; simp)
  have hx := KBw.ints_in (k := x) (by rw [hb]; simp)
  have hy := KBw.ints_in (k := y) (by rw [hb]; simp)
  have hz := KBw.ints_in (k := z) (by rw [hb]; simp)
  have hw0 : 0 ≤ worth p x y z := worth_nonneg hy.1 hz.1
  unfold Spec
  k_fill
  intro dp un gd cn cs a ccd cl outer A₀ base h₀ L m s Q E B F X T hk hd hu hret
  refine wpAny_call ?_
  k_dflt (walk_at "m enter")
  k_steps
  walk_at "m ret"; exact ⟨_, _, rfl, by assumption, by assumption⟩
end Mine
open Mine
local macro_rules | `(tactic| walk_at "call ref") => `(tactic| (k_here; (with_reducible show wpAny _ _ (call (Value.ref 101) [Value.bytes _ _] []) _ _ _); k_dflt (refine' Spec.use (s_target _ _ _ _ _ _ _ _ _ _ ?hb ?hW) ?k1 ?k2 ?k3 ?k4 ?k5 ?kK ?kd ?ku ?_; (case k1 => k_asm); (case k2 => k_asm); (case k3 => k_asm); (case k4 => k_asm); (case k5 => k_asm); (case kK => first | exact rfl | assumption); (case hb => kba_ints); (case hW => walk_at "m below"); (case kd => ktr_room); (case ku => ktr_units)); intro v9 h9 tk9 R9 F9 N9; (obtain ⟨b9, t9, e9, l9, v9⟩ := R9; subst e9); (try dsimp only); (try k_fold)))
namespace Mine
theorem s_neg (w : World) (mean : ExcName → Option Value) (mg mb : Str → Option Value) (b : Array UInt8) (tk : Tok) (p x y z : Int) (hb : KBw.bInts b = [p, x, y, z]) :
   Spec w mean mg mb 108 5 [.bytes b tk] [] (fun v => v = .bool (decide (128 ≤ x ∧ worth p x y z ≠ 0))) := by
  have hp := KBw.ints_in (k := p) (by rw [hb]; simp)
  have hx := KBw.ints_in (k := x) (by rw [hb]; simp)
  have hy := KBw.ints_in (k := y) (by rw [hb]; simp)
  have hz := KBw.ints_in (k := z) (by rw [hb]; simp)
  have hw0 : 0 ≤ worth p x y z := worth_nonneg hy.1 hz.1
  unfold Spec
  k_fill
  intro dp un gd cn cs a ccd cl outer A₀ base h₀ L m s Q E B F X T hk hd hu hret
  refine wpAny_call ?_
  k_dflt (walk_at "m enter")
  k_steps
  · walk_at "m ret"; exact rb (neg1 hx hy hz (by assumption))
  · walk_at "m ret"; exact rb (neg0 hx hy hz (by assumption))
end Mine
open Mine
local macro_rules | `(tactic| walk_at "call ref") => `(tactic| (k_here; (with_reducible show wpAny _ _ (call (Value.ref 108) [Value.bytes _ _] []) _ _ _); k_dflt (refine' Spec.use (s_neg _ _ _ _ _ _ _ _ _ _ ?hb) ?k1 ?k2 ?k3 ?k4 ?k5 ?kK ?kd ?ku ?_; (case k1 => k_asm); (case k2 => k_asm); (case k3 => k_asm); (case k4 => k_asm); (case k5 => k_asm); (case kK => first | exact rfl | assumption); (case hb => kba_ints); (case kd => ktr_room); (case ku => ktr_units)); intro v9 h9 tk9 R9 F9 N9; (subst R9); (try dsimp only); (try k_fold)))
namespace Mine
theorem s_bft (w : World) (mean : ExcName → Option Value) (mg mb : Str → Option Value) (b : Array UInt8) (tk : Tok) (n : Int) (hl : (KBw.bInts b).length ≤ 32) (hv : KFB.value (KBw.bInts b) = n) (h0 : 0 ≤ n) (h1 : n < 115792089237316195423570985008687907853269984665640564039457584007913129639936) :
   Spec w mean mg mb 115 5 [.bytes b tk] [] (fun v => ∃ b' t, v = .bytes b' t ∧ KBw.bInts b' = form n) := by
  subst hv
  have hf := bft_facts h0 h1
  obtain ⟨hf1, hf2, hf3, hf4⟩ := hf
  unfold Spec
  k_fill
  intro dp un gd cn cs a ccd cl outer A₀ base h₀ L m s Q E B F X T hk hd hu hret
  refine wpAny_call ?_
  k_dflt (walk_at "m enter")
  k_steps
  all_goals
    rename KBw.bInts (_ ++ _) = _ => hA
    rename ((UInt8.toNat _ : Nat) : Int) = _ => hB
    walk_at "m ret"
    refine ⟨_, _, rfl, (hA.trans (bft_end hB)).trans ?_⟩
  · exact bft1 h0 h1 (bft_lt (by assumption)) (by assumption)
  · exact bft0 h0 h1 (bft_lt (by assumption)) (by assumption)
  · exact bft1 h0 h1 (part_ge (by omega)) (by assumption)
  · exact bft0 h0 h1 (part_ge (by omega)) (by assumption)
end Mine
open Mine
local macro_rules | `(tactic| walk_at "call ref") => `(tactic| (k_here; (with_reducible show wpAny _ _ (call (Value.ref 115) [Value.bytes _ _] []) _ _ _); k_dflt (refine' Spec.use (s_bft _ _ _ _ _ _ _ ?hl ?hv ?h0 ?h1) ?k1 ?k2 ?k3 ?k4 ?k5 ?kK ?kd ?ku ?_; (case k1 => k_asm); (case k2 => k_asm); (case k3 => k_asm); (case k4 => k_asm); (case k5 => k_asm); (case kK => first | exact rfl | assumption); (case hl => walk_at "m small"); (case hv => walk_at "m value"); (case h0 => walk_at "m lo"); (case h1 => walk_at "m below"); (case kd => ktr_room); (case ku => ktr_units)); intro v9 h9 tk9 R9 F9 N9; (obtain ⟨b9, t9, e9, i9⟩ := R9; subst e9); (try dsimp only); (try k_fold)))
namespace Mine
end Mine

set_option exponentiation.threshold 10000
namespace Mine
section
variable {prog : Program} {w : World} {M : Model} {A : Around} {E : Value → Shared → Prop} {s : Shared} {a b c : Int} {t u : Tok} {Q : Value → Shared → Prop}
theorem lt257 {b : Int} (h : b ≤ 231584178474632390847141970017375815706539969331281128078915168015826259279872) : b < 2 ^ 300 := by
  have e : (2 : Int) ^ 300 = 2037035976334486086268445688409378161051468393665936250636140449354381299763336706183397376 := by decide +kernel
  rw [e]
  omega
theorem r_divB (h0 : 0 < b) (h1 : b ≤ 231584178474632390847141970017375815706539969331281128078915168015826259279872) (h : ∀ t', Q (.int (a / b) t') { s with toks := s.toks + 1 }) : wpAny (model prog w) A (binaryOp .FloorDiv (.int a t) (.int b u)) Q E s :=
  r_div h0 (lt257 h1) (by decide) h
theorem r_idivB (h0 : 0 < b) (h1 : b ≤ 231584178474632390847141970017375815706539969331281128078915168015826259279872) (h : ∀ t', Q (.int (a / b) t') { s with toks := s.toks + 1 }) : wpAny (model prog w) A (inplaceOp .FloorDiv (.int a t) (.int b u)) Q E s :=
  r_idiv h0 (lt257 h1) (by decide) h
theorem bits300 {a : Int} (h0 : -1 < a) (h1 : a < 2 ^ 300) : Builtin.Int.intBits a ≤ 2 ^ 20 := by
  have h : Builtin.Int.intBits a ≤ 300 := intBits_le_iff.mpr (by
    have e : ((2 : Int) ^ 300) = ((2 ^ 300 : Nat) : Int) := by rw [Int.natCast_pow]; rfl
    rw [e] at h1
    omega)
  exact Nat.le_trans h (by decide)
theorem bits256 {k : Nat} (h : k ≤ 1000) : Builtin.Int.intBits (256 ^ k) ≤ 2 ^ 20 := by
  have h2 : Builtin.Int.intBits (256 ^ k) ≤ 8001 := intBits_le_iff.mpr (by
    have := pow256_lt h
    have h0 := pow256_pos k
    have e : ((2 : Int) ^ 8001) = ((2 ^ 8001 : Nat) : Int) := by rw [Int.natCast_pow]; rfl
    rw [e] at this
    omega)
  exact Nat.le_trans h2 (by decide)
/-- a product with a power of 256 -/
theorem r_mul256 {k : Nat} (hk : k ≤ 1000) (h0 : 0 ≤ a) (h1 : a ≤ 231584178474632390847141970017375815706539969331281128078915168015826259279872) (h : ∀ t', Q (.int (a * 256 ^ k) t') { s with toks := s.toks + 1 }) : wpAny (model prog w) A (binaryOp .Mult (.int a t) (.int (256 ^ k) u)) Q E s :=
  mul_int (h _) (.of_bits (bits300 (by omega) (lt257 h1)) (bits256 hk))
theorem r_bytes4 {h₀ : Heap} {L l : Addr} {m : PySem.Str → Option Value} {news : List (Addr × Obj)} {p x y z : Int} {t1 t2 t3 t4 : Tok} {n : Nat} {Q : Value → Shared → Prop} (F : Fr h₀ L s.heap m) (N : News h₀ L s.heap news)
    (hm : (l, W.listOf #[.int p t1, .int x t2, .int y t3, .int z t4] n) ∈ news) (hh : A.handled = none) (hp : 0 ≤ p ∧ p < 256) (hx : 0 ≤ x ∧ x < 256) (hy : 0 ≤ y ∧ y < 256) (hz : 0 ≤ z ∧ z < 256)
    (h : ∀ b h' t' k, Fr h₀ L h' m → News h₀ L h' news → KBw.bInts b = [p, x, y, z] → Q (.bytes b t') { s with heap := h', toks := k }) : wpAny (model prog w) A (call (.type "bytes") [.ref l]) Q E s := by
  have hr : KBa.In [p, x, y, z] := by
    intro k hk
    simp only [List.mem_cons, List.not_mem_nil, or_false] at hk
    rcases hk with rfl | rfl | rfl | rfl <;> assumption
  exact KBa.make_K F N hh (vs := [.int p t1, .int x t2, .int y t3, .int z t4]) (News.isList N hm) (.cons _ _ (.cons _ _ (.cons _ _ (.cons _ _ .nil)))) hr (Nat.le_of_ble_eq_true rfl) fun h' t' k F' N' hi => h _ h' t' k F' N' (KBa.ints_make hi)
end
/-- the law's own number of an int -/
def lawNum (n : Int) : Int :=
  (if n / 33 / 255 % 7 = 0 then 256 ^ (n % 33).toNat - 1
    else if n / 33 / 255 % 7 = 1 then 256 ^ (n % 33).toNat / 2
    else if n / 33 / 255 % 7 = 2 then if (256 : Int) ^ (n % 33).toNat / 2 - 1 > 0 then 256 ^ (n % 33).toNat / 2 - 1 else 0
    else if n / 33 / 255 % 7 = 3 then 256 ^ (n % 33).toNat / 256
    else if n / 33 / 255 % 7 = 4 then 256 ^ (n % 33).toNat * (1 + n / 33 % 255) / 256
    else if n / 33 / 255 % 7 = 5 then 256 ^ (n % 33).toNat * 127 / 256 + n / 33
    else 256 ^ (n % 33).toNat * 128 / 256 + n / 33 % 1000) % 115792089237316195423570985008687907853269984665640564039457584007913129639936
theorem lawNum_in (n : Int) : 0 ≤ lawNum n ∧ lawNum n < 115792089237316195423570985008687907853269984665640564039457584007913129639936 := ⟨Int.emod_nonneg _ (by decide), Int.emod_lt_of_pos _ (by decide)⟩
theorem byte1 {X : Int} (h0 : 0 ≤ X) (h : X < 8388608) : 0 ≤ X / 65536 ∧ X / 65536 < 256 := by omega
theorem bytes4 {a b c d : UInt8} {p x y z : Int} (h1 : ((a.toNat : Nat) : Int) = p) (h2 : ((b.toNat : Nat) : Int) = x) (h3 : ((c.toNat : Nat) : Int) = y) (h4 : ((d.toNat : Nat) : Int) = z) : KBw.bInts #[a, b, c, d] = [p, x, y, z] := by
  subst h1; subst h2; subst h3; subst h4; rfl
end Mine
open Mine
local macro_rules | `(tactic| walk_at "m nn") => `(tactic| first | omega | with_reducible assumption | exact Int.mul_nonneg (by omega) (Int.le_of_lt (pow256_pos _)) | exact Int.ediv_nonneg (by omega) (Int.le_of_lt (pow256_pos _)))
open Mine
local macro_rules | `(tactic| walk_at "m byte") => `(tactic| first | omega | exact byte1 (by walk_at "m nn") (by with_reducible assumption))
open Mine
local macro_rules | `(tactic| walk_at "call type:bytes") => `(tactic| (k_here; (with_reducible show wpAny _ _ (call (Value.type "bytes") [Value.ref _]) _ _ _); k_dflt (refine' r_bytes4 ?kbaF ?kbaN ?kbam ?kbah ?kba1 ?kba2 ?kba3 ?kba4 ?_; (case kbaF => k_asm); (case kbaN => k_asm); (case kbam => k_mem); (case kbah => rfl); (case kba1 => walk_at "m byte"); (case kba2 => walk_at "m byte"); (case kba3 => walk_at "m byte"); (case kba4 => walk_at "m byte")); intro _ _ _ _ F' N' ib9))
open Mine
local macro_rules | `(tactic| walk_at "m ok") => `(tactic| first | with_reducible assumption | exact ⟨by walk_at "m nn", by omega⟩)
open Mine
local macro_rules | `(tactic| walk_at "m below") => `(tactic| first | with_reducible assumption | omega)
open Mine
local macro_rules | `(tactic| walk_at "m value") => `(tactic| first | with_reducible assumption | rfl)
open Mine
local macro_rules | `(tactic| walk_at "binaryOp FloorDiv int int") => `(tactic| (k_here; (first | (with_reducible refine r_div (k := 60) (by walk_at "m pos") (by walk_at "m arith") (by decide) ?_) | (with_reducible refine r_div (k := 8001) (by walk_at "m pos") (by exact pow256_lt (by omega)) (by decide) ?_) | (with_reducible refine r_divB (by omega) (by omega) ?_)); intro _))
open Mine
local macro_rules | `(tactic| walk_at "inplaceOp FloorDiv int int") => `(tactic| (k_here; (with_reducible refine r_idivB (by walk_at "m arith") (by walk_at "m arith") ?_); intro _))
open Mine
local macro_rules | `(tactic| walk_at "binaryOp Mult int int") => `(tactic| (k_here; (first | (with_reducible refine r_mulR (by walk_at "m arith") (by walk_at "m arith") ?_) | (with_reducible refine r_mulL (by walk_at "m arith") (by walk_at "m arith") ?_) | (with_reducible refine r_mul256 (by omega) (by omega) (by omega) ?_)); intro _))

set_option exponentiation.threshold 256
namespace Mine
theorem form_start {n : Int} : ∀ i : Nat, i < ([] : List Int).length → (8388608 : Int) ≤ part n i := fun i h => absurd h (Nat.not_lt_zero i)
theorem form_step {n k : Int} {pre : List Int} (he : k = 0 + (pre.length : Int)) (hi : ∀ i : Nat, i < pre.length → (8388608 : Int) ≤ part n i) (hk : 8388608 ≤ part n k.toNat) :
    ∀ i : Nat, i < (pre ++ [k]).length → (8388608 : Int) ≤ part n i := fun i h => by
  rw [List.length_append, List.length_singleton] at h
  rcases Nat.lt_or_eq_of_le (Nat.le_of_lt_succ h) with c | c
  · exact hi i c
  · have : k.toNat = i := by omega
    rw [← this]; exact hk
theorem form_step1 {n k : Int} {pre : List Int} (he : k = 0 + (pre.length : Int)) (hi : ∀ i : Nat, i < pre.length → (8388608 : Int) ≤ part n i) (h3 : k < 3) (hk : ¬ n * 256 ^ (3 - k).toNat < 8388608) :
    ∀ i : Nat, i < (pre ++ [k]).length → (8388608 : Int) ≤ part n i := form_step he hi (by rw [← part_lt (by omega) h3]; omega)
theorem form_step2 {n k : Int} {pre : List Int} (he : k = 0 + (pre.length : Int)) (hi : ∀ i : Nat, i < pre.length → (8388608 : Int) ≤ part n i) (h3 : ¬ k < 3) (hk : ¬ n / 256 ^ (k - 3).toNat < 8388608) :
    ∀ i : Nat, i < (pre ++ [k]).length → (8388608 : Int) ≤ part n i := form_step he hi (by rw [← part_ge (by omega)]; omega)
theorem form_ret1 {n k : Int} {pre : List Int} (he : k = 0 + (pre.length : Int)) (hl : pre.length < (34 - 0 : Int).toNat) (hi : ∀ i : Nat, i < pre.length → (8388608 : Int) ≤ part n i) (h3 : k < 3) (hk : n * 256 ^ (3 - k).toNat < 8388608) :
    [k, n * 256 ^ (3 - k).toNat / 65536, n * 256 ^ (3 - k).toNat / 256 % 256, n * 256 ^ (3 - k).toNat % 256] = form n := by
  obtain ⟨q, rfl⟩ : ∃ q : Nat, k = (q : Int) := ⟨k.toNat, by omega⟩
  rw [part_lt (by omega) h3, Int.toNat_natCast] at hk ⊢
  exact (form_of (by omega) hk fun i h => hi i (by omega)).symm
theorem form_ret2 {n k : Int} {pre : List Int} (he : k = 0 + (pre.length : Int)) (hl : pre.length < (34 - 0 : Int).toNat) (hi : ∀ i : Nat, i < pre.length → (8388608 : Int) ≤ part n i) (h3 : ¬ k < 3) (hk : n / 256 ^ (k - 3).toNat < 8388608) :
    [k, n / 256 ^ (k - 3).toNat / 65536, n / 256 ^ (k - 3).toNat / 256 % 256, n / 256 ^ (k - 3).toNat % 256] = form n := by
  obtain ⟨q, rfl⟩ : ∃ q : Nat, k = (q : Int) := ⟨k.toNat, by omega⟩
  rw [part_ge (by omega), Int.toNat_natCast] at hk ⊢
  exact (form_of (by omega) hk fun i h => hi i (by omega)).symm
theorem form_none {n : Int} (hn : n ≤ 115792089237316195423570985008687907853269984665640564039457584007913129639936) (hi : ∀ i : Nat, i < (rangeKs 0 (34 - 0 : Int).toNat).length → (8388608 : Int) ≤ part n i) : False := by
  have := hi 33 (by rw [rangeKs_length]; decide)
  have := part_33 hn
  omega
theorem s_retarget (w : World) (mean : ExcName → Option Value) (mg mb : Str → Option Value) (n : Int) (tk : Tok) (hn : (n + 1) % 2016 = 0) :
   Spec w mean mg mb 122 3 [.int n tk] [] (fun v => ∃ t, v = .int (n - 2015) t) := by
  unfold Spec
  k_fill
  intro dp un gd cn cs a ccd cl outer A₀ base h₀ L m s Q E B F X T hk hd hu hret
  refine wpAny_call ?_
  k_dflt (walk_at "m enter")
  k_steps
  · exact absurd hn (by assumption)
  · walk_at "m ret"; exact ri (by omega)
end Mine
open Mine
local macro_rules | `(tactic| walk_at "call ref") => `(tactic| (k_here; (with_reducible show wpAny _ _ (call (Value.ref 122) [Value.int _ _] []) _ _ _); k_dflt (refine' Spec.use (s_retarget _ _ _ _ _ _ ?hn) ?k1 ?k2 ?k3 ?k4 ?k5 ?kK ?kd ?ku ?_; (case k1 => k_asm); (case k2 => k_asm); (case k3 => k_asm); (case k4 => k_asm); (case k5 => k_asm); (case kK => first | exact rfl | assumption); (case hn => omega); (case kd => ktr_room); (case ku => ktr_units)); intro v9 h9 tk9 R9 F9 N9; (obtain ⟨t9, e9⟩ := R9; subst e9); (try dsimp only); (try k_fold)))
namespace Mine
theorem s_four (w : World) (mean : ExcName → Option Value) (mg mb : Str → Option Value) (n : Int) (tk : Tok) :
   Spec w mean mg mb 241 2 [.int n tk] [] (fun v => ∃ b' t p x y z, v = .bytes b' t ∧ KBw.bInts b' = [p, x, y, z] ∧ (0 ≤ p ∧ p < 256) ∧ (0 ≤ x ∧ x < 256) ∧ (0 ≤ y ∧ y < 256) ∧ (0 ≤ z ∧ z < 256)) := by
  unfold Spec
  k_fill
  intro dp un gd cn cs a ccd cl outer A₀ base h₀ L m s Q E B F X T hk hd hu hret
  refine wpAny_call ?_
  k_dflt (walk_at "m enter")
  k_steps
  walk_at "m ret"; exact ⟨_, _, _, _, _, _, rfl, by assumption, ⟨by omega, by omega⟩, ⟨by omega, by omega⟩, ⟨by omega, by omega⟩, ⟨by omega, by omega⟩⟩
end Mine
open Mine
local macro_rules | `(tactic| walk_at "call ref") => `(tactic| (k_here; (with_reducible show wpAny _ _ (call (Value.ref 241) [Value.int _ _] []) _ _ _); k_dflt (refine' Spec.use (s_four _ _ _ _ _ _) ?k1 ?k2 ?k3 ?k4 ?k5 ?kK ?kd ?ku ?_; (case k1 => k_asm); (case k2 => k_asm); (case k3 => k_asm); (case k4 => k_asm); (case k5 => k_asm); (case kK => first | exact rfl | assumption);  (case kd => ktr_room); (case ku => ktr_units)); intro v9 h9 tk9 R9 F9 N9; (obtain ⟨b9, t9, p9, x9, y9, z9, e9, i9, hp9, hx9, hy9, hz9⟩ := R9; subst e9; (have hw9 := worth_nonneg (p := p9) (x := x9) hy9.1 hz9.1); by_cases hW9 : worth p9 x9 y9 z9 < 115792089237316195423570985008687907853269984665640564039457584007913129639936); (try dsimp only); (try k_fold)))
namespace Mine
theorem s_bwork (w : World) (mean : ExcName → Option Value) (mg mb : Str → Option Value) (b : Array UInt8) (tk : Tok) (p x y z : Int) (hb : KBw.bInts b = [p, x, y, z]) (hW : worth p x y z < 115792089237316195423570985008687907853269984665640564039457584007913129639936) (hW0 : 0 < worth p x y z) :
   Spec w mean mg mb 151 6 [.bytes b tk] [] (fun v => ∃ t, v = .int (115792089237316195423570985008687907853269984665640564039457584007913129639936 / (worth p x y z + 1)) t) := by
  have hp := KBw.ints_in (k := p) (by rw [hb]; simp)
  have hx := KBw.ints_in (k := x) (by rw [hb]; simp)
  have hy := KBw.ints_in (k := y) (by rw [hb]; simp)
  have hz := KBw.ints_in (k := z) (by rw [hb]; simp)
  have hw0 : 0 ≤ worth p x y z := worth_nonneg hy.1 hz.1
  unfold Spec
  k_fill
  intro dp un gd cn cs a ccd cl outer A₀ base h₀ L m s Q E B F X T hk hd hu hret
  refine wpAny_call ?_
  k_dflt (walk_at "m enter")
  k_steps
  · rename KFB.value (KBw.bInts _) = worth p x y z => hv
    walk_at "m ret"; exact ri (by rw [hv])
  · exfalso; omega
end Mine
open Mine
local macro_rules | `(tactic| walk_at "call ref") => `(tactic| (k_here; (with_reducible show wpAny _ _ (call (Value.ref 151) [Value.bytes _ _] []) _ _ _); k_dflt (refine' Spec.use (s_bwork _ _ _ _ _ _ _ _ _ _ ?hb ?hW ?hW0) ?k1 ?k2 ?k3 ?k4 ?k5 ?kK ?kd ?ku ?_; (case k1 => k_asm); (case k2 => k_asm); (case k3 => k_asm); (case k4 => k_asm); (case k5 => k_asm); (case kK => first | exact rfl | assumption); (case hb => kba_ints); (case hW => walk_at "m below"); (case hW0 => walk_at "m below"); (case kd => ktr_room); (case ku => ktr_units)); intro v9 h9 tk9 R9 F9 N9; (obtain ⟨t9, e9⟩ := R9; subst e9); (try dsimp only); (try k_fold)))
namespace Mine
theorem s_number (w : World) (mean : ExcName → Option Value) (mg mb : Str → Option Value) (n : Int) (tk : Tok) :
   Spec w mean mg mb 248 2 [.int n tk] [] (fun v => ∃ t, v = .int (lawNum n) t ∧ 0 ≤ lawNum n ∧ lawNum n < 115792089237316195423570985008687907853269984665640564039457584007913129639936 ∧ pw (lawNum n) < 34) := by
  unfold Spec
  k_fill
  intro dp un gd cn cs a ccd cl outer A₀ base h₀ L m s Q E B F X T hk hd hu hret
  refine wpAny_call ?_
  k_dflt (walk_at "m enter")
  k_steps
  walk_at "m ret"
  have hl := lawNum_in n
  refine ⟨_, congrArg (Value.int · _) ?_, hl.1, hl.2, (pw_spec ⟨hl.1, by omega⟩).1⟩
  unfold lawNum
  first | rfl | (repeat' (first | rfl | exact Subsingleton.elim _ _ | congr 1))
end Mine
open Mine
local macro_rules | `(tactic| walk_at "call ref") => `(tactic| (k_here; (with_reducible show wpAny _ _ (call (Value.ref 248) [Value.int _ _] []) _ _ _); k_dflt (refine' Spec.use (s_number _ _ _ _ _ _) ?k1 ?k2 ?k3 ?k4 ?k5 ?kK ?kd ?ku ?_; (case k1 => k_asm); (case k2 => k_asm); (case k3 => k_asm); (case k4 => k_asm); (case k5 => k_asm); (case kK => first | exact rfl | assumption);  (case kd => ktr_room); (case ku => ktr_units)); intro v9 h9 tk9 R9 F9 N9; (obtain ⟨t9, e9, ln9, lm9, lp9⟩ := R9; subst e9); (try dsimp only); (try k_fold)))
namespace Mine
theorem s_form (w : World) (mean : ExcName → Option Value) (mg mb : Str → Option Value) (n : Int) (tk : Tok) (hn : Ok n) :
   Spec w mean mg mb 234 2 [.int n tk] [] (fun v => ∃ b' t, v = .bytes b' t ∧ KBw.bInts b' = form n) := by
  obtain ⟨hn0, hn1⟩ := hn
  unfold Spec
  k_fill
  intro dp un gd cn cs a ccd cl outer A₀ base h₀ L m s Q E B F X T hk hd hu hret
  refine wpAny_call ?_
  k_dflt (walk_at "m enter")
  (k_with "pyIter ref" => k_search (fun pre => ∀ i : Nat, i < pre.length → (8388608 : Int) ≤ part n i))
  (k_with "state" => (first | exact form_start | exact form_step1 (by assumption) (by assumption) (by assumption) (by assumption) | exact form_step2 (by assumption) (by assumption) (by assumption) (by assumption)))
  k_steps
  · rename KBw.bInts _ = _ => hA
    walk_at "m ret"; exact ⟨_, _, rfl, hA.trans (form_ret1 (by assumption) (by assumption) (by assumption) (by assumption) (by assumption))⟩
  · rename KBw.bInts _ = _ => hA
    walk_at "m ret"; exact ⟨_, _, rfl, hA.trans (form_ret2 (by assumption) (by assumption) (by assumption) (by assumption) (by assumption))⟩
  · exact (form_none hn1 (by assumption)).elim
  k_with_none
end Mine
open Mine
local macro_rules | `(tactic| walk_at "call ref") => `(tactic| (k_here; (with_reducible show wpAny _ _ (call (Value.ref 234) [Value.int _ _] []) _ _ _); k_dflt (refine' Spec.use (s_form _ _ _ _ _ _ ?hn) ?k1 ?k2 ?k3 ?k4 ?k5 ?kK ?kd ?ku ?_; (case k1 => k_asm); (case k2 => k_asm); (case k3 => k_asm); (case k4 => k_asm); (case k5 => k_asm); (case kK => first | exact rfl | assumption); (case hn => walk_at "m ok"); (case kd => ktr_room); (case ku => ktr_units)); intro v9 h9 tk9 R9 F9 N9; (obtain ⟨b9, t9, e9, i9⟩ := R9; subst e9); (try dsimp only); (try k_fold)))
namespace Mine
end Mine

set_option exponentiation.threshold 256
namespace Mine
def clampI (x : Int) : Int := min (max x 302400) 4838400
/-- the next target, as told: the old one times the span by two weeks, at most the limit -/
def nextN (old span lim : Int) : Int := min (old * clampI span % 115792089237316195423570985008687907853269984665640564039457584007913129639936 / 1209600) lim
def boundN (old span lim : Int) : Int := min (old * span % 115792089237316195423570985008687907853269984665640564039457584007913129639936 / 1209600) lim
theorem clamp1 (s : Int) : (if 4 * 1209600 < if 1209600 / 4 > s then 1209600 / 4 else s then 4 * 1209600 else if 1209600 / 4 > s then 1209600 / 4 else s) = clampI s := by
  unfold clampI
  omega
theorem clamp2 (s : Int) : (if 1209600 * 4 < if 1209600 / 4 > s then 1209600 / 4 else s then 1209600 * 4 else if 1209600 / 4 > s then 1209600 / 4 else s) = clampI s := by
  unfold clampI
  omega
theorem min_if (a b : Int) : (if b < a then b else a) = min a b := by omega
theorem boundN_in {old span lim : Int} (h0 : 0 ≤ lim) (h1 : lim < 115792089237316195423570985008687907853269984665640564039457584007913129639936) : 0 ≤ boundN old span lim ∧ boundN old span lim < 115792089237316195423570985008687907853269984665640564039457584007913129639936 := by
  unfold boundN
  omega
theorem nextN_in {old span lim : Int} (h0 : 0 ≤ lim) (h1 : lim < 115792089237316195423570985008687907853269984665640564039457584007913129639936) : 0 ≤ nextN old span lim ∧ nextN old span lim < 115792089237316195423570985008687907853269984665640564039457584007913129639936 := by
  unfold nextN
  omega
theorem s_lnext (w : World) (mean : ExcName → Option Value) (mg mb : Str → Option Value) (old span lim : Int) (tk t2 t3 : Tok) (hl : 0 ≤ lim) (hl1 : lim < 115792089237316195423570985008687907853269984665640564039457584007913129639936) (h0 : 0 ≤ old) (h1 : old < 115792089237316195423570985008687907853269984665640564039457584007913129639936) :
   Spec w mean mg mb 262 3 [.int old tk, .int span t2, .int lim t3] [] (fun v => ∃ b' t, v = .bytes b' t ∧ KBw.bInts b' = form (nextN old span lim)) := by
  unfold Spec
  k_fill
  intro dp un gd cn cs a ccd cl outer A₀ base h₀ L m s Q E B F X T hk hd hu hret
  refine wpAny_call ?_
  k_dflt (walk_at "m enter")
  k_steps
  rename KBw.bInts _ = _ => hA
  walk_at "m ret"; exact ⟨_, _, rfl, hA.trans (by rw [clamp1, min_if]; rfl)⟩
end Mine
open Mine
local macro_rules | `(tactic| walk_at "call ref") => `(tactic| (k_here; (with_reducible show wpAny _ _ (call (Value.ref 262) [Value.int _ _, Value.int _ _, Value.int _ _] []) _ _ _); k_dflt (refine' Spec.use (s_lnext _ _ _ _ _ _ _ _ _ _ ?h0 ?h1 ?h2 ?h3) ?k1 ?k2 ?k3 ?k4 ?k5 ?kK ?kd ?ku ?_; (case k1 => k_asm); (case k2 => k_asm); (case k3 => k_asm); (case k4 => k_asm); (case k5 => k_asm); (case kK => first | exact rfl | assumption); (case h0 => walk_at "m nn"); (case h1 => walk_at "m below"); (case h2 => walk_at "m nn"); (case h3 => walk_at "m below"); (case kd => ktr_room); (case ku => ktr_units)); intro v9 h9 tk9 R9 F9 N9; (obtain ⟨b9, t9, e9, i9⟩ := R9; subst e9); (try dsimp only); (try k_fold)))
namespace Mine
theorem s_targetF (w : World) (mean : ExcName → Option Value) (mg mb : Str → Option Value) (b : Array UInt8) (tk : Tok) (n : Int) (hb : KBw.bInts b = form n) (hn : Ok n) (hf : fl n < 115792089237316195423570985008687907853269984665640564039457584007913129639936) :
   Spec w mean mg mb 101 5 [.bytes b tk] [] (fun v => ∃ b' t, v = .bytes b' t ∧ (KBw.bInts b').length = 32 ∧ KFB.value (KBw.bInts b') = fl n) := by
  have h := s_target w mean mg mb b tk _ _ _ _ hb (by rw [worth_form hn]; exact hf)
  rw [worth_form hn] at h
  exact h
end Mine
open Mine
local macro_rules | `(tactic| walk_at "call ref") => `(tactic| (k_here; (with_reducible show wpAny _ _ (call (Value.ref 101) [Value.bytes _ _] []) _ _ _); k_dflt (refine' Spec.use (s_targetF _ _ _ _ _ _ _ ?hb ?hn ?hf) ?k1 ?k2 ?k3 ?k4 ?k5 ?kK ?kd ?ku ?_; (case k1 => k_asm); (case k2 => k_asm); (case k3 => k_asm); (case k4 => k_asm); (case k5 => k_asm); (case kK => first | exact rfl | assumption); (case hb => with_reducible assumption); (case hn => walk_at "m ok"); (case hf => walk_at "m flb"); (case kd => ktr_room); (case ku => ktr_units)); intro v9 h9 tk9 R9 F9 N9; (obtain ⟨b9, t9, e9, l9, v9⟩ := R9; subst e9); (try dsimp only); (try k_fold)))
namespace Mine
theorem s_worthF (w : World) (mean : ExcName → Option Value) (mg mb : Str → Option Value) (b : Array UInt8) (tk : Tok) (n : Int) (hb : KBw.bInts b = form n) (hn : Ok n) :
   Spec w mean mg mb 227 1 [.bytes b tk] [] (fun v => ∃ t, v = .int (fl n) t) := by
  have h := s_worth w mean mg mb b tk _ _ _ _ hb
  rw [worth_form hn] at h
  exact h
end Mine
open Mine
local macro_rules | `(tactic| walk_at "call ref") => `(tactic| (k_here; (with_reducible show wpAny _ _ (call (Value.ref 227) [Value.bytes _ _] []) _ _ _); k_dflt (refine' Spec.use (s_worthF _ _ _ _ _ _ _ ?hb ?hn) ?k1 ?k2 ?k3 ?k4 ?k5 ?kK ?kd ?ku ?_; (case k1 => k_asm); (case k2 => k_asm); (case k3 => k_asm); (case k4 => k_asm); (case k5 => k_asm); (case kK => first | exact rfl | assumption); (case hb => with_reducible assumption); (case hn => walk_at "m ok"); (case kd => ktr_room); (case ku => ktr_units)); intro v9 h9 tk9 R9 F9 N9; (obtain ⟨t9, e9⟩ := R9; subst e9); (try dsimp only); (try k_fold)))
namespace Mine
theorem s_bfo4F (w : World) (mean : ExcName → Option Value) (mg mb : Str → Option Value) (b : Array UInt8) (tk : Tok) (n : Int) (hb : KBw.bInts b = form n) (tk2 : Tok) :
   Spec w mean mg mb 66 3 [.bytes b tk, .int 4 tk2] [] (fun v => ∃ t, v = .bytes b t) := s_bfo4 w mean mg mb b tk _ _ _ _ hb tk2
end Mine
open Mine
local macro_rules | `(tactic| walk_at "call ref") => `(tactic| (k_here; (with_reducible show wpAny _ _ (call (Value.ref 66) [Value.bytes _ _, Value.int 4 _] []) _ _ _); k_dflt (refine' Spec.use (s_bfo4F _ _ _ _ _ _ _ ?hb _) ?k1 ?k2 ?k3 ?k4 ?k5 ?kK ?kd ?ku ?_; (case k1 => k_asm); (case k2 => k_asm); (case k3 => k_asm); (case k4 => k_asm); (case k5 => k_asm); (case kK => first | exact rfl | assumption); (case hb => with_reducible assumption); (case kd => ktr_room); (case ku => ktr_units)); intro v9 h9 tk9 R9 F9 N9; (obtain ⟨t9, e9⟩ := R9; subst e9); (try dsimp only); (try k_fold)))
namespace Mine
theorem s_negF (w : World) (mean : ExcName → Option Value) (mg mb : Str → Option Value) (b : Array UInt8) (tk : Tok) (n : Int) (hb : KBw.bInts b = form n) (hn : Ok n) :
   Spec w mean mg mb 108 5 [.bytes b tk] [] (fun v => v = .bool false) := by
  have h := s_neg w mean mg mb b tk _ _ _ _ hb
  have hp := (pw_spec hn).2.1
  have h0 := part_nonneg hn.1 (pw n)
  have e : decide (128 ≤ part n (pw n) / 65536 ∧ worth (pw n) (part n (pw n) / 65536) (part n (pw n) / 256 % 256) (part n (pw n) % 256) ≠ 0) = false := decide_eq_false (fun c => by have := c.1; omega)
  rw [e] at h
  exact h
end Mine
open Mine
local macro_rules | `(tactic| walk_at "call ref") => `(tactic| (k_here; (with_reducible show wpAny _ _ (call (Value.ref 108) [Value.bytes _ _] []) _ _ _); k_dflt (refine' Spec.use (s_negF _ _ _ _ _ _ _ ?hb ?hn) ?k1 ?k2 ?k3 ?k4 ?k5 ?kK ?kd ?ku ?_; (case k1 => k_asm); (case k2 => k_asm); (case k3 => k_asm); (case k4 => k_asm); (case k5 => k_asm); (case kK => first | exact rfl | assumption); (case hb => with_reducible assumption); (case hn => walk_at "m ok"); (case kd => ktr_room); (case ku => ktr_units)); intro v9 h9 tk9 R9 F9 N9; (subst R9); (try dsimp only); (try k_fold)))
namespace Mine
theorem s_bworkF (w : World) (mean : ExcName → Option Value) (mg mb : Str → Option Value) (b : Array UInt8) (tk : Tok) (n : Int) (hb : KBw.bInts b = form n) (hn : Ok n) (hf : fl n < 115792089237316195423570985008687907853269984665640564039457584007913129639936) (hf0 : 0 < fl n) :
   Spec w mean mg mb 151 6 [.bytes b tk] [] (fun v => ∃ t, v = .int (115792089237316195423570985008687907853269984665640564039457584007913129639936 / (fl n + 1)) t) := by
  have h := s_bwork w mean mg mb b tk _ _ _ _ hb (by rw [worth_form hn]; exact hf) (by rw [worth_form hn]; exact hf0)
  rw [worth_form hn] at h
  exact h
end Mine
open Mine
local macro_rules | `(tactic| walk_at "call ref") => `(tactic| (k_here; (with_reducible show wpAny _ _ (call (Value.ref 151) [Value.bytes _ _] []) _ _ _); k_dflt (refine' Spec.use (s_bworkF _ _ _ _ _ _ _ ?hb ?hn ?hf ?hf0) ?k1 ?k2 ?k3 ?k4 ?k5 ?kK ?kd ?ku ?_; (case k1 => k_asm); (case k2 => k_asm); (case k3 => k_asm); (case k4 => k_asm); (case k5 => k_asm); (case kK => first | exact rfl | assumption); (case hb => with_reducible assumption); (case hn => walk_at "m ok"); (case hf => walk_at "m flb"); (case hf0 => walk_at "m below"); (case kd => ktr_room); (case ku => ktr_units)); intro v9 h9 tk9 R9 F9 N9; (obtain ⟨t9, e9⟩ := R9; subst e9); (try dsimp only); (try k_fold)))
namespace Mine
theorem fl_bound {n : Int} (h : n < 115792089237316195423570985008687907853269984665640564039457584007913129639936) : fl n < 115792089237316195423570985008687907853269984665640564039457584007913129639936 := Int.lt_of_le_of_lt (fl_le n) h
end Mine
open Mine
local macro_rules | `(tactic| walk_at "m flb") => `(tactic| first | with_reducible assumption | omega | exact fl_bound (by first | with_reducible assumption | omega))
namespace Mine
theorem s_bound (w : World) (mean : ExcName → Option Value) (mg mb : Str → Option Value) (old span lim : Int) (tk t2 t3 t4 : Tok) (hs0 : 0 ≤ span) (hs : span < 10000000) (hl : 0 ≤ lim) (hl1 : lim < 115792089237316195423570985008687907853269984665640564039457584007913129639936) :
   Spec w mean mg mb 137 6 [.int old tk, .int span t2, .int 1209600 t3, .int lim t4] [] (fun v => ∃ t, v = .int (fl (boundN old span lim)) t) := by
  unfold Spec
  k_fill
  intro dp un gd cn cs a ccd cl outer A₀ base h₀ L m s Q E B F X T hk hd hu hret
  refine wpAny_call ?_
  k_dflt (walk_at "m enter")
  k_steps
  rename KFB.value _ = fl _ => hA
  walk_at "m ret"; exact ri (by rw [hA, min_if]; rfl)
end Mine
open Mine
local macro_rules | `(tactic| walk_at "call ref") => `(tactic| (k_here; (with_reducible show wpAny _ _ (call (Value.ref 137) [Value.int _ _, Value.int _ _, Value.int 1209600 _, Value.int _ _] []) _ _ _); k_dflt (refine' Spec.use (s_bound _ _ _ _ _ _ _ _ _ _ _ ?h0 ?h1 ?h2 ?h3) ?k1 ?k2 ?k3 ?k4 ?k5 ?kK ?kd ?ku ?_; (case k1 => k_asm); (case k2 => k_asm); (case k3 => k_asm); (case k4 => k_asm); (case k5 => k_asm); (case kK => first | exact rfl | assumption); (case h0 => walk_at "m nn"); (case h1 => walk_at "m below"); (case h2 => walk_at "m nn"); (case h3 => walk_at "m below"); (case kd => ktr_room); (case ku => ktr_units)); intro v9 h9 tk9 R9 F9 N9; (obtain ⟨t9, e9⟩ := R9; subst e9); (try dsimp only); (try k_fold)))
namespace Mine
theorem s_next (w : World) (mean : ExcName → Option Value) (mg mb : Str → Option Value) (b : Array UInt8) (tk : Tok) (p x y z : Int) (hb : KBw.bInts b = [p, x, y, z]) (c : Array UInt8) (tc : Tok) (p' x' y' z' : Int) (hc : KBw.bInts c = [p', x', y', z']) (f l : Int) (tf tl : Tok) (hW : worth p x y z < 115792089237316195423570985008687907853269984665640564039457584007913129639936) (hW' : worth p' x' y' z' < 115792089237316195423570985008687907853269984665640564039457584007913129639936) :
   Spec w mean mg mb 130 7 [.bytes b tk, .int f tf, .int l tl] [(PySem.Str.ofString "pow_limit_bits", .bytes c tc)] (fun v => ∃ b' t, v = .bytes b' t ∧ KBw.bInts b' = form (nextN (worth p x y z) (l - f) (worth p' x' y' z'))) := by
  have hp := KBw.ints_in (k := p) (by rw [hb]; simp)
  have hx := KBw.ints_in (k := x) (by rw [hb]; simp)
  have hy := KBw.ints_in (k := y) (by rw [hb]; simp)
  have hz := KBw.ints_in (k := z) (by rw [hb]; simp)
  have hw0 : 0 ≤ worth p x y z := worth_nonneg hy.1 hz.1
  have hy' := KBw.ints_in (k := y') (by rw [hc]; simp)
  have hz' := KBw.ints_in (k := z') (by rw [hc]; simp)
  have hw0' : 0 ≤ worth p' x' y' z' := worth_nonneg hy'.1 hz'.1
  unfold Spec
  k_fill
  intro dp un gd cn cs a ccd cl outer A₀ base h₀ L m s Q E B F X T hk hd hu hret
  refine wpAny_call ?_
  k_dflt (walk_at "m enter")
  k_steps
  rename KBw.bInts _ = form _ => hA
  rename KFB.value _ = worth p x y z => hB
  rename KFB.value _ = worth p' x' y' z' => hC
  walk_at "m ret"; exact ⟨_, _, rfl, hA.trans (by rw [hB, hC, clamp2, min_if]; rfl)⟩
end Mine

set_option exponentiation.threshold 256
namespace Mine
section
variable {prog : Program} {w : World} {A : Around} {s : Shared} {K : Frag} {L : Addr} {h₀ : Heap} {m mg mb : Str → Option Value} {p : Program} {loose : List Str}
/-- a call of a def of the text at any place: nothing of the stack is known -/
theorem code_plain {R : Result → Shared → Prop} {name qual : Str} {params : Arguments} {body : List Stmt} {scope : Scope} {dV kV doc pm cdv ct oc : Value} {an od : Option Addr} {osl : Array (Option Value)} {f : Addr} {args : Args} {binds : List (Str × Value)}
    (F : Fr h₀ L s.heap m) (X₀ : K.In h₀) (T : TopRead p loose mg mb h₀)
    (ho : K.lookup f = some ⟨oc, od, .func (fnOf name qual params body scope dV kV doc pm an cdv ct), osl⟩) (hcd : codeIn K cdv qual = true) (hroom : A.depth < recursionLimit)
    (hbind : BindsTo s (fnOf name qual params body scope dV kV doc pm an cdv ct) args binds) (hloc : ∀ y ∈ binds, scope.names.lookup y.1 = some .local)
    (h : ∀ g L' h₁, s.heap.StaysIn g → Fr h₀ L g m → Fr g L' h₁ (fun y => binds.reverse.lookup y) → News g L' h₁ [] → K.In g → TopRead p loose mg mb g →
      wpAny (model prog w) (A.deeper (envOf qual scope L' f cdv)) (execs body (envOf qual scope L' f cdv))
        (fun fl s' => LeaveK h₀ L m g R (match fl with | .ret v => v | _ => .none) s')
        (fun _ _ => False)
        { s with heap := h₁, toks := s.toks + binds.length })
    (hco : scope.isCoroutine = false) (hgen : scope.isGenerator = false) (hk : scope.kind = .function)
    (hcell : ∀ x ∈ scope.names, x.2 ≠ .cell) : codeAny (model prog w) A (.call (.ref f) args) R s := by
  refine codeAny_call_def (fd := fnX name qual params body scope [] dV kV doc pm an cdv ct) (body := body) (binds := binds) hroom ((X₀.keeps F.keep) _ _ ho) rfl (T.nolimit.keeps F.keep) (codeRec_of (X₀.keeps F.keep) hcd) rfl hbind hcell hloc (fun h₁ hns₁ hk₁ => ?_) hco hgen hk
  refine wpAny_mono (h s.heap s.heap.objs.size h₁ (fun _ _ e => e) F ⟨hns₁, hk₁, Nat.le_refl _⟩ News.nil (X₀.keeps F.keep) (T.keeps F.keep)) (fun fl s' hl => ?_) fun _ _ e => e.elim
  obtain ⟨L', m', news', F', N', k⟩ := hl
  exact k (F.after F'.keep) fun p hp => ⟨(N' p hp).1, fun e => (by have := (N' p hp).2.2; obtain ⟨o, _, _, hL, _⟩ := F.ns; rw [e, hL] at this; cases this), by
    cases q : h₀.get? p.1 with
    | none => rfl
    | some o => have := (N' p hp).2.2; rw [F.keep _ _ q] at this; cases this⟩
theorem retG {h' g : Heap} {L' : Addr} {m' : Str → Option Value} {Q : Value → Shared → Prop} {R : Value → Prop} {v : Value} {tk' : Nat}
    (hret : ∀ v h' tk', R v → Fr h₀ L h' m → s.heap.StaysIn h' → Q v { s with heap := h', toks := tk' }) (hv : R v) (F : Fr h₀ L h' m) (st : s.heap.StaysIn g) (F' : Fr g L' h' m') : Q v { s with heap := h', toks := tk' } :=
  hret _ _ _ hv F fun b o e => F'.keep b o (st b o e)
end
/-- a contract at any place of the stack (a generator's element) -/
def SpecG (w : World) (mg mb : Str → Option Value) (f : Addr) (need : Nat) (vs : List Value) (R : Value → Prop) : Prop :=
  ∀ (dp un : Nat) (fr : Option (List Env)) (gd : Option (List Code)) (h₀ : Heap) (L : Addr) (m : Str → Option Value) (s : Shared) (Q E : Value → Shared → Prop),
    Fr h₀ L s.heap m → (Mine.hd.heap_39 w.params).In h₀ → TopRead Mine.hd.view_39 LO mg mb h₀ → dp + need < recursionLimit → un + 8 * need < cLine →
    (∀ v h' tk', R v → Fr h₀ L h' m → s.heap.StaysIn h' → Q v { s with heap := h', toks := tk' }) →
    wpAny (model Challenge.rw_ez0015_01.row.prog w) { handled := none, depth := dp, frames := fr, guards := gd, units := un } (call (.ref f) vs) Q E s
theorem SpecG.use {w : World} {mg mb : Str → Option Value} {f : Addr} {need : Nat} {vs : List Value} {R : Value → Prop} {A : Around} {h₀ : Heap} {L : Addr} {m : Str → Option Value} {news : List (Addr × Obj)} {s : Shared} {Q E : Value → Shared → Prop} (C : SpecG w mg mb f need vs R)
    (F : Fr h₀ L s.heap m) (X : (Mine.hd.heap_39 w.params).In h₀) (N : News h₀ L s.heap news) (T : TopRead Mine.hd.view_39 LO mg mb h₀) (hh : A.handled = none) (hd : A.depth + need < recursionLimit) (hu : A.units + 8 * need < cLine)
    (ret : ∀ v h' tk', R v → Fr h₀ L h' m → News h₀ L h' news → Q v { s with heap := h', toks := tk' }) :
    wpAny (model Challenge.rw_ez0015_01.row.prog w) A (call (.ref f) vs) Q E s := by
  obtain ⟨hd', dp, fr, gd, un⟩ := A
  obtain rfl : hd' = none := hh
  exact C _ _ _ _ _ _ _ _ _ _ F X T hd hu fun v h' tk' r F' st => ret v h' tk' r F' (news_stays N st)
end Mine
open Mine
local macro_rules | `(tactic| walk_at "m enterG") => `(tactic| (refine' code_plain ?k2 ?k3 ?k5 ?k6 ?k7 ?k8 ?k9 ?kB ?_ ?c2 ?c3 ?c4 ?c5; (case k2 => k_asm); (case k3 => k_asm); (case k5 => k_asm); (case k6 => k_is); (case k7 => k_is); (case k8 => ktr_room); (case k9 => first | exact BindsTo.of_eq rfl | exact binds_K (by k_in) rfl (by k_is) rfl rfl rfl | fail "m enterG: arguments"); (case c5 => decide); (case kB => exact locs rfl); (case c2 => exact rfl); (case c3 => exact rfl); (case c4 => exact rfl); k_whole; intro g' L' h' st' FG' F' N' X' T'; (try dsimp only); (try k_fold)))
open Mine
local macro_rules | `(tactic| walk_at "m retG") => `(tactic| (rename (∀ (_ : Value) (_ : Heap) (_ : Nat), _) => hret; (refine retG hret ?mR (by k_asm) (by with_reducible assumption) (by with_reducible assumption))))
namespace Mine
theorem g_isint (w : World) (mg mb : Str → Option Value) (n : Int) (tk : Tok) :
   SpecG w mg mb 80 1 [.int n tk] (fun v => v = .bool true) := by
  unfold SpecG
  k_fill
  intro dp un fr gd h₀ L m s Q E F X T hd hu hret
  refine wpAny_call ?_
  k_dflt (walk_at "m enterG")
  k_steps
  walk_at "m retG"; rfl
end Mine
open Mine
local macro_rules | `(tactic| walk_at "call ref") => `(tactic| (k_here; (with_reducible show wpAny _ _ (call (Value.ref 80) [Value.int _ _] []) _ _ _); (rename TopRead _ _ _ _ _ => tG9); k_dflt (refine' SpecG.use (g_isint _ _ _ _ _) ?k2 ?k3 ?k4 ?k5 ?kK ?kd ?ku ?_; (case k2 => k_asm); (case k3 => k_asm); (case k4 => k_asm); (case k5 => k_asm); (case kK => first | exact rfl | assumption);  (case kd => ktr_room); (case ku => ktr_units)); intro v9 h9 tk9 R9 F9 N9; (subst R9); (try dsimp only); (try k_fold)))
namespace Mine
theorem g_bfo4 (w : World) (mg mb : Str → Option Value) (b : Array UInt8) (tk : Tok) (p x y z : Int) (hb : KBw.bInts b = [p, x, y, z]) (tk2 : Tok) :
   SpecG w mg mb 66 3 [.bytes b tk, .int 4 tk2] (fun v => ∃ t, v = .bytes b t) := by
  have hp := KBw.ints_in (k := p) (by rw [hb]; simp)
  have hx := KBw.ints_in (k := x) (by rw [hb]; simp)
  have hy := KBw.ints_in (k := y) (by rw [hb]; simp)
  have hz := KBw.ints_in (k := z) (by rw [hb]; simp)
  unfold SpecG
  k_fill
  intro dp un fr gd h₀ L m s Q E F X T hd hu hret
  refine wpAny_call ?_
  k_dflt (walk_at "m enterG")
  k_steps
  walk_at "m retG"; exact ⟨_, rfl⟩
end Mine
open Mine
local macro_rules | `(tactic| walk_at "call ref") => `(tactic| (k_here; (with_reducible show wpAny _ _ (call (Value.ref 66) [Value.bytes _ _, Value.int 4 _] []) _ _ _); (rename TopRead _ _ _ _ _ => tG9); k_dflt (refine' SpecG.use (g_bfo4 _ _ _ _ _ _ _ _ _ ?hb _) ?k2 ?k3 ?k4 ?k5 ?kK ?kd ?ku ?_; (case k2 => k_asm); (case k3 => k_asm); (case k4 => k_asm); (case k5 => k_asm); (case kK => first | exact rfl | assumption); (case hb => kba_ints); (case kd => ktr_room); (case ku => ktr_units)); intro v9 h9 tk9 R9 F9 N9; (obtain ⟨t9, e9⟩ := R9; subst e9); (try dsimp only); (try k_fold)))
namespace Mine
theorem g_value (w : World) (mg mb : Str → Option Value) (b : Array UInt8) (tk : Tok) (p x y z : Int) (hb : KBw.bInts b = [p, x, y, z]) :
   SpecG w mg mb 94 2 [.bytes b tk] (fun v => ∃ t, v = .int (worth p x y z) t) := by
  have hp := KBw.ints_in (k := p) (by rw [hb]; simp)
  have hx := KBw.ints_in (k := x) (by rw [hb]; simp)
  have hy := KBw.ints_in (k := y) (by rw [hb]; simp)
  have hz := KBw.ints_in (k := z) (by rw [hb]; simp)
  unfold SpecG
  k_fill
  intro dp un fr gd h₀ L m s Q E F X T hd hu hret
  refine wpAny_call ?_
  k_dflt (walk_at "m enterG")
  k_steps
  · walk_at "m retG"; exact ri (by rw [worth, if_pos (by assumption), val3 hx.1 hy hz])
  · walk_at "m retG"; exact ri (by rw [worth, if_neg (by assumption), val3 hx.1 hy hz])
end Mine
open Mine
local macro_rules | `(tactic| walk_at "call ref") => `(tactic| (k_here; (with_reducible show wpAny _ _ (call (Value.ref 94) [Value.bytes _ _] []) _ _ _); (rename TopRead _ _ _ _ _ => tG9); k_dflt (refine' SpecG.use (g_value _ _ _ _ _ _ _ _ _ ?hb) ?k2 ?k3 ?k4 ?k5 ?kK ?kd ?ku ?_; (case k2 => k_asm); (case k3 => k_asm); (case k4 => k_asm); (case k5 => k_asm); (case kK => first | exact rfl | assumption); (case hb => kba_ints); (case kd => ktr_room); (case ku => ktr_units)); intro v9 h9 tk9 R9 F9 N9; (obtain ⟨t9, e9⟩ := R9; subst e9); (try dsimp only); (try k_fold)))
namespace Mine
theorem g_target (w : World) (mg mb : Str → Option Value) (b : Array UInt8) (tk : Tok) (p x y z : Int) (hb : KBw.bInts b = [p, x, y, z]) (hW : worth p x y z < 115792089237316195423570985008687907853269984665640564039457584007913129639936) :
   SpecG w mg mb 101 5 [.bytes b tk] (fun v => ∃ b' t, v = .bytes b' t ∧ (KBw.bInts b').length = 32 ∧ KFB.value (KBw.bInts b') = worth p x y z) := by
  have hp := KBw.ints_in (k := p) (by rw [hb]; simp)
  have hx := KBw.ints_in (k := x) (by rw [hb]; simp)
  have hy := KBw.ints_in (k := y) (by rw [hb]; simp)
  have hz := KBw.ints_in (k := z) (by rw [hb]; simp)
  have hw0 : 0 ≤ worth p x y z := worth_nonneg hy.1 hz.1
  unfold SpecG
  k_fill
  intro dp un fr gd h₀ L m s Q E F X T hd hu hret
  refine wpAny_call ?_
  k_dflt (walk_at "m enterG")
  k_steps
  walk_at "m retG"; exact ⟨_, _, rfl, by assumption, by assumption⟩
end Mine
open Mine
local macro_rules | `(tactic| walk_at "call ref") => `(tactic| (k_here; (with_reducible show wpAny _ _ (call (Value.ref 101) [Value.bytes _ _] []) _ _ _); (rename TopRead _ _ _ _ _ => tG9); k_dflt (refine' SpecG.use (g_target _ _ _ _ _ _ _ _ _ ?hb ?hW) ?k2 ?k3 ?k4 ?k5 ?kK ?kd ?ku ?_; (case k2 => k_asm); (case k3 => k_asm); (case k4 => k_asm); (case k5 => k_asm); (case kK => first | exact rfl | assumption); (case hb => kba_ints); (case hW => walk_at "m below"); (case kd => ktr_room); (case ku => ktr_units)); intro v9 h9 tk9 R9 F9 N9; (obtain ⟨b9, t9, e9, l9, v9⟩ := R9; subst e9); (try dsimp only); (try k_fold)))
namespace Mine
theorem g_bwork (w : World) (mg mb : Str → Option Value) (b : Array UInt8) (tk : Tok) (p x y z : Int) (hb : KBw.bInts b = [p, x, y, z]) (hW : worth p x y z < 115792089237316195423570985008687907853269984665640564039457584007913129639936) (hW0 : 0 < worth p x y z) :
   SpecG w mg mb 151 6 [.bytes b tk] (fun v => ∃ t, v = .int (115792089237316195423570985008687907853269984665640564039457584007913129639936 / (worth p x y z + 1)) t) := by
  have hp := KBw.ints_in (k := p) (by rw [hb]; simp)
  have hx := KBw.ints_in (k := x) (by rw [hb]; simp)
  have hy := KBw.ints_in (k := y) (by rw [hb]; simp)
  have hz := KBw.ints_in (k := z) (by rw [hb]; simp)
  have hw0 : 0 ≤ worth p x y z := worth_nonneg hy.1 hz.1
  unfold SpecG
  k_fill
  intro dp un fr gd h₀ L m s Q E F X T hd hu hret
  refine wpAny_call ?_
  k_dflt (walk_at "m enterG")
  k_steps
  · rename KFB.value (KBw.bInts _) = worth p x y z => hv
    walk_at "m retG"; exact ri (by rw [hv])
  · exfalso; omega
end Mine

set_option exponentiation.threshold 10000
namespace Mine
theorem bInts_inj {b c : Array UInt8} (h : KBw.bInts b = KBw.bInts c) : b = c := by
  have key : ∀ l l' : List UInt8, (l.map fun c => ((c.toNat : Nat) : Int)) = (l'.map fun c => ((c.toNat : Nat) : Int)) → l = l' := by
    intro l
    induction l with
    | nil => intro l' h; cases l' with
      | nil => rfl
      | cons _ _ => cases h
    | cons a r ih => intro l' h; cases l' with
      | nil => cases h
      | cons a' r' =>
        rw [List.map_cons, List.map_cons] at h
        have h1 := (List.cons.inj h).1
        have h2 := ih _ (List.cons.inj h).2
        have : a = a' := UInt8.toNat_inj.mp (by omega)
        rw [this, h2]
  have := key _ _ h
  exact Array.toList_inj.mp this
theorem bInts_beq {b c : Array UInt8} {ks ls : List Int} (hb : KBw.bInts b = ks) (hc : KBw.bInts c = ls) : (b == c) = decide (ks = ls) := by
  subst hb; subst hc
  by_cases h : b = c
  · subst h; simp
  · have h2 : KBw.bInts b ≠ KBw.bInts c := fun e => h (bInts_inj e)
    rw [decide_eq_false h2]
    simpa using h
/-- what the law lets pass -/
def letB (n n' lim h : Int) : Bool := if h % 2016 = 0 then decide (fl (boundN (fl n) 302400 lim) ≤ fl n' ∧ fl n' ≤ fl (boundN (fl n) 4838400 lim)) else decide (form n = form n')
theorem let0 {n n' lim h : Int} (hh : h % 2016 ≠ 0) : decide (form n = form n') = letB n n' lim h := by rw [letB, if_neg hh]
theorem let_least (n lim : Int) : (if lim < fl n * (1209600 / 4) % 115792089237316195423570985008687907853269984665640564039457584007913129639936 / 1209600 then lim else fl n * (1209600 / 4) % 115792089237316195423570985008687907853269984665640564039457584007913129639936 / 1209600) = boundN (fl n) 302400 lim := by
  have e : fl n * (1209600 / 4) = fl n * 302400 := by omega
  rw [e, min_if]
  rfl
theorem let_most (n lim : Int) : (if lim < fl n * 4 * 1209600 % 115792089237316195423570985008687907853269984665640564039457584007913129639936 / 1209600 then lim else fl n * 4 * 1209600 % 115792089237316195423570985008687907853269984665640564039457584007913129639936 / 1209600) = boundN (fl n) 4838400 lim := by
  have e : fl n * 4 * 1209600 = fl n * 4838400 := by omega
  rw [e, min_if]
  rfl
theorem let1 {n n' lim h a b : Int} (hh : h % 2016 = 0) (ha : a = boundN (fl n) 302400 lim) (hb : b = boundN (fl n) 4838400 lim) (h1 : fl a ≤ fl n') : decide (fl n' ≤ fl b) = letB n n' lim h := by
  subst ha; subst hb
  rw [letB, if_pos hh]
  by_cases c : fl n' ≤ fl (boundN (fl n) 4838400 lim) <;> simp [h1, c]
theorem let2 {n n' lim h a : Int} (hh : h % 2016 = 0) (ha : a = boundN (fl n) 302400 lim) (h1 : ¬ fl a ≤ fl n') : decide (fl a ≤ fl n') = letB n n' lim h := by
  subst ha
  rw [letB, if_pos hh]
  simp [h1]
section
variable {prog : Program} {w : World} {A : Around} {E : Value → Shared → Prop} {s : Shared} {b c : Array UInt8} {ks ls : List Int} {t u : Tok} {Q : Value → Shared → Prop}
theorem r_eqB (hb : KBw.bInts b = ks) (hc : KBw.bInts c = ls) (h : Q (.bool (decide (ks = ls))) s) : wpAny (model prog w) A (compareOp .Eq (.bytes b t) (.bytes c u)) Q E s :=
  eq_bytes (by
    have e : (b.toList == c.toList) = (b == c) := by
      by_cases h : b = c
      · subst h; simp
      · have h2 : b.toList ≠ c.toList := fun e => h (Array.toList_inj.mp e)
        have e1 : (b.toList == c.toList) = false := by simpa using h2
        have e2 : (b == c) = false := by simpa using h
        rw [e1, e2]
    rw [e, bInts_beq hb hc]; exact h)
theorem r_eqBs (hb : KBw.bInts b = ks) (hc : KBw.bInts c = ks) (h : Q (.bool true) s) : wpAny (model prog w) A (compareOp .Eq (.bytes b t) (.bytes c u)) Q E s :=
  eq_bytes (by rw [bInts_inj (hb.trans hc.symm)]; simpa using h)
theorem r_neBs (hb : KBw.bInts b = ks) (hc : KBw.bInts c = ks) (h : Q (.bool false) s) : wpAny (model prog w) A (compareOp .NotEq (.bytes b t) (.bytes c u)) Q E s :=
  ne_bytes (by rw [bInts_inj (hb.trans hc.symm)]; simpa using h)
end
end Mine
open Mine
local macro_rules | `(tactic| walk_at "compareOp Eq bytes bytes") => `(tactic| (k_here; refine r_eqB (by with_reducible assumption) (by with_reducible assumption) ?_))
open Mine
local macro_rules | `(tactic| walk_at "compareOp Eq bytes bytes") => `(tactic| (k_here; refine r_eqBs (by with_reducible assumption) (by with_reducible assumption) ?_))
open Mine
local macro_rules | `(tactic| walk_at "compareOp NotEq bytes bytes") => `(tactic| (k_here; refine r_neBs (by with_reducible assumption) (by with_reducible assumption) ?_))

set_option exponentiation.threshold 256
namespace Mine
theorem hex_size (f : Array Nat → UInt8 × Nat → Array Nat) (hf : ∀ a p, (f a p).size = a.size + 2) : ∀ (l : List (UInt8 × Nat)) (a : Array Nat), (l.foldl f a).size = a.size + 2 * l.length
  | [], a => by simp
  | p :: r, a => by
    rw [List.foldl_cons, hex_size f hf r, hf, List.length_cons]
    omega
section
variable {prog : Program} {w : World} {M : Model} {A : Around} {E : Value → Shared → Prop} {s : Shared} {b : Array UInt8} {t : Tok}
theorem r_hexm {pl : Sem Bool} {Q : Value × List Value → Shared → Prop} (h : Q (.builtin "bytes.hex", [.bytes b t]) s) : wpAny M A (getMethod (.bytes b t) (PySem.Str.ofString "hex") pl) Q E s := by
  with_reducible exact KBd.method_of (.bytes b t) (typeIs_bytes _ _ _) FB.slot_bytes_hex FB.type_bytes_hex KBd.noRef h
theorem hex_bind : Builtin.Bytes.bindOptional (toString Builtin.Bytes.Kind.bytes.name ++ toString ".hex") "hex" ["sep", "bytes_per_sep"] [] [] = pure [none, none] := by kernel_rfl
theorem r_hex {Q : Value → Shared → Prop} (hl : (KBw.bInts b).length ≤ 1000) (h : ∀ x t' k, x.length ≤ 2000 → Q (.str x t') { s with toks := k }) : wpAny (model prog w) A (call (.builtin "bytes.hex") [.bytes b t]) Q E s := by
  refine wpAny_call_entry FB.slot_bytes_hex (typeIs_bytes _ _ _) FB.entry_bytes_hex ?_ (FB.args_bytes_hex_1 _)
  unfold Builtin.«bytes.hex» Builtin.Bytes.hexM Builtin.Bytes.hexOf
  refine wpAny_bind (wpAny_of_eq hex_bind ?_)
  refine wpAny_bind (wpAny_of_eq (a := (1 : Int)) rfl ?_)
  refine wpAny_bind (wpAny_of_eq (a := ()) rfl ?_)
  refine wpAny_bind (wpAny_of_eq (a := (none : Option Nat)) rfl ?_)
  refine wpAny_bind (wpAny_of_eq (a := b) rfl ?_)
  show wpAny _ _ (mkStr ⟨List.foldl (fun (out : Array Nat) (x : UInt8 × Nat) => (out.push (Builtin.Bytes.hexDigit (x.1.toNat / 16))).push (Builtin.Bytes.hexDigit (x.1.toNat % 16))) #[] b.toList.zipIdx⟩ >>= fun v => ret v) _ _ _
  have hz : (PySem.Str.mk (List.foldl (fun (out : Array Nat) (x : UInt8 × Nat) => (out.push (Builtin.Bytes.hexDigit (x.1.toNat / 16))).push (Builtin.Bytes.hexDigit (x.1.toNat % 16))) #[] b.toList.zipIdx)).length ≤ 2000 := by
    rw [KBw.ints_length] at hl
    show Array.size (List.foldl _ _ _) ≤ 2000
    rw [hex_size _ (fun a p => by simp)]
    simp
    omega
  exact wpAny_bind (wpAny_mkStr (wpAny_pure ⟨_, rfl, h _ _ _ hz⟩) (by rw [sizeLine_eq]; omega))
end
end Mine
open Mine
local macro_rules | `(tactic| walk_at "getMethod bytes") => `(tactic| (k_here; refine r_hexm ?_))
open Mine
local macro_rules | `(tactic| walk_at "call builtin:bytes.hex") => `(tactic| (k_here; (with_reducible show wpAny _ _ (call (Value.builtin "bytes.hex") [Value.bytes _ _]) _ _ _); (refine r_hex (by first | (walk_at "m small") | (simp only [*]; exact Nat.le_of_ble_eq_true rfl)) ?_); intro _ _ _ hx9))

set_option exponentiation.threshold 256
open Mine
local macro_rules | `(tactic| walk_at "exec Raise some none") => `(tactic| (k_here; (with_reducible show wpAny _ _ (exec (Stmt.Raise (some (Expr.Call (Expr.Name ("BTClibValueError" : Str) _) (_ :: _) [] _)) none _) _) _ _ _); k_dflt (refine' PyProof.Rows.Raise_own2 (Bn := "Exception") ?F ?g ?O PySem.F.excBase_Exception ?hB PySem.F.excBase_ValueError ?h ?_ ?a ?b ?c ?d ?e; (case F => k_asm); (case g => exact TopRead.g (by k_asm)); (case O => exact own_of_in (newId := "Exception.__new__") (by k_asm) (by k_asm) (by k_is) (by k_exc)); (case hB => decide); (case h => first | rfl | assumption); (case a => rfl); (case b => rfl); (case c => rfl); (case d => rfl); (case e => decide); k_whole)))
open Mine
local macro_rules | `(tactic| walk_at "noteFrame ref") => `(tactic| (k_here; (rename RaisedK _ _ _ _ _ _ _ _ => rkX); (with_reducible show wpAny _ _ (noteFrame _ _) (fun _ s₂ => wpAny _ _ (setFlight _ none) (fun _ s₃ => wpAny _ _ (handleBy _ _ (ExceptHandler.ExceptHandler (some (Expr.Name _ _)) none _ _ :: _)) _ _ s₃) _ s₂) _ _); k_dflt (refine' caught_O0 (bmB := [.type "ValueError", .type "Exception", .type "BaseException", .type "object"]) (newId := "Exception.__new__") ?K ?F ?U ?R ?X ?T ?ex ?q ?hb ?_; (case K => assumption); (case F => assumption); (case U => assumption); (case R => exact rkX); (case X => k_asm); (case T => k_asm); (case ex => k_is); (case q => k_exc); (case hb => rfl); k_whole); intro h' n₂ F' N₂ G' N'; (try k_sweep)))
open Mine
local macro_rules | `(tactic| walk_at "m enterL") => `(tactic| (refine' code_defS0 ?k1 ?k2 ?k3 ?k4 ?k5 ?kA ?k6 ?k7 ?k8 ?k9 ?kB ?_ ?cK ?c2 ?c3 ?c4 ?c5; (case kA => exact rfl); (case k2 => k_asm); (case k1 => exact below_caller _); (case k3 => k_asm); (case k4 => k_asm); (case k5 => k_asm); (case k6 => k_is); (case k7 => k_is); (case k8 => k_room); (case k9 => first | exact binds_K (by k_in) rfl (by k_is) rfl rfl rfl | exact BindsTo.of_eq rfl | fail "enterL: no rule for these arguments"); (case kB => exact locs rfl); (case cK => assumption); (case c2 => exact rfl); (case c3 => exact rfl); (case c4 => exact rfl); (case c5 => decide); k_whole; intro g' L' h' FG' F' N' B' X' T' D'; (try dsimp only); (try k_lift B'); (try k_fold)))
namespace Mine
section
variable {prog : Program} {w : World} {A : Around} {E : Value → Shared → Prop} {s : Shared} {a : Int} {x y : Bool} {t u : Tok} {Q : Value → Shared → Prop}
theorem r_neI (h : Q (.bool false) s) : wpAny (model prog w) A (compareOp .NotEq (.int a t) (.int a u)) Q E s := by
  refine PyProof.Rows.ne_int ?_
  simpa using h
theorem r_neB (e : x = y) (h : Q (.bool false) s) : wpAny (model prog w) A (compareOp .NotEq (.bool x) (.bool y)) Q E s := by
  subst e
  refine PyProof.Rows.ne_bool ?_
  simpa using h
end
theorem negB1 {x W : Int} (h : 128 ≤ x) : decide (128 ≤ x ∧ W ≠ 0) = (W != 0) := by
  by_cases c : W = 0 <;> simp [h, c]
theorem negB2 {x W : Int} (h : ¬ 128 ≤ x) : decide (128 ≤ x ∧ W ≠ 0) = decide (128 ≤ x) := by simp [h]
end Mine
open Mine
local macro_rules | `(tactic| walk_at "m beq") => `(tactic| first | rfl | exact negB1 (by assumption) | exact negB2 (by assumption) | assumption)
open Mine
local macro_rules | `(tactic| walk_at "compareOp NotEq int int") => `(tactic| (k_here; with_reducible refine r_neI ?_))
open Mine
local macro_rules | `(tactic| walk_at "compareOp NotEq bool bool") => `(tactic| (k_here; refine r_neB (by walk_at "m beq") ?_))

set_option exponentiation.threshold 10000
namespace Mine
theorem ls_slot : Slot "bytes" "lstrip" "bytes.lstrip" :=
  .of (owner := "bytes") (n := "lstrip") (by rw [typeLookup_type, builtinLookup_eq_fast]; kernel_rfl) (by decide +kernel) (by decide +kernel) (by decide +kernel)
    (by first | exact .inl (by decide +kernel) | exact .inr (by decide +kernel)) (by rw [isSubtype_type]; kernel_rfl)
theorem ls_type : typeOf (.builtin "bytes.lstrip") = pure (.type "method_descriptor") := by show builtinType _ = _; rw [builtinType_eq_fast]; kernel_rfl
theorem ls_entry : entryFor table "bytes.lstrip" = some Builtin.«bytes.lstrip» := entryFor_of_tree (by kernel_rfl)
theorem ls_args (a b : Value) : argsOk "bytes.lstrip" ⟨[a, b], []⟩ := by unfold argsOk; kernel_rfl
theorem ls_value (drop : UInt8 → Bool) (hd : ∀ c, drop c = true → c = 0) : ∀ l : List UInt8, KFB.value ((l.dropWhile drop).map fun c => ((c.toNat : Nat) : Int)) = KFB.value (l.map fun c => ((c.toNat : Nat) : Int))
  | [] => rfl
  | c :: r => by
    rw [List.dropWhile_cons]
    by_cases h : drop c = true
    · rw [if_pos h, ls_value drop hd r, hd c h]
      rfl
    · rw [if_neg h]
section
variable {prog : Program} {w : World} {M : Model} {A : Around} {E : Value → Shared → Prop} {s : Shared} {b : Array UInt8} {t u : Tok}
theorem r_lstripm {pl : Sem Bool} {Q : Value × List Value → Shared → Prop} (h : Q (.builtin "bytes.lstrip", [.bytes b t]) s) : wpAny M A (getMethod (.bytes b t) (PySem.Str.ofString "lstrip") pl) Q E s := by
  with_reducible exact KBd.method_of (.bytes b t) (typeIs_bytes _ _ _) ls_slot ls_type KBd.noRef h
theorem r_lstrip {Q : Value → Shared → Prop} (hl : (KBw.bInts b).length ≤ 1000)
    (h : ∀ c t' k, KFB.value (KBw.bInts c) = KFB.value (KBw.bInts b) → (KBw.bInts c).length ≤ (KBw.bInts b).length → Q (.bytes c t') { s with toks := k }) :
    wpAny (model prog w) A (call (.builtin "bytes.lstrip") [.bytes b t, .bytes #[0] u]) Q E s := by
  refine wpAny_call_entry ls_slot (typeIs_bytes _ _ _) ls_entry ?_ (ls_args _ _)
  unfold Builtin.«bytes.lstrip» Builtin.Bytes.stripM
  refine wpAny_bind (wpAny_of_eq (a := (Value.bytes b t, [Value.bytes #[0] u])) (by first | rfl | kernel_rfl) ?_)
  dsimp only
  rw [KBd.like_eq]
  refine wpAny_bind (wpAny_pure ?_)
  refine wpAny_bind (wpAny_pure ?_)
  refine wpAny_bind (wpAny_of_eq (a := b) rfl ?_)
  have hv : KFB.value (((b.toList.dropWhile (#[0] : Array UInt8).contains)).map fun c => ((c.toNat : Nat) : Int)) = KFB.value (KBw.bInts b) := ls_value _ (fun c hc => by simpa using hc) b.toList
  have hlen : (b.toList.dropWhile (#[0] : Array UInt8).contains).length ≤ b.toList.length := (List.dropWhile_sublist _).length_le
  simp only [Bool.false_eq_true, if_false, if_true]
  split
  · exact wpAny_bind (wpAny_rule (wpAny_bind (wpAny_pure (wpAny_pure ⟨_, rfl, h _ _ _ rfl (Nat.le_refl _)⟩))))
  · refine wpAny_bind (wpAny_mkBytes (wpAny_pure ⟨_, rfl, h _ _ _ hv ?_⟩) ?_)
    · rw [KBw.ints_length, KBw.ints_length]
      simpa using hlen
    · rw [KBw.ints_length] at hl
      rw [sizeLine_eq]
      have : (b.toList.dropWhile (#[0] : Array UInt8).contains).length ≤ b.size := by simpa using hlen
      show (List.dropWhile _ _).toArray.size ≤ _
      rw [List.size_toArray]
      exact Nat.le_trans this (by omega)
end
theorem pow256_le {k : Nat} (h : k ≤ 30) : (256 : Int) ^ k ≤ 1766847064778384329583297500742918515827483896875618958121606201292619776 := by
  have e : (1766847064778384329583297500742918515827483896875618958121606201292619776 : Int) = ((256 ^ 30 : Nat) : Int) := by decide +kernel
  have e1 : ((256 : Int) ^ k) = ((256 ^ k : Nat) : Int) := by rw [Int.natCast_pow]; rfl
  rw [e, e1]
  exact Int.ofNat_le.mpr (Nat.pow_le_pow_right (by decide) h)
theorem hi_pow (q : Nat) : (if ((q : Int) - 3) > 0 then ((q : Int) - 3) else 0).toNat = q - 3 := by split <;> omega
/-- the number that the next form is asked for -/
theorem hi_ok {t : Int} (h : 0 ≤ t) (h1 : t < 115792089237316195423570985008687907853269984665640564039457584007913129639936) :
    Ok (fl t + 256 ^ (if ((pw t : Int) - 3) > 0 then ((pw t : Int) - 3) else 0).toNat) := by
  rw [hi_pow]
  by_cases c : 4 ≤ pw t
  · exact (next_above h h1 c).1
  · have e : pw t - 3 = 0 := by omega
    have := fl_le t
    have := fl_nonneg h
    rw [e]
    constructor <;> simp <;> omega
theorem hi_above {t : Int} (h : 0 ≤ t) (h1 : t < 115792089237316195423570985008687907853269984665640564039457584007913129639936)
    (hn : ¬ fl (fl t + 256 ^ (if ((pw t : Int) - 3) > 0 then ((pw t : Int) - 3) else 0).toNat) > t) : (pw t : Int) < 4 := by
  rw [hi_pow] at hn
  by_cases c : 4 ≤ pw t
  · exact absurd (next_above h h1 c).2 hn
  · omega
section
variable {prog : Program} {w : World} {A : Around} {E : Value → Shared → Prop} {s : Shared} {a b : Int} {t u : Tok} {Q : Value → Shared → Prop}
theorem r_neIe (e : a = b) (h : Q (.bool false) s) : wpAny (model prog w) A (compareOp .NotEq (.int a t) (.int b u)) Q E s := by
  subst e; exact r_neI h
theorem r_leI (e : a ≤ b) (h : Q (.bool true) s) : wpAny (model prog w) A (compareOp .LtE (.int a t) (.int b u)) Q E s := by
  refine PyProof.Rows.le_int ?_
  simpa [e] using h
theorem r_ltI (e : a < b) (h : Q (.bool true) s) : wpAny (model prog w) A (compareOp .Lt (.int a t) (.int b u)) Q E s := by
  refine PyProof.Rows.lt_int ?_
  simpa [e] using h
end
end Mine
open Mine
local macro_rules | `(tactic| walk_at "getMethod bytes") => `(tactic| (k_here; refine r_lstripm ?_))
open Mine
local macro_rules | `(tactic| walk_at "call builtin:bytes.lstrip") => `(tactic| (k_here; (with_reducible show wpAny _ _ (call (Value.builtin "bytes.lstrip") [Value.bytes _ _, Value.bytes _ _]) _ _ _); (refine r_lstrip (by walk_at "m small") ?_); intro _ _ _ hv9 hl9))
open Mine
local macro_rules | `(tactic| walk_at "m ieq") => `(tactic| first | with_reducible rfl | with_reducible assumption | exact fl_worth (by omega) (by omega) ⟨by omega, by omega⟩ ⟨by omega, by omega⟩ ⟨by with_reducible assumption, by omega⟩)
open Mine
local macro_rules | `(tactic| walk_at "compareOp NotEq int int") => `(tactic| (k_here; refine r_neIe (by walk_at "m ieq") ?_))
open Mine
local macro_rules | `(tactic| walk_at "compareOp LtE int int") => `(tactic| (k_here; refine r_leI (by with_reducible exact fl_le _) ?_))
open Mine
local macro_rules | `(tactic| walk_at "compareOp Lt int int") => `(tactic| (k_here; refine r_ltI (by with_reducible exact hi_above (by omega) (by omega) (by assumption)) ?_))
open Mine
local macro_rules | `(tactic| walk_at "m ok") => `(tactic| first | with_reducible assumption | exact ⟨by walk_at "m nn", by omega⟩ | with_reducible exact hi_ok (by omega) (by omega))

set_option exponentiation.threshold 256
namespace Mine
theorem s_ltgt (w : World) (mean : ExcName → Option Value) (mg mb : Str → Option Value) (b : Array UInt8) (tk : Tok) (p x y z : Int) (hb : KBw.bInts b = [p, x, y, z]) (hW : worth p x y z < 115792089237316195423570985008687907853269984665640564039457584007913129639936) :
   Spec w mean mg mb 255 6 [.bytes b tk] [] (fun v => ∃ t, v = .int (worth p x y z) t) := by
  have hp := KBw.ints_in (k := p) (by rw [hb]; simp)
  have hx := KBw.ints_in (k := x) (by rw [hb]; simp)
  have hy := KBw.ints_in (k := y) (by rw [hb]; simp)
  have hz := KBw.ints_in (k := z) (by rw [hb]; simp)
  have hw0 : 0 ≤ worth p x y z := worth_nonneg hy.1 hz.1
  unfold Spec
  k_fill
  intro dp un gd cn cs a ccd cl outer A₀ base h₀ L m s Q E B F X T hk hd hu hret
  refine wpAny_call ?_
  k_dflt (walk_at "m enter")
  k_steps
  rename KFB.value _ = worth p x y z => hA
  walk_at "m ret"; exact ri hA
end Mine
open Mine
local macro_rules | `(tactic| walk_at "call ref") => `(tactic| (k_here; (with_reducible show wpAny _ _ (call (Value.ref 255) [Value.bytes _ _] []) _ _ _); k_dflt (refine' Spec.use (s_ltgt _ _ _ _ _ _ _ _ _ _ ?hb ?hW) ?k1 ?k2 ?k3 ?k4 ?k5 ?kK ?kd ?ku ?_; (case k1 => k_asm); (case k2 => k_asm); (case k3 => k_asm); (case k4 => k_asm); (case k5 => k_asm); (case kK => first | exact rfl | assumption); (case hb => kba_ints); (case hW => walk_at "m below"); (case kd => ktr_room); (case ku => ktr_units)); intro v9 h9 tk9 R9 F9 N9; (obtain ⟨t9, e9⟩ := R9; subst e9); (try dsimp only); (try k_fold)))
namespace Mine
theorem s_ltgtF (w : World) (mean : ExcName → Option Value) (mg mb : Str → Option Value) (b : Array UInt8) (tk : Tok) (n : Int) (hb : KBw.bInts b = form n) (hn : Ok n) (hf : fl n < 115792089237316195423570985008687907853269984665640564039457584007913129639936) :
   Spec w mean mg mb 255 6 [.bytes b tk] [] (fun v => ∃ t, v = .int (fl n) t) := by
  have h := s_ltgt w mean mg mb b tk _ _ _ _ hb (by rw [worth_form hn]; exact hf)
  rw [worth_form hn] at h
  exact h
end Mine
open Mine
local macro_rules | `(tactic| walk_at "call ref") => `(tactic| (k_here; (with_reducible show wpAny _ _ (call (Value.ref 255) [Value.bytes _ _] []) _ _ _); k_dflt (refine' Spec.use (s_ltgtF _ _ _ _ _ _ _ ?hb ?hn ?hf) ?k1 ?k2 ?k3 ?k4 ?k5 ?kK ?kd ?ku ?_; (case k1 => k_asm); (case k2 => k_asm); (case k3 => k_asm); (case k4 => k_asm); (case k5 => k_asm); (case kK => first | exact rfl | assumption); (case hb => with_reducible assumption); (case hn => walk_at "m ok"); (case hf => walk_at "m flb"); (case kd => ktr_room); (case ku => ktr_units)); intro v9 h9 tk9 R9 F9 N9; (obtain ⟨t9, e9⟩ := R9; subst e9); (try dsimp only); (try k_fold)))
namespace Mine
theorem s_let (w : World) (mean : ExcName → Option Value) (mg mb : Str → Option Value) (b : Array UInt8) (tk : Tok) (n : Int) (hb : KBw.bInts b = form n) (hn : Ok n) (hn1 : n < 115792089237316195423570985008687907853269984665640564039457584007913129639936) (c : Array UInt8) (tc : Tok) (n' : Int) (hc : KBw.bInts c = form n') (hn' : Ok n') (lim h : Int) (tl th : Tok) (hl : 0 ≤ lim) (hl1 : lim < 115792089237316195423570985008687907853269984665640564039457584007913129639936) :
   Spec w mean mg mb 276 4 [.bytes b tk, .bytes c tc, .int lim tl, .int h th] [] (fun v => v = .bool (letB n n' lim h)) := by
  unfold Spec
  k_fill
  intro dp un gd cn cs a ccd cl outer A₀ base h₀ L m s Q E B F X T hk hd hu hret
  refine wpAny_call ?_
  k_dflt (walk_at "m enter")
  k_steps
  · walk_at "m ret"; exact rb (let0 (by assumption))
  · walk_at "m ret"; exact rb (let1 (by assumption) (let_least n lim) (let_most n lim) (by assumption))
  · walk_at "m ret"; exact rb (let2 (by assumption) (let_least n lim) (by assumption))
end Mine
open Mine
local macro_rules | `(tactic| walk_at "call ref") => `(tactic| (k_here; (with_reducible show wpAny _ _ (call (Value.ref 276) [Value.bytes _ _, Value.bytes _ _, Value.int _ _, Value.int _ _] []) _ _ _); k_dflt (refine' Spec.use (s_let _ _ _ _ _ _ _ ?hb ?hn ?hn1 _ _ _ ?hc ?hn2 _ _ _ _ ?hl ?hl1) ?k1 ?k2 ?k3 ?k4 ?k5 ?kK ?kd ?ku ?_; (case k1 => k_asm); (case k2 => k_asm); (case k3 => k_asm); (case k4 => k_asm); (case k5 => k_asm); (case kK => first | exact rfl | assumption); (case hb => with_reducible assumption); (case hc => with_reducible assumption); (case hn => walk_at "m ok"); (case hn1 => walk_at "m below"); (case hn2 => walk_at "m ok"); (case hl => walk_at "m nn"); (case hl1 => walk_at "m below"); (case kd => ktr_room); (case ku => ktr_units)); intro v9 h9 tk9 R9 F9 N9; (subst R9); (try dsimp only); (try k_fold)))
namespace Mine
end Mine

set_option exponentiation.threshold 256
namespace Mine
theorem close_forms {h₀ h' : Heap} {L : Addr} {m : Str → Option Value} {news news' : List (Addr × Obj)} {s : Shared} {Q : Value → Shared → Prop} {a b : Int} {tk' : Nat}
    (hret : ∀ v h' tk', v = Value.bool true → Fr h₀ L h' m → News h₀ L h' news → Q v { s with heap := h', toks := tk' }) (F : Fr h₀ L h' m) (N : News h₀ L h' news') (hs : ∀ p ∈ news, p ∈ news') (e : a = b) : Q (.bool (decide (form a = form b))) { s with heap := h', toks := tk' } :=
  retL (R := fun v => v = .bool true) hret (rb (decide_eq_true (congrArg form e))) F N hs
theorem s_forms (w : World) (mean : ExcName → Option Value) (mg mb : Str → Option Value) (n : Int) (tk : Tok) : SpecL w mean mg mb 283 [.int n tk] (fun v => v = .bool true) := by
  unfold SpecL
  k_fill
  intro cn cs a ccd h₀ L m news s Q E F X N T hk hret
  refine wpAny_call ?_
  k_dflt (walk_at "m enterL")
  k_steps
  all_goals (rename Fr _ _ _ _ => kF; rename News _ _ _ _ => kN; refine close_forms hret kF kN ?_ ?_)
  all_goals (first | with_reducible exact fun _ h => h | with_reducible exact fun _ h => List.mem_cons_of_mem _ h | with_reducible exact fun _ h => List.mem_cons_of_mem _ (List.mem_cons_of_mem _ h) | with_reducible assumption | (refine Eq.symm ?_; with_reducible assumption) | with_reducible exact rfl)
end Mine

set_option exponentiation.threshold 10000
namespace Mine
theorem pow2_le {k : Nat} (h : k ≤ 224) : (2 : Int) ^ k ≤ 26959946667150639794667015087019630673637144422540572481103610249216 := by
  have e : (26959946667150639794667015087019630673637144422540572481103610249216 : Int) = ((2 ^ 224 : Nat) : Int) := by decide +kernel
  have e1 : ((2 : Int) ^ k) = ((2 ^ k : Nat) : Int) := by rw [Int.natCast_pow]; rfl
  rw [e, e1]
  exact Int.ofNat_le.mpr (Nat.pow_le_pow_right (by decide) h)
/-- the limits that the law draws from -/
def LimOk (c : Array UInt8) : Prop := ∃ p x y z, KBw.bInts c = [p, x, y, z] ∧ 0 ≤ worth p x y z ∧ worth p x y z < 1766847064778384329583297500742918515827483896875618958121606201292619776
section
variable {prog : Program} {w : World} {A : Around} {E : Value → Shared → Prop} {s : Shared} {a b : Int} {k : Nat} {t u : Tok} {Q : Value → Shared → Prop}
theorem r_mod2 (hk : k ≤ 224) (h : ∀ t', 0 ≤ a % 2 ^ k → a % 2 ^ k < 26959946667150639794667015087019630673637144422540572481103610249216 → Q (.int (a % 2 ^ k) t') { s with toks := s.toks + 1 }) : wpAny (model prog w) A (binaryOp .Mod (.int a t) (.int (2 ^ k) u)) Q E s :=
  r_mod (pow2_pos k) fun t' => h t' (Int.emod_nonneg _ (Int.ne_of_gt (pow2_pos k))) (Int.lt_of_lt_of_le (Int.emod_lt_of_pos _ (pow2_pos k)) (pow2_le hk))
theorem r_pick3 {value slice : PySem.Expr} {h₀ : Heap} {L l : Addr} {news : List (Addr × Obj)} {c0 c1 c2 : Array UInt8} {t0 t1 t2 : Tok} {n : Nat} {i : Int} (N : News h₀ L s.heap news)
    (hm : (l, W.listOf #[.bytes c0 t0, .bytes c1 t1, .bytes c2 t2] n) ∈ news) (hi0 : 0 ≤ i) (hi1 : i < 3) (h0 : LimOk c0) (h1 : LimOk c1) (h2 : LimOk c2) (h : ∀ c t', LimOk c → Q (.bytes c t') s)
    (hs : subscripted slice false (.ref l) (.int i u) = operate [.ref l, .int i u] (getItem (.ref l) (.int i u)) := by with_unfolding_all rfl) :
    wpAny (model prog w) A (subscriptTail value slice (.ref l) (.int i u)) Q E s := by
  have hl : s.heap.IsList l #[.bytes c0 t0, .bytes c1 t1, .bytes c2 t2] := News.isList N hm
  obtain ⟨j, hj⟩ : ∃ j : Nat, i = (j : Int) := ⟨i.toNat, by omega⟩
  subst hj
  have : j = 0 ∨ j = 1 ∨ j = 2 := by omega
  rcases this with rfl | rfl | rfl
  · exact tail_any hl.typeIs slot_list_getitem.lookup (wpAny_getItem_list hl (by decide) (by decide) (by rfl) (h _ _ h0)) hs
  · exact tail_any hl.typeIs slot_list_getitem.lookup (wpAny_getItem_list hl (by decide) (by decide) (by rfl) (h _ _ h1)) hs
  · exact tail_any hl.typeIs slot_list_getitem.lookup (wpAny_getItem_list hl (by decide) (by decide) (by rfl) (h _ _ h2)) hs
end
theorem lim0 : LimOk #[29, 0, 255, 255] := ⟨29, 0, 255, 255, rfl, by decide +kernel, by decide +kernel⟩
theorem lim1 : LimOk #[30, 127, 255, 255] := ⟨30, 127, 255, 255, rfl, by decide +kernel, by decide +kernel⟩
theorem lim2 : LimOk #[27, 1, 0, 0] := ⟨27, 1, 0, 0, rfl, by decide +kernel, by decide +kernel⟩
end Mine
open Mine
local macro_rules | `(tactic| walk_at "binaryOp Mod int int") => `(tactic| (k_here; (with_reducible refine r_mod2 (by omega) ?_); intro _ _ _))
open Mine
local macro_rules | `(tactic| walk_at "subscriptTail") => `(tactic| (k_here; (with_reducible show wpAny _ _ (subscriptTail _ _ (Value.ref _) (Value.int _ _)) _ _ _); k_dflt (refine r_pick3 (by k_asm) (by k_mem) (by omega) (by omega) lim0 lim1 lim2 ?_); intro _ _ lim9; obtain ⟨_, _, _, _, il9, wl9, wm9⟩ := lim9))

set_option exponentiation.threshold 10000
open Mine
local macro_rules | `(tactic| walk_at "m nn") => `(tactic| (exact fl_nonneg (by first | omega | with_reducible assumption)))
open Mine
local macro_rules | `(tactic| walk_at "m below") => `(tactic| (exact fl_bound (by first | omega | with_reducible assumption)))
namespace Mine
theorem s_nextF (w : World) (mean : ExcName → Option Value) (mg mb : Str → Option Value) (b : Array UInt8) (tk : Tok) (n : Int) (hb : KBw.bInts b = form n) (hn : Ok n) (hf : fl n < 115792089237316195423570985008687907853269984665640564039457584007913129639936) (c : Array UInt8) (tc : Tok) (p' x' y' z' : Int) (hc : KBw.bInts c = [p', x', y', z']) (f l : Int) (tf tl : Tok) (hW' : worth p' x' y' z' < 115792089237316195423570985008687907853269984665640564039457584007913129639936) :
   Spec w mean mg mb 130 7 [.bytes b tk, .int f tf, .int l tl] [(PySem.Str.ofString "pow_limit_bits", .bytes c tc)] (fun v => ∃ b' t, v = .bytes b' t ∧ KBw.bInts b' = form (nextN (fl n) (l - f) (worth p' x' y' z'))) := by
  have h := s_next w mean mg mb b tk _ _ _ _ hb c tc p' x' y' z' hc f l tf tl (by rw [worth_form hn]; exact hf) hW'
  rw [worth_form hn] at h
  exact h
end Mine
open Mine
local macro_rules | `(tactic| walk_at "call ref") => `(tactic| (k_here; (with_reducible show wpAny _ _ (call (Value.ref 130) [Value.bytes _ _, Value.int _ _, Value.int _ _] _) _ _ _); k_dflt (refine' Spec.use (s_nextF _ _ _ _ _ _ _ ?hb ?hn ?hf _ _ _ _ _ _ ?hc _ _ _ _ ?hW) ?k1 ?k2 ?k3 ?k4 ?k5 ?kK ?kd ?ku ?_; (case k1 => k_asm); (case k2 => k_asm); (case k3 => k_asm); (case k4 => k_asm); (case k5 => k_asm); (case kK => first | exact rfl | assumption); (case hb => with_reducible assumption); (case hc => with_reducible assumption); (case hn => walk_at "m ok"); (case hf => walk_at "m flb"); (case hW => walk_at "m below"); (case kd => ktr_room); (case ku => ktr_units)); intro v9 h9 tk9 R9 F9 N9; (obtain ⟨b9, t9, e9, i9⟩ := R9; subst e9); (try dsimp only); (try k_fold)))
namespace Mine
section
variable {prog : Program} {w : World} {A A₀ : Around} {s : Shared} {K : Frag} {L : Addr} {h₀ base : Heap} {m mg mb : Str → Option Value} {news0 : List (Addr × Obj)} {p : Program} {loose : List Str} {mean : ExcName → Option Value}
/-- as code_pure, but the def is given a part of what the caller made -/
theorem code_part {env : Env} {outer : List Env} {R : Result → Shared → Prop} {name qual : Str} {params : Arguments} {body : List Stmt} {scope : Scope} {dV kV doc pm cdv ct oc : Value} {an od : Option Addr} {osl : Array (Option Value)} {f : Addr} {args : Args} {binds : List (Str × Value)}
    (B : Below A₀ base outer h₀) (F : Fr h₀ L s.heap m) (X₀ : K.In h₀) (N : News h₀ L s.heap news0) (T : Top p loose mean mg mb h₀) (hA : A.frames = some (env :: outer)) (hf : env.frame = some L) (hke : env.scope.kind = .function)
    (ho : K.lookup f = some ⟨oc, od, .func (fnOf name qual params body scope dV kV doc pm an cdv ct), osl⟩) (hcd : codeIn K cdv qual = true) (hroom : A.depth < recursionLimit)
    (hbind : BindsTo s (fnOf name qual params body scope dV kV doc pm an cdv ct) args binds) (hloc : ∀ y ∈ binds, scope.names.lookup y.1 = some .local)
    (h : ∀ g L' h₁, (∀ b o, s.heap.get? b = some o → b ∉ news0.map (·.1) → g.get? b = some o) → Fr h₀ L g m → Fr g L' h₁ (fun y => binds.reverse.lookup y) → News g L' h₁ news0 → Below A base (env :: outer) g → K.In g → Top p loose mean mg mb g →
      wpAny (model prog w) (A.deeper (envOf qual scope L' f cdv)) (execs body (envOf qual scope L' f cdv))
        (fun fl s' => LeaveK h₀ L m g R (match fl with | .ret v => v | _ => .none) s')
        (fun e s' => wpAny (model prog w) (A.deeper (envOf qual scope L' f cdv)) (leaving (envOf qual scope L' f cdv) e) (fun _ s'' => R (.error e) s'') (fun e' s'' => R (.error e') s'') s')
        { s with heap := h₁, toks := s.toks + binds.length })
    (hco : scope.isCoroutine = false) (hgen : scope.isGenerator = false) (hk : scope.kind = .function)
    (hcell : ∀ x ∈ scope.names, x.2 ≠ .cell) : codeAny (model prog w) A (.call (.ref f) args) R s := by
  obtain ⟨FG, BG, st, lv⟩ := groundX (R := R) B F N hA hf hke
  refine codeAny_call_def (fd := fnX name qual params body scope [] dV kV doc pm an cdv ct) (body := body) (binds := binds) hroom ((X₀.keeps F.keep) _ _ ho) rfl (T.nolimit.keeps F.keep) (codeRec_of (X₀.keeps F.keep) hcd) rfl hbind hcell hloc (fun h₁ hns hk₁ => ?_) hco hgen hk
  refine wpAny_mono (h _ s.heap.objs.size h₁ (fun b o e hb => hideAll_get _ e hb) FG ⟨hns, fun b o e => hk₁ b o (of_hideAll _ e), Nat.le_of_eq (hideAll_size _ _)⟩ ?_ BG (X₀.keeps st) (T.keeps st)) (fun fl s' hl => lv _ _ hl) fun _ _ y => y
  exact fun p hp => ⟨hk₁ _ _ (N p hp).1, Nat.ne_of_lt (Heap.lt_size (N p hp).1), hideAll_none _ (List.mem_map_of_mem hp)⟩
theorem ret_part {h' g : Heap} {L' : Addr} {m' : Str → Option Value} {news' : List (Addr × Obj)} {Q : Value → Shared → Prop} {R : Value → Prop} {v : Value} {tk' : Nat}
    (hret : ∀ v h' tk', R v → Fr h₀ L h' m → s.heap.StaysIn h' → Q v { s with heap := h', toks := tk' }) (hv : R v) (F : Fr h₀ L h' m) (N : News h₀ L s.heap news0)
    (st : ∀ b o, s.heap.get? b = some o → b ∉ news0.map (·.1) → g.get? b = some o) (F' : Fr g L' h' m') (N' : News g L' h' news') (hs : ∀ p ∈ news0, p ∈ news') : Q v { s with heap := h', toks := tk' } :=
  hret _ _ _ hv F fun b o e => by
    by_cases hb : b ∈ news0.map (·.1)
    · obtain ⟨p, hp, rfl⟩ := List.mem_map.mp hb
      have := (N p hp).1
      rw [e] at this
      rw [Option.some.inj this]
      exact (N' p (hs p hp)).1
    · exact F'.keep b o (st b o e hb)
end
/-- a contract for a def that reads a part of what the caller made -/
def SpecI (w : World) (mean : ExcName → Option Value) (mg mb : Str → Option Value) (f : Addr) (need : Nat) (news0 : List (Addr × Obj)) (vs : List Value) (R : Value → Prop) : Prop :=
  ∀ (dp un : Nat) (gd : Option (List Code)) (cn : Str) (cs : Scope) (a : Addr) (ccd : Value) (cl : List (Str × Addr)) (outer : List Env) (A₀ : Around) (base h₀ : Heap) (L : Addr) (m : Str → Option Value) (s : Shared)
    (Q E : Value → Shared → Prop),
    Below A₀ base outer h₀ → Fr h₀ L s.heap m → (Mine.hd.heap_39 w.params).In h₀ → News h₀ L s.heap news0 → Top Mine.hd.view_39 LO mean mg mb h₀ → cs.kind = .function →
    dp + need < recursionLimit → un + 8 * need < cLine →
    (∀ v h' tk', R v → Fr h₀ L h' m → s.heap.StaysIn h' → Q v { s with heap := h', toks := tk' }) →
    wpAny (model Challenge.rw_ez0015_01.row.prog w) (ktrTop dp un gd cn cs L a ccd cl outer) (call (.ref f) vs) Q E s
theorem SpecI.use {w : World} {mean : ExcName → Option Value} {mg mb : Str → Option Value} {f : Addr} {need : Nat} {news0 : List (Addr × Obj)} {vs : List Value} {R : Value → Prop} {dp un : Nat} {gd : Option (List Code)} {cn : Str} {cs : Scope} {a : Addr} {ccd : Value} {cl : List (Str × Addr)} {outer : List Env} {A₀ : Around} {base h₀ : Heap} {L : Addr} {m : Str → Option Value} {news : List (Addr × Obj)} {s : Shared}
    {Q E : Value → Shared → Prop} (C : SpecI w mean mg mb f need news0 vs R) (B : Below A₀ base outer h₀) (F : Fr h₀ L s.heap m) (X : (Mine.hd.heap_39 w.params).In h₀) (N : News h₀ L s.heap news) (hs : ∀ p ∈ news0, p ∈ news) (T : Top Mine.hd.view_39 LO mean mg mb h₀) (hk : cs.kind = .function)
    (hd : dp + need < recursionLimit) (hu : un + 8 * need < cLine)
    (ret : ∀ v h' tk', R v → Fr h₀ L h' m → News h₀ L h' news → Q v { s with heap := h', toks := tk' }) :
    wpAny (model Challenge.rw_ez0015_01.row.prog w) (ktrTop dp un gd cn cs L a ccd cl outer) (call (.ref f) vs) Q E s :=
  C _ _ _ _ _ _ _ _ _ _ _ _ _ _ _ _ _ B F X (cb_drop N hs) T hk hd hu fun v h' tk' r F' st => ret v h' tk' r F' (news_stays N st)
end Mine
open Mine
local macro_rules | `(tactic| walk_at "m enterI") => `(tactic| (refine' code_part ?k1 ?k2 ?k3 ?k4 ?k5 ?kA ?kF ?kK ?k6 ?k7 ?k8 ?k9 ?kB ?_ ?c2 ?c3 ?c4 ?c5; (case kA => exact rfl); (case kF => exact rfl); (case kK => assumption); (case k1 => k_asm); (case k2 => k_asm); (case k3 => k_asm); (case k4 => k_asm); (case k5 => k_asm); (case k6 => k_is); (case k7 => k_is); (case k8 => ktr_room); (case k9 => first | exact BindsTo.of_eq rfl | exact binds_K (by k_in) rfl (by k_is) rfl rfl rfl | fail "m enterI: arguments"); (case c5 => decide); (case kB => exact locs rfl); (case c2 => exact rfl); (case c3 => exact rfl); (case c4 => exact rfl); k_whole; intro g' L' h' st' FG' F' N' B' X' T'; (try dsimp only); (try k_lift B'); (try k_fold)))
open Mine
local macro_rules | `(tactic| walk_at "m retI") => `(tactic| (rename (∀ (_ : Value) (_ : Heap) (_ : Nat), _) => hret; (refine ret_part hret ?mR (by k_asm) (by assumption) (by assumption) (by with_reducible assumption) (by k_asm) (by kcj_all))))

set_option exponentiation.threshold 10000
namespace Mine
theorem nextN_le (old span lim : Int) : nextN old span lim ≤ lim := Int.min_le_right _ _
theorem s_nextS (w : World) (mean : ExcName → Option Value) (mg mb : Str → Option Value) (b : Array UInt8) (tk : Tok) (n : Int) (hb : KBw.bInts b = form n) (hn : Ok n) (hf : fl n < 115792089237316195423570985008687907853269984665640564039457584007913129639936) (c : Array UInt8) (tc : Tok) (p' x' y' z' : Int) (hc : KBw.bInts c = [p', x', y', z']) (f l : Int) (tf tl : Tok) (hW0 : 0 ≤ worth p' x' y' z') (hW' : worth p' x' y' z' < 115792089237316195423570985008687907853269984665640564039457584007913129639936) :
   Spec w mean mg mb 130 7 [.bytes b tk, .int f tf, .int (f + l) tl] [(PySem.Str.ofString "pow_limit_bits", .bytes c tc)] (fun v => ∃ b' t, v = .bytes b' t ∧ KBw.bInts b' = form (nextN (fl n) l (worth p' x' y' z')) ∧ 0 ≤ nextN (fl n) l (worth p' x' y' z') ∧ nextN (fl n) l (worth p' x' y' z') ≤ worth p' x' y' z') := by
  have h := s_nextF w mean mg mb b tk _ hb hn hf c tc p' x' y' z' hc f (f + l) tf tl hW'
  rw [show f + l - f = l by omega] at h
  intro dp un gd cn cs a ccd cl outer A₀ base h₀ L m s Q E B F X T hk hd hu hret
  exact h dp un gd cn cs a ccd cl outer A₀ base h₀ L m s Q E B F X T hk hd hu (fun v h' tk' ⟨b', t, e, i⟩ => hret v h' tk' ⟨b', t, e, i, (nextN_in hW0 hW').1, nextN_le _ _ _⟩)
end Mine
open Mine
local macro_rules | `(tactic| walk_at "call ref") => `(tactic| (k_here; (with_reducible show wpAny _ _ (call (Value.ref 130) [Value.bytes _ _, Value.int _ _, Value.int (_ + _) _] _) _ _ _); k_dflt (refine' Spec.use (s_nextS _ _ _ _ _ _ _ ?hb ?hn ?hf _ _ _ _ _ _ ?hc _ _ _ _ ?hW0 ?hW) ?k1 ?k2 ?k3 ?k4 ?k5 ?kK ?kd ?ku ?_; (case k1 => k_asm); (case k2 => k_asm); (case k3 => k_asm); (case k4 => k_asm); (case k5 => k_asm); (case kK => first | exact rfl | assumption); (case hb => with_reducible assumption); (case hc => with_reducible assumption); (case hn => walk_at "m ok"); (case hf => walk_at "m flb"); (case hW0 => walk_at "m nn"); (case hW => walk_at "m below"); (case kd => ktr_room); (case ku => ktr_units)); intro v9 h9 tk9 R9 F9 N9; (obtain ⟨b9, t9, e9, i9, u9, o9⟩ := R9; subst e9); (try dsimp only); (try k_fold)))
namespace Mine
theorem s_worthG (w : World) (mean : ExcName → Option Value) (mg mb : Str → Option Value) (b : Array UInt8) (tk : Tok) (n : Int) (hb : KBw.bInts b = form n) (hn : Ok n) :
   Spec w mean mg mb 227 1 [.bytes b tk] [] (fun v => ∃ t, v = .int (fl n) t ∧ 0 ≤ fl n ∧ fl n ≤ n) := by
  have h := s_worthF w mean mg mb b tk n hb hn
  intro dp un gd cn cs a ccd cl outer A₀ base h₀ L m s Q E B F X T hk hd hu hret
  exact h dp un gd cn cs a ccd cl outer A₀ base h₀ L m s Q E B F X T hk hd hu (fun v h' tk' ⟨t, e⟩ => hret v h' tk' ⟨t, e, fl_nonneg hn.1, fl_le _⟩)
end Mine
open Mine
local macro_rules | `(tactic| walk_at "call ref") => `(tactic| (k_here; (with_reducible show wpAny _ _ (call (Value.ref 227) [Value.bytes _ _] []) _ _ _); k_dflt (refine' Spec.use (s_worthG _ _ _ _ _ _ _ ?hb ?hn) ?k1 ?k2 ?k3 ?k4 ?k5 ?kK ?kd ?ku ?_; (case k1 => k_asm); (case k2 => k_asm); (case k3 => k_asm); (case k4 => k_asm); (case k5 => k_asm); (case kK => first | exact rfl | assumption); (case hb => with_reducible assumption); (case hn => walk_at "m ok"); (case kd => ktr_room); (case ku => ktr_units)); intro v9 h9 tk9 R9 F9 N9; (obtain ⟨t9, e9, u9, o9⟩ := R9; subst e9); (try dsimp only); (try k_fold)))
namespace Mine
/-- what the rules' own dict holds -/
def RulesD (w : World) (D : Obj) (c : Array UInt8) (free : Bool) : Prop :=
  ∃ (k0 k1 k2 k3 k4 k5 k6 k7 k8 k9 k10 k11 k12 k13 k14 k15 k16 v0 v1 v2 v3 v4 v5 v6 v7 v11 v12 v13 : Tok) (a0 a1 a2 : Addr), D = W.dictOf [{ hash := PyData.keyHash w.params (PySem.Str.ofString "name"), key := .str (PySem.Str.ofString "name") k0, val := .str (PySem.Str.ofString "law") v0 }, { hash := PyData.keyHash w.params (PySem.Str.ofString "subsidy_halving_interval"), key := .str (PySem.Str.ofString "subsidy_halving_interval") k1, val := .int 210000 v1 }, { hash := PyData.keyHash w.params (PySem.Str.ofString "bip34_height"), key := .str (PySem.Str.ofString "bip34_height") k2, val := .int 0 v2 }, { hash := PyData.keyHash w.params (PySem.Str.ofString "bip66_height"), key := .str (PySem.Str.ofString "bip66_height") k3, val := .int 0 v3 }, { hash := PyData.keyHash w.params (PySem.Str.ofString "bip65_height"), key := .str (PySem.Str.ofString "bip65_height") k4, val := .int 0 v4 }, { hash := PyData.keyHash w.params (PySem.Str.ofString "csv_height"), key := .str (PySem.Str.ofString "csv_height") k5, val := .int 0 v5 }, { hash := PyData.keyHash w.params (PySem.Str.ofString "segwit_height"), key := .str (PySem.Str.ofString "segwit_height") k6, val := .int 0 v6 }, { hash := PyData.keyHash w.params (PySem.Str.ofString "pow_limit_bits"), key := .str (PySem.Str.ofString "pow_limit_bits") k7, val := .bytes c v7 }, { hash := PyData.keyHash w.params (PySem.Str.ofString "pow_allow_min_difficulty_blocks"), key := .str (PySem.Str.ofString "pow_allow_min_difficulty_blocks") k8, val := .bool free }, { hash := PyData.keyHash w.params (PySem.Str.ofString "enforce_bip94"), key := .str (PySem.Str.ofString "enforce_bip94") k9, val := .bool false }, { hash := PyData.keyHash w.params (PySem.Str.ofString "pow_no_retargeting"), key := .str (PySem.Str.ofString "pow_no_retargeting") k10, val := .bool false }, { hash := PyData.keyHash w.params (PySem.Str.ofString "pow_target_spacing"), key := .str (PySem.Str.ofString "pow_target_spacing") k11, val := .int 600 v11 }, { hash := PyData.keyHash w.params (PySem.Str.ofString "pow_target_timespan"), key := .str (PySem.Str.ofString "pow_target_timespan") k12, val := .int 1209600 v12 }, { hash := PyData.keyHash w.params (PySem.Str.ofString "minimum_chain_work"), key := .str (PySem.Str.ofString "minimum_chain_work") k13, val := .int 0 v13 }, { hash := PyData.keyHash w.params (PySem.Str.ofString "bip30_exceptions"), key := .str (PySem.Str.ofString "bip30_exceptions") k14, val := .ref a0 }, { hash := PyData.keyHash w.params (PySem.Str.ofString "bip30_unspendable"), key := .str (PySem.Str.ofString "bip30_unspendable") k15, val := .ref a1 }, { hash := PyData.keyHash w.params (PySem.Str.ofString "script_flag_exceptions"), key := .str (PySem.Str.ofString "script_flag_exceptions") k16, val := .ref a2 }] 17
theorem perm1 {n n' lim h A B C : Int} (hh : h % (1209600 / 600) = 0) (hA : A = fl n) (hB : B = lim) (hC : C = fl n') (h1 : ¬ fl (boundN A (1209600 * 4) B) < C) : decide (fl (boundN A (1209600 / 4) B) ≤ C) = letB n n' lim h := by
  subst hA; subst hB; subst hC
  have e1 : (1209600 * 4 : Int) = 4838400 := rfl
  have e2 : (1209600 / 4 : Int) = 302400 := rfl
  have e3 : (1209600 / 600 : Int) = 2016 := rfl
  rw [e1] at h1
  rw [e3] at hh
  rw [e2, letB, if_pos hh]
  by_cases c : fl (boundN (fl n) 302400 B) ≤ fl n' <;> simp [c] <;> omega
theorem perm2 {n n' lim h A B C : Int} (hh : h % (1209600 / 600) = 0) (hA : A = fl n) (hB : B = lim) (hC : C = fl n') (h1 : fl (boundN A (1209600 * 4) B) < C) : false = letB n n' lim h := by
  subst hA; subst hB; subst hC
  have e1 : (1209600 * 4 : Int) = 4838400 := rfl
  have e3 : (1209600 / 600 : Int) = 2016 := rfl
  rw [e1] at h1
  rw [e3] at hh
  rw [letB, if_pos hh]
  symm
  exact decide_eq_false fun c => by omega
theorem perm0 {n n' lim h : Int} (hh : ¬ h % (1209600 / 600) = 0) : decide (form n = form n') = letB n n' lim h := let0 hh
end Mine
open Mine
local macro_rules | `(tactic| walk_at "m enterP") => `(tactic| (refine' code_def ?k1 ?k2 ?k3 ?k4 ?k5 ?kA ?kF ?kK ?k6 ?k7 ?k8 ?k9 ?kB ?_ ?c2 ?c3 ?c4 ?c5; (case kA => exact rfl); (case kF => exact rfl); (case kK => exact rfl); (case k1 => k_asm); (case k2 => k_asm); (case k3 => k_asm); (case k4 => k_asm); (case k5 => k_asm); (case k6 => k_is); (case k7 => k_is); (case k8 => ktr_room); (case k9 => first | exact BindsTo.of_eq rfl | exact binds_K (by k_in) rfl (by k_is) rfl rfl rfl | fail "m enterP: arguments"); (case c5 => decide); (case kB => exact locs rfl); (case c2 => exact rfl); (case c3 => exact rfl); (case c4 => exact rfl); k_whole; intro g' L' h' FG' F' N' B' X' T'; (try dsimp only); (try k_lift B'); (try k_fold)))
open Mine
local macro_rules | `(tactic| walk_at "getAttr ref") => `(tactic| (k_here; (with_reducible show wpAny _ _ (getAttr (Value.ref _) (PySem.Str.ofString "difficulty_adjustment_interval") _) _ _ _); k_dflt (refine' get_prop ?k1 ?k2 ?k3 ?k4 ?k5 ?k6 ?k7 ?k8 ?k9 ?_; (case k1 => k_asm); (case k2 => k_asm); (case k3 => k_inst); (case k4 => k_is); (case k5 => k_is); (case k6 => k_is); (case k7 => k_is); (case k8 => k_is); (case k9 => k_is); k_whole; (walk_at "m enterP"))))
namespace Mine
theorem s_perm (w : World) (mean : ExcName → Option Value) (mg mb : Str → Option Value) (x d : Addr) (D : Obj) (c : Array UInt8) (p' x' y' z' : Int) (hD : RulesD w D c false) (hc : KBw.bInts c = [p', x', y', z']) (hW0 : 0 ≤ worth p' x' y' z') (hW : worth p' x' y' z' < 115792089237316195423570985008687907853269984665640564039457584007913129639936) (h : Int) (th : Tok) (b : Array UInt8) (tb : Tok) (n : Int) (hb : KBw.bInts b = form n) (hn : Ok n) (hn1 : n < 115792089237316195423570985008687907853269984665640564039457584007913129639936) (b' : Array UInt8) (tb' : Tok) (n' : Int) (hb' : KBw.bInts b' = form n') (hn' : Ok n') (hn1' : n' < 115792089237316195423570985008687907853269984665640564039457584007913129639936) :
   SpecI w mean mg mb 144 8 [(x, instObj 216 d), (d, D)] [.ref x, .int h th, .bytes b tb, .bytes b' tb'] (fun v => v = .bool (letB n n' (worth p' x' y' z') h)) := by
  obtain ⟨k0, k1, k2, k3, k4, k5, k6, k7, k8, k9, k10, k11, k12, k13, k14, k15, k16, v0, v1, v2, v3, v4, v5, v6, v7, v11, v12, v13, a0, a1, a2, rfl⟩ := hD
  unfold SpecI
  k_fill
  intro dp un gd cn cs a ccd cl outer A₀ base h₀ L m s Q E B F X N T hk hd hu hret
  refine wpAny_call ?_
  k_dflt (walk_at "m enterI")
  k_steps
  · walk_at "m retI"; exact rb (perm0 (by assumption))
  · walk_at "m retI"; exact rb (perm2 (by assumption) (by assumption) (by assumption) (by assumption) (by assumption))
  · walk_at "m retI"; exact rb (perm1 (by assumption) (by assumption) (by assumption) (by assumption) (by assumption))
theorem two_in {α : Type} {l : List α} {a b : α} (ha : a ∈ l) (hb : b ∈ l) : ∀ p ∈ [a, b], p ∈ l := fun p hp => by
  rcases List.mem_cons.mp hp with e | hp
  · exact e ▸ ha
  · exact (List.mem_singleton.mp hp) ▸ hb
end Mine
open Mine
local macro_rules | `(tactic| walk_at "call ref") => `(tactic| (k_here; (with_reducible show wpAny _ _ (call (Value.ref 144) [Value.ref _, Value.int _ _, Value.bytes _ _, Value.bytes _ _] []) _ _ _); k_dflt (refine' SpecI.use (s_perm _ _ _ _ _ _ _ _ _ _ _ _ ?hD ?hc ?hW0 ?hW _ _ _ _ _ ?hb ?hn ?hn1 _ _ _ ?hb2 ?hn2 ?hn3) ?k1 ?k2 ?k3 ?k4 ?kS ?k5 ?kK ?kd ?ku ?_; (case k1 => k_asm); (case k2 => k_asm); (case k3 => k_asm); (case k4 => k_asm); (case k5 => k_asm); (case kK => first | exact rfl | assumption); (case kS => exact two_in (by k_mem) (by k_mem)); (case hc => with_reducible assumption); (case hD => first | with_reducible assumption | exact ⟨_, _, _, _, _, _, _, _, _, _, _, _, _, _, _, _, _, _, _, _, _, _, _, _, _, _, _, _, _, _, _, rfl⟩); (case hW0 => walk_at "m nn"); (case hW => walk_at "m below"); (case hb => with_reducible assumption); (case hn => walk_at "m ok"); (case hn1 => walk_at "m below"); (case hb2 => with_reducible assumption); (case hn2 => walk_at "m ok"); (case hn3 => walk_at "m below"); (case kd => ktr_room); (case ku => ktr_units)); intro v9 h9 tk9 R9 F9 N9; (subst R9); (try dsimp only); (try k_fold)))
namespace Mine
end Mine

set_option exponentiation.threshold 10000
namespace Mine
theorem b1234 : KBw.bInts #[1, 2, 3, 4] = [1, 2, 3, 4] := rfl
theorem s_permFree (w : World) (mean : ExcName → Option Value) (mg mb : Str → Option Value) (x d : Addr) (D : Obj) (c : Array UInt8) (q0 q1 q2 q3 : Int) (hc : KBw.bInts c = [q0, q1, q2, q3]) (hD : RulesD w D c true) (h : Int) (th : Tok) (b : Array UInt8) (tb : Tok) (n : Int) (hb : KBw.bInts b = form n) (b' : Array UInt8) (tb' : Tok) (p' x' y' z' : Int) (hb' : KBw.bInts b' = [p', x', y', z']) :
   SpecI w mean mg mb 144 8 [(x, instObj 216 d), (d, D)] [.ref x, .int h th, .bytes b tb, .bytes b' tb'] (fun v => v = .bool true) := by
  obtain ⟨k0, k1, k2, k3, k4, k5, k6, k7, k8, k9, k10, k11, k12, k13, k14, k15, k16, v0, v1, v2, v3, v4, v5, v6, v7, v11, v12, v13, a0, a1, a2, rfl⟩ := hD
  unfold SpecI
  k_fill
  intro dp un gd cn cs a ccd cl outer A₀ base h₀ L m s Q E B F X N T hk hd hu hret
  refine wpAny_call ?_
  k_dflt (walk_at "m enterI")
  k_steps
  walk_at "m retI"; rfl
end Mine
open Mine
local macro_rules | `(tactic| walk_at "call ref") => `(tactic| (k_here; (with_reducible show wpAny _ _ (call (Value.ref 144) [Value.ref _, Value.int 7 _, Value.bytes _ _, Value.bytes _ _] []) _ _ _); k_dflt (refine' SpecI.use (s_permFree _ _ _ _ _ _ _ _ _ _ _ _ ?hc ?hD _ _ _ _ _ ?hb _ _ _ _ _ _ ?hb2) ?k1 ?k2 ?k3 ?k4 ?kS ?k5 ?kK ?kd ?ku ?_; (case k1 => k_asm); (case k2 => k_asm); (case k3 => k_asm); (case k4 => k_asm); (case k5 => k_asm); (case kK => first | exact rfl | assumption); (case kS => exact two_in (by k_mem) (by k_mem)); (case hc => with_reducible assumption); (case hD => first | with_reducible assumption | exact ⟨_, _, _, _, _, _, _, _, _, _, _, _, _, _, _, _, _, _, _, _, _, _, _, _, _, _, _, _, _, _, _, rfl⟩); (case hb => with_reducible assumption); (case hb2 => first | exact b1234 | kba_ints); (case kd => ktr_room); (case ku => ktr_units)); intro v9 h9 tk9 R9 F9 N9; (subst R9); (try dsimp only); (try k_fold)))
namespace Mine
theorem clampI_in (s : Int) : 302400 ≤ clampI s ∧ clampI s ≤ 4838400 := by unfold clampI; omega
theorem scaled {a c d : Int} (h0 : 0 ≤ a) (h1 : a ≤ 26959946667150639794667015087019630673637144422540572481103610249216) (hc : 0 ≤ c) (hd : d ≤ 4838400) (hcd : c ≤ d) :
    0 ≤ a * c ∧ a * c % 115792089237316195423570985008687907853269984665640564039457584007913129639936 / 1209600 ≤ a * d % 115792089237316195423570985008687907853269984665640564039457584007913129639936 / 1209600 := by
  have e1 : a * c ≤ a * d := Int.mul_le_mul_of_nonneg_left hcd h0
  have e2 : a * d ≤ a * 4838400 := Int.mul_le_mul_of_nonneg_left hd h0
  have e0 : 0 ≤ a * c := Int.mul_nonneg h0 hc
  have m1 : a * c % 115792089237316195423570985008687907853269984665640564039457584007913129639936 = a * c := Int.emod_eq_of_lt e0 (by omega)
  have m2 : a * d % 115792089237316195423570985008687907853269984665640564039457584007913129639936 = a * d := Int.emod_eq_of_lt (by omega) (by omega)
  rw [m1, m2]
  exact ⟨e0, Int.ediv_le_ediv (by decide) e1⟩
/-- the next target may follow -/
theorem next_let {o span lim h : Int} (h0 : 0 ≤ fl o) (h1 : fl o ≤ 26959946667150639794667015087019630673637144422540572481103610249216) (hl : 0 ≤ lim) (hl1 : lim < 115792089237316195423570985008687907853269984665640564039457584007913129639936) (hh : h % 2016 = 0) : letB o (nextN (fl o) span lim) lim h = true := by
  have ⟨c1, c2⟩ := clampI_in span
  have a1 := (scaled h0 h1 (c := 302400) (d := clampI span) (by decide) c2 c1).2
  have a2 := (scaled h0 h1 (c := clampI span) (d := 4838400) (by omega) (Int.le_refl _) c2).2
  have b1 := boundN_in (old := fl o) (span := 302400) hl hl1
  have b2 := boundN_in (old := fl o) (span := 4838400) hl hl1
  have b3 := nextN_in (old := fl o) (span := span) hl hl1
  have d1 : boundN (fl o) 302400 lim ≤ nextN (fl o) span lim := by unfold boundN nextN; omega
  have d2 : nextN (fl o) span lim ≤ boundN (fl o) 4838400 lim := by unfold boundN nextN; omega
  rw [letB, if_pos hh]
  exact decide_eq_true ⟨fl_mono b1.1 ⟨b3.1, by omega⟩ d1, fl_mono b3.1 ⟨b2.1, by omega⟩ d2⟩
end Mine

set_option exponentiation.threshold 10000
namespace Mine
section
variable {prog : Program} {w : World} {A : Around} {E : Value → Shared → Prop} {s : Shared} {h₀ : Heap} {env : Env} {x : Str} {body : List Stmt} {Q : Flow → Shared → Prop}
/-- a loop over a range of step d whose body stores names that nobody reads behind it: no state, the stored names are anything afterwards -/
theorem r_rangeStep {r : Addr} {a₀ b₀ d : Int} {t₀ u₀ v₀ : Tok} {n : Nat} {m₀ : Str → Option Value} (led : List (Addr × Obj)) (stored : List Str)
    (hh : A.handled = none) (hr : IsRange s.heap r a₀ b₀ d t₀ u₀ v₀) (hsmall : Builtin.Range.small a₀ b₀ d = true) (hn : Builtin.Range.rangeSize a₀ b₀ d = (n : Int)) (F : Fr h₀ env.locals s.heap m₀) (N : News h₀ env.locals s.heap led)
    (turn : ∀ (i : Nat) (k : Int) t (u : Str → Option Value) h tk own, k = a₀ + (i : Int) * d → i < n → OwnOff own (led.map (·.1)) →
      Fr h₀ env.locals h (fun y => if y = x then some (.int k t) else kstB (fun z => if stored.contains z then u z else m₀ z) [] y) → News h₀ env.locals h (led ++ own) →
      wpAny (model prog w) A (execs body env) (InvPostN h₀ env.locals (KstS (σ := Unit) (fun _ => led) (fun _ => []) (fun _ => True) x stored m₀ (fun _ _ => True) []) own (led.map (·.1)) { s with heap := h, toks := tk } Q) E { s with heap := h, toks := tk })
    (done : ∀ (u : Str → Option Value) h tk, Fr h₀ env.locals h (fun y => if y = x then u y else kstB (fun z => if stored.contains z then u z else m₀ z) [] y) → News h₀ env.locals h led → Q .next { s with heap := h, toks := tk }) :
    wpAny (model prog w) A (pyIter (.ref r)) (fun it s₂ => LoopAtV prog w A h₀ env x body Q E it s₂) E s := by
  refine wpAny_pyIter_range hr hsmall ?_
  have W : Walks prog w A s.heap.objs.size [s.heap.objs.size] [s.heap.objs.size] n (fun i v => i < n ∧ ∃ t, v = .int (a₀ + i * d) t)
      (fun i h => IsRangeIter h s.heap.objs.size (a₀ + (i : Nat) * d) ((n : Int) - (i : Nat)) d) := (Walks.range hh _ a₀ d n).bound
  refine loop_invN (fun _ m nx => KstS (σ := Unit) (fun _ => led) (fun _ => []) (fun _ => True) x stored m₀ (fun _ _ => True) [] m nx) W ?_ ?_ ?_ ?_ (by show IsRangeIter _ _ _ _ _; rw [hn]; simpa using Heap.get?_push_size _ rfl) (F.push _) (fun p hp => ⟨Heap.get?_push_of_some _ (N p hp).1, (N p hp).2⟩) ⟨(), rfl, True.intro, List.forall_mem_nil _, fun _ _ _ _ => rfl, True.intro⟩ ?_ ?_
  · exact fun hm => absurd F.ns.lt ((List.mem_singleton.mp hm) ▸ Nat.lt_irrefl _)
  · exact fun b hb => (List.mem_singleton.mp hb) ▸ next_is_new F
  · exact fun p hp hI => absurd (Heap.lt_size (N p hp).1) ((List.mem_singleton.mp hI) ▸ Nat.lt_irrefl _)
  · exact fun p hp hI => absurd (Heap.lt_size (N p hp).1) ((List.mem_singleton.mp hI) ▸ Nat.lt_irrefl _)
  · rintro i v m₁ nx h tk own hi ⟨_, t, rfl⟩ _ hoff ⟨c, rfl, hf', h1, h2, _⟩ F₁ N₁
    exact turn i _ t m₁ h tk own rfl hi hoff (kst_fr h1 h2 F₁) N₁
  · rintro m₁ nx h tk ⟨c, rfl, hf', h1, h2, _⟩ F₁ N₁
    exact done m₁ h tk (kst_frOut h1 h2 F₁) N₁
end
theorem range2_size (N : Nat) : ∃ n : Nat, Builtin.Range.rangeSize 0 ((if 4 < (N : Int) then 4 else (N : Int)) - 1) 2 = (n : Int) ∧ ∀ i : Nat, i < n → 2 * (i : Int) + 1 < (N : Int) := by
  unfold Builtin.Range.rangeSize
  simp only [show (2 : Int) > 0 by decide, if_true]
  refine ⟨((if (0 : Int) < (if 4 < (N : Int) then 4 else (N : Int)) - 1 then ((if 4 < (N : Int) then 4 else (N : Int)) - 1 - 0 - 1) / 2 + 1 else 0)).toNat, ?_, ?_⟩
  · split <;> split <;> omega
  · intro i hi
    split at hi <;> split at hi <;> omega
theorem range2_small (N : Nat) : Builtin.Range.small 0 ((if 4 < (N : Int) then 4 else (N : Int)) - 1) 2 = true := by
  unfold Builtin.Range.small Builtin.Range.rangeSize
  simp only [Builtin.Range.rangeFitsLong, Bool.and_eq_true, Bool.or_eq_true, decide_eq_true_eq, beq_iff_eq, show (2 : Int) > 0 by decide, if_true]
  split <;> split <;> omega
end Mine

set_option exponentiation.threshold 256
namespace Mine
section
variable {prog : Program} {w : World} {A : Around} {E : Value → Shared → Prop} {s : Shared} {h₀ : Heap} {env : Env} {x : Str} {body : List Stmt} {Q : Flow → Shared → Prop}
/-- the law's second loop -/
theorem r_rangeLaw {r : Addr} {N : Nat} {t₀ u₀ v₀ : Tok} {m₀ : Str → Option Value} {led : List (Addr × Obj)} (stored : List Str)
    (hh : A.handled = none) (hr : IsRange s.heap r 0 ((if 4 < (N : Int) then 4 else (N : Int)) - 1) 2 t₀ u₀ v₀) (F : Fr h₀ env.locals s.heap m₀) (Nw : News h₀ env.locals s.heap led)
    (turn : ∀ (k : Int) t (u : Str → Option Value) h tk own, 0 ≤ k → k + 1 < (N : Int) → OwnOff own (led.map (·.1)) →
      Fr h₀ env.locals h (fun y => if y = x then some (.int k t) else kstB (fun z => if stored.contains z then u z else m₀ z) [] y) → News h₀ env.locals h (led ++ own) →
      wpAny (model prog w) A (execs body env) (InvPostN h₀ env.locals (KstS (σ := Unit) (fun _ => led) (fun _ => []) (fun _ => True) x stored m₀ (fun _ _ => True) []) own (led.map (·.1)) { s with heap := h, toks := tk } Q) E { s with heap := h, toks := tk })
    (done : ∀ (u : Str → Option Value) h tk, Fr h₀ env.locals h (fun y => if y = x then u y else kstB (fun z => if stored.contains z then u z else m₀ z) [] y) → News h₀ env.locals h led → Q .next { s with heap := h, toks := tk }) :
    wpAny (model prog w) A (pyIter (.ref r)) (fun it s₂ => LoopAtV prog w A h₀ env x body Q E it s₂) E s := by
  obtain ⟨n, hn, hb⟩ := range2_size N
  refine r_rangeStep led stored hh hr (range2_small N) hn F Nw (fun i k t u h tk own hk hi ho F' N' => ?_) done
  have := hb i hi
  exact turn k t u h tk own (by omega) (by omega) ho F' N'
end
end Mine

set_option exponentiation.threshold 256
namespace Mine
section
variable {prog : Program} {w : World} {A : Around} {E : Value → Shared → Prop} {s : Shared} {h₀ : Heap} {env : Env} {x : Str} {body : List Stmt} {Q : Flow → Shared → Prop}
/-- a loop over a list that the def has made, by a property of its items; the body's names are anything afterwards -/
theorem r_listP {l : Addr} {vs : List Value} {nn : Nat} {m₀ : Str → Option Value} {led : List (Addr × Obj)} (stored : List Str) (P : Value → Prop)
    (hh : A.handled = none) (hl : (l, listOf vs.toArray nn) ∈ led) (hP : ∀ v ∈ vs, P v) (F : Fr h₀ env.locals s.heap m₀) (N : News h₀ env.locals s.heap led)
    (turn : ∀ v (u : Str → Option Value) h tk own, P v → OwnOff own (led.map (·.1)) →
      Fr h₀ env.locals h (fun y => if y = x then some v else kstB (fun z => if stored.contains z then u z else m₀ z) [] y) → News h₀ env.locals h (led ++ own) →
      wpAny (model prog w) A (execs body env) (InvPostN h₀ env.locals (KstS (σ := Unit) (fun _ => led) (fun _ => []) (fun _ => True) x stored m₀ (fun _ _ => True) []) own (led.map (·.1)) { s with heap := h, toks := tk } Q) E { s with heap := h, toks := tk })
    (done : ∀ (u : Str → Option Value) h tk, Fr h₀ env.locals h (fun y => if y = x then u y else kstB (fun z => if stored.contains z then u z else m₀ z) [] y) → News h₀ env.locals h led → Q .next { s with heap := h, toks := tk }) :
    wpAny (model prog w) A (pyIter (.ref l)) (fun it s₂ => LoopAtV prog w A h₀ env x body Q E it s₂) E s := by
  have hol : s.heap.get? l = some (listOf vs.toArray nn) := (N _ hl).1
  have hls : s.heap.IsList l vs.toArray := ⟨_, hol, rfl, nn, rfl⟩
  have hne : l ≠ s.heap.objs.size := Nat.ne_of_lt (Heap.lt_size hol)
  refine wpAny_pyIter_list hls ?_
  have W := Walks.list (prog := prog) (w := w) hh s.heap.objs.size l hne vs.toArray
  refine ⟨_, _, _, vs.toArray.size, _, _, m₀, led, (fun _ m nx => KstS (σ := Unit) (fun _ => led) (fun _ => []) (fun _ => True) x stored m₀ (fun _ _ => True) [] m nx), rfl, W, ?_, ?_, ?_,
    ⟨⟨_, Heap.get?_push_size _ rfl, rfl, rfl⟩, hls.at fun o e => Heap.get?_push_of_some _ e⟩, F.push _, (fun p hp => ⟨Heap.get?_push_of_some _ (N p hp).1, (N p hp).2⟩), ⟨(), rfl, True.intro, List.forall_mem_nil _, fun _ _ _ _ => rfl, True.intro⟩, ?_, ?_⟩
  · intro hm
    rcases List.mem_cons.mp hm with e | hm
    · exact absurd F.ns.lt (e ▸ Nat.lt_irrefl _)
    · exact (N _ hl).2.1 ((List.mem_singleton.mp hm).symm)
  · intro b hb
    rw [List.mem_singleton.mp hb]
    exact next_is_new F
  · intro p hp hI
    exact absurd (Heap.lt_size (N p hp).1) ((List.mem_singleton.mp hI) ▸ Nat.lt_irrefl _)
  · rintro i v m₁ news₁ s₁ own ⟨hh', tk', rfl⟩ hin hPi ⟨c, hnx, hf', h1, h2, _⟩ hoff hown hget hfp _ F₁ N₁
    rw [hnx] at N₁ hoff
    clear hnx
    have hmem : v ∈ vs := List.mem_of_getElem? (by simpa using hPi)
    have hsep : OwnOff (own.filter fun p => decide (p.1 = s.heap.objs.size)) (led.map (·.1)) := by
      intro p hp b hb e
      obtain ⟨q, hq, rfl⟩ := List.mem_map.mp hb
      have h1 : p.1 = s.heap.objs.size := by simpa using (List.mem_filter.mp hp).2
      exact absurd (Heap.lt_size (N q hq).1) (by rw [← e, h1]; exact Nat.lt_irrefl _)
    have N₂ : News h₀ env.locals hh' (led ++ own.filter fun p => decide (p.1 = s.heap.objs.size)) := fun p hp => N₁ p ((List.mem_append.mp hp).elim (fun h => List.mem_append.mpr (.inr h)) fun h => List.mem_append.mpr (.inl ((List.mem_filter.mp h).1)))
    have hlo : hh'.get? l = some (listOf vs.toArray nn) := (N₁ _ (List.mem_append.mpr (.inr hl))).1
    refine wpAny_mono (turn v m₁ hh' tk' _ (hP v hmem) hsep (kst_fr h1 h2 F₁) N₂) (fun f s₂ p => ?_) fun _ _ e => e
    have close : InvEndN h₀ env.locals (KstS (σ := Unit) (fun _ => led) (fun _ => []) (fun _ => True) x stored m₀ (fun _ _ => True) []) (own.filter fun p => decide (p.1 = s.heap.objs.size)) (led.map (·.1)) { s with heap := hh', toks := tk' } s₂ →
        LoopStepU h₀ env.locals [s.heap.objs.size] own (fun m nx => KstS (σ := Unit) (fun _ => led) (fun _ => []) (fun _ => True) x stored m₀ (fun _ _ => True) [] m nx) { s with heap := hh', toks := tk' } .next s₂ := by
      rintro ⟨h', tk, m', news', nx, e, F', N', hn, ho, ha, hm⟩
      have hnx : nx = led := by obtain ⟨_, e, _⟩ := hm; exact e
      rw [hnx] at hm hn
      refine ⟨rfl, h', tk, m', led, e, F', fun p hp => ?_, fun p hp hI => ?_, hm⟩
      · rcases List.mem_append.mp hp with hq | hq
        · by_cases c : p.1 = s.heap.objs.size
          · exact N' p (ho p (List.mem_filter.mpr ⟨hq, by simpa using c⟩))
          · have e1 : p.1 = l := by
              rcases List.mem_cons.mp (hown p hq) with e2 | e2
              · exact absurd e2 c
              · exact List.mem_singleton.mp e2
            have e2 : hh'.get? p.1 = some p.2 := hget p hq
            rw [e1, hlo] at e2
            rw [show p = (l, listOf vs.toArray nn) from Prod.ext e1 (Option.some.inj e2).symm]
            exact N' _ (hn _ hl)
        · exact N' p (hn p hq)
      · exact absurd (Heap.lt_size (N p hp).1) (by rw [List.mem_singleton.mp hI]; exact Nat.lt_irrefl _)
    cases f with
    | ret v => exact .ret p
    | brk => exact .brk p
    | next => exact .next (close p)
    | cont => exact .cont (close p)
  · rintro h' tk m' news' F' N' _ ⟨c, hnx, hf', h1, h2, _⟩
    rw [hnx] at N'
    exact done m' h' tk (kst_frOut h1 h2 F') N'
end
end Mine

set_option exponentiation.threshold 256
namespace Mine
def FormV (v : Value) : Prop := ∃ b t n, v = .bytes b t ∧ KBw.bInts b = form n ∧ Ok n ∧ n < 115792089237316195423570985008687907853269984665640564039457584007913129639936
def IntV (v : Value) : Prop := ∃ k t, v = .int k t
theorem mod2016 (h : Int) : 2016 * (1 + h) % 2016 = 0 := Int.mul_emod_right 2016 (1 + h)
section
variable {prog : Program} {w : World} {A : Around} {E : Value → Shared → Prop} {s : Shared} {h₀ : Heap} {env : Env} {x : Str} {body : List Stmt} {Q : Flow → Shared → Prop}
theorem r_listForm {l : Addr} {vs : List Value} {nn : Nat} {m₀ : Str → Option Value} {led : List (Addr × Obj)} (stored : List Str)
    (hh : A.handled = none) (hl : (l, listOf vs.toArray nn) ∈ led) (hP : ∀ v ∈ vs, FormV v) (F : Fr h₀ env.locals s.heap m₀) (N : News h₀ env.locals s.heap led)
    (turn : ∀ b t n (u : Str → Option Value) h tk own, KBw.bInts b = form n → Ok n → n < 115792089237316195423570985008687907853269984665640564039457584007913129639936 → OwnOff own (led.map (·.1)) →
      Fr h₀ env.locals h (fun y => if y = x then some (.bytes b t) else kstB (fun z => if stored.contains z then u z else m₀ z) [] y) → News h₀ env.locals h (led ++ own) →
      wpAny (model prog w) A (execs body env) (InvPostN h₀ env.locals (KstS (σ := Unit) (fun _ => led) (fun _ => []) (fun _ => True) x stored m₀ (fun _ _ => True) []) own (led.map (·.1)) { s with heap := h, toks := tk } Q) E { s with heap := h, toks := tk })
    (done : ∀ (u : Str → Option Value) h tk, Fr h₀ env.locals h (fun y => if y = x then u y else kstB (fun z => if stored.contains z then u z else m₀ z) [] y) → News h₀ env.locals h led → Q .next { s with heap := h, toks := tk }) :
    wpAny (model prog w) A (pyIter (.ref l)) (fun it s₂ => LoopAtV prog w A h₀ env x body Q E it s₂) E s :=
  r_listP stored FormV hh hl hP F N (fun v u h tk own hv ho F' N' => by
    obtain ⟨b, t, n, e, i, k, m⟩ := hv
    subst e
    exact turn b t n u h tk own i k m ho F' N') done
theorem r_listInt {l : Addr} {vs : List Value} {nn : Nat} {m₀ : Str → Option Value} {led : List (Addr × Obj)} (stored : List Str)
    (hh : A.handled = none) (hl : (l, listOf vs.toArray nn) ∈ led) (hP : ∀ v ∈ vs, IntV v) (F : Fr h₀ env.locals s.heap m₀) (N : News h₀ env.locals s.heap led)
    (turn : ∀ k t (u : Str → Option Value) h tk own, OwnOff own (led.map (·.1)) →
      Fr h₀ env.locals h (fun y => if y = x then some (.int k t) else kstB (fun z => if stored.contains z then u z else m₀ z) [] y) → News h₀ env.locals h (led ++ own) →
      wpAny (model prog w) A (execs body env) (InvPostN h₀ env.locals (KstS (σ := Unit) (fun _ => led) (fun _ => []) (fun _ => True) x stored m₀ (fun _ _ => True) []) own (led.map (·.1)) { s with heap := h, toks := tk } Q) E { s with heap := h, toks := tk })
    (done : ∀ (u : Str → Option Value) h tk, Fr h₀ env.locals h (fun y => if y = x then u y else kstB (fun z => if stored.contains z then u z else m₀ z) [] y) → News h₀ env.locals h led → Q .next { s with heap := h, toks := tk }) :
    wpAny (model prog w) A (pyIter (.ref l)) (fun it s₂ => LoopAtV prog w A h₀ env x body Q E it s₂) E s :=
  r_listP stored IntV hh hl hP F N (fun v u h tk own hv ho F' N' => by
    obtain ⟨k, t, e⟩ := hv
    subst e
    exact turn k t u h tk own ho F' N') done
theorem kmap {stored : List Str} {v u m₀ : Str → Option Value} {z : Str} (h1 : z ≠ x) (h2 : stored.contains z = false) : (if z = x then v z else kstB (fun y => if stored.contains y then u y else m₀ y) [] z) = m₀ z := by
  rw [if_neg h1]
  show (if stored.contains z = true then u z else m₀ z) = m₀ z
  rw [h2]
  rfl
theorem turn_end {L : Addr} {stored : List Str} {m₀ m' : Str → Option Value} {led own : List (Addr × Obj)} {h' : Heap} {tk : Nat} (F : Fr h₀ L h' m') (N : News h₀ L h' (led ++ own)) (hr : ∀ z, z ≠ x → stored.contains z = false → m' z = m₀ z) :
    InvEndN h₀ L (KstS (σ := Unit) (fun _ => led) (fun _ => []) (fun _ => True) x stored m₀ (fun _ _ => True) []) own (led.map (·.1)) s { s with heap := h', toks := tk } :=
  kst_end () F N (fun p hp => List.mem_append.mpr (.inl hp)) (fun p hp => List.mem_append.mpr (.inr hp)) rfl True.intro (List.forall_mem_nil _) (fun z h1 _ h3 => hr z h1 h3) True.intro
theorem turn_end1 {L : Addr} {stored : List Str} {m₀ m' : Str → Option Value} {q : Addr × Obj} {led own : List (Addr × Obj)} {h' : Heap} {tk : Nat} (F : Fr h₀ L h' m') (N : News h₀ L h' (q :: (led ++ own))) (hr : ∀ z, z ≠ x → stored.contains z = false → m' z = m₀ z) :
    InvEndN h₀ L (KstS (σ := Unit) (fun _ => led) (fun _ => []) (fun _ => True) x stored m₀ (fun _ _ => True) []) own (led.map (·.1)) s { s with heap := h', toks := tk } :=
  turn_end F (cb_drop N fun p hp => .tail _ hp) hr
theorem turn_endA {L : Addr} {v u m₀ : Str → Option Value} {led own : List (Addr × Obj)} {h' : Heap} {tk : Nat} (F : Fr h₀ L h' (fun y => if y = x then v y else kstB (fun z => if ([] : List Str).contains z then u z else m₀ z) [] y)) (N : News h₀ L h' (led ++ own)) :
    InvEndN h₀ L (KstS (σ := Unit) (fun _ => led) (fun _ => []) (fun _ => True) x [] m₀ (fun _ _ => True) []) own (led.map (·.1)) s { s with heap := h', toks := tk } :=
  turn_end F N fun _ h1 _ => kmap h1 rfl
theorem turn_endB {L : Addr} {x2 : Str} {stored : List Str} {v u v2 u2 m₀ : Str → Option Value} {q : Addr × Obj} {led own : List (Addr × Obj)} {h' : Heap} {tk : Nat}
    (F : Fr h₀ L h' (fun y => if y = x2 then v2 y else kstB (fun z => if ([] : List Str).contains z then u2 z else if z = x then v z else kstB (fun z => if stored.contains z then u z else m₀ z) [] z) [] y)) (N : News h₀ L h' (q :: (led ++ own))) (hx : ∀ z, stored.contains z = false → z ≠ x2) :
    InvEndN h₀ L (KstS (σ := Unit) (fun _ => led) (fun _ => []) (fun _ => True) x stored m₀ (fun _ _ => True) []) own (led.map (·.1)) s { s with heap := h', toks := tk } :=
  turn_end1 F N fun z h1 h3 => (kmap (stored := []) (m₀ := fun z => if z = x then v z else kstB (fun z => if stored.contains z then u z else m₀ z) [] z) (hx z h3) rfl).trans (kmap h1 h3)
end
theorem not_place {z : Str} (h : [PySem.Str.ofString "place"].contains z = false) : z ≠ PySem.Str.ofString "place" := fun e => by
  rw [e] at h
  exact absurd h (by decide)
end Mine
open Mine
local macro_rules | `(tactic| walk_at "InvPostN") => `(tactic| (k_here; (rename Fr _ _ _ _ => kF); (rename News _ _ _ _ => kN); first
  | exact turn_endA kF kN
  | exact turn_endB kF kN (fun _ h => not_place h)))
open Mine
local macro_rules | `(tactic| walk_at "InvEndN") => `(tactic| (k_here; (rename Fr _ _ _ _ => kF); (rename News _ _ _ _ => kN); first
  | exact turn_endA kF kN
  | exact turn_endB kF kN (fun _ h => not_place h)))
open Mine
local macro_rules | `(tactic| walk_at "pyIter ref") => `(tactic| (k_here; (with_reducible show wpAny _ _ (pyIter (Value.ref _)) (fun it s₂ => LoopAtV _ _ _ _ _ (PySem.Str.ofString "other") _ _ _ it s₂) _ _); (rename Fr _ _ _ _ => lF'); (rename News _ _ _ _ => lN'); k_dflt (refine' Mine.r_listForm [PySem.Str.ofString "place"] ?kh ?kl ?kp lF' lN' (fun b9 t9 n9 u9 h9 tk9 own9 i9 k9 m9 ho9 F9 N9 => ?_) (fun u9 h9 tk9 F9 N9 => ?_); (case kh => exact rfl); (case kl => k_mem); (case kp => (repeat' (refine List.forall_mem_cons.mpr ⟨?_, ?_⟩)) <;> (first | exact List.forall_mem_nil _ | exact ⟨_, _, _, rfl, by with_reducible assumption, by walk_at "m ok", by walk_at "m below"⟩))); (all_goals (clear lF' lN')); (all_goals (try dsimp only)); (all_goals (try k_fold))))
open Mine
local macro_rules | `(tactic| walk_at "pyIter ref") => `(tactic| (k_here; (with_reducible show wpAny _ _ (pyIter (Value.ref _)) (fun it s₂ => LoopAtV _ _ _ _ _ (PySem.Str.ofString "place") _ _ _ it s₂) _ _); (rename Fr _ _ _ _ => lF'); (rename News _ _ _ _ => lN'); k_dflt (refine' Mine.r_listInt [] ?kh ?kl ?kp lF' lN' (fun k9 t9 u9 h9 tk9 own9 ho9 F9 N9 => ?_) (fun u9 h9 tk9 F9 N9 => ?_); (case kh => exact rfl); (case kl => k_mem); (case kp => (repeat' (refine List.forall_mem_cons.mpr ⟨?_, ?_⟩)) <;> (first | exact List.forall_mem_nil _ | exact ⟨_, _, rfl⟩))); (all_goals (clear lF' lN')); (all_goals (try dsimp only)); (all_goals (try k_fold))))

set_option exponentiation.threshold 256
namespace Mine
/-- a contract for the maker of the rules: two new things on the ledger -/
def SpecR (w : World) (mean : ExcName → Option Value) (mg mb : Str → Option Value) (f : Addr) (need : Nat) (c : Array UInt8) (free : Bool) (vs : List Value) : Prop :=
  ∀ (dp un : Nat) (gd : Option (List Code)) (cn : Str) (cs : Scope) (a : Addr) (ccd : Value) (cl : List (Str × Addr)) (outer : List Env) (A₀ : Around) (base h₀ : Heap) (L : Addr) (m : Str → Option Value) (s : Shared)
    (Q E : Value → Shared → Prop),
    Below A₀ base outer h₀ → Fr h₀ L s.heap m → (Mine.hd.heap_39 w.params).In h₀ → Top Mine.hd.view_39 LO mean mg mb h₀ → cs.kind = .function →
    dp + need < recursionLimit → un + 8 * need < cLine →
    (∀ (x d : Addr) (D : Obj) h' tk', RulesD w D c free → Fr h₀ L h' m → News h₀ L h' [(x, instObj 216 d), (d, D)] → s.heap.StaysIn h' → Q (.ref x) { s with heap := h', toks := tk' }) →
    wpAny (model Challenge.rw_ez0015_01.row.prog w) (ktrTop dp un gd cn cs L a ccd cl outer) (call (.ref f) vs) Q E s
theorem SpecR.use {w : World} {mean : ExcName → Option Value} {mg mb : Str → Option Value} {f : Addr} {need : Nat} {c : Array UInt8} {free : Bool} {vs : List Value} {dp un : Nat} {gd : Option (List Code)} {cn : Str} {cs : Scope} {a : Addr} {ccd : Value} {cl : List (Str × Addr)} {outer : List Env} {A₀ : Around} {base h₀ : Heap} {L : Addr} {m : Str → Option Value} {news : List (Addr × Obj)} {s : Shared}
    {Q E : Value → Shared → Prop} (C : SpecR w mean mg mb f need c free vs) (B : Below A₀ base outer h₀) (F : Fr h₀ L s.heap m) (X : (Mine.hd.heap_39 w.params).In h₀) (N : News h₀ L s.heap news) (T : Top Mine.hd.view_39 LO mean mg mb h₀) (hk : cs.kind = .function)
    (hd : dp + need < recursionLimit) (hu : un + 8 * need < cLine)
    (ret : ∀ (x d : Addr) (D : Obj) h' tk', RulesD w D c free → Fr h₀ L h' m → News h₀ L h' ((x, instObj 216 d) :: (d, D) :: news) → Q (.ref x) { s with heap := h', toks := tk' }) :
    wpAny (model Challenge.rw_ez0015_01.row.prog w) (ktrTop dp un gd cn cs L a ccd cl outer) (call (.ref f) vs) Q E s :=
  C _ _ _ _ _ _ _ _ _ _ _ _ _ _ _ _ _ B F X T hk hd hu fun x d D h' tk' r F' N' st => ret x d D h' tk' r F' fun p hp => by
    rcases List.mem_cons.mp hp with e | hp
    · exact N' p (e ▸ List.mem_cons_self)
    · rcases List.mem_cons.mp hp with e | hp
      · exact N' p (e ▸ List.mem_cons_of_mem _ List.mem_cons_self)
      · exact news_stays N st p hp
theorem rules_frame {h₀ h : Heap} {L : Addr} {l : List (Str × Value)} {v0 v1 v2 v3 v4 v5 v6 v7 v8 v9 v10 v11 v12 v13 v14 v15 v16 v17 : Value} (F : Fr h₀ L h (fun y => List.lookup y l)) (e : l = [(PySem.Str.ofString "script_flag_exceptions", v17), (PySem.Str.ofString "bip30_unspendable", v16), (PySem.Str.ofString "bip30_exceptions", v15), (PySem.Str.ofString "minimum_chain_work", v14), (PySem.Str.ofString "pow_target_timespan", v13), (PySem.Str.ofString "pow_target_spacing", v12), (PySem.Str.ofString "pow_no_retargeting", v11), (PySem.Str.ofString "enforce_bip94", v10), (PySem.Str.ofString "pow_allow_min_difficulty_blocks", v9), (PySem.Str.ofString "pow_limit_bits", v8), (PySem.Str.ofString "segwit_height", v7), (PySem.Str.ofString "csv_height", v6), (PySem.Str.ofString "bip65_height", v5), (PySem.Str.ofString "bip66_height", v4), (PySem.Str.ofString "bip34_height", v3), (PySem.Str.ofString "subsidy_halving_interval", v2), (PySem.Str.ofString "name", v1), (PySem.Str.ofString "self", v0)]) :
    ∃ m : Str → Option Value, Fr h₀ L h m ∧ m (PySem.Str.ofString "self") = some v0 ∧ m (PySem.Str.ofString "name") = some v1 ∧ m (PySem.Str.ofString "subsidy_halving_interval") = some v2 ∧ m (PySem.Str.ofString "bip34_height") = some v3 ∧ m (PySem.Str.ofString "bip66_height") = some v4 ∧ m (PySem.Str.ofString "bip65_height") = some v5 ∧ m (PySem.Str.ofString "csv_height") = some v6 ∧ m (PySem.Str.ofString "segwit_height") = some v7 ∧ m (PySem.Str.ofString "pow_limit_bits") = some v8 ∧ m (PySem.Str.ofString "pow_allow_min_difficulty_blocks") = some v9 ∧ m (PySem.Str.ofString "enforce_bip94") = some v10 ∧ m (PySem.Str.ofString "pow_no_retargeting") = some v11 ∧ m (PySem.Str.ofString "pow_target_spacing") = some v12 ∧ m (PySem.Str.ofString "pow_target_timespan") = some v13 ∧ m (PySem.Str.ofString "minimum_chain_work") = some v14 ∧ m (PySem.Str.ofString "bip30_exceptions") = some v15 ∧ m (PySem.Str.ofString "bip30_unspendable") = some v16 ∧ m (PySem.Str.ofString "script_flag_exceptions") = some v17 := by
  subst e
  exact ⟨_, F, by kernel_rfl, by kernel_rfl, by kernel_rfl, by kernel_rfl, by kernel_rfl, by kernel_rfl, by kernel_rfl, by kernel_rfl, by kernel_rfl, by kernel_rfl, by kernel_rfl, by kernel_rfl, by kernel_rfl, by kernel_rfl, by kernel_rfl, by kernel_rfl, by kernel_rfl, by kernel_rfl⟩
theorem ret_rules {w : World} {c : Array UInt8} {free : Bool} {h₀ h' g : Heap} {L L' x d : Addr} {D : Obj} {m m' : Str → Option Value} {s : Shared} {Q : Value → Shared → Prop} {tk' : Nat} {news' : List (Addr × Obj)}
    (hret : ∀ (x d : Addr) (D : Obj) h' tk', RulesD w D c free → Fr h₀ L h' m → News h₀ L h' [(x, instObj 216 d), (d, D)] → s.heap.StaysIn h' → Q (.ref x) { s with heap := h', toks := tk' })
    (hR : RulesD w D c free) (F : Fr h₀ L h' m) (N : News h₀ L h' news') (h1 : (x, instObj 216 d) ∈ news') (h2 : (d, D) ∈ news') (st : s.heap.StaysIn g) (F' : Fr g L' h' m') : Q (.ref x) { s with heap := h', toks := tk' } :=
  hret _ _ _ _ _ hR F (cb_drop N (two_in h1 h2)) fun b o e => F'.keep b o (st b o e)
local macro_rules | `(tactic| k_room) => `(tactic| ktr_room)
local macro_rules | `(tactic| walk_at "eval Name") => `(tactic| (k_here; name_kind "local"; k_dflt (refine' ld ?k1 ?k2 ?_; (case k1 => k_asm); (case k2 => with_reducible assumption); k_whole)))
local macro_rules | `(tactic| walk_at "execs cons Assign cons") => `(tactic| (k_here; (with_reducible show wpAny _ _ (execs (Stmt.Assign [Expr.Attribute (Expr.Name (PySem.Str.ofString "self") _) (PySem.Str.ofString "name") _] _ _ :: _) _) _ _ _); (with_reducible rename Fr _ _ _ (fun y => List.lookup y _) => kF); k_dflt (obtain ⟨mR, kG, e0, e1, e2, e3, e4, e5, e6, e7, e8, e9, e10, e11, e12, e13, e14, e15, e16, e17⟩ := rules_frame kF rfl); clear kF; refine wpAny_execs_cons ?_))
theorem s_rules (w : World) (mean : ExcName → Option Value) (mg mb : Str → Option Value) (c : Array UInt8) (tc : Tok) (free : Bool) :
   SpecR w mean mg mb 269 4 c free [.bytes c tc, .bool free] := by
  unfold SpecR
  k_fill
  intro dp un gd cn cs a ccd cl outer A₀ base h₀ L m s Q E B F X T hk hd hu hret
  refine wpAny_call ?_
  k_dflt (walk_at "m enter")
  k_steps
  refine' ret_rules hret ?hR ?F ?N ?h1 ?h2 ?st ?F2
  case F => k_asm
  case N => k_asm
  case h1 => k_mem
  case h2 => k_mem
  case hR => exact ⟨_, _, _, _, _, _, _, _, _, _, _, _, _, _, _, _, _, _, _, _, _, _, _, _, _, _, _, _, _, _, _, rfl⟩
  case st => with_reducible assumption
  case F2 => with_reducible assumption
end Mine
open Mine
local macro_rules | `(tactic| walk_at "call ref") => `(tactic| (k_here; (with_reducible show wpAny _ _ (call (Value.ref 269) [Value.bytes _ _, Value.bool _] []) _ _ _); k_dflt (refine' SpecR.use (s_rules _ _ _ _ _ _ _) ?k1 ?k2 ?k3 ?k4 ?k5 ?kK ?kd ?ku ?_; (case k1 => k_asm); (case k2 => k_asm); (case k3 => k_asm); (case k4 => k_asm); (case k5 => k_asm); (case kK => first | exact rfl | assumption); (case kd => ktr_room); (case ku => ktr_units)); intro x9 d9 D9 h9 tk9 R9 F9 N9; (try dsimp only); (try k_fold)))

set_option exponentiation.threshold 256
namespace Mine
theorem not_spans {o span lim h : Int} {G : Prop} (hF : letB o (nextN (fl o) span lim) lim (2016 * (1 + h)) = false) (h0 : 0 ≤ fl o) (h1 : fl o ≤ 26959946667150639794667015087019630673637144422540572481103610249216) (hl : 0 ≤ lim) (hl1 : lim < 115792089237316195423570985008687907853269984665640564039457584007913129639936) : G := by
  rw [next_let h0 h1 hl hl1 (mod2016 h)] at hF; cases hF
theorem s_spans (w : World) (mean : ExcName → Option Value) (mg mb : Str → Option Value) (n span h : Int) (tk t2 t3 : Tok) : SpecL w mean mg mb 290 [.int n tk, .int span t2, .int h t3] (fun v => v = .bool true) := by
  unfold SpecL
  k_fill
  intro cn cs a ccd h₀ L m news s Q E F X N T hk hret
  refine wpAny_call ?_
  k_dflt (walk_at "m enterL")
  k_steps
  all_goals first
    | (rename Fr _ _ _ _ => kF; rename News _ _ _ _ => kN; exact retL hret rfl kF kN (fun _ h => by simp only [List.mem_cons, List.mem_append]; simp only [h, true_or, or_true]))
    | (rename letB _ _ _ _ = false => hF; exact not_spans hF (by with_reducible assumption) (by omega) (by with_reducible assumption) (by omega))
end Mine

set_option exponentiation.threshold 256
namespace Mine
def GoodB (b : Array UInt8) : Prop := ∃ n, KBw.bInts b = form n ∧ 1 ≤ n ∧ n < 57896044618658097711785492504343953926634992332820282019728792003956564819968
def GoodV (v : Value) : Prop := ∃ b t, v = .bytes b t ∧ GoodB b
def wb (b : Array UInt8) : Int := match KBw.bInts b with
  | [p, x, y, z] => worth p x y z
  | _ => 0
/-- the work that a form tells -/
def wk (b : Array UInt8) : Int := 115792089237316195423570985008687907853269984665640564039457584007913129639936 / (wb b + 1)
def itB : ItemKind (Array UInt8) := ⟨fun b v => ∃ t, v = .bytes b t, fun v => match v with | .bytes b _ => some b | _ => none, fun _ _ h => by obtain ⟨t, rfl⟩ := h; rfl⟩
theorem itB_is {b : Array UInt8} {v : Value} (h : itB.is b v) : ∃ t, v = .bytes b t := h
theorem goods {ys : List Value} (h : ∀ y ∈ ys, GoodV y) : ∃ bs, AreOf itB ys bs ∧ ∀ b ∈ bs, GoodB b := by
  induction ys with
  | nil => exact ⟨[], .nil, fun _ h => nomatch h⟩
  | cons y r ih =>
    obtain ⟨bs, h1, h2⟩ := ih fun z hz => h z (List.mem_cons_of_mem _ hz)
    obtain ⟨b, t, e, g⟩ := h y List.mem_cons_self
    exact ⟨b :: bs, .cons ⟨t, e⟩ h1, List.forall_mem_cons.mpr ⟨g, h2⟩⟩
theorem fl_one : fl 1 = 1 := by decide +kernel
theorem GoodB.of {b : Array UInt8} (g : GoodB b) : ∃ p x y z, KBw.bInts b = [p, x, y, z] ∧ wb b = worth p x y z ∧ 0 < worth p x y z ∧ worth p x y z < 115792089237316195423570985008687907853269984665640564039457584007913129639936 := by
  obtain ⟨n, e, h1, h2⟩ := g
  have hn : Ok n := ⟨by omega, by omega⟩
  have hw := worth_form hn
  have h3 : fl 1 ≤ fl n := fl_mono (by decide) hn h1
  have h4 := fl_le n
  rw [fl_one] at h3
  refine ⟨_, _, _, _, e, ?_, by rw [hw]; omega, by rw [hw]; omega⟩
  unfold wb
  rw [e]
  rfl
theorem ints_snoc {k : Int} {t : Tok} : ∀ {vs : List Value} {ks : List Int}, IntsAre vs ks → IntsAre (vs ++ [.int k t]) (ks ++ [k])
  | _, _, .nil => .cons k t .nil
  | _, _, .cons z u r => .cons z u (ints_snoc r)
section
variable {prog : Program} {w : World} {A : Around} {E : Value → Shared → Prop} {s : Shared} {h₀ : Heap} {L : Addr} {m : Str → Option Value} {env : Env} {ct elt : PySem.Expr} {x : Str} {scope : Scope} {cl : List (Str × Addr)} {S : List (Addr × Obj) → Prop} {P : Nat → Value → Prop} {Fin : List Value → List (Addr × Obj) → Prop} {news : List (Addr × Obj)}
/-- a comprehension with a test over ints: each item has a property -/
theorem q_test {n : Nat} (G : Value → Prop) (hP : ∀ i v, P i v → ∃ k t, v = .int k t)
    (turn : ∀ k t I oI C oC D m₂ ys h tk (E' : Value → Shared → Prop), LCg.NsObj oC m₂ → m₂ x = some (.int k t) → Fr h₀ L h m → News h₀ L h ((I, oI) :: (C, oC) :: (D, LCg.lst ys) :: news) → LCg.Off3 I C D news → ((@Ne Nat I C) ∧ (@Ne Nat I D) ∧ (@Ne Nat C D)) →
      wpAny (model prog w) A (isTrue ct (compEnvC scope cl C env) (eval ct (compEnvC scope cl C env))) (fun ok s' => if ok = true then
        wpAny (model prog w) A (eval elt (compEnvC scope cl C env)) (LCg.CompEnd h₀ L m { s with heap := h, toks := tk } I oI C oC D (LCg.lst ys) S (fun y news' => news' = news ∧ G y)) E' s'
        else LCg.CompEnd h₀ L m { s with heap := h, toks := tk } I oI C oC D (LCg.lst ys) S (fun _ news' => news' = news) Value.none s') E' { s with heap := h, toks := tk })
    (fin : ∀ ys, (∀ y ∈ ys, G y) → ys.length ≤ n → Fin ys news) : LCt.CompRestT prog w A h₀ L m env ct elt x scope cl s S P Fin n 0 [] news := by
  have key : ∀ (j i : Nat) (ys : List Value), i + j = n → (∀ y ∈ ys, G y) → ys.length ≤ i → LCt.CompRestT prog w A h₀ L m env ct elt x scope cl s S P Fin j i ys news := by
    intro j
    induction j with
    | zero => exact fun i ys hi hy hl => LCt.CompRestT.zero (fin ys hy (by omega))
    | succ j ih =>
      intro i ys hi hy hl
      refine LCt.CompRestT.succ ?_
      intro v I oI C oC D m₂ h tk E' hv hC hx F N off ne
      obtain ⟨k, t, hk⟩ := hP i v hv
      rw [hk] at hx
      refine wpAny_mono (turn k t I oI C oC D m₂ ys h tk E' hC hx F N off ne) (fun ok s₂ hq => ?_) fun _ _ e => e
      cases ok with
      | true =>
        rw [if_pos rfl] at hq ⊢
        refine wpAny_mono hq (fun y s₃ hr => ?_) fun _ _ e => e
        obtain ⟨h', tk', nw, e, F', N', off', hS, hn, hy'⟩ := hr
        rw [hn] at N' off' hS
        exact ⟨h', tk', news, e, F', N', off', hS, ih (i + 1) _ (by omega) (List.forall_mem_append.mpr ⟨hy, List.forall_mem_singleton.mpr hy'⟩) (by rw [List.length_append, List.length_singleton]; omega)⟩
      | false =>
        rw [if_neg (by decide)] at hq ⊢
        obtain ⟨h', tk', nw, e, F', N', off', hS, hn⟩ := hq
        rw [hn] at N' off' hS
        exact ⟨h', tk', news, e, F', N', off', hS, ih (i + 1) ys (by omega) hy (by omega)⟩
  exact key n 0 [] (by omega) (fun _ h => nomatch h) (Nat.le_refl _)
/-- a comprehension over forms: an int for each -/
theorem q_ints {n : Nat} {bs : List (Array UInt8)} (g : Array UInt8 → Int) (hks : bs.length = n) (hP : ∀ i v, P i v → ∃ b t, bs[i]? = some b ∧ v = .bytes b t)
    (turn : ∀ b t I oI C oC D m₂ ys h tk (E' : Value → Shared → Prop), b ∈ bs → LCg.NsObj oC m₂ → m₂ x = some (.bytes b t) → Fr h₀ L h m → News h₀ L h ((I, oI) :: (C, oC) :: (D, LCg.lst ys) :: news) → LCg.Off3 I C D news → ((@Ne Nat I C) ∧ (@Ne Nat I D) ∧ (@Ne Nat C D)) →
      wpAny (model prog w) A (eval elt (compEnvC scope cl C env)) (LCg.CompEnd h₀ L m { s with heap := h, toks := tk } I oI C oC D (LCg.lst ys) S (fun y news' => news' = news ∧ ∃ t, y = .int (g b) t)) E' { s with heap := h, toks := tk })
    (fin : ∀ ys, IntsAre ys (bs.map g) → Fin ys news) : LCg.CompRest prog w A h₀ L m env elt x scope cl s S P Fin n 0 [] news := by
  have key : ∀ (j i : Nat) (ys : List Value), i + j = n → IntsAre ys ((bs.take i).map g) → LCg.CompRest prog w A h₀ L m env elt x scope cl s S P Fin j i ys news := by
    intro j
    induction j with
    | zero =>
      intro i ys hi hy
      rw [show i = bs.length by omega, List.take_length] at hy
      exact LCg.CompRest.zero (fin ys hy)
    | succ j ih =>
      intro i ys hi hy
      refine LCg.CompRest.succ ?_
      intro v I oI C oC D m₂ h tk E' hv hC hx F N off ne
      obtain ⟨b, t, hb, hv'⟩ := hP i v hv
      rw [hv'] at hx
      refine wpAny_mono (turn b t I oI C oC D m₂ ys h tk E' (List.mem_of_getElem? hb) hC hx F N off ne) (fun y s₂ hq => ?_) fun _ _ e => e
      obtain ⟨h', tk', nw, e, F', N', off', hS, hn, t', hy'⟩ := hq
      rw [hn] at N' off' hS
      refine ⟨h', tk', news, e, F', N', off', hS, ?_⟩
      rw [hy']
      refine ih (i + 1) _ (by omega) ?_
      rw [List.take_add_one, hb]
      simpa using ints_snoc hy
  exact key n 0 [] (by omega) (by simp only [List.take_zero, List.map_nil]; exact .nil)
theorem r_pick5 {value slice : PySem.Expr} {l : Addr} {k0 k1 k2 k3 k4 : Int} {t0 t1 t2 t3 t4 u : Tok} {n : Nat} {i : Int} {Q : Value → Shared → Prop} (N : News h₀ L s.heap news)
    (hm : (l, W.listOf #[.int k0 t0, .int k1 t1, .int k2 t2, .int k3 t3, .int k4 t4] n) ∈ news) (hi0 : 0 ≤ i) (hi1 : i < 5) (h : ∀ k t', Q (.int k t') s)
    (hs : subscripted slice false (.ref l) (.int i u) = operate [.ref l, .int i u] (getItem (.ref l) (.int i u)) := by with_unfolding_all rfl) :
    wpAny (model prog w) A (subscriptTail value slice (.ref l) (.int i u)) Q E s := by
  have hl : s.heap.IsList l #[.int k0 t0, .int k1 t1, .int k2 t2, .int k3 t3, .int k4 t4] := News.isList N hm
  obtain ⟨j, hj⟩ : ∃ j : Nat, i = (j : Int) := ⟨i.toNat, by omega⟩
  subst hj
  have : j = 0 ∨ j = 1 ∨ j = 2 ∨ j = 3 ∨ j = 4 := by omega
  rcases this with rfl | rfl | rfl | rfl | rfl
  · exact tail_any hl.typeIs slot_list_getitem.lookup (wpAny_getItem_list hl (by decide) (by decide) (by rfl) (h _ _)) hs
  · exact tail_any hl.typeIs slot_list_getitem.lookup (wpAny_getItem_list hl (by decide) (by decide) (by rfl) (h _ _)) hs
  · exact tail_any hl.typeIs slot_list_getitem.lookup (wpAny_getItem_list hl (by decide) (by decide) (by rfl) (h _ _)) hs
  · exact tail_any hl.typeIs slot_list_getitem.lookup (wpAny_getItem_list hl (by decide) (by decide) (by rfl) (h _ _)) hs
  · exact tail_any hl.typeIs slot_list_getitem.lookup (wpAny_getItem_list hl (by decide) (by decide) (by rfl) (h _ _)) hs
end
end Mine
open Mine
local macro_rules | `(tactic| walk_at "subscriptTail") => `(tactic| (k_here; (with_reducible show wpAny _ _ (subscriptTail _ _ (Value.ref _) (Value.int _ _)) _ _ _); k_dflt (refine r_pick5 (by k_asm) (by k_mem) (by omega) (by omega) ?_); intro _ _))

set_option exponentiation.threshold 256
namespace Mine
section
variable {s : Shared} {h₀ : Heap} {x : Str}
theorem turn_endC {L : Addr} {x1 x2 : Str} {stored : List Str} {v1 v2 : Option Value} {v u m₀ : Str → Option Value} {q : Addr × Obj} {led own : List (Addr × Obj)} {h' : Heap} {tk : Nat}
    (F : Fr h₀ L h' (fun y => if y = x1 then v1 else if y = x2 then v2 else if y = x then v y else kstB (fun z => if stored.contains z then u z else m₀ z) [] y)) (N : News h₀ L h' (q :: (led ++ own))) (hx1 : ∀ z, stored.contains z = false → z ≠ x1) (hx2 : ∀ z, stored.contains z = false → z ≠ x2) :
    InvEndN h₀ L (KstS (σ := Unit) (fun _ => led) (fun _ => []) (fun _ => True) x stored m₀ (fun _ _ => True) []) own (led.map (·.1)) s { s with heap := h', toks := tk } :=
  turn_end1 F N fun z h1 h3 => by
    show (if z = x1 then v1 else if z = x2 then v2 else if z = x then v z else kstB (fun z => if stored.contains z then u z else m₀ z) [] z) = m₀ z
    rw [if_neg (hx1 z h3), if_neg (hx2 z h3)]
    exact kmap h1 h3
end
theorem not_span {z : Str} (h : [PySem.Str.ofString "more", PySem.Str.ofString "span"].contains z = false) : z ≠ PySem.Str.ofString "span" := fun e => by
  rw [e] at h
  exact absurd h (by decide)
theorem not_more {z : Str} (h : [PySem.Str.ofString "more", PySem.Str.ofString "span"].contains z = false) : z ≠ PySem.Str.ofString "more" := fun e => by
  rw [e] at h
  exact absurd h (by decide)
end Mine
open Mine
local macro_rules | `(tactic| walk_at "InvEndN") => `(tactic| (k_here; (rename Fr _ _ _ _ => kF); (rename News _ _ _ _ => kN); exact turn_endC kF kN (fun _ h => not_span h) (fun _ h => not_more h)))
open Mine
local macro_rules | `(tactic| walk_at "InvPostN") => `(tactic| (k_here; (rename Fr _ _ _ _ => kF); (rename News _ _ _ _ => kN); exact turn_endC kF kN (fun _ h => not_span h) (fun _ h => not_more h)))
open Mine
local macro_rules | `(tactic| walk_at "pyIter ref") => `(tactic| (k_here; (with_reducible show wpAny _ _ (pyIter (Value.ref _)) (fun it s₂ => LoopAtV _ _ _ _ _ (PySem.Str.ofString "k") _ _ _ it s₂) _ _); (rename Fr _ _ _ _ => lF'); (rename News _ _ _ _ => lN'); (rename IsRange _ _ _ _ _ _ _ _ => rgX); k_dflt (with_unfolding_all refine' Mine.r_rangeLaw [PySem.Str.ofString "more", PySem.Str.ofString "span"] ?kh rgX lF' lN' (fun k9 t9 u9 h9 tk9 own9 hk0 hk1 ho9 F9 N9 => ?_) (fun u9 h9 tk9 F9 N9 => ?_); (case kh => exact rfl)); (all_goals (clear lF' lN')); (all_goals (try dsimp only)); (all_goals (try k_fold))))

set_option exponentiation.threshold 256
namespace Mine
theorem sz_take {ws : List Value} {ns : List Int} {k : Nat} (h : IntsAre ws (List.take k ns)) (hk : k ≤ 1000) : ws.toArray.size ≤ sizeLine := by
  have := h.length
  rw [List.size_toArray, sizeLine_eq, this, List.length_take]
  omega
theorem ints_at {ws : List Value} {ns : List Int} (h : IntsAre ws ns) (i : Nat) (v : Value) (e : ws.toArray[i]? = some v) : ∃ k t, v = .int k t := by
  obtain ⟨k, t, e1, _⟩ := IntsAre.at h i v (by simpa using e)
  exact ⟨k, t, e1⟩
theorem forms_at {ys : List Value} {bs : List (Array UInt8)} (h : AreOf itB ys bs) (i : Nat) (v : Value) (e : ys.toArray[i]? = some v) : ∃ b t, bs[i]? = some b ∧ v = .bytes b t := by
  obtain ⟨b, e1, t, e2⟩ := h.get i v (by simpa using e)
  exact ⟨b, t, e1, e2⟩
theorem wk_ri {b : Array UInt8} {p x y z : Int} {t : Tok} (h : wb b = worth p x y z) : ∃ t', Value.int (115792089237316195423570985008687907853269984665640564039457584007913129639936 / (worth p x y z + 1)) t = Value.int (wk b) t' := ⟨t, by rw [wk, h]⟩
section
variable {prog : Program} {w : World} {A : Around} {E : Value → Shared → Prop} {s : Shared} {h₀ : Heap} {L : Addr} {m : Str → Option Value} {env : Env} {ct elt : PySem.Expr} {x : Str} {scope : Scope} {cl : List (Str × Addr)} {S : List (Addr × Obj) → Prop} {P : Nat → Value → Prop} {Fin : List Value → List (Addr × Obj) → Prop} {news : List (Addr × Obj)}
theorem q_testF {n : Nat} (hP : ∀ i v, P i v → ∃ k t, v = .int k t)
    (turn : ∀ k t I oI C oC D m₂ ys h tk (E' : Value → Shared → Prop), LCg.NsObj oC m₂ → m₂ x = some (.int k t) → Fr h₀ L h m → News h₀ L h ((I, oI) :: (C, oC) :: (D, LCg.lst ys) :: news) → LCg.Off3 I C D news → ((@Ne Nat I C) ∧ (@Ne Nat I D) ∧ (@Ne Nat C D)) →
      wpAny (model prog w) A (isTrue ct (compEnvC scope cl C env) (eval ct (compEnvC scope cl C env))) (fun ok s' => if ok = true then
        wpAny (model prog w) A (eval elt (compEnvC scope cl C env)) (LCg.CompEnd h₀ L m { s with heap := h, toks := tk } I oI C oC D (LCg.lst ys) S (fun y news' => news' = news ∧ GoodV y)) E' s'
        else LCg.CompEnd h₀ L m { s with heap := h, toks := tk } I oI C oC D (LCg.lst ys) S (fun _ news' => news' = news) Value.none s') E' { s with heap := h, toks := tk })
    (fin : ∀ ys bs, AreOf itB ys bs → (∀ b ∈ bs, GoodB b) → ys.length ≤ n → Fin ys news) : LCt.CompRestT prog w A h₀ L m env ct elt x scope cl s S P Fin n 0 [] news :=
  q_test GoodV hP turn fun ys hg hl => by
    obtain ⟨bs, h1, h2⟩ := goods hg
    exact fin ys bs h1 h2 hl
theorem q_intsW {n : Nat} {bs : List (Array UInt8)} (hB : ∀ b ∈ bs, GoodB b) (hks : bs.length = n) (hP : ∀ i v, P i v → ∃ b t, bs[i]? = some b ∧ v = .bytes b t)
    (turn : ∀ b t p q y z I oI C oC D m₂ ys h tk (E' : Value → Shared → Prop), KBw.bInts b = [p, q, y, z] → wb b = worth p q y z → 0 < worth p q y z → worth p q y z < 115792089237316195423570985008687907853269984665640564039457584007913129639936 → LCg.NsObj oC m₂ → m₂ x = some (.bytes b t) → Fr h₀ L h m → News h₀ L h ((I, oI) :: (C, oC) :: (D, LCg.lst ys) :: news) → LCg.Off3 I C D news → ((@Ne Nat I C) ∧ (@Ne Nat I D) ∧ (@Ne Nat C D)) →
      wpAny (model prog w) A (eval elt (compEnvC scope cl C env)) (LCg.CompEnd h₀ L m { s with heap := h, toks := tk } I oI C oC D (LCg.lst ys) S (fun y news' => news' = news ∧ ∃ t, y = .int (wk b) t)) E' { s with heap := h, toks := tk })
    (fin : ∀ ys, IntsAre ys (bs.map wk) → Fin ys news) : LCg.CompRest prog w A h₀ L m env elt x scope cl s S P Fin n 0 [] news :=
  q_ints wk hks hP (fun b t I oI C oC D m₂ ys h tk E' hb hC hx F N off ne => by
    obtain ⟨p, q, y, z, h1, h2, h3, h4⟩ := GoodB.of (hB b hb)
    exact turn b t p q y z I oI C oC D m₂ ys h tk E' h1 h2 h3 h4 hC hx F N off ne) fin
end
end Mine
open Mine
local macro_rules | `(tactic| walk_at "exec Assign cons ListComp") => `(tactic| (k_here; k_dflt (refine LCt.Assign_ListComp_T (F₀ := by k_asm) (by rfl) (by with_unfolding_all rfl) (by with_unfolding_all rfl) (by decide) (by rfl) (by decide) (by rfl) (by rfl) (by rfl) ?_)))
open Mine
local macro_rules | `(tactic| walk_at "CompSrcT") => `(tactic| (k_here; (rename IntsAre _ _ => hT'); k_dflt (refine LCt.CompSrcT.ledger (by rfl) (by k_asm) (by k_asm) (by k_mem) (by exact sz_take hT' (by decide)) ?_); intro g'; k_dflt (refine' q_testF (ints_at hT') (fun k' t' I' oI' C' oC' D' m' ys' h' tk' E' hC' hx' F' N' off' ne' => ?_) (fun ys' bs' hA' hB' hl' => ?_)); (try (simp only [LCg.Off3, and_true] at off')); (all_goals (try k_fold))))
open Mine
local macro_rules | `(tactic| walk_at "eval ListComp") => `(tactic| (k_here; k_dflt (refine LCg.ListComp_U (F₀ := by k_asm) (by with_unfolding_all rfl) (by decide) (by rfl) (by decide) (by rfl) ?_)))
open Mine
local macro_rules | `(tactic| walk_at "CompSrc") => `(tactic| (k_here; (rename AreOf _ _ _ => hA'); (rename (∀ _ ∈ _, GoodB _) => hB'); k_dflt (refine LCg.CompSrc.ledger (by rfl) (by k_asm) (by k_asm) (by k_mem) ?hsz ?_; (case hsz => first | with_reducible assumption | (rw [List.size_toArray]; exact Nat.le_trans (by with_reducible assumption) (sz_take (by with_reducible assumption) (by decide))))); intro g'; k_dflt (refine' q_intsW hB' (by rw [List.size_toArray]; exact hA'.length.symm) (forms_at hA') (fun b' t' p' x' y' z' I' oI' C' oC' D' m' ys' h' tk' E' hq' hw' h0' h1' hC' hx' F' N' off' ne' => ?_) (fun ys' hi' => ?_)); (try (simp only [LCg.Off3, and_true] at off')); (all_goals (try k_fold))))
open Mine
local macro_rules | `(tactic| walk_at "And") => `(tactic| (k_here; (with_reducible show _ ∧ Mine.GoodV _); exact ⟨rfl, _, _, rfl, _, by with_reducible assumption, by omega, by omega⟩))
open Mine
local macro_rules | `(tactic| walk_at "GoodV") => `(tactic| exact ⟨_, _, rfl, _, by with_reducible assumption, by omega, by omega⟩)
open Mine
local macro_rules | `(tactic| walk_at "And") => `(tactic| (k_here; (with_reducible show _ ∧ ∃ _, Value.int _ _ = Value.int (Mine.wk _) _); exact ⟨rfl, wk_ri (by with_reducible assumption)⟩))
open Mine
local macro_rules | `(tactic| walk_at "Eq") => `(tactic| (k_here; (with_reducible show @Eq (List (Addr × Obj)) _ _); exact rfl))

set_option exponentiation.threshold 256
namespace Mine
theorem based_chain {w : World} {h : Heap} (X : (Mine.hd.heap_39 w.params).In h) (ht : h.get? 153 = some { cls := .none, data := .fields #[] }) : Based h h 157 153 #[] := by
  have e := X 157 _ rfl
  refine Based.start ⟨_, _, _, _, _, _, _, _, _, _, e, rfl, rfl, rfl, rfl, rfl, rfl, ht, rfl, ?_, by decide⟩ ⟨⟨_, _, e, rfl, rfl, rfl⟩, ht⟩ (by decide)
  trivial
end Mine

set_option exponentiation.threshold 256

namespace Mine
section
variable {prog : Program} {w : World} {A : Around} {s : Shared} {K : Frag} {L : Addr} {h₀ : Heap} {m mg mb : Str → Option Value} {p : Program} {loose : List Str} {news0 : List (Addr × Obj)}
/-- as code_plain, with a part of what the caller made in the ledger -/
theorem code_partG {R : Result → Shared → Prop} {name qual : Str} {params : Arguments} {body : List Stmt} {scope : Scope} {dV kV doc pm cdv ct oc : Value} {an od : Option Addr} {osl : Array (Option Value)} {f : Addr} {args : Args} {binds : List (Str × Value)}
    (F : Fr h₀ L s.heap m) (X₀ : K.In h₀) (N : News h₀ L s.heap news0) (T : TopRead p loose mg mb h₀)
    (ho : K.lookup f = some ⟨oc, od, .func (fnOf name qual params body scope dV kV doc pm an cdv ct), osl⟩) (hcd : codeIn K cdv qual = true) (hroom : A.depth < recursionLimit)
    (hbind : BindsTo s (fnOf name qual params body scope dV kV doc pm an cdv ct) args binds) (hloc : ∀ y ∈ binds, scope.names.lookup y.1 = some .local)
    (h : ∀ g L' h₁, (∀ b o, s.heap.get? b = some o → b ∉ news0.map (·.1) → g.get? b = some o) → Fr g L' h₁ (fun y => binds.reverse.lookup y) → News g L' h₁ news0 → K.In g → TopRead p loose mg mb g →
      wpAny (model prog w) (A.deeper (envOf qual scope L' f cdv)) (execs body (envOf qual scope L' f cdv))
        (fun fl s' => LeaveK h₀ L m g R (match fl with | .ret v => v | _ => .none) s')
        (fun _ _ => False)
        { s with heap := h₁, toks := s.toks + binds.length })
    (hco : scope.isCoroutine = false) (hgen : scope.isGenerator = false) (hk : scope.kind = .function)
    (hcell : ∀ x ∈ scope.names, x.2 ≠ .cell) : codeAny (model prog w) A (.call (.ref f) args) R s := by
  have off : ∀ b o, h₀.get? b = some o → b ∉ news0.map (·.1) := fun b o e hb => by
    obtain ⟨q, hq, rfl⟩ := List.mem_map.mp hb
    rw [(N q hq).2.2] at e; cases e
  have st : ∀ b o, h₀.get? b = some o → (hideAll s.heap (news0.map (·.1))).get? b = some o := fun b o e => hideAll_get _ (F.keep b o e) (off b o e)
  refine codeAny_call_def (fd := fnX name qual params body scope [] dV kV doc pm an cdv ct) (body := body) (binds := binds) hroom ((X₀.keeps F.keep) _ _ ho) rfl (T.nolimit.keeps F.keep) (codeRec_of (X₀.keeps F.keep) hcd) rfl hbind hcell hloc (fun h₁ hns₁ hk₁ => ?_) hco hgen hk
  refine wpAny_mono (h (hideAll s.heap (news0.map (·.1))) s.heap.objs.size h₁ (fun b o e hb => hideAll_get _ e hb) ⟨hns₁, fun b o e => hk₁ b o (of_hideAll _ e), Nat.le_of_eq (hideAll_size _ _)⟩
    (fun q hq => ⟨hk₁ _ _ (N q hq).1, Nat.ne_of_lt (Heap.lt_size (N q hq).1), hideAll_none _ (List.mem_map_of_mem hq)⟩) (X₀.keeps st) (T.keeps st)) (fun fl s' hl => ?_) fun _ _ e => e.elim
  obtain ⟨L', m', news', F', N', k⟩ := hl
  obtain ⟨oL, es, ep, hL, hLr⟩ := F.ns
  have hLg : (hideAll s.heap (news0.map (·.1))).get? L = some oL := hideAll_get _ hL fun hb => by
    obtain ⟨q, hq, e⟩ := List.mem_map.mp hb
    exact (N q hq).2.1 e
  refine k ⟨⟨oL, es, ep, F'.keep _ _ hLg, hLr⟩, fun b o e => F'.keep b o (st b o e), F.above⟩ fun q hq => ⟨(N' q hq).1, fun e => ?_, ?_⟩
  · have := (N' q hq).2.2; rw [e, hLg] at this; cases this
  · cases c : h₀.get? q.1 with
    | none => rfl
    | some o => have := (N' q hq).2.2; rw [st _ _ c] at this; cases this
end
end Mine
open Mine
local macro_rules | `(tactic| walk_at "m enterQ") => `(tactic| (refine' code_partG ?k2 ?k3 ?kN ?k5 ?k6 ?k7 ?k8 ?k9 ?kB ?_ ?c2 ?c3 ?c4 ?c5; (case k2 => k_asm); (case k3 => k_asm); (case kN => k_asm); (case k5 => k_asm); (case k6 => k_is); (case k7 => k_is); (case k8 => ktr_room); (case k9 => first | exact BindsTo.of_eq rfl | fail "m enterQ: arguments"); (case c5 => decide); (case kB => exact locs rfl); (case c2 => exact rfl); (case c3 => exact rfl); (case c4 => exact rfl); k_whole; intro g' L' h' st' F' N' X' T'; (try dsimp only); (try k_fold)))
namespace Mine
theorem g_isoct (w : World) (mg mb : Str → Option Value) (D : Addr) (its : Array Value) (nn : Nat) {dp un : Nat} {fr : Option (List Env)} {gd : Option (List Code)} {h₀ : Heap} {L : Addr} {m : Str → Option Value} {s : Shared} {Q E : Value → Shared → Prop}
    (F : Fr h₀ L s.heap m) (X : (Mine.hd.heap_39 w.params).In h₀) (N : News h₀ L s.heap [(D, listOf its nn)]) (T : TopRead Mine.hd.view_39 LO mg mb h₀) (hd : dp + 1 < recursionLimit) (hu : un + 8 * 1 < cLine)
    (hret : ∀ v h' tk', v = Value.bool false → Fr h₀ L h' m → s.heap.StaysIn h' → Q v { s with heap := h', toks := tk' }) :
    wpAny (model Challenge.rw_ez0015_01.row.prog w) { handled := none, depth := dp, frames := fr, guards := gd, units := un } (call (.ref 87) [.ref D]) Q E s := by
  revert X
  k_fill
  intro X
  refine wpAny_call ?_
  k_dflt (walk_at "m enterQ")
  k_steps
  refine ret_part hret rfl (by k_asm) (by assumption) (by assumption) (by with_reducible assumption) (by k_asm) (fun p hp => ?_)
  rw [List.mem_singleton.mp hp]
  exact List.mem_cons_of_mem _ List.mem_cons_self
/-- the call of chain_work: the table of its code grows -/
theorem code_chain {prog : Program} {w : World} {A : Around} {s : Shared} {K : Frag} {L c P bm : Addr} {h₁ h₀ : Heap} {m mg mb mgT : Str → Option Value} {p : Program} {loose : List Str} {D : Addr} {oD : Obj} {news : List (Addr × Obj)} {ob : Obj} {ps : Array Value}
    {R : Result → Shared → Prop} {V : Value → Shared → Prop} {name qual : Str} {params : Arguments} {body : List Stmt} {scope : Scope} {dV kV doc pm ct oc : Value} {an od : Option Addr} {osl : Array (Option Value)} {f : Addr} {args : Args} {binds : List (Str × Value)}
    (F : Fr h₀ L s.heap m) (X₀ : K.In h₀) (N : News h₀ L s.heap news) (hD : (D, oD) ∈ news) (T : TopRead p loose mg mb h₀) (B : Based h₁ h₀ c P ps) (M : BMod h₀ mainGlobals mgT bm ob)
    (ho : K.lookup f = some ⟨oc, od, .func (fnOf name qual params body scope dV kV doc pm an (.ref c) ct), osl⟩) (hcd : codeIn K (.ref c) qual = true) (hroom : A.depth < recursionLimit)
    (hbind : BindsTo s (fnOf name qual params body scope dV kV doc pm an (.ref c) ct) args binds) (hloc : ∀ y ∈ binds, scope.names.lookup y.1 = some .local)
    (h : ∀ g L' h', Fr g L' h' (fun y => binds.reverse.lookup y) → News g L' h' [(D, oD)] → K.In g → TopRead p loose mg mb g → Based g g c P ps → BMod g mainGlobals mgT bm ob →
      wpAny (model prog w) (A.deeper (envOf qual scope L' f (.ref c))) (execs body (envOf qual scope L' f (.ref c)))
        (fun fl s' => ∃ base more m', Based g base c P (ps ++ more) ∧ Fr base L' s'.heap m' ∧ News base L' s'.heap [(D, oD)] ∧ V (match fl with | .ret v => v | _ => .none) s')
        (fun _ _ => False)
        { s with heap := h', toks := s.toks + binds.length })
    (ret : ∀ v s' ps', V v s' → Fr (regrown h₀ P ps') L s'.heap m → Based h₁ (regrown h₀ P ps') c P ps' → News (regrown h₀ P ps') L s'.heap news → R (.ok (.ret v)) s')
    (hco : scope.isCoroutine = false) (hgen : scope.isGenerator = false) (hk : scope.kind = .function)
    (hcell : ∀ x ∈ scope.names, x.2 ≠ .cell) : codeAny (model prog w) A (.call (.ref f) args) R s := by
  have nD := N _ hD
  have off : ∀ b o, h₀.get? b = some o → b ∉ [D] := fun b o e hb => by
    rw [List.mem_singleton.mp hb, nD.2.2] at e; cases e
  have st : ∀ b o, h₀.get? b = some o → (hideAll s.heap [D]).get? b = some o := fun b o e => hideAll_get _ (F.keep b o e) (off b o e)
  obtain ⟨oL, es, ep, hL, hLr⟩ := F.ns
  have hLg : (hideAll s.heap [D]).get? L = some oL := hideAll_get _ hL fun hb => nD.2.1 (List.mem_singleton.mp hb).symm
  have Fg : Fr h₀ L (hideAll s.heap [D]) m := ⟨⟨oL, es, ep, hLg, hLr⟩, st, F.above⟩
  refine codeAny_call_def (fd := fnX name qual params body scope [] dV kV doc pm an (.ref c) ct) (body := body) (binds := binds) hroom ((X₀.keeps F.keep) _ _ ho) rfl (T.nolimit.keeps F.keep) (codeRec_of (X₀.keeps F.keep) hcd) rfl hbind hcell hloc (fun h' hns' hk' => ?_) hco hgen hk
  refine wpAny_mono (h (hideAll s.heap [D]) s.heap.objs.size h' ⟨hns', fun b o e => hk' b o (of_hideAll _ e), Nat.le_of_eq (hideAll_size _ _)⟩
    (fun q hq => by rw [List.mem_singleton.mp hq]; exact ⟨hk' _ _ nD.1, Nat.ne_of_lt (Heap.lt_size nD.1), hideAll_none _ (List.mem_singleton.mpr rfl)⟩) (X₀.keeps st) (T.keeps st)
    (.start (B.code.keeps st) (B.tab.keeps st) B.notStatics) (M.keeps st)) (fun fl s' hl => ?_) fun _ _ e => e.elim
  obtain ⟨base, more, m', B', F', N', hV⟩ := hl
  have hx : Heap.ExtBut P (hideAll s.heap [D]) s'.heap := fun b o hb e => F'.keep b o ((B'.same.2 b hb).trans e)
  obtain ⟨B₂, F₂⟩ := B.grow Fg hx (B'.codeAt F') (B'.tabAt F')
  refine ret _ s' _ hV F₂ B₂ fun q hq => ?_
  have hne : q.1 ≠ P := fun e => by have := (N q hq).2.2; rw [e, B.tab.2] at this; cases this
  refine ⟨?_, (N q hq).2.1, (Heap.get?_update_other _ _ (Ne.symm hne)).trans (N q hq).2.2⟩
  by_cases e : q.1 = D
  · have h1 := (N q hq).1
    rw [e, nD.1] at h1
    have h2 := (N' (D, oD) (List.mem_singleton.mpr rfl)).1
    rw [e, h2, ← h1]
  · exact hx _ _ hne (hideAll_get _ (N q hq).1 fun hb => e (List.mem_singleton.mp hb))
theorem sum_gen {prog : Program} {w : World} {A : Around} {E : Value → Shared → Prop} {s : Shared} {h₀ : Heap} {L Kb : Addr} {m : Str → Option Value} {α : Type} {a : Addr} {as : List α} {g : α → Int} {Q : Value → Shared → Prop}
    (Fh : Fr h₀ L s.heap m) (G : AllBare s.gens) (X : GenOnD prog w A Kb a as (fun _ => true) (fun k => .int (g k)) s) (hLK : L ≤ Kb)
    (hQ : ∀ s' t', Fr h₀ L s'.heap m → AllBare s'.gens → s'.os = s.os → (∀ b o, b ≤ Kb → s.heap.get? b = some o → s'.heap.get? b = some o) → Q (.int ((as.map g).sum) t') s') :
    wpAny (model prog w) A (call (.builtin "sum") [.ref a]) Q E s := by
  have ef : as.filter (fun _ => true) = as := List.filter_eq_self.mpr fun _ _ => rfl
  unfold GenOnD at X
  rw [ef] at X
  refine sum_rowsKB Fh G X hLK (fun j => (as.map g).getD j 0) (fun j v hv => ?_) fun s' t' F' G' hos hk => ?_
  · obtain ⟨b, hb, hc⟩ := hv
    cases hc with
    | int _ t => exact .inl ⟨t, by simp [List.getD_eq_getElem?_getD, hb]⟩
  · have e := preSum_getD (as.map g) as.length
    rw [List.take_of_length_le (by simp)] at e
    rw [e]; exact hQ s' t' F' G' hos hk
end Mine

set_option exponentiation.threshold 256
open Mine
local macro_rules | `(tactic| walk_at "call ref") => `(tactic| (k_here; (with_reducible show wpAny _ _ (call (Value.ref 87) [Value.ref _] []) _ _ _); k_dflt (refine' Mine.g_isoct _ _ _ _ _ _ ?k1 ?k2 ?k3 ?k4 ?kd ?ku ?_; (case k1 => k_asm); (case k2 => k_asm); (case k3 => k_asm); (case k4 => k_asm); (case kd => ktr_room); (case ku => ktr_units)); intro v9 h9 tk9 R9 F9 S9; (subst R9); (rename News _ _ _ _ => N0); (have N9 := Mine.news_stays N0 S9); (try dsimp only); (try k_fold)))
open Mine
local macro_rules | `(tactic| walk_at "eval Name") => `(tactic| (k_here; (with_reducible show wpAny _ _ (eval (Expr.Name _ _) (genEnv _ _ _ _ _ _)) _ _ _); name_kind "local"; (rename Fr _ _ _ _ => F'); k_dflt (refine' ldG (Fr.ns F') ?kv ?_ ?a ?b ?c; (case kv => with_reducible assumption); (case a => rfl); (case b => rfl); (case c => decide))))
open Mine
local macro_rules | `(tactic| walk_at "eval Name") => `(tactic| (k_here; (with_reducible show wpAny _ _ (eval (Expr.Name _ _) (genEnv _ _ _ _ _ _)) _ _ _); name_kind "globalImplicit"; (rename Fr _ _ _ _ => F'); k_dflt (refine' nameG_K F' ?k1 ?k2 ?k3 ?_ ?k4 ?k5 ?k6 ?k7; (case k4 => rfl); (case k5 => rfl); (case k6 => rfl); (case k7 => decide); (case k1 => k_asm); (case k2 => k_asm); (case k3 => k_is))))
namespace Mine
theorem kbc (w : World) : kb_classed (Mine.hd.heap_39 w.params) = true := by first | kernel_rfl | rfl
theorem s_chain (w : World) (mg mb mgT : Str → Option Value) {dp un : Nat} {fr : Option (List Env)} {gd : Option (List Code)} {h₁ h₀ : Heap} {L D bm : Addr} {ob : Obj} {m : Str → Option Value} {s : Shared} {Q E : Value → Shared → Prop} {news : List (Addr × Obj)} {ys : List Value} {bs : List (Array UInt8)}
    (F : Fr h₀ L s.heap m) (X : (Mine.hd.heap_39 w.params).In h₀) (T : TopRead Mine.hd.view_39 LO mg mb h₀) (B : Based h₁ h₀ 157 153 #[]) (M : BMod h₀ mainGlobals mgT bm ob) (N : News h₀ L s.heap news) (hD : (D, LCg.lst ys) ∈ news)
    (hA : AreOf itB ys bs) (hB : ∀ b ∈ bs, GoodB b) (hG : AllBare s.gens) (hd : dp + 12 < recursionLimit) (hu : un + 8 * 12 < cLine)
    (ret : ∀ t s' ps', AllBare s'.gens → s'.os = s.os → Fr (regrown h₀ 153 ps') L s'.heap m → Based h₁ (regrown h₀ 153 ps') 157 153 ps' → News (regrown h₀ 153 ps') L s'.heap news → Q (.int ((bs.map wk).sum) t) s') :
    wpAny (model Challenge.rw_ez0015_01.row.prog w) { handled := none, depth := dp, frames := fr, guards := gd, units := un } (call (.ref 158) [.ref D]) Q E s := by
  revert X
  k_fill
  intro X
  refine wpAny_call ?_
  k_dflt (refine' code_chain (V := fun v s' => ∃ t, v = Value.int ((bs.map wk).sum) t ∧ AllBare s'.gens ∧ s'.os = s.os) F X N hD T B M ?k6 ?k7 ?k8 ?k9 ?kB ?_ ?kr ?c2 ?c3 ?c4 ?c5; (case k6 => k_is); (case k7 => k_is); (case k8 => ktr_room); (case k9 => exact BindsTo.of_eq rfl); (case c5 => decide); (case kB => exact locs rfl); (case c2 => exact rfl); (case c3 => exact rfl); (case c4 => exact rfl))
  case kr => 
    intro v s' ps' hV F' B' N'
    obtain ⟨t, rfl, hg, ho⟩ := hV
    exact ret t s' ps' hg ho F' B' N'
  clear F N B M X T hD
  intro g' L' h' F' N' X' T' B' M'
  (try dsimp only)
  (try k_fold)
  k_steps
  rename (Fr _ _ _ _) => F9
  rename (News _ _ _ _) => N9
  k_dflt (refine' PyProof.Rows.LGe.GeneratorExp_K F9 B' M' ?hcode ?hnf ?hh ?hco ?hclos ?hcell ?h0 ?hx ?hkind ?hroom ?_ ?hs)
  case hcode => with_unfolding_all rfl
  case hnf => with_unfolding_all rfl
  case hh => with_unfolding_all rfl
  case hco => with_unfolding_all rfl
  case hclos => with_unfolding_all rfl
  case hcell => decide
  case h0 => with_unfolding_all rfl
  case hx => with_unfolding_all rfl
  case hkind => with_unfolding_all rfl
  case hroom => ktr_room
  case hs => intro _; with_unfolding_all rfl
  walk1
  k_dflt (refine' src_listD (K := itB) (pz := fun _ => true) (d := fun b => PyData.int (wk b)) B' (News.isList N9 List.mem_cons_self) hA F9 hG (T'.nolimit.keeps F9.keep) (Fr.kb1 F9) (Fr.kb2 F9) ?_ ?_ ?_)
  · intro c' C A' E' a v u m₂ _ _ _ _ _ _ _ _ _
    show wpAny _ _ (pure true) _ _ _
    exact wpAny_pure ⟨rfl, _, _, rfl, fun _ _ e => e⟩
  · intro c' C A' E' b v u m₂ hA' hdp hun hb hv _ F2 hm hLC hk
    obtain ⟨t, rfl⟩ := itB_is hv
    obtain ⟨hd', dp', fr', gd', un'⟩ := A'
    obtain rfl : hd' = none := hA'
    obtain ⟨p, x, y, z, hq, hw, h0, h1⟩ := GoodB.of (hB b hb)
    have T2 := LGe.top_regrown F2 T' B'
    have X2 := LGeL.in_regrown F2 X' T' B' (kbc w)
    simp only [depth_deeper, units_deeper] at hdp hun
    (try dsimp only at hdp hun)
    revert hm F2 X2 T2
    clear ret hG hA hB hb hk hLC B' M' X' T'
    repeat (rename Fr _ _ _ _ => zz; clear zz)
    repeat (rename News _ _ _ _ => zz; clear zz)
    repeat (rename Heap.StaysIn _ _ => zz; clear zz)
    intro F2 hm T2 X2
    k_steps
    refine g_bwork w mg mb b _ p x y z hq h1 h0 _ _ _ _ _ _ _ _ _ _ (by with_reducible assumption) X2 T2 ?_ ?_ ?_
    · omega
    · omega
    · intro v h' tk' hv F' st
      obtain ⟨t', rfl⟩ := hv
      have e : 115792089237316195423570985008687907853269984665640564039457584007913129639936 / (worth p x y z + 1) = wk b := by rw [wk, hw]
      rw [e]
      exact ⟨Carried.int _ _, _, _, rfl, st⟩
  · intro c' a s₅ B5 F5 G5 hos hk X5
    walk1
    refine sum_gen F5 G5 X5 (Fr.kb1 F9) ?_
    intro s' t' F6 G6 hos6 hk6
    exact ⟨_, _, _, B5, F6, N9.rebase B' (fun b o hb e => hk6 b o (Nat.le_sub_one_of_lt (Heap.lt_size e)) (hk b o hb e)), t', rfl, G6, hos6.trans hos⟩
end Mine

set_option exponentiation.threshold 256
namespace Mine
section
variable {prog : Program} {w : World} {A A₀ : Around} {s : Shared} {K : Frag} {L : Addr} {h₀ base : Heap} {m mg mb : Str → Option Value} {p : Program} {loose : List Str} {news : List (Addr × Obj)} {env : Env} {outer : List Env}
theorem code_defR {R : Result → Shared → Prop} {name qual : Str} {params : Arguments} {body : List Stmt} {scope : Scope} {dV kV doc pm cdv ct oc : Value} {an od : Option Addr} {osl : Array (Option Value)} {f : Addr} {args : Args} {binds : List (Str × Value)}
    (B : Below A₀ base outer h₀) (F : Fr h₀ L s.heap m) (X₀ : K.In h₀) (N : News h₀ L s.heap news) (T : TopRead p loose mg mb h₀) (hA : A.frames = some (env :: outer)) (hf : env.frame = some L) (hke : env.scope.kind = .function)
    (ho : K.lookup f = some ⟨oc, od, .func (fnOf name qual params body scope dV kV doc pm an cdv ct), osl⟩) (hcd : codeIn K cdv qual = true) (hroom : A.depth < recursionLimit)
    (hbind : BindsTo s (fnOf name qual params body scope dV kV doc pm an cdv ct) args binds) (hloc : ∀ y ∈ binds, scope.names.lookup y.1 = some .local)
    (h : ∀ g L' h₁, Fr h₀ L g m → Fr g L' h₁ (fun y => binds.reverse.lookup y) → News g L' h₁ news → Below A base (env :: outer) g → K.In g → TopRead p loose mg mb g →
      wpAny (model prog w) (A.deeper (envOf qual scope L' f cdv)) (execs body (envOf qual scope L' f cdv))
        (fun fl s' => LeaveK h₀ L m g R (match fl with | .ret v => v | _ => .none) s')
        (fun e s' => wpAny (model prog w) (A.deeper (envOf qual scope L' f cdv)) (leaving (envOf qual scope L' f cdv) e) (fun _ s'' => R (.error e) s'') (fun e' s'' => R (.error e') s'') s')
        { s with heap := h₁, toks := s.toks + binds.length })
    (hco : scope.isCoroutine = false) (hgen : scope.isGenerator = false) (hk : scope.kind = .function)
    (hcell : ∀ x ∈ scope.names, x.2 ≠ .cell) : codeAny (model prog w) A (.call (.ref f) args) R s :=
  callX_plain (cl := []) B F N T.nolimit hA hf hke ((X₀.keeps F.keep) _ _ ho) rfl (codeRec_of (X₀.keeps F.keep) hcd) hroom hbind hloc (fun g L' h₁ FG F' N' B' st _ => h g L' h₁ FG F' N' B' (X₀.keeps st) (T.keeps st)) hcell hco hgen hk
end
theorem g_worth (w : World) (mg mb : Str → Option Value) (b : Array UInt8) (tk : Tok) (p x y z : Int) (hb : KBw.bInts b = [p, x, y, z]) :
   SpecG w mg mb 227 1 [.bytes b tk] (fun v => ∃ t, v = .int (worth p x y z) t) := by
  have hp := KBw.ints_in (k := p) (by rw [hb]; simp)
  have hx := KBw.ints_in (k := x) (by rw [hb]; simp)
  have hy := KBw.ints_in (k := y) (by rw [hb]; simp)
  have hz := KBw.ints_in (k := z) (by rw [hb]; simp)
  unfold SpecG
  k_fill
  intro dp un fr gd h₀ L m s Q E F X T hd hu hret
  refine wpAny_call ?_
  k_dflt (walk_at "m enterG")
  k_steps
  · walk_at "m retG"; exact ri (by rw [worth, if_pos (by assumption)])
  · walk_at "m retG"; exact ri (by rw [worth, if_neg (by assumption)])
end Mine
open Mine
local macro_rules | `(tactic| walk_at "call ref") => `(tactic| (k_here; (with_reducible show wpAny _ _ (call (Value.ref 227) [Value.bytes _ _] []) _ _ _); (rename TopRead _ _ _ _ _ => tG9); k_dflt (refine' SpecG.use (g_worth _ _ _ _ _ _ _ _ _ ?hb) ?k2 ?k3 ?k4 ?k5 ?kK ?kd ?ku ?_; (case k2 => k_asm); (case k3 => k_asm); (case k4 => k_asm); (case k5 => k_asm); (case kK => first | exact rfl | assumption); (case hb => kba_ints); (case kd => ktr_room); (case ku => ktr_units)); intro v9 h9 tk9 R9 F9 N9; (obtain ⟨t9, e9⟩ := R9; subst e9); (try dsimp only); (try k_fold)))
namespace Mine
theorem g_msg (w : World) (mg mb : Str → Option Value) (n : Int) (tk : Tok) (h0 : 0 ≤ n) (h1 : n < 100000) :
   SpecG w mg mb 73 1 [.int n tk] (fun v => ∃ x t, v = .str x t ∧ x.length ≤ 2000) := by
  unfold SpecG
  k_fill
  intro dp un fr gd h₀ L m s Q E F X T hd hu hret
  refine wpAny_call ?_
  k_dflt (walk_at "m enterG")
  k_steps
  walk_at "m retG"; exact ⟨_, _, rfl, Nat.le_trans (toString_length_le (k := 10) h0 (by decide) (by omega)) (by decide)⟩
end Mine
open Mine
local macro_rules | `(tactic| walk_at "call ref") => `(tactic| (k_here; (with_reducible show wpAny _ _ (call (Value.ref 73) [Value.int _ _] []) _ _ _); (rename TopRead _ _ _ _ _ => tG9); k_dflt (refine' SpecG.use (g_msg _ _ _ _ _ ?h0 ?h1) ?k2 ?k3 ?k4 ?k5 ?kK ?kd ?ku ?_; (case k2 => k_asm); (case k3 => k_asm); (case k4 => k_asm); (case k5 => k_asm); (case kK => first | exact rfl | assumption); (case h0 => omega); (case h1 => omega); (case kd => ktr_room); (case ku => ktr_units)); intro v9 h9 tk9 R9 F9 N9; (obtain ⟨x9, t9, e9, hx9⟩ := R9; subst e9); (try dsimp only); (try k_fold)))
namespace Mine
theorem g_retarget (w : World) (mg mb : Str → Option Value) (n : Int) (tk : Tok) (hn : (n + 1) % 2016 = 0) :
   SpecG w mg mb 122 3 [.int n tk] (fun v => ∃ t, v = .int (n - 2015) t) := by
  unfold SpecG
  k_fill
  intro dp un fr gd h₀ L m s Q E F X T hd hu hret
  refine wpAny_call ?_
  k_dflt (walk_at "m enterG")
  k_steps
  all_goals first
    | exact absurd hn (by with_reducible assumption)
    | (walk_at "m retG"; exact ri (by omega))
theorem call_retarget {w : World} {mg mb : Str → Option Value} {n : Int} {tk : Tok} {A : Around} {h₀ : Heap} {L : Addr} {m : Str → Option Value} {news : List (Addr × Obj)} {s : Shared} {Q E : Value → Shared → Prop}
    (F : Fr h₀ L s.heap m) (X : (Mine.hd.heap_39 w.params).In h₀) (N : News h₀ L s.heap news) (T : TopRead Mine.hd.view_39 LO mg mb h₀) (hh : A.handled = none) (hd : A.depth + 3 < recursionLimit) (hu : A.units + 8 * 3 < cLine)
    (ret : (n + 1) % 2016 = 0 → ∀ t h' tk', Fr h₀ L h' m → News h₀ L h' news → Q (.int (n - 2015) t) { s with heap := h', toks := tk' })
    (raise : ¬ (n + 1) % 2016 = 0 → codeAny (model Challenge.rw_ez0015_01.row.prog w) A (.call (.ref 122) ⟨[.int n tk], []⟩) (fun r s' => match r with
      | .ok (.ret v) => Q v s'
      | .ok _ => False
      | .error e => E e s') s) : wpAny (model Challenge.rw_ez0015_01.row.prog w) A (call (.ref 122) [.int n tk]) Q E s := by
  by_cases hr : (n + 1) % 2016 = 0
  · exact SpecG.use (g_retarget w mg mb n tk hr) F X N T hh hd hu fun v h' tk' ⟨t, e⟩ F' N' => by
      subst e
      exact ret hr t h' tk' F' N'
  · exact wpAny_call (raise hr)
end Mine
open Mine
local macro_rules | `(tactic| walk_at "call ref") => `(tactic| (k_here; (with_reducible show wpAny _ _ (call (Value.ref 122) [Value.int _ _] []) _ _ _); (rename TopRead _ _ _ _ _ => tG9); k_dflt (refine' call_retarget ?k2 ?k3 ?k4 tG9 ?kh ?kd ?ku (fun hr9 t9 h9 tk9 F9 N9 => ?_) (fun hr9 => ?_); (case k2 => k_asm); (case k3 => k_asm); (case k4 => k_asm); (case kh => exact rfl); (case kd => first | k_room | ktr_room | (simp only [depth_deeper, depth_caller]; decide)); (case ku => first | ktr_units | (simp only [units_deeper, units_caller]; decide) | decide)); rotate_left; k_dflt (refine' code_defR ?k1 ?k2 ?k3 ?k4 ?k5 ?kA ?kF ?kK ?k6 ?k7 ?k8 ?k9 ?kB ?_ ?c2 ?c3 ?c4 ?c5; (case kA => exact rfl); (case kF => exact rfl); (case kK => exact rfl); (case k1 => k_asm); (case k2 => k_asm); (case k3 => k_asm); (case k4 => k_asm); (case k5 => exact tG9); (case k6 => k_is); (case k7 => k_is); (case k8 => first | k_room | ktr_room); (case k9 => exact BindsTo.of_eq rfl); (case c5 => decide); (case kB => exact locs rfl); (case c2 => exact rfl); (case c3 => exact rfl); (case c4 => exact rfl)); intro g' L' h' FG' F' N' B' X' T'; rotate_right; (all_goals (try dsimp only)); (all_goals (try k_fold))))
open Mine
local macro_rules | `(tactic| walk_at "call ref") => `(tactic| (k_here; (with_reducible show wpAny _ _ (call (Value.ref 158) [Value.ref _] []) _ _ _); k_dflt ((rename AreOf _ _ _ => hA'); (rename (∀ _ ∈ _, GoodB _) => hB'); (rename Based _ _ 157 153 _ => BT'); (rename Frag.In _ _ => KX'); (rename Top _ _ _ _ _ _ => TT')); k_dflt (refine' s_chain _ _ _ _ ?k1 KX' (topRead_of TT') BT' ?km ?k4 ?kd hA' hB' ?kg ?kd1 ?ku (fun t9 s9 ps9 G9 O9 F9 B9 N9 => ?_); (case k1 => k_asm); (case km => assumption); (case k4 => k_asm); (case kd => k_mem); (case kg => exact AllBare.of_eq (by assumption)); (case kd1 => first | k_room | ktr_room | (simp only [depth_deeper, depth_caller]; decide)); (case ku => first | ktr_units | (simp only [units_deeper, units_caller]; decide) | decide)); k_dflt ((have TR9 := LGe.top_regrown F9 (topRead_of TT') BT'); (have KR9 := LGeL.in_regrown F9 KX' (topRead_of TT') BT' (kbc _)); (have LB9 := LGeL.below_at F9); (try (have GL9 := globFor F9 (Glob.regrown (by with_reducible assumption) BT'))); (try (have BM9 := bmodFor F9 (BMod.regrown (by with_reducible assumption) BT'))); (repeat ((rename Heap.IsList _ _ _ => x'); first | (have y' := Based.lst B9 x'; revert y'; revert x') | revert x'))); intros; (try dsimp only); (try k_fold)))
namespace Mine
end Mine

set_option exponentiation.threshold 256
namespace Mine
theorem turn_endD {s : Shared} {h₀ : Heap} {x x1 : Str} {L : Addr} {stored : List Str} {v1 : Option Value} {v u m₀ : Str → Option Value} {led own : List (Addr × Obj)} {pre : List Int} {h' : Heap} {tk : Nat}
    (F : Fr h₀ L h' (fun y => if y = x1 then v1 else if y = x then v y else kstB (fun z => if stored.contains z then u z else m₀ z) [] y)) (N : News h₀ L h' (led ++ own)) (hx1 : ∀ z, stored.contains z = false → z ≠ x1) :
    InvEndN h₀ L (KstS (σ := Unit) (fun _ => led) (fun _ => []) (fun _ => True) x stored m₀ (fun _ _ => True) pre) own (led.map (·.1)) s { s with heap := h', toks := tk } :=
  kst_end () F N (fun p hp => List.mem_append.mpr (.inl hp)) (fun p hp => List.mem_append.mpr (.inr hp)) rfl True.intro (List.forall_mem_nil _) (fun z h1 _ h3 => by
    show (if z = x1 then v1 else if z = x then v z else kstB (fun z => if stored.contains z then u z else m₀ z) [] z) = m₀ z
    rw [if_neg (hx1 z h3)]
    exact kmap h1 h3) True.intro
theorem not_height {z : Str} (h : [PySem.Str.ofString "height"].contains z = false) : z ≠ PySem.Str.ofString "height" := fun e => by
  rw [e] at h
  exact absurd h (by decide)
end Mine
open Mine
local macro_rules | `(tactic| walk_at "InvEndN") => `(tactic| (k_here; k_dflt ((rename Fr _ _ _ _ => kF); (rename News _ _ _ _ => kN); exact turn_endD kF kN (fun _ h => not_height h))))
open Mine
local macro_rules | `(tactic| walk_at "InvPostN") => `(tactic| (k_here; k_dflt ((rename Fr _ _ _ _ => kF); (rename News _ _ _ _ => kN); exact turn_endD kF kN (fun _ h => not_height h))))

open Mine

namespace Mine
/-- only the clock of the state is let go -/
theorem gen_toks {α : Type} {M : Model} {A : Around} {t : Sem α} {Q : α → Shared → Prop} {E : Value → Shared → Prop} {h : Heap} {g} {d} {X : Nat} {o} (k : ∀ x, wpAny M A t Q E ⟨h, g, d, x, o⟩) : wpAny M A t Q E ⟨h, g, d, X, o⟩ := k X
end Mine
local macro_rules | `(tactic| walk_at "execs cons If nil") => `(tactic| (k_here; (with_reducible show wpAny _ _ _ _ _ (Shared.mk _ _ _ (_ + _) _)); (with_reducible refine gen_toks ?_); intro tk))
local macro_rules | `(tactic| walk_at "call ref") => `(tactic| (k_here; (with_reducible show wpAny _ _ (call (Value.ref 283) [Value.int _ _] []) _ _ _); k_dflt (refine' (s_forms _ _ _ _ _ _) _ _ _ _ _ _ _ _ _ _ _ ?k1 ?k2 ?k3 ?k4 ?kK ?_; (case k1 => k_asm); (case k2 => k_asm); (case k3 => k_asm); (case k4 => k_asm); (case kK => first | exact rfl | assumption)); intro v9 h9 tk9 R9 F9 N9; (subst R9); (try dsimp only); (try k_fold)))
local macro_rules | `(tactic| walk_at "call ref") => `(tactic| (k_here; (with_reducible show wpAny _ _ (call (Value.ref 290) [Value.int _ _, Value.int _ _, Value.int _ _] []) _ _ _); k_dflt (refine' (s_spans _ _ _ _ _ _ _ _ _ _) _ _ _ _ _ _ _ _ _ _ _ ?k1 ?k2 ?k3 ?k4 ?kK ?_; (case k1 => k_asm); (case k2 => k_asm); (case k3 => k_asm); (case k4 => k_asm); (case kK => first | exact rfl | assumption)); intro v9 h9 tk9 R9 F9 N9; (subst R9); (try dsimp only); (try k_fold)))

theorem PySem.Challenge.cw_ez0015_01_holds : PySem.Challenge.rw_ez0015_01.Holds := by
  refine Mine.hd ?_
  k_fill
  intro w s₀ s₁ mg mb G Y fa o pm cd doc dV kV ho hd hcd hD hmg hg args vals as hpre hlay hrd hwl hlo
  have KX := km_in_of Y
  have hTab : s₁.heap.get? 153 = some { cls := .none, data := .fields #[] } := km_tabs_of Y 153 (.head _)
  have BT := Mine.based_chain KX hTab
  clear Y
  lgec_behind G ho hd hcd hD hmg hpre hlay hrd hwl hlo cd
  (k_with "pyIter ref" => k_search (fun pre => True))
  (k_with "state" => (first | trivial | (intros; trivial)))
  k_steps
  all_goals (first | (exfalso; omega) | skip)
  (try dsimp only)
  k_unfold
  (try dsimp only)
  wrow_closeG
