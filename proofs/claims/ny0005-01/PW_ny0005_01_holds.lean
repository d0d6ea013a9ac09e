import PyProof.Rows.All
import Wide.All
import OpenK.AllK
import Wide.FinOn
import Lean
import PySem.Challenge.RW_ny0005_01
open PySem PySem.W PyProof.Rows
set_option Elab.async false
set_option maxRecDepth 100000
set_option maxHeartbeats 16000000
namespace Mine

open_top hd for PySem.Challenge.rw_ny0005_01

open PySem.Spec PySem.Calls

/-- the callee's end: what it gives back, where everything that stood at the call's start is kept -/
def KLeave (_g : Heap) (R : Result → Shared → Prop) (v : Value) (s' : Shared) : Prop := R (.ok (.ret v)) s'

section
variable {prog : Program} {w : World} {A₀ A : Around} {s : Shared} {base h₀ : Heap} {outer : List Env} {L : Addr} {m : Str → Option Value} {env : Env} {K : Frag}
  {p : Program} {loose : List Str} {mean : ExcName → Option Value} {mg mb : Str → Option Value}
  {R : Result → Shared → Prop} {name qual : Str} {params : Arguments} {body : List Stmt} {scope : Scope} {dV kV doc pm cdv ct oc : Value} {an od : Option Addr} {osl : Array (Option Value)} {f : Addr} {args : Args} {binds : List (Str × Value)}

theorem code_keep (B : Below A₀ base outer h₀) (F : Fr h₀ L s.heap m) (X₀ : K.In h₀) (T : Top p loose mean mg mb h₀) (hA : A.frames = some (env :: outer)) (hf : env.frame = some L) (hke : env.scope.kind = .function)
    (ho : K.lookup f = some ⟨oc, od, .func (fnOf name qual params body scope dV kV doc pm an cdv ct), osl⟩) (hcd : codeIn K cdv qual = true) (hroom : A.depth < recursionLimit)
    (hbind : BindsTo s (fnOf name qual params body scope dV kV doc pm an cdv ct) args binds) (hloc : ∀ y ∈ binds, scope.names.lookup y.1 = some .local)
    (h : ∀ g L' h₁, g = s.heap → Fr g L' h₁ (fun y => binds.reverse.lookup y) → News g L' h₁ [] → Below A base (env :: outer) g → K.In g → Top p loose mean mg mb g →
      wpAny (model prog w) (A.deeper (envOf qual scope L' f cdv)) (execs body (envOf qual scope L' f cdv))
        (fun fl s' => KLeave g R (match fl with | .ret v => v | _ => .none) s')
        (fun e s' => wpAny (model prog w) (A.deeper (envOf qual scope L' f cdv)) (leaving (envOf qual scope L' f cdv) e) (fun _ s'' => R (.error e) s'') (fun e' s'' => R (.error e') s'') s')
        { s with heap := h₁, toks := s.toks + binds.length })
    (hco : scope.isCoroutine = false) (hgen : scope.isGenerator = false) (hk : scope.kind = .function)
    (hcell : ∀ x ∈ scope.names, x.2 ≠ .cell) : codeAny (model prog w) A (.call (.ref f) args) R s := by
  obtain ⟨_, BG, _, _⟩ := groundX (R := R) B F (News.nil) hA hf hke
  refine codeAny_call_def (fd := fnX name qual params body scope [] dV kV doc pm an cdv ct) (body := body) (binds := binds) hroom ((X₀.keeps F.keep) _ _ ho) rfl (T.nolimit.keeps F.keep) (codeRec_of (X₀.keeps F.keep) hcd) rfl hbind hcell hloc (fun h₁ hns hk₁ => ?_) hco hgen hk
  exact wpAny_mono (h _ s.heap.objs.size h₁ rfl ⟨hns, hk₁, Nat.le_refl _⟩ News.nil BG (X₀.keeps F.keep) (T.keeps F.keep)) (fun fl s' hl => hl) fun _ _ y => y

/-- a frame and a ledger stand where all is kept -/
theorem fr_keep {h h' : Heap} (F : Fr h₀ L h m) (k : ∀ b o, h.get? b = some o → h'.get? b = some o) : Fr h₀ L h' m := by
  obtain ⟨oL, es, ep, hL, r⟩ := F.ns
  exact ⟨⟨oL, es, ep, k _ _ hL, r⟩, fun b o e => k b o (F.keep b o e), F.above⟩
theorem news_keep {h h' : Heap} {news : List (Addr × Obj)} (N : News h₀ L h news) (k : ∀ b o, h.get? b = some o → h'.get? b = some o) : News h₀ L h' news :=
  fun q hq => ⟨k _ _ (N q hq).1, (N q hq).2⟩
theorem news_more {h h' : Heap} {news : List (Addr × Obj)} {d : Addr} {o : Obj} (F : Fr h₀ L h m) (N : News h₀ L h news) (k : ∀ b o, h.get? b = some o → h'.get? b = some o)
    (hd : h'.get? d = some o) (hn : h.get? d = none) : News h₀ L h' ((d, o) :: news) := by
  intro q hq
  rcases List.mem_cons.mp hq with rfl | hq
  · refine ⟨hd, fun e => ?_, ?_⟩
    · obtain ⟨oL, _, _, hL, _⟩ := F.ns
      simp only at e
      rw [e, hL] at hn; cases hn
    · cases z : h₀.get? d with
      | none => rfl
      | some o' => rw [F.keep _ _ z] at hn; cases hn
  · exact ⟨k _ _ (N q hq).1, (N q hq).2⟩
theorem news_lt {h : Heap} {news : List (Addr × Obj)} {d : Addr} (N : News h₀ L h news) (hd : h.objs.size ≤ d) : ∀ p ∈ news, p.1 < d :=
  fun q hq => Nat.lt_of_lt_of_le (Heap.lt_size (N q hq).1) hd
end

abbrev PG : Program := Challenge.rw_ny0005_01.row.prog
noncomputable abbrev KK (w : World) : Frag := hd.heap_39 w.params
noncomputable abbrev TT (mean : ExcName → Option Value) (mg mb : Str → Option Value) (h : Heap) : Prop := Top hd.view_39 (looseW hd.view_39 []) mean mg mb h
abbrev Kept (h h' : Heap) : Prop := ∀ b o, h.get? b = some o → h'.get? b = some o

open PySem.Spec PySem.Calls

def cf (ns : List Int) : Int × Int := ns.foldl (fun p n => (n * p.1 + p.2, p.1)) (1, 0)
theorem cf_snoc (ns : List Int) (n : Int) : cf (ns ++ [n]) = (n * (cf ns).1 + (cf ns).2, (cf ns).1) := by simp [cf]

theorem mulOk_l {a b : Int} (h : 1 ≤ a ∧ a ≤ 31) : IntMulOk a b := IntMulOk.of_left (intBits_le_64 (by omega) (by omega))

theorem mulOk_mem {ns : List Int} {a b : Int} (hb : ∀ v ∈ ns, 1 ≤ v ∧ v ≤ 31) (h : a ∈ ns) : IntMulOk a b := mulOk_l (hb a h)
local macro_rules | `(tactic| walk_at "binaryOp Mult int int") => `(tactic| (k_here; (with_reducible show wpAny _ _ (binaryOp Operator.Mult (Value.int _ _) (Value.int _ _)) _ _ _); refine mul_int ?_ (mulOk_mem (by assumption) (by assumption))))
theorem fold_c (w : World) (mean : ExcName → Option Value) (mg mb : Str → Option Value) (e₁ : Env) (cn : Str) (cs : Scope) (a : Addr) (ccd : Value) (A₀ : Around) (base h₀ : Heap) (L : Addr) (m : Str → Option Value) (s : Shared)
    (l : Addr) (vs : List Value) (ns : List Int) (Q E : Value → Shared → Prop)
    (B : Below A₀ base [e₁] h₀) (F : Fr h₀ L s.heap m) (X : (hd.heap_39 w.params).In h₀) (T : Top hd.view_39 (looseW hd.view_39 []) mean mg mb h₀) (hk : cs.kind = .function)
    (hl : s.heap.IsList l vs.toArray) (hi : IntsAre vs ns) (hb : ∀ v ∈ ns, 1 ≤ v ∧ v ≤ 31) (hlen : ns.length ≤ 8)
    (ret : ∀ D t1 t2 h' tk', Kept s.heap h' → h'.get? D = some (W.listOf #[.int (cf ns).1 t1, .int (cf ns).2 t2] 0) → s.heap.get? D = none → Q (.ref D) { s with heap := h', toks := tk' }) :
    wpAny (model Challenge.rw_ny0005_01.row.prog w) ((callerA.deeper e₁).deeper (envOf cn cs L a ccd)) (call (.ref 63) [.ref l]) Q E s := by
  k_with_none
  w_top off
  revert X; k_fill; intro X
  refine wpAny_call ?_
  k_dflt (refine' code_keep ?k1 ?k2 ?k3 ?k5 ?kA ?kF ?kK ?k6 ?k7 ?k8 ?k9 ?kB ?_ ?c2 ?c3 ?c4 ?c5; (case kA => exact rfl); (case kF => exact rfl); (case kK => assumption); (case k1 => k_asm); (case k2 => k_asm); (case k3 => k_asm); (case k5 => k_asm); (case k6 => k_is); (case k7 => k_is); (case k8 => k_room); (case k9 => exact BindsTo.of_eq rfl); (case c5 => decide); (case kB => exact locs rfl); (case c2 => exact rfl); (case c3 => exact rfl); (case c4 => exact rfl); k_whole)
  intro g L' h' Eg F' N' B' X' T'
  rw [← Eg] at hl ret
  clear B F X T Eg
  try dsimp only
  try k_lift B'
  try k_fold
  w_strict (k_steps)
  all_goals (try k_data)
  rename Fr g _ _ _ => Fz
  rename News g _ _ _ => Nz
  exact ret _ _ _ _ _ Fz.keep (Nz _ (.head _)).1 (Nz _ (.head _)).2.2

open PySem.Spec PySem.Calls

inductive Euc : Int → Int → List Int → List Int → Prop
  | nil (a : Int) : Euc a 0 [] []
  | step {a b : Int} {row rests : List Int} : b ≠ 0 → Euc b (a.fmod b) row rests → Euc a b (a.fdiv b :: row) (b :: rests)

def UInv (M R : List Int) (a b : Int) (row rests : List Int) : Prop :=
  row.length ≤ 8 ∧ rests.length ≤ 8 ∧ M.length ≤ 8 ∧ R.length ≤ 8 ∧ ∃ M' R', Euc a b M' R' ∧ row ++ M' = M ∧ rests ++ R' = R
theorem UInv.start {M R : List Int} {a b : Int} (h : Euc a b M R) (h1 : M.length ≤ 8) (h2 : R.length ≤ 8) : UInv M R a b [] [] := ⟨by simp, by simp, h1, h2, M, R, h, rfl, rfl⟩
theorem UInv.turn {M R row rests : List Int} {a b : Int} (h : UInv M R a b row rests) (hb : b ≠ 0) : UInv M R b (a.fmod b) (row ++ [a.fdiv b]) (rests ++ [b]) := by
  obtain ⟨h1, h2, h3, h4, M', R', e, rfl, rfl⟩ := h
  cases e with
  | nil => exact absurd rfl hb
  | step _ e =>
    simp only [List.length_append, List.length_cons] at h3 h4
    refine ⟨by simp; omega, by simp; omega, by simp; omega, by simp; omega, _, _, e, by simp, by simp⟩
theorem UInv.fall {M R row rests : List Int} {a b : Int} {k : Nat} (h : UInv M R a b row rests) (hb : b ≠ 0) (hk : k = row.length + 1) : M.length - k < M.length - row.length := by
  obtain ⟨h1, h2, h3, h4, M', R', e, rfl, rfl⟩ := h
  cases e with
  | nil => exact absurd rfl hb
  | step _ e => simp only [List.length_append, List.length_cons]; omega
theorem UInv.turn3 {M R row rests : List Int} {a b : Int} (h : UInv M R a b row rests) (hb : b ≠ 0) :
    (row ++ [a.fdiv b]).length ≤ 8 ∧ (rests ++ [b]).length ≤ 8 ∧ UInv M R b (a.fmod b) (row ++ [a.fdiv b]) (rests ++ [b]) := have t := h.turn hb; ⟨t.1, t.2.1, t⟩
theorem UInv.start3 {M R : List Int} {a b : Int} (h : Euc a b M R) (h1 : M.length ≤ 8) (h2 : R.length ≤ 8) : ([] : List Int).length ≤ 8 ∧ ([] : List Int).length ≤ 8 ∧ UInv M R a b [] [] := ⟨by simp, by simp, UInv.start h h1 h2⟩
theorem UInv.fall3 {M R row rests : List Int} {a b : Int} (h : UInv M R a b row rests) (hb : b ≠ 0) : M.length - (row ++ [a.fdiv b]).length < M.length - row.length := h.fall hb (by simp)
theorem UInv.done {M R row rests : List Int} {a b : Int} (h : UInv M R a b row rests) (hb : b = 0) : row = M ∧ rests = R := by
  subst hb
  obtain ⟨h1, h2, h3, h4, M', R', e, rfl, rfl⟩ := h
  cases e with
  | nil => simp
  | step h _ => exact absurd rfl h

local macro_rules | `(tactic| walk_at "exec While Compare") => `(tactic| (k_extra "mywhile"))
local macro_rules | `(tactic| walk_at "exec While") => `(tactic| (k_extra "mywhile"))
local macro_rules | `(tactic| walk_at "binaryOp FloorDiv int int") => `(tactic| (k_here; (with_reducible show wpAny _ _ (binaryOp Operator.FloorDiv (Value.int _ _) (Value.int _ _)) _ _ _); refine floordiv_int (by assumption) ?_))
local macro_rules | `(tactic| walk_at "binaryOp Mod int int") => `(tactic| (k_here; (with_reducible show wpAny _ _ (binaryOp Operator.Mod (Value.int _ _) (Value.int _ _)) _ _ _); refine mod_int' (by assumption) ?_))
theorem unf_c (w : World) (mean : ExcName → Option Value) (mg mb : Str → Option Value) (e₁ : Env) (cn : Str) (cs : Scope) (a : Addr) (ccd : Value) (A₀ : Around) (base h₀ : Heap) (L : Addr) (m : Str → Option Value) (s : Shared)
    (x y : Int) (tx ty : Tok) (M R : List Int) (Q E : Value → Shared → Prop)
    (B : Below A₀ base [e₁] h₀) (F : Fr h₀ L s.heap m) (X : (hd.heap_39 w.params).In h₀) (T : Top hd.view_39 (looseW hd.view_39 []) mean mg mb h₀) (hk : cs.kind = .function)
    (he : Euc x y M R) (hM : M.length ≤ 8) (hR : R.length ≤ 8)
    (ret : ∀ D D1 D2 ws1 ws2 n1 n2 h' tk', Kept s.heap h' → h'.get? D = some (W.listOf #[.ref D1, .ref D2] 0) → h'.get? D1 = some (W.listOf ws1.toArray n1) → IntsAre ws1 M → h'.get? D2 = some (W.listOf ws2.toArray n2) → IntsAre ws2 R →
      s.heap.get? D = none → s.heap.get? D1 = none → s.heap.get? D2 = none → Q (.ref D) { s with heap := h', toks := tk' }) :
    wpAny (model Challenge.rw_ny0005_01.row.prog w) ((callerA.deeper e₁).deeper (envOf cn cs L a ccd)) (call (.ref 70) [.int x tx, .int y ty]) Q E s := by
  k_with_none
  w_top off
  revert X; k_fill; intro X
  refine wpAny_call ?_
  k_dflt (refine' code_keep ?k1 ?k2 ?k3 ?k5 ?kA ?kF ?kK ?k6 ?k7 ?k8 ?k9 ?kB ?_ ?c2 ?c3 ?c4 ?c5; (case kA => exact rfl); (case kF => exact rfl); (case kK => assumption); (case k1 => k_asm); (case k2 => k_asm); (case k3 => k_asm); (case k5 => k_asm); (case k6 => k_is); (case k7 => k_is); (case k8 => k_room); (case k9 => exact BindsTo.of_eq rfl); (case c5 => decide); (case kB => exact locs rfl); (case c2 => exact rfl); (case c3 => exact rfl); (case c4 => exact rfl); k_whole)
  intro g L' h' Eg F' N' B' X' T'
  rw [← Eg] at ret
  clear B F X T Eg
  try dsimp only
  try k_lift B'
  try k_fold
  have i0 : IntsAre [] [] := IntsAre.nil
  k_with "mywhile" => k_dflt (k_while (fun _ a b row rests => row.length ≤ 8 ∧ rests.length ≤ 8 ∧ UInv M R a b row rests) (fun _ a b row rests => M.length - row.length) "above" "below" "row" "rests")
  k_with "state" => first | exact UInv.start3 he hM hR | exact UInv.turn3 (by assumption) (by assumption)
  k_with "measure" => exact UInv.fall3 (by assumption) (by assumption)
  w_strict (k_steps)
  rename Fr g _ _ _ => Fz
  rename News g _ _ _ => Nz
  rename UInv _ _ _ _ _ _ => Uz
  obtain ⟨eM, eR⟩ := Uz.done (by assumption)
  subst eM eR
  exact ret _ _ _ _ _ _ _ _ _ Fz.keep (Nz _ (.head _)).1 (Nz _ (.tail _ (.tail _ (.head _)))).1 (by assumption) (Nz _ (.tail _ (.head _))).1 (by assumption) (Nz _ (.head _)).2.2 (Nz _ (.tail _ (.tail _ (.head _)))).2.2 (Nz _ (.tail _ (.head _))).2.2

open PySem.Spec PySem.Calls

theorem fold_use {w : World} {mean : ExcName → Option Value} {mg mb : Str → Option Value} {e₁ : Env} {cn : Str} {cs : Scope} {a : Addr} {ccd : Value} {A₀ : Around} {base h₀ : Heap} {L : Addr} {m : Str → Option Value} {s : Shared} {news : List (Addr × Obj)}
    {l : Addr} {vs : List Value} {ns : List Int} {Q E : Value → Shared → Prop}
    (B : Below A₀ base [e₁] h₀) (F : Fr h₀ L s.heap m) (N : News h₀ L s.heap news) (X : (hd.heap_39 w.params).In h₀) (T : Top hd.view_39 (looseW hd.view_39 []) mean mg mb h₀) (hk : cs.kind = .function)
    (hl : s.heap.IsList l vs.toArray) (hi : IntsAre vs ns) (hb : ∀ v ∈ ns, 1 ≤ v ∧ v ≤ 31) (hlen : ns.length ≤ 8)
    (ret : ∀ D t1 t2 h' tk', Fr h₀ L h' m → News h₀ L h' ((D, W.listOf #[.int (cf ns).1 t1, .int (cf ns).2 t2] 0) :: news) → Q (.ref D) { s with heap := h', toks := tk' }) :
    wpAny (model Challenge.rw_ny0005_01.row.prog w) ((callerA.deeper e₁).deeper (envOf cn cs L a ccd)) (call (.ref 63) [.ref l]) Q E s :=
  fold_c w mean mg mb e₁ cn cs a ccd A₀ base h₀ L m s l vs ns Q E B F X T hk hl hi hb hlen fun D t1 t2 h' tk' k g n => ret D t1 t2 h' tk' (fr_keep F k) (news_more F N k g n)

theorem unf_use {w : World} {mean : ExcName → Option Value} {mg mb : Str → Option Value} {e₁ : Env} {cn : Str} {cs : Scope} {a : Addr} {ccd : Value} {A₀ : Around} {base h₀ : Heap} {L : Addr} {m : Str → Option Value} {s : Shared} {news : List (Addr × Obj)}
    {x y : Int} {tx ty : Tok} {M R : List Int} {Q E : Value → Shared → Prop}
    (B : Below A₀ base [e₁] h₀) (F : Fr h₀ L s.heap m) (N : News h₀ L s.heap news) (X : (hd.heap_39 w.params).In h₀) (T : Top hd.view_39 (looseW hd.view_39 []) mean mg mb h₀) (hk : cs.kind = .function)
    (he : Euc x y M R) (hM : M.length ≤ 8) (hR : R.length ≤ 8)
    (ret : ∀ D D1 D2 ws1 ws2 n1 n2 h' tk', Fr h₀ L h' m → News h₀ L h' ((D, W.listOf #[.ref D1, .ref D2] 0) :: (D1, W.listOf ws1.toArray n1) :: (D2, W.listOf ws2.toArray n2) :: news) → IntsAre ws1 M → IntsAre ws2 R → Q (.ref D) { s with heap := h', toks := tk' }) :
    wpAny (model Challenge.rw_ny0005_01.row.prog w) ((callerA.deeper e₁).deeper (envOf cn cs L a ccd)) (call (.ref 70) [.int x tx, .int y ty]) Q E s := by
  refine unf_c w mean mg mb e₁ cn cs a ccd A₀ base h₀ L m s x y tx ty M R Q E B F X T hk he hM hR fun D D1 D2 ws1 ws2 n1 n2 h' tk' k g g1 i1 g2 i2 n m1 m2 => ret D D1 D2 ws1 ws2 n1 n2 h' tk' (fr_keep F k) ?_ i1 i2
  intro q hq
  rcases List.mem_cons.mp hq with rfl | hq
  · exact news_more F N k g n _ (.head _)
  rcases List.mem_cons.mp hq with rfl | hq
  · exact news_more F N k g1 m1 _ (.head _)
  · exact news_more F N k g2 m2 _ hq

local macro_rules | `(tactic| walk_at "call ref") => `(tactic| (k_here; (with_reducible show wpAny _ _ (call (Value.ref 63) [Value.ref _]) _ _ _); k_dflt (refine' fold_use ?B ?F ?N ?X ?T ?k ?l ?i ?b ?z ?_; (case B => k_asm); (case F => k_asm); (case N => k_asm); (case X => k_asm); (case T => k_asm); (case k => exact rfl); (case l => is_list); (case i => l_ints); (case b => assumption); (case z => assumption)); k_whole; intro D9 t9 u9 h9 tk9 F9 N9; (try dsimp only); (try k_fold)))
local macro_rules | `(tactic| walk_at "call ref") => `(tactic| (k_here; (with_reducible show wpAny _ _ (call (Value.ref 70) [Value.int _ _, Value.int _ _]) _ _ _); k_dflt (refine' unf_use ?B ?F ?N ?X ?T ?k ?e ?m ?r ?_; (case B => k_asm); (case F => k_asm); (case N => k_asm); (case X => k_asm); (case T => k_asm); (case k => exact rfl); (case e => assumption); (case m => assumption); (case r => assumption)); k_whole; intro D9 D8 D7 ws9 ws8 n9 n8 h9 tk9 F9 N9 i9 i8; (try dsimp only); (try k_fold)))

local macro_rules | `(tactic| walk_at "binaryOp Mult int int") => `(tactic| (k_here; (with_reducible show wpAny _ _ (binaryOp Operator.Mult (Value.int _ _) (Value.int _ _)) _ _ _); refine mul_int ?_ (by assumption)))
local macro_rules | `(tactic| walk_at "binaryOp Mod int int") => `(tactic| (k_here; (with_reducible show wpAny _ _ (binaryOp Operator.Mod (Value.int _ _) (Value.int _ _)) _ _ _); refine mod_int' (by assumption) ?_))
theorem right_c (w : World) (mean : ExcName → Option Value) (mg mb : Str → Option Value) (cn : Str) (cs : Scope) (a : Addr) (ccd : Value) (A₀ : Around) (base h₀ : Heap) (L : Addr) (m : Str → Option Value) (s : Shared)
    (l1 l2 l3 l4 : Addr) (vs1 vs2 vs3 vs4 : List Value) (n1 n2 n3 n4 R : List Int) (Q E : Value → Shared → Prop)
    (B : Below A₀ base [] h₀) (F : Fr h₀ L s.heap m) (X : (hd.heap_39 w.params).In h₀) (T : Top hd.view_39 (looseW hd.view_39 []) mean mg mb h₀) (hk : cs.kind = .function)
    (hl1 : s.heap.IsList l1 vs1.toArray) (hi1 : IntsAre vs1 n1) (hb1 : ∀ v ∈ n1, 1 ≤ v ∧ v ≤ 31) (hz1 : n1.length ≤ 8)
    (hl2 : s.heap.IsList l2 vs2.toArray) (hi2 : IntsAre vs2 n2) (hb2 : ∀ v ∈ n2, 1 ≤ v ∧ v ≤ 31) (hz2 : n2.length ≤ 8)
    (hl3 : s.heap.IsList l3 vs3.toArray) (hi3 : IntsAre vs3 n3) (hb3 : ∀ v ∈ n3, 1 ≤ v ∧ v ≤ 31) (hz3 : n3.length ≤ 8)
    (hl4 : s.heap.IsList l4 vs4.toArray) (hi4 : IntsAre vs4 n4) (hb4 : ∀ v ∈ n4, 1 ≤ v ∧ v ≤ 31) (hz4 : n4.length ≤ 8) (hq4 : 1 ≤ n4.length)
    (he : Euc (cf n1).1 (cf n1).2 n2 R) (hR : R.length ≤ 8)
    (hr : List.take (min ((n4.length : Int) + 1).toNat R.length - ((n4.length : Int) - 1).toNat) (List.drop ((n4.length : Int) - 1).toNat R) = [(cf n3).1, (cf n3).2])
    (q1 : IntMulOk (cf n3).1 (cf n4).1) (q2 : IntMulOk (cf n3).2 (cf n4).2) (q3 : IntMulOk (cf n1).2 (cf n2).2)
    (h0 : (cf n1).1 ≠ 0) (hs : (cf n1).1 = (cf n3).1 * (cf n4).1 + (cf n3).2 * (cf n4).2) (hm : ((cf n1).2 * (cf n2).2).fmod (cf n1).1 = (cf n1).1 - 1)
    (ret : ∀ h' tk', Kept s.heap h' → Q (.bool true) { s with heap := h', toks := tk' }) :
    wpAny (model Challenge.rw_ny0005_01.row.prog w) (callerA.deeper (envOf cn cs L a ccd)) (call (.ref 77) [.ref l1, .ref l2, .ref l3, .ref l4]) Q E s := by
  k_with_none
  w_top off
  revert X; k_fill; intro X
  refine wpAny_call ?_
  k_dflt (refine' code_keep ?k1 ?k2 ?k3 ?k5 ?kA ?kF ?kK ?k6 ?k7 ?k8 ?k9 ?kB ?_ ?c2 ?c3 ?c4 ?c5; (case kA => exact rfl); (case kF => exact rfl); (case kK => assumption); (case k1 => k_asm); (case k2 => k_asm); (case k3 => k_asm); (case k5 => k_asm); (case k6 => k_is); (case k7 => k_is); (case k8 => k_room); (case k9 => exact BindsTo.of_eq rfl); (case c5 => decide); (case kB => exact locs rfl); (case c2 => exact rfl); (case c3 => exact rfl); (case c4 => exact rfl); k_whole)
  intro g L' h' Eg F' N' B' X' T'
  rw [← Eg] at hl1 hl2 hl3 hl4 ret
  clear B F X T Eg
  try dsimp only
  try k_lift B'
  try k_fold
  w_strict (k_steps)
  · rename Fr g _ _ _ => Fz
    rw [beq_iff_eq.mpr hm]
    exact ret _ _ Fz.keep
  · exact absurd hs (by assumption)

open PySem.Spec PySem.Calls
open Sem (wp)

/-- a code that may hold a bytearray's memory while it decodes -/
def decodes : Code → Bool
  | .builtin id _ => Builtin.Bytes.decodersThatHold.contains id
  | _ => false
def CleanB (Γ : PySem.Ctx) : Prop := ∀ x ∈ Γ.below, decodes x.1 = false
def Clean (Γ : PySem.Ctx) : Prop := decodes Γ.code = false ∧ CleanB Γ

/-- wpAny, over the contexts in which nothing decodes -/
def wpG {α : Type} (M : Model) (A : Around) (t : Sem α) (Q : α → Shared → Prop) (E : Value → Shared → Prop) (s : Shared) : Prop :=
  ∀ Γ p, Γ.In A → Clean Γ → wp M Γ t (fun a _ s' => Q a s') (fun e _ s' => E e s') p s
def codeG (M : Model) (A : Around) (c : Code) (R : Result → Shared → Prop) (s : Shared) : Prop :=
  ∀ Γ p, Γ.code = c → Γ.Below A → CleanB Γ → wpCode M Γ R p s

section
variable {α β : Type} {M : Model} {A : Around} {E : Value → Shared → Prop} {s : Shared} {env : Env}
theorem wpG_any {t : Sem α} {Q : α → Shared → Prop} (h : wpAny M A t Q E s) : wpG M A t Q E s := fun Γ p hΓ _ => h Γ p hΓ
theorem codeG_any {c : Code} {R : Result → Shared → Prop} (h : codeAny M A c R s) : codeG M A c R s := fun Γ p hc hΓ _ => h Γ p hc hΓ
theorem wpG_bind {m : Sem α} {f : α → Sem β} {Q : β → Shared → Prop} (h : wpG M A m (fun a s' => wpG M A (f a) Q E s') E s) : wpG M A (m >>= f) Q E s := fun Γ p hΓ hg => by
  rw [Sem.wp_bind']
  exact Sem.wp_mono M Γ m (fun a p' s' h' => h' Γ p' hΓ hg) (fun _ _ _ h' => h') p s (h Γ p hΓ hg)
theorem wpG_mono {t : Sem α} {Q Q' : α → Shared → Prop} {E' : Value → Shared → Prop} (h : wpG M A t Q E s) (hQ : ∀ a s, Q a s → Q' a s) (hE : ∀ e s, E e s → E' e s) : wpG M A t Q' E' s :=
  fun Γ p hΓ hg => Sem.wp_mono M Γ t (fun a _ s => hQ a s) (fun e _ s => hE e s) p s (h Γ p hΓ hg)
theorem wpG_holding {vs : List Value} {m : Sem α} {Q : α → Shared → Prop} (h : wpG M A m Q E s) : wpG M A (holding vs m) Q E s :=
  fun Γ p hΓ hg => by rw [Sem.wp_holding]; exact h Γ p hΓ hg
theorem wpG_keep {vs : List Value} {m : Sem α} {Q : α → Shared → Prop} (h : wpG M A m Q E s) : wpG M A (m.keep vs) Q E s :=
  fun Γ p hΓ hg => by rw [Sem.wp_keep]; exact h Γ p hΓ hg
theorem wpG_onRaise {m : Sem α} {k : Value → Sem Unit} {Q : α → Shared → Prop} (h : wpG M A m Q (fun e s' => wpAny M A (k e) (fun _ s'' => E e s'') E s') s) : wpG M A (m.onRaise k) Q E s := fun Γ p hΓ hg => by
  rw [Sem.wp_onRaise]
  exact Sem.wp_mono M Γ m (fun _ _ _ h' => h') (fun e p' s' h' => h' Γ p' hΓ) p s (h Γ p hΓ hg)
theorem wpG_call {f : Value} {pos : List Value} {kw : List (Str × Value)} {Q : Value → Shared → Prop}
    (hc : codeG M A (.call f ⟨pos, kw⟩) (fun r s' => match r with | .ok (.ret v) => Q v s' | .ok _ => False | .error e => E e s') s) : wpG M A (call f pos kw) Q E s := fun Γ p hΓ hg => by
  show wp M Γ (runValue (.call f ⟨pos, kw⟩)) _ _ p s
  rw [Sem.wp_runValue]
  refine hc _ p rfl (hΓ.enter _ none p (by intro x; cases x)) fun x hx => ?_
  rcases List.mem_cons.mp hx with rfl | hx
  · exact hg.1
  · exact hg.2 x hx
theorem codeG_of_tree {c : Code} {R : Result → Shared → Prop} (hn : decodes c = false)
    (h : wpG M (A.under c) (M.den c) (fun fin s' => match fin with | .done f => R (.ok f) s' | .again c' => c'.quiet = true ∧ codeG M A c' R s') (fun e s' => R (.error e) s') s) : codeG M A c R s := fun Γ p hc hΓ hg => by
  rw [wpCode_iff_wp, hc]
  refine Sem.wp_mono M Γ _ (fun fin p' s' h' => ?_) (fun _ _ _ h' => h') p s (h Γ p (hc ▸ hΓ.in) ⟨hc ▸ hn, hg⟩)
  cases fin with
  | done f => exact h'
  | again c' => exact ⟨h'.1, h'.2 (Γ.goto c') p' rfl (hΓ.goto c') hg⟩
theorem wpG_execs_cons {st rest} {Q : Flow → Shared → Prop} (h : wpG M A (exec st env) (fun f s' => match f with | .next => wpG M A (execs rest env) Q E s' | f => Q f s') E s) : wpG M A (execs (st :: rest) env) Q E s := fun Γ p hΓ hg => by
  rw [execs_cons, Sem.wp_bind']
  refine Sem.wp_mono M Γ _ (fun f p' s' h' => ?_) (fun _ _ _ h' => h') _ _ (h Γ p hΓ hg)
  cases f <;> first | exact h' Γ p' hΓ hg | exact h'
theorem wpG_Assign_Name {x pos' value pos} {Q : Flow → Shared → Prop} (h : wpG M A (eval value env) (fun v s₁ => wpAny M A (storeName env x v) (fun _ => Q .next) E s₁) E s)
    (hs : swapsWith value (some (.Name x pos')) pos.line env = pure false := by rfl) : wpG M A (exec (.Assign [.Name x pos'] value pos) env) Q E s := fun Γ p hΓ hg => by
  simp only [exec_Assign_Name env x pos' value pos hs, Sem.wp_bind', Sem.wp_cmd_standAt, Sem.wp_bindName, Sem.wp_pure']
  exact Sem.wp_mono M Γ _ (fun v _ s₁ h₁ => h₁ Γ _ hΓ) (fun _ _ _ h' => h') _ _ (h Γ _ hΓ hg)
end

open PySem.Spec PySem.Calls

abbrev baObj (b : Array UInt8) : Obj := { cls := .type "bytearray", data := .bytearray b }

theorem ba_no_bytes : typeLookup (.type "bytearray") "__bytes__" = pure none := by rw [typeLookup_type, builtinLookup_eq_fast]; kernel_rfl
theorem ba_no_index : typeLookup (.type "bytearray") "__index__" = pure none := by rw [typeLookup_type, builtinLookup_eq_fast]; kernel_rfl
theorem ba_buffer : typeLookup (.type "bytearray") "__buffer__" = pure (some (.builtin "bytearray.__buffer__")) := by rw [typeLookup_type, builtinLookup_eq_fast]; kernel_rfl
theorem ba_release : typeLookup (.type "bytearray") "__release_buffer__" = pure (some (.builtin "bytearray.__release_buffer__")) := by rw [typeLookup_type, builtinLookup_eq_fast]; kernel_rfl
theorem ba_sub : isSubtype (.type "bytearray") (.type "bytearray") = pure true := by rw [isSubtype_type]; kernel_rfl
theorem ba_slot_init : Slot "bytearray" "__init__" "bytearray.__init__" :=
  .of (owner := "bytearray") (n := "__init__") (by rw [typeLookup_type, builtinLookup_eq_fast]; kernel_rfl) (by decide +kernel) (by decide +kernel) (by decide +kernel)
    (by first | exact .inl (by decide +kernel) | exact .inr (by decide +kernel)) (by rw [isSubtype_type]; kernel_rfl)
theorem ba_slot_setitem : Slot "bytearray" "__setitem__" "bytearray.__setitem__" :=
  .of (owner := "bytearray") (n := "__setitem__") (by rw [typeLookup_type, builtinLookup_eq_fast]; kernel_rfl) (by decide +kernel) (by decide +kernel) (by decide +kernel)
    (by first | exact .inl (by decide +kernel) | exact .inr (by decide +kernel)) (by rw [isSubtype_type]; kernel_rfl)
theorem ba_entry_setitem : entryFor table "bytearray.__setitem__" = some Builtin.«bytearray.__setitem__» := by first | exact entryFor_of_fast (by kernel_rfl) | exact entryFor_of_tree (by kernel_rfl)
theorem ba_entry_init : entryFor table "bytearray.__init__" = some Builtin.«bytearray.__init__» := by first | exact entryFor_of_fast (by kernel_rfl) | exact entryFor_of_tree (by kernel_rfl)
theorem ba_args_setitem (a b c : Value) : argsOk "bytearray.__setitem__" ⟨[a, b, c], []⟩ := by kernel_rfl

section
variable {prog : Program} {w : World} {A : Around} {E : Value → Shared → Prop} {s : Shared}

theorem ba_payload {M : Model} {d : Addr} {b : Array UInt8} {Q : Array UInt8 → Shared → Prop} (hd : s.heap.get? d = some (baObj b)) (h : Q b s) : wpAny M A (Builtin.Bytes.payload (.ref d)) Q E s := by
  unfold Builtin.Bytes.payload Builtin.Bytes.payload?
  exact wpAny_bind (wpAny_bind (wpAny_load hd (wpAny_pure (wpAny_pure h))))

theorem ba_write {M : Model} {d : Addr} {b : Array UInt8} {f : Array UInt8 → Array UInt8} {Q : Unit → Shared → Prop} (hd : s.heap.get? d = some (baObj b)) (hz : (f b).size ≤ 64)
    (h : Q () { s with heap := s.heap.update d (Obj.mapBytearray f) }) : wpAny M A (Builtin.Bytes.write (.ref d) f) Q E s := by
  show wpAny _ _ (updateBytearray d f) _ _ _
  unfold updateBytearray
  refine wpAny_bind (wpAny_load hd ?_)
  show wpAny _ _ (update d (Obj.mapBytearray f) >>= fun _ => lookBehind d) _ _ _
  refine wpAny_bind (wpAny_update hd ?_)
  have hS₂ : (s.heap.update d (Obj.mapBytearray f)).get? d = some (baObj (f b)) := Heap.get?_update_self (Obj.mapBytearray f) hd rfl
  refine wpAny_lookBehind hS₂ ?_ h
  show (if (f b).size > sizeLine then some "bytearray:memory" else none) = none
  rw [if_neg]
  rw [sizeLine_eq]
  omega

theorem ba_subscript {M : Model} {k : Int} {t : Tok} {Q : Option Int → Shared → Prop} (h0 : 0 ≤ k) (h1 : k < 64) (h : Q (some k) s) : wpAny M A (Builtin.Bytes.subscript? (.int k t)) Q E s := by
  unfold Builtin.Bytes.subscript?
  refine wpAny_bind (wpAny_specialOf (T := "int") (typeIs_int s k t) int_index ?_)
  show wpAny M A (asIndex (.int k t) >>= _) Q E s
  refine wpAny_bind (wpAny_of_eq (a := k) rfl ?_)
  have hf : Builtin.Bytes.fitsIndex k = true := by
    unfold Builtin.Bytes.fitsIndex
    simp only [Bool.and_eq_true, decide_eq_true_eq]
    omega
  show wpAny M A (if (!Builtin.Bytes.fitsIndex k) = true then _ else _) Q E s
  rw [if_neg (by rw [hf]; decide)]
  exact wpAny_pure h

theorem ba_byteValue {M : Model} {v : Int} {u : Tok} {Q : UInt8 → Shared → Prop} (h0 : 0 ≤ v) (h1 : v < 256) (h : Q v.toNat.toUInt8 s) : wpAny M A (Builtin.Bytes.byteValue (.int v u)) Q E s := by
  unfold Builtin.Bytes.byteValue
  refine wpAny_bind (wpAny_of_eq (rfl : asIndex (.int v u) = pure v) ?_)
  refine bm_if_false (by simp only [Bool.or_eq_false_iff, decide_eq_false_iff_not]; omega) ?_
  exact wpAny_pure h

theorem setItem_ba {d : Addr} {b : Array UInt8} {k v : Int} {t u : Tok} {Q : Unit → Shared → Prop} (hd : s.heap.get? d = some (baObj b)) (h0 : 0 ≤ k) (hn : k < b.size) (hz : b.size ≤ 64) (v0 : 0 ≤ v) (v1 : v < 256)
    (hQ : Q () { s with heap := s.heap.update d (Obj.mapBytearray (·.setIfInBounds k.toNat v.toNat.toUInt8)) }) : wpAny (model prog w) A (setItem (.ref d) (.int k t) (.int v u)) Q E s := by
  have hT : s.TypeIs (.ref d) "bytearray" := ⟨_, hd, rfl⟩
  unfold setItem
  try with_reducible refine wpAny_holding ?_
  first | refine wpAny_bind (wpAny_pure ?_) | skip
  refine wpAny_bind (wpAny_sequenceKey hT (by decide) ?_)
  refine wpAny_bind (wpAny_callSpecial?_slot (name := Str.ofString "__setitem__") hT ba_slot_setitem
    (wpAny_call_entry ba_slot_setitem hT ba_entry_setitem ?_ (ba_args_setitem _ _ _)))
  show wpAny _ _ (Builtin.Bytes.subscript? (.int k t) >>= _) _ _ s
  refine wpAny_bind (ba_subscript h0 (by omega) ?_)
  show wpAny _ _ (Builtin.Bytes.byteValue (.int v u) >>= _) _ _ s
  refine wpAny_bind (ba_byteValue v0 v1 ?_)
  refine wpAny_bind (ba_payload hd ?_)
  have hs : seqIndex? k b.size = some k.toNat := by
    unfold seqIndex?
    simp only [if_neg (by omega : ¬ k < 0)]
    rw [if_pos (by simp; omega)]
  rw [hs]
  refine wpAny_bind (ba_write hd (by simpa using hz) ?_)
  first
    | exact wpAny_bind (wpAny_pure (wpAny_pure ⟨.none, rfl, wpAny_pure hQ⟩))
    | exact wpAny_pure ⟨.none, rfl, wpAny_pure hQ⟩

theorem ba_slotIsOwn_buffer {M : Model} {d : Addr} {b : Array UInt8} {Q : Bool → Shared → Prop} (hd : s.heap.get? d = some (baObj b)) (h : Q true s) : wpAny M A (Builtin.Bytes.slotIsOwn (.ref d) "__buffer__") Q E s := by
  have hT : s.TypeIs (.ref d) "bytearray" := ⟨_, hd, rfl⟩
  unfold Builtin.Bytes.slotIsOwn
  refine wpAny_bind (wpAny_specialOf hT ba_buffer ?_)
  have key : ∀ x : String, x = "bytearray" → wpAny M A (isInstance (.ref d) (.type x)) Q E s := fun x hx => by rw [hx]; exact wpAny_isInstance hT ba_sub h
  dsimp only
  split
  · rename_i hx
    exact absurd hx (by decide +kernel)
  · exact key _ (by decide +kernel)
theorem ba_ownRelease {M : Model} {d : Addr} {b : Array UInt8} {Q : Bool → Shared → Prop} (hd : s.heap.get? d = some (baObj b)) (h : Q false s) : wpAny M A (Builtin.Bytes.ownRelease (.ref d)) Q E s := by
  have hT : s.TypeIs (.ref d) "bytearray" := ⟨_, hd, rfl⟩
  unfold Builtin.Bytes.ownRelease Builtin.Bytes.slotIsOwn
  refine wpAny_bind (wpAny_bind (wpAny_specialOf hT ba_release ?_))
  have key : ∀ x : String, x = "bytearray" → wpAny M A (isInstance (.ref d) (.type x)) (fun a s => wpAny M A (pure !a) Q E s) E s := fun x hx => by rw [hx]; exact wpAny_isInstance hT ba_sub (wpAny_pure h)
  dsimp only
  split
  · rename_i hx
    exact absurd hx (by decide +kernel)
  · exact key _ (by decide +kernel)
theorem ba_bufferOf {M : Model} {d : Addr} {b : Array UInt8} {id : String} {f : Bool} {Q : Option (Array UInt8) → Shared → Prop} (hd : s.heap.get? d = some (baObj b)) (h : Q (some b) s) : wpAny M A (Builtin.Bytes.buffer? id (.ref d) f) Q E s := by
  have hT : s.TypeIs (.ref d) "bytearray" := ⟨_, hd, rfl⟩
  unfold Builtin.Bytes.buffer?
  refine wpAny_bind (wpAny_specialOf hT ba_buffer ?_)
  dsimp only
  refine wpAny_bind (ba_slotIsOwn_buffer hd ?_)
  refine bm_if_false rfl ?_
  refine wpAny_bind (wpAny_specialOf hT ba_buffer ?_)
  try dsimp only
  refine wpAny_bind (ba_ownRelease hd ?_)
  refine bm_if_false rfl ?_
  exact wpAny_bind (ba_payload hd (wpAny_pure h))

theorem ba_bytes_new {d : Addr} {b : Array UInt8} {Q : Value → Shared → Prop} (hd : s.heap.get? d = some (baObj b)) (hz : b.size ≤ 64)
    (hQ : ∀ t k, Q (.bytes b t) { s with toks := k }) :
    codeAny (model prog w) A (.call (.builtin "bytes.__new__") ⟨[.type "bytes", .ref d], []⟩) (wants Q E) s := by
  refine codeAny_of_tree ?_
  show wpAny _ A.in1 (do checkBuiltinCall "bytes.__new__" ⟨[.type "bytes", .ref d], []⟩; again (.builtin "bytes.__new__" ⟨[.type "bytes", .ref d], []⟩)) _ _ s
  refine wpAny_bind (wpAny_of_eq (F.bm_newCall _) (wpAny_pure ⟨plainId_quiet F.bm_plain _, codeAny_builtin F.bm_entry ?_⟩))
  rw [Around.under_plainId F.bm_plain _]
  have hT : s.TypeIs (.ref d) "bytearray" := ⟨_, hd, rfl⟩
  unfold Builtin.«bytes.__new__»
  refine wpAny_bind (wpAny_of_eq (a := true) rfl ?_)
  refine bm_if_false rfl ?_
  refine wpAny_bind (wpAny_of_eq F.bm_sub ?_)
  refine bm_if_false rfl ?_
  refine wpAny_bind (wpAny_of_eq (F.bm_bind _) ?_)
  refine wpAny_bind (wpAny_of_eq (a := ()) rfl ?_)
  refine wpAny_bind (wpAny_of_eq (a := ()) rfl ?_)
  refine bm_if_false rfl ?_
  refine wpAny_bind (wpAny_specialOf hT ba_no_bytes ?_)
  refine wpAny_bind (wpAny_bind ?_)
  show wpAny _ _ (load d >>= _) _ _ _
  refine wpAny_bind (wpAny_load hd ?_)
  refine wpAny_pure (wpAny_pure ?_)
  refine bm_if_false rfl ?_
  refine wpAny_bind (wpAny_specialOf hT ba_no_index ?_)
  refine bm_if_true rfl ?_
  first
    | show wpAny _ _ (Builtin.Bytes.buffer? "bytes.__new__" (.ref d) true >>= _) _ _ _
    | (refine wpAny_bind ?_; show wpAny _ _ (Builtin.Bytes.buffer? "bytes.__new__" (.ref d) true >>= _) _ _ _)
  refine wpAny_bind (ba_bufferOf hd ?_)
  dsimp only
  refine wpAny_bind (wpAny_rule ?_)
  refine wpAny_bind (wpAny_mkBytes (b := b) ?_ (by rw [sizeLine_eq]; omega))
  show wpAny _ _ (if (Value.type "bytes" == Value.type "bytes") = true then _ else _) _ _ _
  refine bm_if_true (by decide) ?_
  first
    | exact wpAny_pure (hQ _ _)
    | exact wpAny_bind (wpAny_pure (wpAny_pure (hQ _ _)))
    | exact wpAny_bind (wpAny_pure (hQ _ _))
    | exact wpAny_pure (wpAny_pure (hQ _ _))

theorem call_bytes_ba {d : Addr} {b : Array UInt8} {Q : Value → Shared → Prop} (hd : s.heap.get? d = some (baObj b)) (hz : b.size ≤ 64)
    (hQ : ∀ t k, Q (.bytes b t) { s with toks := k }) : wpAny (model prog w) A (call (.type "bytes") [.ref d]) Q E s := by
  refine callType_codes (Q₁ := fun obj s₁ => s₁.TypeIs obj "bytes" ∧ Q obj s₁) F.bm_called (F.bm_typeCall _) F.entry_object_init
    (ba_bytes_new hd hz fun t k => ⟨PySem.W.typeIs_bytes _ _ _, hQ t k⟩) fun obj s₁ h₁ => ?_
  exact ⟨h₁.1, F.args_object_init_2 obj _, object_init_meets F.bm_called.init.lookup F.bm_called.made (by decide) prog w A.in1 _ s₁ ⟨h₁.1, rfl, h₁.2⟩⟩
end

theorem ba_mro : mroOf (.type "bytearray") = pure [.type "bytearray", .type "object"] := by rw [mroOf_type]; kernel_rfl
theorem ba_lookup_new : typeLookup (.type "bytearray") "__new__" = pure (some (.builtin "bytearray.__new__")) := by rw [typeLookup_type, builtinLookup_eq_fast]; kernel_rfl
theorem ba_called : TypeCalled "bytearray" "bytearray.__new__" "bytearray.__init__" :=
  ⟨by decide +kernel, by decide +kernel, ⟨_, _, ba_mro⟩, madeBy_type ba_mro ba_lookup_new (by decide +kernel), by decide +kernel, by rw [isSubtype_type]; kernel_rfl, ba_slot_init⟩
theorem ba_typeCall (a : Value) : checkTypeCall "bytearray" ⟨[a], []⟩ = pure () := by kernel_rfl
theorem ba_newCall (a : Value) : checkBuiltinCall "bytearray.__new__" ⟨[.type "bytearray", a], []⟩ = pure () := by kernel_rfl
theorem ba_entry_new : entryFor table "bytearray.__new__" = some Builtin.«list.__new__» := entryFor_alias (id' := "list.__new__") (by kernel_rfl) (by decide +kernel) (by decide +kernel) (by kernel_rfl)
theorem ba_plain_new : plainId "bytearray.__new__" = true := by decide +kernel
theorem ba_owner_new : ("bytearray.__new__".splitOn ".__new__").headD "" = "bytearray" := by simp +decide [String.splitOn, String.splitOnAux]
theorem ba_args_init (a b : Value) : argsOk "bytearray.__init__" ⟨[a, b], []⟩ := by kernel_rfl
theorem ba_bind (v : Value) : Builtin.Bytes.bindOptional "bytearray.__init__" "bytearray" ["source", "encoding", "errors"] [v] [] = pure [some v, none, none] := by kernel_rfl

section
variable {prog : Program} {w : World} {A : Around} {E : Value → Shared → Prop} {s : Shared}
theorem ba_code_new (a : Value) {Q₁ : Value → Shared → Prop}
    (h : Q₁ (.ref s.heap.objs.size) { s with heap := s.heap.push (baObj #[]) }) :
    codeAny (model prog w) A (.call (.builtin "bytearray.__new__") ⟨[.type "bytearray", a], []⟩) (wants Q₁ E) s := by
  refine codeAny_of_tree ?_
  show wpAny _ A.in1 (do checkBuiltinCall "bytearray.__new__" ⟨[.type "bytearray", a], []⟩; again (.builtin "bytearray.__new__" ⟨[.type "bytearray", a], []⟩)) _ _ s
  refine wpAny_bind (wpAny_of_eq (ba_newCall a) (wpAny_pure ⟨plainId_quiet ba_plain_new _, codeAny_builtin_stack ba_entry_new rfl fun p st => ?_⟩))
  rw [Around.under_plainId ba_plain_new _]
  have hsub := ba_sub
  have hown := ba_owner_new
  obtain ⟨hp, g, d, tk, os⟩ := s
  simp only [hown]
  wp_walk
  exact h
end

open PySem.Spec PySem.Calls

section
variable {M : Model} {A : Around} {E : Value → Shared → Prop} {s : Shared} {env : Env}
theorem G_spliced {x : Sem Value} {rest : List (Bool × Sem Value)} {Q : List Value → Shared → Prop}
    (h : wpG M A x (fun v s₁ => wpAny M A (spliced rest) (fun vs s₂ => Q (v :: vs) s₂) E s₁) E s) : wpG M A (spliced ((false, x) :: rest)) Q E s := by
  rw [spliced]
  refine wpG_bind (wpG_mono h (fun v s₁ h₁ => wpG_any ?_) fun _ _ x => x)
  simp only [Bool.false_eq_true, if_false]
  exact wpAny_bind (wpAny_pure (wpAny_bind (wpAny_holding (wpAny_mono h₁ (fun vs s₂ h₂ => wpAny_pure h₂) fun _ _ x => x))))
theorem G_evalArgs {f : Value} {x : Sem Value} {rest : List (Bool × Sem Value)} {Q : Args → Shared → Prop}
    (h : wpG M A (spliced ((false, x) :: rest)) (fun vs s' => Q ⟨vs, []⟩ s') E s) : wpG M A (evalArgs f true ((false, x) :: rest) []) Q E s := by
  unfold evalArgs
  show wpG M A (spliced ((false, x) :: rest) >>= _) Q E s
  refine wpG_bind (wpG_mono h (fun vs s' h' => wpG_any ?_) fun _ _ x => x)
  refine wpAny_holding ?_
  exact wpAny_bind (wpAny_pure (wpAny_bind (wpAny_pure (wpAny_pure h'))))
theorem G_Call {func : Expr} {args : List Expr} {pos : Pos} {Q : Value → Shared → Prop}
    (h : wpAny M A (eval func env) (fun f s₁ => wpG M A (callWith pos f [] (backTo pos (starEach args env)) []) Q E s₁) E s)
    (he : eval (.Call func args [] pos) env = (do callWith pos (← eval func env) [] (backTo pos (starEach args env)) (backToKw pos (keywordEach [] env))) := by rfl) :
    wpG M A (eval (.Call func args [] pos) env) Q E s := by
  rw [he]; exact wpG_bind (wpG_any h)
/-- the end of a call, behind the callee's answer -/
theorem G_tail {t : Sem Value} {Q : Value → Shared → Prop} (ht : wpG M A t Q E s) : wpG M A (t >>= fun r => holding [r] point >>= fun _ => pure r) Q E s :=
  wpG_bind (wpG_mono ht (fun _ _ hr => wpG_any (wpAny_bind (wpAny_holding (wpAny_point (wpAny_pure hr))))) fun _ _ x => x)
theorem G_callWith_type {pos : Pos} {n : String} {x : Sem Value} {rest : List (Bool × Sem Value)} {Q : Value → Shared → Prop} (hplain : rest.any (·.1) = false)
    (h : wpG M A (spliced ((false, x) :: rest)) (fun vs s₁ => wpG M A (call (.type n) vs) Q E s₁) E s) :
    wpG M A (callWith pos (.type n) [] ((false, x) :: rest) []) Q E s := by
  unfold callWith
  refine wpG_bind (wpG_holding (wpG_mono (G_evalArgs (Q := fun a s₁ => wpG M A (call (.type n) a.pos a.kw) Q E s₁) h) (fun a s₁ h₁ => wpG_bind (wpG_any (wpAny_standAt ?_))) fun _ _ x => x))
  simp only [List.any_cons, hplain, List.any_nil, Bool.or_false]
  refine wpG_bind (wpG_any (wpAny_pure ?_))
  exact G_tail h₁
theorem G_callWith_def {pos : Pos} {a : Addr} {o : Obj} {fd : FuncData} {x : Sem Value} {rest : List (Bool × Sem Value)} {Q : Value → Shared → Prop}
    (h : wpG M A (spliced ((false, x) :: rest)) (fun vs s₁ => (s₁.heap.get? a = some o ∧ o.data = .func fd) ∧ wpG M A (call (.ref a) vs) Q E s₁) E s) (hplain : rest.any (·.1) = false) :
    wpG M A (callWith pos (.ref a) [] ((false, x) :: rest) []) Q E s := by
  unfold callWith
  refine wpG_bind (wpG_holding (wpG_mono (G_evalArgs (Q := fun b s₁ => (s₁.heap.get? a = some o ∧ o.data = .func fd) ∧ wpG M A (call (.ref a) b.pos b.kw) Q E s₁) h) (fun b s₁ h₁ => wpG_bind (wpG_any (wpAny_standAt ?_))) fun _ _ x => x))
  simp only [List.any_cons, hplain, List.any_nil, Bool.or_false]
  refine wpG_bind (m := keeperOf (.ref a)) (wpG_any ?_)
  unfold keeperOf
  refine wpAny_bind (wpAny_load h₁.1.1 ?_)
  rw [h₁.1.2]
  refine wpAny_pure ?_
  dsimp only
  split
  · exact G_tail h₁.2
  · refine G_tail ?_
    unfold callMarked
    exact wpG_keep h₁.2
end

section
variable {prog : Program} {w : World} {A : Around} {E : Value → Shared → Prop} {s : Shared}
theorem codeG_func {R : Result → Shared → Prop} {body : List Stmt} {env : Env}
    (h : wpG (model prog w) (A.deeper env) (execs body env) (fun f s' => R (.ok (.ret (match f with | .ret v => v | _ => .none))) s')
      (fun e s' => wpAny (model prog w) (A.deeper env) (leaving env e) (fun _ s'' => R (.error e) s'') (fun e' s'' => R (.error e') s'') s') s) :
    codeG (model prog w) A (.func body env) R s := by
  refine codeG_of_tree rfl ?_
  show wpG _ (A.deeper env) (do point; match ← (execs body env).onRaise (leaving env) with | .ret v => ret v | _ => ret .none) _ _ s
  refine wpG_bind (wpG_any (wpAny_point (wpG_bind (wpG_onRaise (wpG_mono h (fun f s' h' => wpG_any ?_) fun _ _ h' => h')))))
  cases f <;> exact wpAny_pure h'
theorem codeG_def {R : Result → Shared → Prop} {a : Addr} {o : Obj} {fd : FuncData} {body : List Stmt} {args : Args} {binds : List (Str × Value)}
    (hroom : A.depth < recursionLimit) (ho : s.heap.get? a = some o) (hdata : o.data = .func fd) (hlim : s.heap.NoLimit) (hcd : s.heap.CodeRec fd.code fd.qualname)
    (hbody : fd.body = .stmts body) (hbind : BindsTo s fd args binds) (hcell : ∀ x ∈ fd.scope.names, x.2 ≠ .cell) (hloc : ∀ x ∈ binds, fd.scope.names.lookup x.1 = some .local)
    (h : ∀ h₀, h₀.Ns s.heap.objs.size (fun x => binds.reverse.lookup x) → (∀ b o, s.heap.get? b = some o → h₀.get? b = some o) →
      wpG (model prog w) (A.deeper (callEnv fd s.heap.objs.size a)) (execs body (callEnv fd s.heap.objs.size a)) (fun f s' => R (.ok (.ret (match f with | .ret v => v | _ => .none))) s')
        (fun e s' => wpAny (model prog w) (A.deeper (callEnv fd s.heap.objs.size a)) (leaving (callEnv fd s.heap.objs.size a) e) (fun _ s'' => R (.error e) s'') (fun e' s'' => R (.error e') s'') s')
        { s with heap := h₀, toks := s.toks + binds.length })
    (hco : fd.scope.isCoroutine = false) (hgen : fd.scope.isGenerator = false) (hk : fd.scope.kind = .function) : codeG (model prog w) A (.call (.ref a) args) R s := by
  refine codeG_of_tree rfl ?_
  show wpG _ A.in1 (callAny (.ref a) args) _ _ s
  simp only [callAny]
  refine wpG_bind (wpG_any (wpAny_load ho ?_))
  obtain ⟨c, oc, vs, tq, hc, hoc, hdc, hq⟩ := hcd
  simp only [hdata, callFunction, hco, hgen, hbody, hc]
  refine wpG_bind (m := field (.ref c) 1) (wpG_any (wpAny_field hoc hdc hq (wpG_bind (wpG_any (wpAny_pure ?_)))))
  refine wpG_bind (wpG_any (hbind _ _ _ _ (wpG_bind (wpG_any (wpAny_newFunctionEnv hcell hloc (fun h₀ hns₀ hsb₀ => wpG_bind (wpG_any (wpAny_enterFrame (hlim.fresh _ hsb₀) hroom (wpG_any (wpAny_pure ⟨rfl, codeG_func ?_⟩))))) hk)))))
  have := h h₀ hns₀ fun b o e => hsb₀.extBut b o (Nat.ne_of_lt (Heap.lt_size e)) (Heap.get?_push_of_some _ e)
  unfold callEnv at this
  rw [hc] at this
  exact this
end

open PySem.Spec PySem.Calls

theorem all_clean {l : List (Code × Pos)} (hg : guardsOf l = []) (hc : ∀ x ∈ l, decodes x.1 = false) : ∀ x ∈ l, x.1.isGuard = false ∧ decodes x.1 = false := by
  intro x hx
  refine ⟨?_, hc x hx⟩
  cases h : x.1.isGuard with
  | false => rfl
  | true =>
    have : x.1 ∈ guardsOf l := List.mem_filter.mpr ⟨List.mem_map_of_mem hx, h⟩
    rw [hg] at this
    cases this

section
variable {M : Model} {A : Around} {E : Value → Shared → Prop} {s : Shared}
theorem G_exported {v : Value} {Q : Bool → Shared → Prop} (hA : A.guards = some []) (h : Q false s) : wpG M A (Builtin.Bytes.exported v) Q E s := fun Γ p hΓ hc => by
  have ha := all_clean (l := (Γ.code, p) :: Γ.below) (by rw [guardsOf_cons]; exact hΓ.2.2.2.1 [] hA) (fun x hx => by
    rcases List.mem_cons.mp hx with rfl | hx
    · exact hc.1
    · exact hc.2 x hx)
  unfold Builtin.Bytes.exported
  have key : ∀ b : Bool, b = false → Q b s := fun b e => e ▸ h
  refine key _ (List.any_eq_false.mpr fun x hx => ?_)
  obtain ⟨h1, h2⟩ := ha x hx
  obtain ⟨c, p'⟩ := x
  simp only at h1 h2
  split <;> rename_i heq <;> (first
    | (simp only [Prod.mk.injEq] at heq; obtain ⟨rfl, _⟩ := heq; first
        | (simp only [decodes] at h2; rw [h2]; simp; done)
        | exact absurd h1 (by simp [Code.isGuard, guardIds]))
    | simp)

theorem G_if_false {α : Type} {c : Bool} {a b : Sem α} {Q : α → Shared → Prop} (hc : c = false) (h : wpG M A b Q E s) : wpG M A (if c = true then a else b) Q E s := by
  subst hc; exact h
theorem G_if_true {α : Type} {c : Bool} {a b : Sem α} {Q : α → Shared → Prop} (hc : c = true) (h : wpG M A a Q E s) : wpG M A (if c = true then a else b) Q E s := by
  subst hc; exact h
end

section
variable {prog : Program} {w : World} {A : Around} {E : Value → Shared → Prop} {s : Shared}

/-- bytearray.__init__ with a count -/
theorem G_init {d : Addr} {n : Int} {t : Tok} {Q : PySem.Fin → Shared → Prop} (hA : A.guards = some []) (hd : s.heap.get? d = some (baObj #[])) (h0 : 0 < n) (h1 : n ≤ 64)
    (hQ : Q (.done (.ret .none)) { s with heap := (s.heap.update d (Obj.mapBytearray fun _ => #[])).update d (Obj.mapBytearray fun _ => Array.replicate n.toNat 0) }) :
    wpG (model prog w) A (Builtin.«bytearray.__init__» ⟨[.ref d, .int n t], []⟩) Q E s := by
  unfold Builtin.«bytearray.__init__»
  dsimp only
  refine wpG_bind (wpG_any (ba_ownRelease hd ?_))
  refine G_if_false rfl ?_
  refine wpG_bind (wpG_any (wpAny_of_eq (ba_bind _) ?_))
  refine wpG_bind (wpG_any (wpAny_of_eq (a := ()) rfl ?_))
  refine wpG_bind (wpG_any (wpAny_of_eq (a := ()) rfl ?_))
  unfold orM
  refine wpG_bind (wpG_bind (G_exported hA ?_))
  refine wpG_any ?_
  show wpAny _ _ (Builtin.Bytes.exportsOf (.ref d) >>= fun k => pure (decide (k > 0))) _ _ _
  unfold Builtin.Bytes.exportsOf
  refine wpAny_bind (wpAny_bind (wpAny_load hd (wpAny_pure (wpAny_pure ?_))))
  refine G_if_false rfl ?_
  refine wpG_any ?_
  refine wpAny_bind (ba_write hd (by simp) ?_)
  have hd1 : (s.heap.update d (Obj.mapBytearray fun _ => #[])).get? d = some (baObj #[]) := Heap.get?_update_self _ hd rfl
  dsimp only
  refine wpAny_bind (wpAny_of_eq (a := none) rfl ?_)
  refine bm_if_false rfl ?_
  refine wpAny_bind (bm_if_false rfl (bm_if_false rfl (wpAny_pure ?_)))
  refine wpAny_bind (wpAny_specialOf (T := "int") (typeIs_int _ n t) int_index ?_)
  refine bm_if_true rfl ?_
  refine wpAny_bind (wpAny_attempt (wpAny_of_eq (rfl : asIndex (.int n t) = pure n) ?_))
  dsimp only
  have hf : Builtin.Bytes.fitsIndex n = true := by
    unfold Builtin.Bytes.fitsIndex
    simp only [Bool.and_eq_true, decide_eq_true_eq]
    omega
  refine bm_if_false (by rw [hf]; rfl) ?_
  rw [if_neg (by omega)]
  refine bm_if_false (by simp; omega) ?_
  refine bm_if_false (by simp [Builtin.Bytes.tooLong, sizeLine_eq]; omega) ?_
  refine wpAny_bind (wpAny_rule ?_)
  rw [if_pos h0]
  refine wpAny_bind (ba_write hd1 (by simp; omega) ?_)
  exact wpAny_pure hQ

theorem codeG_builtin {R : Result → Shared → Prop} {id : String} {args : Args} {b : Builtin} (hb : entryFor table id = some b) (hn : decodes (.builtin id args) = false)
    (h : wpG (model prog w) (A.under (.builtin id args)) (b args) (fun fin s' => match fin with | .done f => R (.ok f) s' | .again c' => c'.quiet = true ∧ codeG (model prog w) A c' R s') (fun e s' => R (.error e) s') s) :
    codeG (model prog w) A (.builtin id args) R s := by
  refine codeG_of_tree hn ?_
  show wpG _ _ (match entryFor table id with | some b => b args | none => unsupported ((withoutEnding? id "#data").getD id)) _ _ s
  rw [hb]; exact h

theorem dec_of {id : String} {args : Args} (h : Builtin.Bytes.decodersThatHold.contains id = false) : decodes (.builtin id args) = false := h
/-- bytearray(n) -/
theorem G_bytearray {n : Int} {t : Tok} {Q : Value → Shared → Prop} (hA : A.guards = some []) (h0 : 0 < n) (h1 : n ≤ 64)
    (hQ : ∀ h', h'.get? s.heap.objs.size = some (baObj (Array.replicate n.toNat 0)) → (∀ b o, s.heap.get? b = some o → h'.get? b = some o) → Q (.ref s.heap.objs.size) { s with heap := h' }) :
    wpG (model prog w) A (call (.type "bytearray") [.int n t]) Q E s := by
  refine wpG_call (codeG_of_tree rfl ?_)
  show wpG _ _ (callAny (.type "bytearray") _) _ _ _
  refine wpG_any (wpAny_pure ⟨Code.quiet_builtin _ (by decide +kernel), codeG_builtin F.entry_type_call (dec_of (by decide +kernel)) ?_⟩)
  rw [Around.under_plain (weight_type_call_type "bytearray" [.int n t] []) rfl]
  unfold Builtin.«type.__call__»
  dsimp only
  refine G_if_false (by decide) ?_
  refine G_if_false ba_called.canCreate ?_
  refine wpG_bind (wpG_any (wpAny_of_eq (ba_typeCall _) ?_))
  refine wpG_bind (wpG_any (wpAny_of_eq ba_mro ?_))
  refine G_if_false rfl ?_
  refine wpG_bind (wpG_any (wpAny_of_eq ba_called.made ?_))
  dsimp only
  refine wpG_bind (wpG_any (wpAny_pure ?_))
  refine wpG_bind (wpG_holding (wpG_any (wpAny_call (codeAny_mono (ba_code_new (E := fun _ _ => False) (.int n t) (Q₁ := fun v s₁ => v = .ref s.heap.objs.size ∧ s₁ = { s with heap := s.heap.push (baObj #[]) }) ⟨rfl, rfl⟩) fun r s₁ hr => ?_))))
  cases r with
  | error e => exact hr.elim
  | ok fl =>
    cases fl with
    | ret obj =>
      obtain ⟨rfl, rfl⟩ := hr
      dsimp only
      have hd : (s.heap.push (baObj #[])).get? s.heap.objs.size = some (baObj #[]) := Heap.get?_push_size _ rfl
      have hT : ({ s with heap := s.heap.push (baObj #[]) } : Shared).TypeIs (.ref s.heap.objs.size) "bytearray" := ⟨_, hd, rfl⟩
      refine wpG_bind (wpG_any (wpAny_isInstance hT ba_sub ?_))
      refine G_if_false rfl ?_
      refine wpG_bind (wpG_holding ?_)
      simp only [callSpecial?]
      refine wpG_bind (wpG_any (wpAny_specialOf hT ba_slot_init.lookup ?_))
      simp only [ba_slot_init.bind]
      refine wpG_holding (wpG_bind (wpG_any (wpAny_pure (wpG_bind (wpG_call (codeG_of_tree rfl ?_))))))
      show wpG _ _ (checkBuiltinCall "bytearray.__init__" ⟨[.ref s.heap.objs.size, .int n t], []⟩ >>= fun _ => again (.builtin "bytearray.__init__" ⟨[.ref s.heap.objs.size, .int n t], []⟩)) _ _ _
      refine wpG_bind (wpG_any (ba_slot_init.check _ _ _ _ _ _ _ _ hT (ba_args_init _ _) ?_))
      refine wpG_any (wpAny_pure ⟨plainId_quiet ba_slot_init.plain _, codeG_builtin ba_entry_init (dec_of (by decide +kernel)) ?_⟩)
      rw [Around.under_plainId ba_slot_init.plain _]
      refine G_init hA hd h0 h1 ?_
      dsimp only
      refine wpG_any (wpAny_pure ?_)
      dsimp only
      refine G_if_false (by decide) (wpG_any (wpAny_pure ?_))
      have hd1 : ((s.heap.push (baObj #[])).update s.heap.objs.size (Obj.mapBytearray fun _ => #[])).get? s.heap.objs.size = some (baObj #[]) := Heap.get?_update_self _ hd rfl
      refine hQ _ (Heap.get?_update_self _ hd1 rfl) fun b o e => ?_
      have hne : b ≠ s.heap.objs.size := Nat.ne_of_lt (Heap.lt_size e)
      rw [Heap.get?_update_ne _ _ _ _ hne, Heap.get?_update_ne _ _ _ _ hne]
      exact Heap.get?_push_of_some _ e
    | _ => exact hr.elim
end

open PySem.Spec PySem.Calls

/-- a stack on which nothing decodes -/
def calmStack (st : List (Code × Pos)) : Bool := st.all fun x => !decodes x.1
/-- a tree that looks at the stack first: where something decodes it answers at once, elsewhere it is t -/
def guarded {α : Type} (t : Sem α) (a : α) : Sem α := .stack fun st => if calmStack st then t else .pure a

theorem calmStack_iff {Γ : PySem.Ctx} {p : Pos} : calmStack ((Γ.code, p) :: Γ.below) = true ↔ Clean Γ := by
  unfold calmStack Clean CleanB
  rw [List.all_cons, Bool.and_eq_true, List.all_eq_true, Bool.not_eq_true']
  exact and_congr_right fun _ => forall₂_congr fun _ _ => by rw [Bool.not_eq_true']

theorem wp_guarded {α : Type} {M : Model} {Γ : PySem.Ctx} {t : Sem α} {a : α} {Q : α → Pos → Shared → Prop} {E : Value → Pos → Shared → Prop} {p : Pos} {s : Shared} :
    Sem.wp M Γ (guarded t a) Q E p s ↔ (Clean Γ → Sem.wp M Γ t Q E p s) ∧ (¬ Clean Γ → Q a p s) := by
  unfold guarded
  rw [Sem.wp_stack]
  by_cases c : Clean Γ
  · rw [if_pos (calmStack_iff.mpr c)]
    exact ⟨fun h => ⟨fun _ => h, fun n => absurd c n⟩, fun h => h.1 c⟩
  · rw [if_neg fun e => c (calmStack_iff.mp e), Sem.wp_pure]
    exact ⟨fun h => ⟨fun y => absurd y c, fun _ => h⟩, fun h => h.2 c⟩

theorem wpAny_guarded {α : Type} {M : Model} {A : Around} {t : Sem α} {a : α} {Q : α → Shared → Prop} {E : Value → Shared → Prop} {s : Shared} (h : wpG M A t Q E s) (ha : Q a s) : wpAny M A (guarded t a) Q E s :=
  fun Γ p hΓ => wp_guarded.mpr ⟨fun c => h Γ p hΓ c, fun _ => ha⟩
theorem wpG_guarded {α : Type} {M : Model} {A : Around} {t : Sem α} {a : α} {Q : α → Shared → Prop} {E : Value → Shared → Prop} {s : Shared} (h : wpAny M A (guarded t a) Q E s) : wpG M A t Q E s :=
  fun Γ p hΓ c => (wp_guarded.mp (h Γ p hΓ)).1 c

/-- on the claim's own thread the look at the stack is one step, and what follows is t -/
theorem guarded_run {p : Program} {w : World} {n : Nat} {s s' : Shared} {t : Sem Fin} {a : Fin} {o : Outcome} (hz : s.asleep)
    (h : schedN (denote table) p w n (.single s ⟨guarded t a, .builtin "claim.caller" {}, default, []⟩) = .halted o s') :
    ∃ m, schedN (denote table) p w m (.single s ⟨t, .builtin "claim.caller" {}, default, []⟩) = .halted o s' := by
  have hs : step (denote table) p w s ⟨guarded t a, .builtin "claim.caller" {}, default, []⟩ = .go s ⟨t, .builtin "claim.caller" {}, default, []⟩ := by
    obtain ⟨heap, gens, drawn, toks, os⟩ := s
    rfl
  cases n with
  | zero => cases h
  | succ m =>
    refine ⟨m, ?_⟩
    rcases sstep_single (denote table) p w s ⟨guarded t a, .builtin "claim.caller" {}, default, []⟩ (by rfl) hz with e | e
    · rw [schedN, e, hs] at h
      exact h
    · rw [hs] at e; cases e

/-- what holds of the guarded thread holds of the thread -/
theorem holds_unguarded {c : ClaimW} {tree : List Value → Sem Fin} {a : Fin} {defs keeps : List Str} {writes : Bool}
    (h : c.HoldsOpenBy (fun vs => ⟨guarded (tree vs) a, .builtin "claim.caller" {}, default, []⟩) defs keeps writes) :
    c.HoldsOpenBy (fun vs => ⟨tree vs, .builtin "claim.caller" {}, default, []⟩) defs keeps writes := by
  refine ⟨h.1, h.2.1, fun w => ⟨(h.2.2 w).1, fun s hs => ?_⟩⟩
  obtain ⟨s₀, hf, hg, s₁, T, hd, hr, hu, call⟩ := (h.2.2 w).2 s hs
  have z : s₁.asleep := Shared.asleep_of_life (T.2.1.trans (fence_lifeW hf)) (AfterImport.life hs)
  refine ⟨s₀, hf, hg, s₁, T, hd, hr, hu, fun args hpre hlay ord hord => ?_⟩
  obtain ⟨vs, s₂, hl, n, o, s', hn, rest⟩ := call args hpre hlay ord hord
  obtain ⟨m, hm⟩ := guarded_run (Shared.asleep_of_life (layAllW_rest _ _ _ hl).2.2.2 z) hn
  exact ⟨vs, s₂, hl, m, o, s', hm, rest⟩

/-- the head: the library's, at the guarded call -/
theorem holdsG {r : OpenRow} {q : Program} {loose : List Str} {Xt : Shared → Bool} {XP : (Str → Option Value) → Heap → Prop} {α : Type} {Yf : Shared → α} {Ya : World → α} {YP : World → Heap → Prop} {d : DefRec} {kwd : List (Str × Expr)} {N : Nat}
    (b : Value) (left : LeftO r.prog q loose Xt Yf Ya N) (hY : ∀ w s, Yf s = Ya w → YP w s.heap) (hYk : ∀ w h h', YP w h → (∀ b o, h.get? b = some o → h'.get? b = some o) → YP w h')
    (hX : ∀ s, Xt s = true → XP (s.heap.nsMap mainGlobals) s.heap) (hXk : ∀ mg h h', XP mg h → (∀ b o, h.get? b = some o → h'.get? b = some o) → XP mg h')
    (hdef : defOf q r.name = some (d, kwd)) (hp : r.prog.theDef r.name = some (d.params, d.body, d.scope)) (hk : kwWritten? d.params.kwonlyargs d.params.kw_defaults = some kwd) (hRf : ∀ s, Xt s = true → RecFacts r.records s.heap)
    (hwr : (!r.writes || r.records.isEmpty) = true) (k1 : r.wellSaid = true) (ok : (chainsOk q && opensWell r.prog && (frees r.toRowW && r.within.isEmpty)) = true) (hb : r.prog.bare) (hw : r.toRowW.promised)
    (walk : WalkO q loose XP YP r.toRowW d kwd fun f vs => guarded (PySem.call f vs) b) : r.Holds := by
  refine ⟨k1, hw, holds_unguarded (a := .done (.ret b)) (open_anyG (run := fun f vs => guarded (PySem.call f vs) b) left hY hYk hX hXk hRf hwr ok hb hw (fun vs w s mg f Q E hg hf h => ?ht) (fun w s hg G n hn => ?pin) fun w s₀ s₁ mg mb G Y args vs as hpre hlay L low => ?call)⟩
  case ht =>
    intro Γ p hΓ
    refine wp_guarded.mpr ⟨fun c => ?_, fun c => (wp_guarded.mp (h Γ p hΓ)).2 c⟩
    refine wpG_bind (wpG_any (wpAny_nsGet hg ?_)) Γ p hΓ c
    rw [hf]
    exact wpG_bind (wpG_mono (wpG_guarded h) (fun _ _ x => wpG_any (wpAny_pure x)) fun _ _ x => x)
  case pin =>
    have e : n = r.name := by
      by_cases z : r.pinned = true
      · rw [if_pos z] at hn; exact List.mem_singleton.mp hn
      · rw [if_neg z] at hn; cases hn
    rw [e]; exact pinned_of_view hg G hdef hp hk
  case call =>
    obtain ⟨x, o, pm, cd, doc, dV, kV, named, rest⟩ := G.fn hdef
    exact ⟨.ref x, named, walk _ _ _ _ _ G Y x o pm cd doc dV kV rest.1 rest.2.1 rest.2.2.1 rest.2.2.2 (defOf_name hdef ▸ named) L.gens _ _ _ hpre hlay L.reads L.well (L.low low)⟩

open PySem.Spec PySem.Calls

def asOf : List Addr := [2, 3, 6, 15, 17, 18, 20, 21, 22, 24, 25, 27, 28, 29, 31, 32, 34, 35, 36, 38, 39, 41, 42, 43, 45, 46, 48, 49, 50, 52, 53, 55, 56, 57, 59, 60, 62, 63, 64, 66, 67, 69, 70, 71, 73, 74, 76, 77, 78, 81, 82]
noncomputable abbrev hookG : Hook := kHook hd.heap_39 asOf (fun _ => by kernel_rfl)

theorem left0 : LeftO Challenge.rw_ny0005_01.row.prog hd.view_39 [] (fun s => xlAt hd.view_39 [] s && recOk (RowW.records Challenge.rw_ny0005_01.row.toRowW) s) (Hook.obs hookG) (Hook.val hookG) 880 := fun w => by kernel_rfl

theorem hdG0 {d : DefRec} {kwd : List (Str × Expr)} (hdef : defOf hd.view_39 Challenge.rw_ny0005_01.row.name = some (d, kwd)) (hp : Challenge.rw_ny0005_01.row.prog.theDef Challenge.rw_ny0005_01.row.name = some (d.params, d.body, d.scope)) (hk : kwWritten? d.params.kwonlyargs d.params.kw_defaults = some kwd)
    (walk : WalkO hd.view_39 [] (XL hd.view_39 []) (Hook.says hookG) Challenge.rw_ny0005_01.row.toRowW d kwd fun f vs => guarded (PySem.call f vs) (.bool true)) : Challenge.rw_ny0005_01.Holds := by
  w_on
  o_law
  refine holdsG (.bool true) left0 (Hook.of hookG) (Hook.keeps hookG) (fun s e => xl_of s (Bool.and_eq_true_iff.mp e).1) XL.keeps hdef hp hk (fun s e => recFacts_of (Bool.and_eq_true_iff.mp e).2) rfl (by first | assumption | decide +kernel) (by decide +kernel) ⟨rfl, rfl, rfl, rfl, rfl, by decide +kernel⟩ ?hw walk
  case hw => w_witness2


open PySem.Spec PySem.Calls

section
variable {prog : Program} {w : World} {A₀ A : Around} {s : Shared} {base h₀ : Heap} {outer : List Env} {L : Addr} {m : Str → Option Value} {env : Env} {K : Frag}
  {p : Program} {loose : List Str} {mean : ExcName → Option Value} {mg mb : Str → Option Value}
  {R : Result → Shared → Prop} {name qual : Str} {params : Arguments} {body : List Stmt} {scope : Scope} {dV kV doc pm cdv ct oc : Value} {an od : Option Addr} {osl : Array (Option Value)} {f : Addr} {args : Args} {binds : List (Str × Value)}

theorem codeG_keep (B : Below A₀ base outer h₀) (F : Fr h₀ L s.heap m) (X₀ : K.In h₀) (T : Top p loose mean mg mb h₀) (hA : A.frames = some (env :: outer)) (hf : env.frame = some L) (hke : env.scope.kind = .function)
    (ho : K.lookup f = some ⟨oc, od, .func (fnOf name qual params body scope dV kV doc pm an cdv ct), osl⟩) (hcd : codeIn K cdv qual = true) (hroom : A.depth < recursionLimit)
    (hbind : BindsTo s (fnOf name qual params body scope dV kV doc pm an cdv ct) args binds) (hloc : ∀ y ∈ binds, scope.names.lookup y.1 = some .local)
    (h : ∀ g L' h₁, g = s.heap → Fr g L' h₁ (fun y => binds.reverse.lookup y) → News g L' h₁ [] → Below A base (env :: outer) g → K.In g → Top p loose mean mg mb g →
      wpG (model prog w) (A.deeper (envOf qual scope L' f cdv)) (execs body (envOf qual scope L' f cdv))
        (fun fl s' => KLeave g R (match fl with | .ret v => v | _ => .none) s')
        (fun e s' => wpAny (model prog w) (A.deeper (envOf qual scope L' f cdv)) (leaving (envOf qual scope L' f cdv) e) (fun _ s'' => R (.error e) s'') (fun e' s'' => R (.error e') s'') s')
        { s with heap := h₁, toks := s.toks + binds.length })
    (hco : scope.isCoroutine = false) (hgen : scope.isGenerator = false) (hk : scope.kind = .function)
    (hcell : ∀ x ∈ scope.names, x.2 ≠ .cell) : codeG (model prog w) A (.call (.ref f) args) R s := by
  obtain ⟨_, BG, _, _⟩ := groundX (R := R) B F (News.nil) hA hf hke
  refine codeG_def (fd := fnX name qual params body scope [] dV kV doc pm an cdv ct) (body := body) (binds := binds) hroom ((X₀.keeps F.keep) _ _ ho) rfl (T.nolimit.keeps F.keep) (codeRec_of (X₀.keeps F.keep) hcd) rfl hbind hcell hloc (fun h₁ hns hk₁ => ?_) hco hgen hk
  exact wpG_mono (h _ s.heap.objs.size h₁ rfl ⟨hns, hk₁, Nat.le_refl _⟩ News.nil BG (X₀.keeps F.keep) (T.keeps F.keep)) (fun fl s' hl => hl) fun _ _ y => y
end

section
variable {M : Model} {A : Around} {E : Value → Shared → Prop} {s : Shared} {env : Env}
theorem G_callWith_typeE {pos pos' : Pos} {n : String} {e : Expr} {rest : List Expr} {Q : Value → Shared → Prop}
    (h : wpG M A (spliced (backTo pos' (starEach (e :: rest) env))) (fun vs s₁ => wpG M A (call (.type n) vs) Q E s₁) E s)
    (he : starEach (e :: rest) env = (false, eval e env) :: starEach rest env := by rfl) (hplain : (backTo pos' (starEach rest env)).any (·.1) = false := by rfl) :
    wpG M A (callWith pos (.type n) [] (backTo pos' (starEach (e :: rest) env)) []) Q E s := by
  rw [he] at h ⊢
  exact G_callWith_type hplain h
theorem G_callWith_defE {pos pos' : Pos} {a : Addr} {o : Obj} {fd : FuncData} {e : Expr} {rest : List Expr} {Q : Value → Shared → Prop}
    (h : wpG M A (spliced (backTo pos' (starEach (e :: rest) env))) (fun vs s₁ => (s₁.heap.get? a = some o ∧ o.data = .func fd) ∧ wpG M A (call (.ref a) vs) Q E s₁) E s)
    (he : starEach (e :: rest) env = (false, eval e env) :: starEach rest env := by rfl) (hplain : (backTo pos' (starEach rest env)).any (·.1) = false := by rfl) :
    wpG M A (callWith pos (.ref a) [] (backTo pos' (starEach (e :: rest) env)) []) Q E s := by
  rw [he] at h ⊢
  exact G_callWith_def h hplain
theorem G_splicedE {pos : Pos} {e : Expr} {rest : List Expr} {Q : List Value → Shared → Prop}
    (h : wpG M A (eval e env) (fun v s₁ => wpAny M A (spliced (backTo pos (starEach rest env))) (fun vs s₂ => Q (v :: vs) s₂) E s₁) E s)
    (he : starEach (e :: rest) env = (false, eval e env) :: starEach rest env := by rfl) : wpG M A (spliced (backTo pos (starEach (e :: rest) env))) Q E s := by
  rw [he]; exact G_spliced h
end

section
variable {prog : Program} {w : World} {A : Around} {E : Value → Shared → Prop} {s : Shared} {h₀ : Heap} {L D : Addr} {m : Str → Option Value} {news news' : List (Addr × Obj)}
/-- a byte stored into a bytearray of the ledger -/
theorem setItem_K {b : Array UInt8} {k v : Int} {t u : Tok} {Q : Unit → Shared → Prop} (F : Fr h₀ L s.heap m) (N : News h₀ L s.heap news)
    (U : Upd D (baObj b) (baObj (b.setIfInBounds k.toNat v.toNat.toUInt8)) news news') (h0 : 0 ≤ k) (hn : k < b.size) (hz : b.size ≤ 64) (v0 : 0 ≤ v) (v1 : v < 256)
    (h : ∀ h', Fr h₀ L h' m → News h₀ L h' news' → Q () { s with heap := h' }) : wpAny (model prog w) A (setItem (.ref D) (.int k t) (.int v u)) Q E s := by
  obtain ⟨pre, post, rfl, rfl, n1, n2⟩ := U.split
  have hd : s.heap.get? D = some (baObj b) := (N (D, baObj b) (by simp)).1
  obtain ⟨F', N'⟩ := news_upd (f := Obj.mapBytearray (·.setIfInBounds k.toNat v.toNat.toUInt8)) (o' := baObj (b.setIfInBounds k.toNat v.toNat.toUInt8)) F N n1 n2 rfl rfl
  exact setItem_ba hd h0 hn hz v0 v1 (h _ F' N')
theorem bytesOf_K {b : Array UInt8} {Q : Value → Shared → Prop} (N : News h₀ L s.heap news) (hm : (D, baObj b) ∈ news) (hz : b.size ≤ 64)
    (h : ∀ t k, Q (.bytes b t) { s with toks := k }) : wpAny (model prog w) A (call (.type "bytes") [.ref D]) Q E s := call_bytes_ba (N _ hm).1 hz h
theorem bytearray_K {n : Int} {t : Tok} {Q : Value → Shared → Prop} (hA : A.guards = some []) (F : Fr h₀ L s.heap m) (N : News h₀ L s.heap news) (h0 : 0 < n) (h1 : n ≤ 64)
    (h : ∀ D h', Fr h₀ L h' m → News h₀ L h' ((D, baObj (Array.replicate n.toNat 0)) :: news) → (∀ p ∈ news, p.1 < D) → Q (.ref D) { s with heap := h' }) :
    wpG (model prog w) A (call (.type "bytearray") [.int n t]) Q E s :=
  G_bytearray hA h0 h1 fun h' hd k => h _ h' (fr_keep F k) (news_more F N k hd (by
    cases e : s.heap.get? s.heap.objs.size with
    | none => rfl
    | some o => exact absurd (Heap.lt_size e) (Nat.lt_irrefl _))) (fun p hp => Heap.lt_size (N p hp).1)
end

open PySem.Spec PySem.Calls

theorem setItem_Kb {prog : Program} {w : World} {A : Around} {E : Value → Shared → Prop} {s : Shared} {h₀ : Heap} {L D : Addr} {m : Str → Option Value} {news news' : List (Addr × Obj)} {b : Array UInt8} {k : Int} {x : UInt8} {t u : Tok} {Q : Unit → Shared → Prop} (F : Fr h₀ L s.heap m) (N : News h₀ L s.heap news)
    (U : Upd D (baObj b) (baObj (b.setIfInBounds k.toNat x)) news news') (h0 : 0 ≤ k) (hn : k < b.size) (hz : b.size ≤ 64)
    (h : ∀ h', Fr h₀ L h' m → News h₀ L h' news' → Q () { s with heap := h' }) : wpAny (model prog w) A (setItem (.ref D) (.int k t) (.int ((x.toNat : Nat) : Int) u)) Q E s := by
  have e : ((x.toNat : Nat) : Int).toNat.toUInt8 = x := by simp
  exact setItem_K F N (by rw [e]; exact U) h0 hn hz (by omega) (by have := x.toNat_lt; omega) h
local macro_rules | `(tactic| walk_at "setItem ref int") => `(tactic| (k_here; (with_reducible show wpAny _ _ (setItem (Value.ref _) (Value.int _ _) (Value.int _ _)) _ _ _); k_dflt (refine' setItem_Kb ?k1 ?k2 ?k3 ?k4 ?k5 ?k6 ?_; (case k1 => k_asm); (case k2 => k_asm); (case k3 => k_upd); (case k4 => decide); (case k5 => (simp; done)); (case k6 => (simp; done)); k_whole); intro h' F' N'))
local macro_rules | `(tactic| walk_at "call type:bytes") => `(tactic| (k_here; (with_reducible show wpAny _ _ (call (Value.type "bytes") [Value.ref _]) _ _ _); k_dflt (refine' bytesOf_K ?k1 ?k2 ?k3 ?_; (case k1 => k_asm); (case k2 => k_mem); (case k3 => simp); k_whole); intro t' k'))

theorem len_lit {prog : Program} {w : World} {A : Around} {E : Value → Shared → Prop} {s : Shared} {b : Array UInt8} {t : Tok} {Q : Value → Shared → Prop} {n : Nat} (hn : b.size = n) (hz : n ≤ 64)
    (h : Q (.int (n : Int) (s.toks + 1)) { s with toks := s.toks + 1 + 1 }) : wpAny (model prog w) A (call (.builtin "len") [.bytes b t]) Q E s := by
  subst hn
  exact KBw.len_K rfl (by rw [KBw.ints_length]; omega) (by rw [KBw.ints_length]; exact h)
theorem len_lit4 {prog : Program} {w : World} {A : Around} {E : Value → Shared → Prop} {s : Shared} {b : Array UInt8} {t : Tok} {Q : Value → Shared → Prop} (hn : b.size = 4)
    (h : Q (.int 4 (s.toks + 1)) { s with toks := s.toks + 1 + 1 }) : wpAny (model prog w) A (call (.builtin "len") [.bytes b t]) Q E s := len_lit hn (by omega) h
theorem len_lit6 {prog : Program} {w : World} {A : Around} {E : Value → Shared → Prop} {s : Shared} {b : Array UInt8} {t : Tok} {Q : Value → Shared → Prop} (hn : b.size = 6)
    (h : Q (.int 6 (s.toks + 1)) { s with toks := s.toks + 1 + 1 }) : wpAny (model prog w) A (call (.builtin "len") [.bytes b t]) Q E s := len_lit hn (by omega) h
theorem len_lit8 {prog : Program} {w : World} {A : Around} {E : Value → Shared → Prop} {s : Shared} {b : Array UInt8} {t : Tok} {Q : Value → Shared → Prop} (hn : b.size = 8)
    (h : Q (.int 8 (s.toks + 1)) { s with toks := s.toks + 1 + 1 }) : wpAny (model prog w) A (call (.builtin "len") [.bytes b t]) Q E s := len_lit hn (by omega) h
local macro_rules | `(tactic| walk_at "call builtin:len") => `(tactic| (k_here; (with_reducible show wpAny _ _ (call (Value.builtin "len") [Value.bytes _ _]) _ _ _); k_dflt (first | refine len_lit4 (by rfl) ?_ | refine len_lit6 (by rfl) ?_ | refine len_lit8 (by rfl) ?_)))

theorem swap2_c (w : World) (mean : ExcName → Option Value) (mg mb : Str → Option Value) (cn : Str) (cs : Scope) (a : Addr) (ccd : Value) (A₀ : Around) (base h₀ : Heap) (L : Addr) (m : Str → Option Value) (s : Shared)
    (b0 b1 b2 b3 : UInt8) (tb tn : Tok) (Q E : Value → Shared → Prop)
    (B : Below A₀ base [] h₀) (F : Fr h₀ L s.heap m) (X : (hd.heap_39 w.params).In h₀) (T : Top hd.view_39 (looseW hd.view_39 []) mean mg mb h₀) (hk : cs.kind = .function)
    (ret : ∀ t h' tk', Kept s.heap h' → Q (.bytes #[b1, b0, b3, b2] t) { s with heap := h', toks := tk' }) :
    wpG (model Challenge.rw_ny0005_01.row.prog w) (callerA.deeper (envOf cn cs L a ccd)) (call (.ref 21) [.bytes #[b0, b1, b2, b3] tb, .int 2 tn]) Q E s := by
  k_with_none
  w_top off
  revert X; k_fill; intro X
  refine wpG_call ?_
  k_dflt (refine' codeG_keep ?k1 ?k2 ?k3 ?k5 ?kA ?kF ?kK ?k6 ?k7 ?k8 ?k9 ?kB ?_ ?c2 ?c3 ?c4 ?c5; (case kA => exact rfl); (case kF => exact rfl); (case kK => assumption); (case k1 => k_asm); (case k2 => k_asm); (case k3 => k_asm); (case k5 => k_asm); (case k6 => k_is); (case k7 => k_is); (case k8 => k_room); (case k9 => exact BindsTo.of_eq rfl); (case c5 => decide); (case kB => exact locs rfl); (case c2 => exact rfl); (case c3 => exact rfl); (case c4 => exact rfl); k_whole)
  intro g L' h' Eg F' N' B' X' T'
  rw [← Eg] at ret
  clear B F X T Eg
  try dsimp only
  try k_lift B'
  refine wpG_execs_cons (wpG_Assign_Name (G_Call ?_))
  w_strict k_steps
  refine G_callWith_typeE (wpG_any ?_)
  w_strict k_steps
  refine bytearray_K rfl (by assumption) (by assumption) (by decide) (by decide) ?_
  intro D h' F' N' l1
  k_lt l1
  replace N' : News g L' h' [(D, baObj #[0, 0, 0, 0])] := N'
  try dsimp only
  w_strict k_steps
  refine wpG_any ?_
  try k_fold
  w_strict k_steps
  rename Fr g _ _ _ => Fz
  exact ret _ _ _ Fz.keep

theorem swap3_c (w : World) (mean : ExcName → Option Value) (mg mb : Str → Option Value) (cn : Str) (cs : Scope) (a : Addr) (ccd : Value) (A₀ : Around) (base h₀ : Heap) (L : Addr) (m : Str → Option Value) (s : Shared)
    (b0 b1 b2 b3 b4 b5 : UInt8) (tb tn : Tok) (Q E : Value → Shared → Prop)
    (B : Below A₀ base [] h₀) (F : Fr h₀ L s.heap m) (X : (hd.heap_39 w.params).In h₀) (T : Top hd.view_39 (looseW hd.view_39 []) mean mg mb h₀) (hk : cs.kind = .function)
    (ret : ∀ t h' tk', Kept s.heap h' → Q (.bytes #[b2, b1, b0, b5, b4, b3] t) { s with heap := h', toks := tk' }) :
    wpG (model Challenge.rw_ny0005_01.row.prog w) (callerA.deeper (envOf cn cs L a ccd)) (call (.ref 21) [.bytes #[b0, b1, b2, b3, b4, b5] tb, .int 3 tn]) Q E s := by
  k_with_none
  w_top off
  revert X; k_fill; intro X
  refine wpG_call ?_
  k_dflt (refine' codeG_keep ?k1 ?k2 ?k3 ?k5 ?kA ?kF ?kK ?k6 ?k7 ?k8 ?k9 ?kB ?_ ?c2 ?c3 ?c4 ?c5; (case kA => exact rfl); (case kF => exact rfl); (case kK => assumption); (case k1 => k_asm); (case k2 => k_asm); (case k3 => k_asm); (case k5 => k_asm); (case k6 => k_is); (case k7 => k_is); (case k8 => k_room); (case k9 => exact BindsTo.of_eq rfl); (case c5 => decide); (case kB => exact locs rfl); (case c2 => exact rfl); (case c3 => exact rfl); (case c4 => exact rfl); k_whole)
  intro g L' h' Eg F' N' B' X' T'
  rw [← Eg] at ret
  clear B F X T Eg
  try dsimp only
  try k_lift B'
  refine wpG_execs_cons (wpG_Assign_Name (G_Call ?_))
  w_strict k_steps
  refine G_callWith_typeE (wpG_any ?_)
  w_strict k_steps
  refine bytearray_K rfl (by assumption) (by assumption) (by decide) (by decide) ?_
  intro D h' F' N' l1
  k_lt l1
  replace N' : News g L' h' [(D, baObj #[0, 0, 0, 0, 0, 0])] := N'
  try dsimp only
  w_strict k_steps
  refine wpG_any ?_
  try k_fold
  w_strict k_steps
  rename Fr g _ _ _ => Fz
  exact ret _ _ _ Fz.keep

theorem swap4_c (w : World) (mean : ExcName → Option Value) (mg mb : Str → Option Value) (cn : Str) (cs : Scope) (a : Addr) (ccd : Value) (A₀ : Around) (base h₀ : Heap) (L : Addr) (m : Str → Option Value) (s : Shared)
    (b0 b1 b2 b3 b4 b5 b6 b7 : UInt8) (tb tn : Tok) (Q E : Value → Shared → Prop)
    (B : Below A₀ base [] h₀) (F : Fr h₀ L s.heap m) (X : (hd.heap_39 w.params).In h₀) (T : Top hd.view_39 (looseW hd.view_39 []) mean mg mb h₀) (hk : cs.kind = .function)
    (ret : ∀ t h' tk', Kept s.heap h' → Q (.bytes #[b3, b2, b1, b0, b7, b6, b5, b4] t) { s with heap := h', toks := tk' }) :
    wpG (model Challenge.rw_ny0005_01.row.prog w) (callerA.deeper (envOf cn cs L a ccd)) (call (.ref 21) [.bytes #[b0, b1, b2, b3, b4, b5, b6, b7] tb, .int 4 tn]) Q E s := by
  k_with_none
  w_top off
  revert X; k_fill; intro X
  refine wpG_call ?_
  k_dflt (refine' codeG_keep ?k1 ?k2 ?k3 ?k5 ?kA ?kF ?kK ?k6 ?k7 ?k8 ?k9 ?kB ?_ ?c2 ?c3 ?c4 ?c5; (case kA => exact rfl); (case kF => exact rfl); (case kK => assumption); (case k1 => k_asm); (case k2 => k_asm); (case k3 => k_asm); (case k5 => k_asm); (case k6 => k_is); (case k7 => k_is); (case k8 => k_room); (case k9 => exact BindsTo.of_eq rfl); (case c5 => decide); (case kB => exact locs rfl); (case c2 => exact rfl); (case c3 => exact rfl); (case c4 => exact rfl); k_whole)
  intro g L' h' Eg F' N' B' X' T'
  rw [← Eg] at ret
  clear B F X T Eg
  try dsimp only
  try k_lift B'
  refine wpG_execs_cons (wpG_Assign_Name (G_Call ?_))
  w_strict k_steps
  refine G_callWith_typeE (wpG_any ?_)
  w_strict k_steps
  refine bytearray_K rfl (by assumption) (by assumption) (by decide) (by decide) ?_
  intro D h' F' N' l1
  k_lt l1
  replace N' : News g L' h' [(D, baObj #[0, 0, 0, 0, 0, 0, 0, 0])] := N'
  try dsimp only
  w_strict k_steps
  refine wpG_any ?_
  try k_fold
  w_strict k_steps
  rename Fr g _ _ _ => Fz
  exact ret _ _ _ Fz.keep



def gf (p q : Int) (ns : List Int) : Int × Int := ns.foldl (fun r n => (n * r.1 + r.2, r.1)) (p, q)
theorem cf_gf (ns : List Int) : cf ns = gf 1 0 ns := rfl
theorem gf_cons (p q x : Int) (ns : List Int) : gf p q (x :: ns) = gf (x * p + q) p ns := rfl
theorem gf_append (p q : Int) (xs ys : List Int) : gf p q (xs ++ ys) = gf (gf p q xs).1 (gf p q xs).2 ys := by simp [gf]
theorem gf_snoc (p q x : Int) (ns : List Int) : gf p q (ns ++ [x]) = (x * (gf p q ns).1 + (gf p q ns).2, (gf p q ns).1) := by simp [gf]
theorem gf_lin (ns : List Int) : ∀ p q : Int, gf p q ns = (p * (gf 1 0 ns).1 + q * (gf 0 1 ns).1, p * (gf 1 0 ns).2 + q * (gf 0 1 ns).2) := by
  induction ns with
  | nil => intro p q; simp [gf]
  | cons x ns ih =>
    intro p q
    rw [gf_cons, gf_cons, gf_cons, ih (x * p + q) p, ih (x * 1 + 0) 1, ih (x * 0 + 1) 0]
    refine Prod.ext ?_ ?_ <;> simp only <;> grind
theorem gf_rev (ns : List Int) : gf 1 0 ns.reverse = ((gf 1 0 ns).1, (gf 0 1 ns).1) ∧ gf 0 1 ns.reverse = ((gf 1 0 ns).2, (gf 0 1 ns).2) := by
  induction ns with
  | nil => simp [gf]
  | cons x ns ih =>
    obtain ⟨h1, h2⟩ := ih
    rw [List.reverse_cons, gf_snoc, gf_snoc, h1, h2, gf_cons, gf_cons, gf_lin ns (x * 1 + 0) 1, gf_lin ns (x * 0 + 1) 0]
    refine ⟨Prod.ext ?_ ?_, Prod.ext ?_ ?_⟩ <;> simp only <;> grind
theorem gf_det (ns : List Int) : (gf 1 0 ns).1 * (gf 0 1 ns).2 - (gf 1 0 ns).2 * (gf 0 1 ns).1 = (-1) ^ ns.length := by
  induction ns with
  | nil => simp [gf]
  | cons x ns ih =>
    rw [gf_cons, gf_cons, gf_lin ns (x * 1 + 0) 1, gf_lin ns (x * 0 + 1) 0, List.length_cons, Int.pow_succ, ← ih]
    simp only
    grind

/-- what is left at each of Euclid's steps -/
def restsR : List Int → List Int
  | [] => []
  | _ :: ns => (cf ns.reverse).1 :: restsR ns
theorem restsR_length (ns : List Int) : (restsR ns).length = ns.length := by
  induction ns with
  | nil => rfl
  | cons x ns ih => simp [restsR, ih]

/-- rows: numbers from 1 to 31, the first at least 2 -/
def Row (ns : List Int) : Prop := (∀ v ∈ ns, 1 ≤ v ∧ v ≤ 31) ∧ ∀ v, ns.head? = some v → 2 ≤ v

theorem cf_order (ns : List Int) (h : Row ns.reverse) : 0 ≤ (cf ns.reverse).2 ∧ (cf ns.reverse).2 < (cf ns.reverse).1 ∧ (ns ≠ [] → 1 ≤ (cf ns.reverse).2) ∧ (cf ns.reverse).1 ≤ 32 ^ ns.length := by
  induction ns with
  | nil => simp [cf]
  | cons x ns ih =>
    have hr : Row ns.reverse := by
      refine ⟨fun v hv => h.1 v (by simp at hv ⊢; exact .inl hv), fun v hv => h.2 v ?_⟩
      rw [List.reverse_cons, List.head?_append, hv]; rfl
    obtain ⟨i1, i2, i3, i4⟩ := ih hr
    have hx := h.1 x (by simp)
    rw [List.reverse_cons, cf_snoc]
    generalize hp : (cf ns.reverse).1 = p at *
    generalize hq : (cf ns.reverse).2 = q at *
    have hpx : p ≤ x * p := by
      have := Int.mul_le_mul_of_nonneg_right hx.1 (show 0 ≤ p by omega)
      omega
    have hpx2 : x * p ≤ 31 * p := Int.mul_le_mul_of_nonneg_right hx.2 (by omega)
    refine ⟨by simp only; omega, ?_, fun _ => by simp only; omega, ?_⟩
    · simp only
      by_cases hn : ns = []
      · subst hn
        have h2 := h.2 x rfl
        have e1 : p = 1 := by rw [← hp]; rfl
        have e2 : q = 0 := by rw [← hq]; rfl
        subst e1 e2
        omega
      · have := i3 hn
        omega
    · simp only [List.length_cons, Int.pow_succ]
      omega

theorem euc_cf (ns : List Int) (h : Row ns.reverse) : Euc (cf ns.reverse).1 (cf ns.reverse).2 ns (restsR ns) := by
  induction ns with
  | nil => exact Euc.nil 1
  | cons x ns ih =>
    have hr : Row ns.reverse := by
      refine ⟨fun v hv => h.1 v (by simp at hv ⊢; exact .inl hv), fun v hv => h.2 v ?_⟩
      rw [List.reverse_cons, List.head?_append, hv]; rfl
    obtain ⟨i1, i2, _, _⟩ := cf_order ns hr
    have ih := ih hr
    rw [List.reverse_cons, cf_snoc]
    simp only [restsR]
    have hp : (cf ns.reverse).1 ≠ 0 := by omega
    have e1 : (x * (cf ns.reverse).1 + (cf ns.reverse).2).fdiv (cf ns.reverse).1 = x := by
      rw [Int.fdiv_eq_ediv_of_nonneg _ (by omega), Int.add_comm, Int.add_mul_ediv_right _ _ hp, Int.ediv_eq_zero_of_lt i1 i2]; omega
    have e2 : (x * (cf ns.reverse).1 + (cf ns.reverse).2).fmod (cf ns.reverse).1 = (cf ns.reverse).2 := by
      rw [Int.fmod_eq_emod_of_nonneg _ (by omega), Int.add_comm, Int.add_mul_emod_self_right, Int.emod_eq_of_lt i1 i2]
    have st := Euc.step (a := x * (cf ns.reverse).1 + (cf ns.reverse).2) hp (by rw [e2]; exact ih)
    rw [e1] at st
    exact st


def RightOk (n1 n2 n3 n4 : List Int) : Prop := ∃ R : List Int,
  ((∀ v ∈ n1, 1 ≤ v ∧ v ≤ 31) ∧ n1.length ≤ 8) ∧ ((∀ v ∈ n2, 1 ≤ v ∧ v ≤ 31) ∧ n2.length ≤ 8) ∧ ((∀ v ∈ n3, 1 ≤ v ∧ v ≤ 31) ∧ n3.length ≤ 8) ∧ ((∀ v ∈ n4, 1 ≤ v ∧ v ≤ 31) ∧ n4.length ≤ 8 ∧ 1 ≤ n4.length) ∧
  Euc (cf n1).1 (cf n1).2 n2 R ∧ R.length ≤ 8 ∧
  List.take (min ((n4.length : Int) + 1).toNat R.length - ((n4.length : Int) - 1).toNat) (List.drop ((n4.length : Int) - 1).toNat R) = [(cf n3).1, (cf n3).2] ∧
  IntMulOk (cf n3).1 (cf n4).1 ∧ IntMulOk (cf n3).2 (cf n4).2 ∧ IntMulOk (cf n1).2 (cf n2).2 ∧
  (cf n1).1 ≠ 0 ∧ (cf n1).1 = (cf n3).1 * (cf n4).1 + (cf n3).2 * (cf n4).2 ∧ ((cf n1).2 * (cf n2).2).fmod (cf n1).1 = (cf n1).1 - 1

theorem restsR_drop (xs ys : List Int) : (restsR (xs ++ ys)).drop xs.length = restsR ys := by
  induction xs with
  | nil => rfl
  | cons x xs ih => exact ih
theorem cf_order' {ns : List Int} (h : Row ns) : 0 ≤ (cf ns).2 ∧ (cf ns).2 < (cf ns).1 ∧ (ns ≠ [] → 1 ≤ (cf ns).2) ∧ (cf ns).1 ≤ 32 ^ ns.length := by
  have := cf_order ns.reverse (by rwa [List.reverse_reverse])
  simpa using this
theorem pow_le8 {k : Nat} (h : k ≤ 8) : (32 : Int) ^ k ≤ 1099511627776 := by
  have : k = 0 ∨ k = 1 ∨ k = 2 ∨ k = 3 ∨ k = 4 ∨ k = 5 ∨ k = 6 ∨ k = 7 ∨ k = 8 := by omega
  rcases this with h | h | h | h | h | h | h | h | h <;> subst h <;> decide
theorem cf_small {ns : List Int} (h : Row ns) (hl : ns.length ≤ 8) : 0 ≤ (cf ns).2 ∧ (cf ns).2 < (cf ns).1 ∧ (cf ns).1 ≤ 1099511627776 := by
  obtain ⟨a, b, _, d⟩ := cf_order' h
  exact ⟨a, b, Int.le_trans d (pow_le8 hl)⟩
theorem mulOk_small {a b : Int} (h0 : 0 ≤ a) (h1 : a ≤ 1099511627776) : IntMulOk a b := IntMulOk.of_left (intBits_le_64 (by omega) (by omega))

theorem Row.glue {A B : List Int} (hA : Row A) (hB : Row B) (h : A ≠ []) : Row (A ++ B.reverse) := by
  refine ⟨fun v hv => ?_, fun v hv => hA.2 v ?_⟩
  · rcases List.mem_append.mp hv with h | h
    · exact hA.1 v h
    · exact hB.1 v (List.mem_reverse.mp h)
  · cases A with
    | nil => exact absurd rfl h
    | cons x r => exact hv

theorem snoc_of {l : List Int} (h : l ≠ []) : ∃ l' x, l = l' ++ [x] := by
  have : l.reverse ≠ [] := by simpa using h
  cases e : l.reverse with
  | nil => exact absurd e this
  | cons x r => exact ⟨r.reverse, x, by rw [← List.reverse_reverse l, e]; simp⟩
theorem one_pow' (k : Nat) : (1 : Int) ^ k = 1 := by
  induction k with
  | zero => rfl
  | succ k ih => rw [Int.pow_succ, ih]; rfl
theorem rightOk {A B : List Int} (hA : Row A) (hB : Row B) (lA : 2 ≤ A.length) (lA4 : A.length ≤ 4) (e : B.length = A.length) : RightOk (A ++ B.reverse) (B ++ A.reverse) A B := by
  have neA : A ≠ [] := by intro h; subst h; simp at lA
  have neB : B ≠ [] := by intro h; subst h; simp at e; omega
  have hW := hA.glue hB neA
  have hV := hB.glue hA neB
  have hrev : (B ++ A.reverse).reverse = A ++ B.reverse := by simp
  have lW : (A ++ B.reverse).length ≤ 8 := by simp; omega
  have lV : (B ++ A.reverse).length ≤ 8 := by simp; omega
  have sA := cf_small hA (by omega)
  have sB := cf_small hB (by omega)
  have sW := cf_small hW lW
  have sV := cf_small hV lV
  have eu := euc_cf (B ++ A.reverse) (by rw [hrev]; exact hW)
  rw [hrev] at eu
  have lR : (restsR (B ++ A.reverse)).length = B.length + A.length := by rw [restsR_length]; simp
  refine ⟨restsR (B ++ A.reverse), ⟨hW.1, lW⟩, ⟨hV.1, lV⟩, ⟨hA.1, by omega⟩, ⟨hB.1, by omega, by omega⟩, eu, by omega, ?_, mulOk_small (by omega) (by omega), mulOk_small (by omega) (by omega), mulOk_small (by omega) (by omega), by omega, ?_, ?_⟩
  · obtain ⟨B', x, rfl⟩ := snoc_of neB
    obtain ⟨A', y, rfl⟩ := snoc_of neA
    have h1 : (((B' ++ [x]).length : Int) - 1).toNat = B'.length := by simp
    have h2 : min (((B' ++ [x]).length : Int) + 1).toNat (restsR (B' ++ [x] ++ (A' ++ [y]).reverse)).length - B'.length = 2 := by
      rw [lR]; simp at lA e ⊢; omega
    rw [h1, h2]
    have h3 : B' ++ [x] ++ (A' ++ [y]).reverse = B' ++ (x :: y :: A'.reverse) := by simp
    rw [h3, restsR_drop]
    simp [restsR, cf_snoc]
  · rw [cf_gf, gf_append, gf_lin B.reverse, (gf_rev B).1, (gf_rev B).2, cf_gf, cf_gf]
  · have hd := gf_det (A ++ B.reverse)
    have hev : ((-1 : Int)) ^ (A ++ B.reverse).length = 1 := by
      have : (A ++ B.reverse).length = 2 * A.length := by simp; omega
      rw [this, Int.pow_mul]
      exact one_pow' _
    rw [hev] at hd
    have hv : (cf (B ++ A.reverse)).2 = (gf 0 1 (A ++ B.reverse)).1 := by
      have h1 := (gf_rev (A ++ B.reverse)).1
      have h2 : (A ++ B.reverse).reverse = B ++ A.reverse := by simp
      rw [h2] at h1
      rw [cf_gf, h1]
    rw [hv]
    have hw : cf (A ++ B.reverse) = gf 1 0 (A ++ B.reverse) := rfl
    rw [hw] at sW ⊢
    generalize (gf 1 0 (A ++ B.reverse)).1 = t at *
    generalize (gf 1 0 (A ++ B.reverse)).2 = t2 at *
    generalize (gf 0 1 (A ++ B.reverse)).1 = u at *
    generalize (gf 0 1 (A ++ B.reverse)).2 = u2 at *
    have e1 : t2 * u = (t - 1) + (u2 - 1) * t := by grind
    rw [e1, Int.fmod_eq_emod_of_nonneg _ (by omega), Int.add_mul_emod_self_right]
    exact Int.emod_eq_of_lt (by omega) (by omega)

open PySem.Spec PySem.Calls

theorem bytes_len_look : typeLookup (.type "bytes") "__len__" = pure (some (.builtin "bytes.__len__")) := by rw [typeLookup_type, builtinLookup_eq_fast]; kernel_rfl

section
variable {prog : Program} {w : World} {A : Around} {E : Value → Shared → Prop} {s : Shared} {R : Result → Shared → Prop} {b : Array UInt8} {t : Tok}
abbrev ByteAt (b : Array UInt8) : Nat → Value → Prop := fun i v => ∃ c u, b[i]? = some c ∧ v = .int (c.toNat : Int) u

/-- a list filled with a bytes' ints -/
theorem extend_bytes (hh : A.handled = none) (S : Addr) (res : Value) (c₀ : Nat) (hS : s.heap.get? S = some { cls := .type "list", data := .seq #[] c₀ }) (hn : b.size ≤ sizeLine)
    (hR : ∀ h' tk acc' c', (∀ a o, a ≠ S → s.heap.get? a = some o → h'.get? a = some o) → h'.get? S = some { cls := .type "list", dict := none, data := .seq acc' c', slots := #[] } →
      ItemsOf (ByteAt b) acc' b.size → R (.ok (.ret res)) { s with heap := h', toks := tk }) :
    wpAny (model prog w) A.in1 (Builtin.List.listExtendWith (.ref S) (.bytes b t) res)
      (fun fin s' => match fin with | .done f => R (.ok f) s' | .again c' => c'.quiet = true ∧ codeAny (model prog w) A c' R s') (fun e s' => R (.error e) s') s := by
  have hSI : S ≠ s.heap.objs.size := Nat.ne_of_lt (Heap.lt_size hS)
  have hSf : S ∉ [s.heap.objs.size] := fun hm => hSI (List.mem_singleton.mp hm)
  unfold Builtin.List.listExtendWith
  refine wpAny_bind (wpAny_typeOf (typeIs_bytes s b t) ?_)
  have h1 : Builtin.List.listSameRef (.ref S) (.bytes b t) = false := rfl
  have h2 : (Value.type "bytes" == Value.type "list") = false := by decide
  have h3 : (Value.type "bytes" == Value.type "tuple") = false := by decide
  simp only [h1, h2, h3, Bool.or_false, Bool.false_eq_true, if_false]
  refine wpAny_bind (KBw.pyIter_bytes ?_)
  have W := KBw.walks (prog := prog) (w := w) (A := A.in1) hh s.heap.objs.size b t
  refine wpAny_bind (wpAny_holding ?_)
  unfold Builtin.List.listLengthHint
  refine wpAny_bind (wpAny_specialOf (typeIs_bytes _ b t) bytes_len_look ?_)
  wp_delta
  refine wpAny_bind (wpAny_isInstance (typeIs_bytes _ b t) (b := true) (by rw [isSubtype_type]; kernel_rfl) ?_)
  show wpAny _ _ (typeOf (Value.bytes b t) >>= _) _ _ _
  refine wpAny_bind (wpAny_typeOf (typeIs_bytes _ b t) ?_)
  refine wpAny_pure ?_
  rw [if_neg (by decide)]
  refine wpAny_pure ⟨plainId_quiet F.plain_extend_loop _, codeAny_extend_loopS W.toS hn _ hSf _ b.size 0 _ _ _ rfl (Nat.zero_le _) ⟨_, Heap.get?_push_size _ rfl, rfl, rfl⟩ (Heap.get?_push_of_some _ hS) (ItemsOf.nil _) fun s' acc' c' hm hS' hacc => ?_⟩
  rw [Moved.eq_with hm]
  refine hR s'.heap s'.toks acc' c' (fun a ob hb e => hm.heap a ob (fun hmem => ?_) (Heap.get?_push_of_some _ e)) hS' hacc
  rcases List.mem_cons.mp hmem with e' | hmem
  · exact hb e'
  · exact absurd (Heap.lt_size e) (by rw [List.mem_singleton.mp hmem]; exact Nat.lt_irrefl _)

theorem list_init_bytes (hh : A.handled = none) (S : Addr) (hS : s.heap.get? S = some { cls := .type "list", data := .seq #[] }) (hn : b.size ≤ sizeLine)
    (hR : ∀ h' tk acc' c', (∀ a o, a ≠ S → s.heap.get? a = some o → h'.get? a = some o) → h'.get? S = some { cls := .type "list", dict := none, data := .seq acc' c', slots := #[] } →
      ItemsOf (ByteAt b) acc' b.size → R (.ok (.ret .none)) { s with heap := h', toks := tk }) :
    wpAny (model prog w) A.in1 (Builtin.«list.__init__» ⟨[.ref S, .bytes b t], []⟩)
      (fun fin s' => match fin with | .done f => R (.ok f) s' | .again c' => c'.quiet = true ∧ codeAny (model prog w) A c' R s') (fun e s' => R (.error e) s') s := by
  show wpAny _ _ (do let old ← Builtin.List.listItems (.ref S); Builtin.List.listUpdate (.ref S) (fun _ => #[]); letGo old.toList.reverse; Builtin.List.listExtendWith (.ref S) (.bytes b t) .none) _ _ s
  refine wpAny_bind ?_
  unfold Builtin.List.listItems
  refine wpAny_bind (wpAny_seqItems hS rfl (wpAny_pure ?_))
  show wpAny _ _ (updateSeq S (fun _ => #[]) >>= fun _ => letGo (#[] : Array Value).toList.reverse >>= fun _ => Builtin.List.listExtendWith (.ref S) (.bytes b t) .none) _ _ s
  refine wpAny_bind (wpAny_updateSeq hS rfl ?_)
  have hS₂ := Heap.get?_update_self (Obj.mapSeq (fun _ => (#[] : Array Value))) hS rfl
  refine wpAny_bind (wpAny_letGo ?_)
  exact extend_bytes hh S .none _ hS₂ hn fun h' tk acc' c' hk hS' hacc => hR h' tk acc' c' (fun a o hb e => hk a o hb ((Heap.get?_update_other _ _ (Ne.symm hb)).trans e)) hS' hacc

theorem call_list_bytes {Q : Value → Shared → Prop} (hh : A.handled = none) (hn : b.size ≤ sizeLine)
    (hQ : ∀ h' tk acc' c', (∀ a o, s.heap.get? a = some o → h'.get? a = some o) → h'.get? s.heap.objs.size = some { cls := .type "list", dict := none, data := .seq acc' c', slots := #[] } → ItemsOf (ByteAt b) acc' b.size →
      Q (.ref s.heap.objs.size) { s with heap := h', toks := tk }) : wpAny (model prog w) A (call (.type "list") [.bytes b t]) Q E s := by
  refine callType_codes (Q₁ := fun obj s₁ => obj = .ref s.heap.objs.size ∧ s₁ = { s with heap := s.heap.push { cls := .type "list", data := .seq #[] } }) F.called_list (F.typeCall_list_1 _) F.entry_list_init
    (code_list_new _ ⟨rfl, rfl⟩) fun obj s₁ h₁ => ?_
  obtain ⟨rfl, rfl⟩ := h₁
  have hS : (s.heap.push { cls := .type "list", data := .seq #[] }).get? s.heap.objs.size = some { cls := .type "list", data := .seq #[] } := Heap.get?_push_size _ rfl
  refine ⟨⟨_, hS, rfl⟩, F.args_list_init_2 _ _, list_init_bytes (A := A.in1) hh _ hS hn fun h' tk acc' c' hk hS' hacc => ?_⟩
  exact ⟨rfl, hQ h' tk acc' c' (fun a o e => hk a o (Nat.ne_of_lt (Heap.lt_size e)) (Heap.get?_push_of_some _ e)) hS' hacc⟩

theorem ints_of_items {acc : Array Value} (h : ItemsOf (ByteAt b) acc b.size) : IntsAre acc.toList (KBw.bInts b) := by
  obtain ⟨h1, h2⟩ := h
  have key : ∀ (l : List Value) (k : List UInt8), l.length = k.length → (∀ (i : Nat) (v : Value), l[i]? = some v → ∃ c u, k[i]? = some c ∧ v = Value.int (c.toNat : Int) u) → IntsAre l (k.map fun c => (c.toNat : Int)) := by
    intro l
    induction l with
    | nil => intro k hl _; cases k with
      | nil => exact IntsAre.nil
      | cons => simp at hl
    | cons v l ih => intro k hl hi; cases k with
      | nil => simp at hl
      | cons c k =>
        obtain ⟨c', u, e, rfl⟩ := hi 0 v rfl
        have e : c = c' := by simpa using e
        subst e
        exact IntsAre.cons _ _ (ih k (by simpa using hl) fun i v hv => by simpa using hi (i + 1) v (by simpa using hv))
  refine key acc.toList b.toList (by simpa using h1) fun i v hv => ?_
  obtain ⟨c, u, hc, e⟩ := h2 i v (by simpa using hv)
  exact ⟨c, u, by simpa using hc, e⟩

/-- list(a bytes), onto the ledger -/
theorem list_bytes_K {h₀ : Heap} {L : Addr} {m : Str → Option Value} {news : List (Addr × Obj)} {ks : List Int} {Q : Value → Shared → Prop} (hh : A.handled = none) (F : Fr h₀ L s.heap m) (N : News h₀ L s.heap news) (hk : KBw.bInts b = ks) (hn : b.size ≤ 64)
    (h : ∀ D (ws : List Value) n h' tk, Fr h₀ L h' m → News h₀ L h' ((D, W.listOf ws.toArray n) :: news) → (∀ p ∈ news, p.1 < D) → IntsAre ws ks → Q (.ref D) { s with heap := h', toks := tk }) :
    wpAny (model prog w) A (call (.type "list") [.bytes b t]) Q E s := by
  refine call_list_bytes hh (by rw [sizeLine_eq]; omega) fun h' tk acc c k hd hi => ?_
  subst hk
  refine h _ acc.toList c h' tk (fr_keep F k) (news_more F N k (by simpa using hd) ?_) (fun p hp => Heap.lt_size (N p hp).1) (ints_of_items hi)
  cases e : s.heap.get? s.heap.objs.size with
  | none => rfl
  | some o => exact absurd (Heap.lt_size e) (Nat.lt_irrefl _)
end

open PySem.Spec PySem.Calls

theorem two_of {l : List Int} (h : l.length = 2) : ∃ a b, l = [a, b] := by
  match l, h with
  | [a, b], _ => exact ⟨a, b, rfl⟩
theorem three_of {l : List Int} (h : l.length = 3) : ∃ a b c, l = [a, b, c] := by
  match l, h with
  | [a, b, c], _ => exact ⟨a, b, c, rfl⟩
theorem four_of {l : List Int} (h : l.length = 4) : ∃ a b c d, l = [a, b, c, d] := by
  match l, h with
  | [a, b, c, d], _ => exact ⟨a, b, c, d, rfl⟩

/-- _byteswap of two rows end to end, as wide as a row: both mirrors -/
theorem swap_use {w : World} {mean : ExcName → Option Value} {mg mb : Str → Option Value} {cn : Str} {cs : Scope} {a : Addr} {ccd : Value} {A₀ : Around} {base h₀ : Heap} {L : Addr} {m : Str → Option Value} {s : Shared} {news : List (Addr × Obj)}
    {r0 r1 : List Int} {n : Int} {tb tn : Tok} {Q E : Value → Shared → Prop}
    (B : Below A₀ base [] h₀) (F : Fr h₀ L s.heap m) (N : News h₀ L s.heap news) (X : (hd.heap_39 w.params).In h₀) (T : Top hd.view_39 (looseW hd.view_39 []) mean mg mb h₀) (hk : cs.kind = .function)
    (h0 : (r0.length : Int) = n) (h1 : (r1.length : Int) = n) (hn : n = 2 ∨ n = 3 ∨ n = 4)
    (ret : ∀ t h' tk', Fr h₀ L h' m → News h₀ L h' news → Q (.bytes (byteArr (r0.reverse ++ r1.reverse)) t) { s with heap := h', toks := tk' }) :
    wpG (model Challenge.rw_ny0005_01.row.prog w) (callerA.deeper (envOf cn cs L a ccd)) (call (.ref 21) [.bytes (byteArr (r0 ++ r1)) tb, .int n tn]) Q E s := by
  have r := fun t h' tk' (k : Kept s.heap h') => ret t h' tk' (fr_keep F k) (news_keep N k)
  clear ret
  rcases hn with rfl | rfl | rfl
  · obtain ⟨x0, x1, rfl⟩ := two_of (l := r0) (by omega)
    obtain ⟨y0, y1, rfl⟩ := two_of (l := r1) (by omega)
    exact swap2_c w mean mg mb cn cs a ccd A₀ base h₀ L m s _ _ _ _ tb tn Q E B F X T hk r
  · obtain ⟨x0, x1, x2, rfl⟩ := three_of (l := r0) (by omega)
    obtain ⟨y0, y1, y2, rfl⟩ := three_of (l := r1) (by omega)
    exact swap3_c w mean mg mb cn cs a ccd A₀ base h₀ L m s _ _ _ _ _ _ tb tn Q E B F X T hk r
  · obtain ⟨x0, x1, x2, x3, rfl⟩ := four_of (l := r0) (by omega)
    obtain ⟨y0, y1, y2, y3, rfl⟩ := four_of (l := r1) (by omega)
    exact swap4_c w mean mg mb cn cs a ccd A₀ base h₀ L m s _ _ _ _ _ _ _ _ tb tn Q E B F X T hk r

theorem right_use {w : World} {mean : ExcName → Option Value} {mg mb : Str → Option Value} {cn : Str} {cs : Scope} {a : Addr} {ccd : Value} {A₀ : Around} {base h₀ : Heap} {L : Addr} {m : Str → Option Value} {s : Shared} {news : List (Addr × Obj)}
    {l1 l2 l3 l4 : Addr} {vs1 vs2 vs3 vs4 : List Value} {n1 n2 n3 n4 : List Int} {Q E : Value → Shared → Prop}
    (B : Below A₀ base [] h₀) (F : Fr h₀ L s.heap m) (N : News h₀ L s.heap news) (X : (hd.heap_39 w.params).In h₀) (T : Top hd.view_39 (looseW hd.view_39 []) mean mg mb h₀) (hk : cs.kind = .function)
    (hl1 : s.heap.IsList l1 vs1.toArray) (hl2 : s.heap.IsList l2 vs2.toArray) (hl3 : s.heap.IsList l3 vs3.toArray) (hl4 : s.heap.IsList l4 vs4.toArray)
    (hi1 : IntsAre vs1 n1) (hi2 : IntsAre vs2 n2) (hi3 : IntsAre vs3 n3) (hi4 : IntsAre vs4 n4) (ok : RightOk n1 n2 n3 n4)
    (ret : ∀ h' tk', Fr h₀ L h' m → News h₀ L h' news → Q (.bool true) { s with heap := h', toks := tk' }) :
    wpAny (model Challenge.rw_ny0005_01.row.prog w) (callerA.deeper (envOf cn cs L a ccd)) (call (.ref 77) [.ref l1, .ref l2, .ref l3, .ref l4]) Q E s := by
  obtain ⟨R, ⟨b1, z1⟩, ⟨b2, z2⟩, ⟨b3, z3⟩, ⟨b4, z4, y4⟩, e, zR, hr, q1, q2, q3, h0, hs, hm⟩ := ok
  exact right_c w mean mg mb cn cs a ccd A₀ base h₀ L m s l1 l2 l3 l4 vs1 vs2 vs3 vs4 n1 n2 n3 n4 R Q E B F X T hk hl1 hi1 b1 z1 hl2 hi2 b2 z2 hl3 hi3 b3 z3 hl4 hi4 b4 z4 y4 e zR hr q1 q2 q3 h0 hs hm
    fun h' tk' k => ret h' tk' (fr_keep F k) (news_keep N k)

/-- two rows as the law cuts them out of the eight cells -/
structure TwoRows (r0 r1 : List Int) (n : Int) : Prop where
  n234 : n = 2 ∨ n = 3 ∨ n = 4
  l0 : (r0.length : Int) = n
  l1 : (r1.length : Int) = n
  row0 : Row r0
  row1 : Row r1

theorem row_of {l : List Int} (hb : ∀ v ∈ l, 1 ≤ v ∧ v ≤ 30) (hl : 1 ≤ l.length) : Row ([l.getD 0 0 + 1] ++ l.drop 1) ∧ ([l.getD 0 0 + 1] ++ l.drop 1).length = l.length := by
  cases l with
  | nil => simp at hl
  | cons x r =>
    have hx := hb x (by simp)
    refine ⟨⟨fun v hv => ?_, fun v hv => ?_⟩, by simp⟩
    · simp at hv
      rcases hv with rfl | hv
      · omega
      · have := hb v (by simp [hv]); omega
    · simp at hv
      omega
theorem bytes_back {l : List Int} (h : ∀ v ∈ l, 1 ≤ v ∧ v ≤ 31) : KBw.bInts (byteArr l) = l := KBa.ints_make fun v hv => ⟨by have := h v hv; omega, by have := h v hv; omega⟩


theorem cells_in (NS : List Int) : ∀ v ∈ NS.map (fun k' => k'.fmod 30 + 1), 1 ≤ v ∧ v ≤ 30 := by
  intro v hv
  obtain ⟨k, _, rfl⟩ := List.mem_map.mp hv
  have h1 := Int.fmod_nonneg_of_pos k (show (0 : Int) < 30 by decide)
  have h2 := Int.fmod_lt_of_pos k (show (0 : Int) < 30 by decide)
  omega
theorem rows_of {NS : List Int} (hl : NS.length = 8) : TwoRows
    ([(List.take (2 + NS.sum.fmod 3).toNat (NS.map fun k' => k'.fmod 30 + 1)).getD (Int.toNat 0) 0 + 1] ++ List.drop 1 (List.take (2 + NS.sum.fmod 3).toNat (NS.map fun k' => k'.fmod 30 + 1)))
    ([(List.take (min (4 + (2 + NS.sum.fmod 3)).toNat (NS.map fun k' => k'.fmod 30 + 1).length - 4) (List.drop 4 (NS.map fun k' => k'.fmod 30 + 1))).getD (Int.toNat 0) 0 + 1] ++
      List.drop 1 (List.take (min (4 + (2 + NS.sum.fmod 3)).toNat (NS.map fun k' => k'.fmod 30 + 1).length - 4) (List.drop 4 (NS.map fun k' => k'.fmod 30 + 1))))
    (2 + NS.sum.fmod 3) := by
  have h1 := Int.fmod_nonneg_of_pos NS.sum (show (0 : Int) < 3 by decide)
  have h2 := Int.fmod_lt_of_pos NS.sum (show (0 : Int) < 3 by decide)
  have hc := cells_in NS
  have hC : (NS.map fun k' => k'.fmod 30 + 1).length = 8 := by simp [hl]
  generalize NS.sum.fmod 3 = m at *
  generalize (NS.map fun k' => k'.fmod 30 + 1) = C at *
  have a := row_of (l := List.take (2 + m).toNat C) (fun v hv => hc v (List.mem_of_mem_take hv)) (by rw [List.length_take]; omega)
  have b := row_of (l := List.take (min (4 + (2 + m)).toNat C.length - 4) (List.drop 4 C)) (fun v hv => hc v (List.mem_of_mem_drop (List.mem_of_mem_take hv))) (by rw [List.length_take, List.length_drop]; omega)
  refine ⟨by omega, ?_, ?_, a.1, b.1⟩
  · show ((([(List.take (2 + m).toNat C).getD 0 0 + 1] ++ List.drop 1 (List.take (2 + m).toNat C)).length : Nat) : Int) = 2 + m
    rw [a.2, List.length_take]; omega
  · show ((([(List.take (min (4 + (2 + m)).toNat C.length - 4) (List.drop 4 C)).getD 0 0 + 1] ++ List.drop 1 (List.take (min (4 + (2 + m)).toNat C.length - 4) (List.drop 4 C))).length : Nat) : Int) = 2 + m
    rw [b.2, List.length_take, List.length_drop]; omega
theorem len8 (ws : List Int) : (List.take 8 ws ++ List.drop (ws.length : Int).toNat ([2, 0, 4, 1, 1, 3, 0, 1] : List Int)).length = 8 := by
  rw [List.length_append, List.length_take, List.length_drop]
  simp only [List.length_cons, List.length_nil]
  omega

section
variable {r0 r1 : List Int} {n : Int} (t : TwoRows r0 r1 n)
include t
theorem TwoRows.bytes : ∀ v ∈ r0 ++ r1, 0 ≤ v ∧ v < 256 := fun v hv => by
  rcases List.mem_append.mp hv with h | h
  · have := t.row0.1 v h; omega
  · have := t.row1.1 v h; omega
theorem TwoRows.back : KBw.bInts (byteArr (r0.reverse ++ r1.reverse)) = r0.reverse ++ r1.reverse := bytes_back fun v hv => by
  rcases List.mem_append.mp hv with h | h
  · exact t.row0.1 v (List.mem_reverse.mp h)
  · exact t.row1.1 v (List.mem_reverse.mp h)
theorem TwoRows.take : List.take n.toNat (r0.reverse ++ r1.reverse) = r0.reverse := by
  have := t.l0
  rw [List.take_append_of_le_length (by simp; omega), List.take_of_length_le (by simp; omega)]
theorem TwoRows.drop : List.drop n.toNat (r0.reverse ++ r1.reverse) = r1.reverse := by
  have := t.l0
  rw [List.drop_append_of_le_length (by simp; omega), List.drop_of_length_le (by simp; omega)]; rfl
theorem TwoRows.ok00 : RightOk (r0 ++ List.take n.toNat (r0.reverse ++ r1.reverse)) (r0 ++ List.take n.toNat (r0.reverse ++ r1.reverse)) r0 r0 := by
  have h1 := t.l0; have h2 := t.l1; have h3 := t.n234
  rw [t.take]; exact rightOk t.row0 t.row0 (by omega) (by omega) rfl
theorem TwoRows.ok01 : RightOk (r0 ++ List.drop n.toNat (r0.reverse ++ r1.reverse)) (r1 ++ List.take n.toNat (r0.reverse ++ r1.reverse)) r0 r1 := by
  have h1 := t.l0; have h2 := t.l1; have h3 := t.n234
  rw [t.take, t.drop]; exact rightOk t.row0 t.row1 (by omega) (by omega) (by omega)
theorem TwoRows.ok10 : RightOk (r1 ++ List.take n.toNat (r0.reverse ++ r1.reverse)) (r0 ++ List.drop n.toNat (r0.reverse ++ r1.reverse)) r1 r0 := by
  have h1 := t.l0; have h2 := t.l1; have h3 := t.n234
  rw [t.take, t.drop]; exact rightOk t.row1 t.row0 (by omega) (by omega) (by omega)
theorem TwoRows.ok11 : RightOk (r1 ++ List.drop n.toNat (r0.reverse ++ r1.reverse)) (r1 ++ List.drop n.toNat (r0.reverse ++ r1.reverse)) r1 r1 := by
  have h1 := t.l0; have h2 := t.l1; have h3 := t.n234
  rw [t.drop]; exact rightOk t.row1 t.row1 (by omega) (by omega) rfl
end

open PySem.Spec PySem.Calls

theorem codeG_mono {M : Model} {A : Around} {s : Shared} {c : Code} {R R' : Result → Shared → Prop} (h : codeG M A c R s) (hR : ∀ r s, R r s → R' r s) : codeG M A c R' s :=
  fun Γ p hc hΓ hg => wpCode_mono hR (h Γ p hc hΓ hg)
theorem G_enter {M : Model} {A : Around} {s : Shared} {f : Value} {pos : List Value} {kw : List (Str × Value)} {c : ClaimW} {cl : Str → Option Addr} {mean : ExcName → Option Value} {args : List WData} {s₁ : Shared}
    (h : codeG M A (.call f ⟨pos, kw⟩) (GoodW c cl mean args s₁) s) : wpG M A (PySem.call f pos kw) (fun v s' => GoodWG c cl mean args s₁ (.ok (.ret v)) s') (fun e s' => GoodWG c cl mean args s₁ (.error e) s') s :=
  wpG_call (codeG_mono h fun res s' g => by rcases g.1 with ⟨v, _, _, rfl, _⟩ | ⟨e, _, _, rfl, _⟩ <;> exact g.toG)
theorem G_full {prog : Program} {w : World} {A : Around} {R : Result → Shared → Prop} {s : Shared} {name : Str} {params : Arguments} {body : List Stmt} {scope : Scope}
    {dV kV pm cd doc : Value} {a : Addr} {o : Obj} {args : Args} {binds : List (Str × Value)}
    (hroom : A.depth < recursionLimit) (ho : s.heap.get? a = some o) (hdata : o.data = .func { docDef name params body scope pm cd doc with defaults := dV, kwdefaults := kV }) (hlim : s.heap.NoLimit) (hcd : s.heap.CodeRec cd name)
    (hbind : BindsTo s { docDef name params body scope pm cd doc with defaults := dV, kwdefaults := kV } args binds) (hloc : ∀ x ∈ binds, scope.names.lookup x.1 = some .local)
    (h : ∀ h₁, Fr s.heap s.heap.objs.size h₁ (fun x => binds.reverse.lookup x) →
      wpG (model prog w) (A.deeper (envOf name scope s.heap.objs.size a cd)) (execs body (envOf name scope s.heap.objs.size a cd))
        (fun f s' => R (.ok (.ret (match f with | .ret v => v | _ => .none))) s')
        (fun e s' => wpAny (model prog w) (A.deeper (envOf name scope s.heap.objs.size a cd)) (leaving (envOf name scope s.heap.objs.size a cd) e) (fun _ s'' => R (.error e) s'') (fun e' s'' => R (.error e') s'') s')
        { s with heap := h₁, toks := s.toks + binds.length })
    (hco : scope.isCoroutine = false := by rfl) (hgen : scope.isGenerator = false := by rfl) (hk : scope.kind = .function := by rfl)
    (hcell : ∀ x ∈ scope.names, x.2 ≠ .cell := by decide) : codeG (model prog w) A (.call (.ref a) args) R s :=
  codeG_def hroom ho hdata hlim hcd rfl hbind hcell hloc (fun h₁ hns hkeep => h h₁ ⟨hns, hkeep, Nat.le_refl _⟩) hco hgen hk

local macro_rules | `(tactic| walk_at "subscriptTail Name Slice ref ref") => `(tactic| (k_here; (with_reducible show wpAny _ _ (subscriptTail _ (PySem.Expr.Slice _ _ none _) (Value.ref _) (Value.ref _)) _ _ _); k_dflt (refine' kmk_slice_ints ?F ?N ?l ?p ?q ?i ?m ?c ?_ ?s ?t ?z; (case F => k_asm); (case N => k_asm); (case l => kmk_list); (case p => kmk_part); (case q => kmk_part); (case i => l_ints); (case m => first | exact kmk_from (by l_ints) (by kmk_sign) | kmk_nums); (case c => kmk_len); (case s => with_unfolding_all rfl); (case t => kmk_pure); (case z => kmk_size)); intro D' ws' h' F' N' l1 hI' hC' hL'; (try simp only [Int.reduceNeg, Int.neg_neg, Int.reduceToNat] at hI' hC' hL'); (try k_lt l1); (try k_sweep)))
theorem G_callWith_defK {M : Model} {A : Around} {E : Value → Shared → Prop} {s : Shared} {env : Env} {K : Frag} {pos pos' : Pos} {a : Addr} {oc : Value} {od : Option Addr} {osl : Array (Option Value)} {fd : FuncData} {e : Expr} {rest : List Expr} {Q : Value → Shared → Prop}
    (ho : K.lookup a = some ⟨oc, od, .func fd, osl⟩)
    (h : wpG M A (spliced (backTo pos' (starEach (e :: rest) env))) (fun vs s₁ => K.In s₁.heap ∧ wpG M A (call (.ref a) vs) Q E s₁) E s)
    (he : starEach (e :: rest) env = (false, eval e env) :: starEach rest env := by rfl) (hplain : (backTo pos' (starEach rest env)).any (·.1) = false := by rfl) :
    wpG M A (callWith pos (.ref a) [] (backTo pos' (starEach (e :: rest) env)) []) Q E s :=
  G_callWith_defE (wpG_mono h (fun _ _ x => ⟨⟨x.1 _ _ ho, rfl⟩, x.2⟩) fun _ _ x => x) he hplain
theorem abs2 {P : Prop} {v0 v1 : List Value} {a b : List Int} {n : Int} (h0 : IntsAre v0 a) (h1 : IntsAre v1 b) (t : TwoRows a b n) (k : ∀ a b, IntsAre v0 a → IntsAre v1 b → TwoRows a b n → P) : P := k a b h0 h1 t
theorem TwoRows.len {r0 r1 : List Int} {n : Int} (t : TwoRows r0 r1 n) : r0.length ≤ 4 ∧ r1.length ≤ 4 := by
  have h1 := t.l0; have h2 := t.l1; have h3 := t.n234
  omega
theorem bytes_K {prog : Program} {w : World} {A : Around} {E : Value → Shared → Prop} {s : Shared} {h₀ : Heap} {L l : Addr} {m : Str → Option Value} {news : List (Addr × Obj)} {vs : List Value} {r0 r1 : List Int} {n : Int} {Q : Value → Shared → Prop}
    (F : Fr h₀ L s.heap m) (N : News h₀ L s.heap news) (hh : A.handled = none) (hl : s.heap.IsList l vs.toArray) (hi : IntsAre vs (r0 ++ r1)) (t : TwoRows r0 r1 n)
    (h : ∀ u h' tk, Fr h₀ L h' m → News h₀ L h' news → Q (.bytes (byteArr (r0 ++ r1)) u) { s with heap := h', toks := tk }) : wpAny (model prog w) A (call (.type "bytes") [.ref l]) Q E s := by
  refine call_bytes_ints hl hi t.bytes ?_ hh fun h' u k keep => h u h' k (fr_keep F keep) (news_keep N keep)
  have h1 := t.l0; have h2 := t.l1; have h3 := t.n234
  rw [hi.length, List.length_append, sizeLine_eq]
  omega
local macro_rules | `(tactic| walk_at "call type:bytes") => `(tactic| (k_here; (with_reducible show wpAny _ _ (call (Value.type "bytes") [Value.ref _]) _ _ _); k_dflt (refine' bytes_K ?k1 ?k2 ?k3 ?k4 ?k5 ?k6 ?_; (case k1 => k_asm); (case k2 => k_asm); (case k3 => exact rfl); (case k4 => is_list); (case k5 => l_ints); (case k6 => assumption); k_whole); intro u' h' tk' F' N'))
local macro_rules | `(tactic| walk_at "call type:list") => `(tactic| (k_here; (with_reducible show wpAny _ _ (call (Value.type "list") [Value.bytes _ _]) _ _ _); k_dflt (refine' list_bytes_K ?k1 ?k2 ?k3 ?k4 ?k5 ?_; (case k1 => exact rfl); (case k2 => k_asm); (case k3 => k_asm); (case k4 => exact TwoRows.back (by assumption)); (case k5 => assumption); k_whole); intro D' ws' n' h' tk' F' N' l1 hI'; (try k_lt l1)))
local macro_rules | `(tactic| walk_at "call ref") => `(tactic| (k_here; (with_reducible show wpAny _ _ (call (Value.ref 77) [Value.ref _, Value.ref _, Value.ref _, Value.ref _]) _ _ _); k_dflt (refine' right_use ?B ?F ?N ?X ?T ?k ?l1 ?l2 ?l3 ?l4 ?i1 ?i2 ?i3 ?i4 ?ok ?_; (case B => k_asm); (case F => k_asm); (case N => k_asm); (case X => k_asm); (case T => k_asm); (case k => exact rfl); (case l1 => is_list); (case l2 => is_list); (case l3 => is_list); (case l4 => is_list); (case i1 => l_ints); (case i2 => l_ints); (case i3 => l_ints); (case i4 => l_ints); (case ok => first | exact TwoRows.ok00 (by assumption) | exact TwoRows.ok01 (by assumption) | exact TwoRows.ok10 (by assumption) | exact TwoRows.ok11 (by assumption))); k_whole; intro h9 tk9 F9 N9; (try dsimp only); (try k_fold)))
theorem mainT : PySem.Challenge.rw_ny0005_01.Holds := by
  refine hdG0 (by rfl) (by rfl) (by rfl) ?_
  k_with_none
  delta hookG
  k_fill
  intro w s₀ s₁ mg mb G Y fa o pm cd doc dV kV ho hd hcd hD hmg hg args vals as hpre hlay hrd hwl hlo
  have KX := kIn_of Y
  have X := (Ground.X G).1
  have V := (Ground.X G).2
  refine Ground.open G ?_
  intro T B D TE TW
  clear D
  obtain ⟨_, _, M⟩ := bmod_of_top T
  have TA := at_of_top T
  try (obtain ⟨_, _, he, B0⟩ := based_of_top T rfl hmg ho hd; have he' : cd = _ := he; subst he'; clear he)
  clear hmg
  wrow_args hpre hlay hrd hwl hlo
  refine wpAny_guarded ?_ (GoodW.toG ⟨.inl ⟨_, .bool true, [], rfl, fun _ => rfl, .bool true, by wrow_post, fun _ => ⟨List.nodup_nil, fun _ h => nomatch h⟩⟩, fun _ _ e => e, rfl, hg⟩)
  refine G_enter ?_
  w_top on
  have K0 := below_caller (Top.heap T)
  have he := Dflts.none hD rfl
  subst he
  refine G_full (by decide) ho hd (Top.nolimit T) hcd (BindsTo.of_eq rfl) (locs rfl) fun h₁ F => ?_
  have N0 := (News.nil : News _ _ _ []).at F
  clear hd TA
  k_drop
  refine wpG_execs_cons (wpG_any ?_)
  try k_fold
  w_strict k_steps
  refine wpG_execs_cons (wpG_any ?_)
  w_strict k_steps
  refine wpG_execs_cons (wpG_any ?_)
  w_strict k_steps
  refine wpG_execs_cons (wpG_any ?_)
  w_strict k_steps
  rename List Int => sc
  have TR := rows_of (NS := List.take 8 sc ++ List.drop (sc.length : Int).toNat [2, 0, 4, 1, 1, 3, 0, 1]) (len8 sc)
  rename IntsAre _ ([_ + 1] ++ List.drop 1 _) => hI1
  revert hI1
  rename IntsAre _ ([_ + 1] ++ List.drop 1 _) => hI0
  intro hI1
  refine abs2 hI0 hI1 TR ?_
  clear hI0 hI1 TR
  intro r0 r1 hI0 hI1 TR
  obtain ⟨hz0, hz1⟩ := TR.len
  have hw0 := hI0.length
  have hw1 := hI1.length
  refine wpG_execs_cons (wpG_Assign_Name (G_Call ?_))
  w_strict k_steps
  refine G_callWith_typeE (G_splicedE (G_Call ?_))
  w_strict k_steps
  k_dflt (refine' G_callWith_defK (K := hd.heap_39 w.params) ?ho (wpG_any ?_) rfl rfl; (case ho => k_is))
  w_strict k_steps
  k_dflt (refine' swap_use ?k1 ?k2 ?k3 ?k4 ?k5 ?k6 ?k7 ?k8 ?k9 ?_; (case k1 => k_asm); (case k2 => k_asm); (case k3 => k_asm); (case k4 => k_asm); (case k5 => k_asm); (case k6 => exact rfl); (case k7 => exact TwoRows.l0 (by assumption)); (case k8 => exact TwoRows.l1 (by assumption)); (case k9 => exact TwoRows.n234 (by assumption)); k_whole)
  intro t9 h9 tk9 F9 N9
  try dsimp only
  w_strict k_steps
  have hsz : (byteArr (r0.reverse ++ r1.reverse)).size ≤ 64 := by rw [byteArr_size]; simp; omega
  refine wpG_any ?_
  w_strict k_steps
  refine wpG_any ?_
  w_strict k_steps

end Mine
theorem PySem.Challenge.cw_ny0005_01_holds : PySem.Challenge.rw_ny0005_01.Holds := by
  exact Mine.mainT
