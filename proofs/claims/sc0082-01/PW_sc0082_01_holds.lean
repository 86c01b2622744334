import PyProof.Rows.All
import Wide.All
import OpenK.AllK
import Wide.FinOn
import PySem.Challenge.RW_sc0082_01
set_option Elab.async false
set_option maxRecDepth 100000
set_option maxHeartbeats 8000000
set_option rowWalk.seconds 0
section
open PySem PySem.W PyProof.Rows
namespace Mine
open_top hd for PySem.Challenge.rw_sc0082_01
end Mine
end
local macro_rules | `(tactic| walk_at $s:str) => `(tactic| k_extra $s)
local macro_rules | `(tactic| k_ne) => `(tactic| k_extra "k_ne")
local macro_rules | `(tactic| k_all) => `(tactic| k_extra "k_all")
local macro_rules | `(tactic| lcg_off) => `(tactic| k_extra "lcg_off")
local macro_rules | `(tactic| k_room) => `(tactic| ((try simp +zetaDelta only [PyProof.Rows.depth_under_make, PySem.W.depth_under_kw, PySem.W.depth_in1, PyProof.Rows.depth_deeper, PyProof.Rows.depth_caller]); (try dsimp only); (try unfold PySem.recursionLimit); omega))
local macro_rules | `(tactic| units_room) => `(tactic| ((simp +zetaDelta only [PySem.Around.deeper_units, PySem.Around.in1_units, PySem.Around.mark_units, PySem.cLine]); omega))
section
-- Base1
open PySem PySem.W PyProof.Rows PySem.Challenge
namespace Mine
section
variable {prog : Program} {w : World} {A₀ A : Around} {s : Shared} {base h₀ : Heap} {outer : List Env} {L : Addr} {m : Str → Option Value} {env : Env} {news : List (Addr × Obj)} {K : Frag}
  {R : Result → Shared → Prop} {name qual : Str} {params : Arguments} {body : List Stmt} {scope : Scope} {dV kV doc pm cdv ct oc : Value} {an od : Option Addr} {osl : Array (Option Value)} {f : Addr} {args : Args} {binds : List (Str × Value)}
  {p : Program} {loose : List Str} {mean : ExcName → Option Value} {mg mb : Str → Option Value}
/-- entering a plain def of the text: the ground is the caller's heap without the ledger's objects -/
theorem ent (B : Below A₀ base outer h₀) (F : Fr h₀ L s.heap m) (X₀ : K.In h₀) (N : News h₀ L s.heap news) (T : Top p loose mean mg mb h₀) (hA : A.frames = some (env :: outer)) (hf : env.frame = some L) (hke : env.scope.kind = .function)
    (ho : K.lookup f = some ⟨oc, od, .func (fnOf name qual params body scope dV kV doc pm an cdv ct), osl⟩) (hcd : codeIn K cdv qual = true) (hroom : A.depth < recursionLimit)
    (hbind : BindsTo s (fnOf name qual params body scope dV kV doc pm an cdv ct) args binds) (hloc : ∀ y ∈ binds, scope.names.lookup y.1 = some .local)
    (h : ∀ g L' h₁, g = hideAll s.heap (news.map (·.1)) → let e₁ := envX qual scope L' f cdv []; let A₁ := A.deeper e₁; let m₁ : Str → Option Value := fun y => binds.reverse.lookup y; Fr g L' h₁ m₁ → News g L' h₁ news → Below A base (env :: outer) g → K.In g → Top p loose mean mg mb g →
      wpAny (model prog w) A₁ (execs body e₁)
        (fun fl s' => R (.ok (.ret (match fl with | .ret v => v | _ => .none))) s') (fun _ _ => False)
        { s with heap := h₁, toks := s.toks + binds.length })
    (hco : scope.isCoroutine = false) (hgen : scope.isGenerator = false) (hk : scope.kind = .function)
    (hcell : ∀ x ∈ scope.names, x.2 ≠ .cell) : codeAny (model prog w) A (.call (.ref f) args) R s := by
  obtain ⟨FG, BG, st, _⟩ := groundX (R := R) B F N hA hf hke
  refine codeAny_call_def (fd := fnOf name qual params body scope dV kV doc pm an cdv ct) (body := body) (binds := binds) hroom ((X₀.keeps F.keep) _ _ ho) rfl (T.nolimit.keeps F.keep) (codeRec_of (X₀.keeps F.keep) hcd) rfl hbind hcell hloc (fun h₁ hns hk₁ => ?_) hco hgen hk
  exact wpAny_mono (h _ s.heap.objs.size h₁ rfl ⟨hns, fun b o e => hk₁ b o (of_hideAll _ e), Nat.le_of_eq (hideAll_size _ _)⟩
    (fun p hp => ⟨hk₁ _ _ (N p hp).1, Nat.ne_of_lt (Heap.lt_size (N p hp).1), hideAll_none _ (List.mem_map_of_mem hp)⟩) BG (X₀.keeps st) (T.keeps st)) (fun fl s' hl => hl) fun _ _ y => y.elim
end
end Mine
-- Base2
open PySem PySem.W PyProof.Rows PySem.Challenge
namespace Mine
section
variable {w : World} {s : Shared}
theorem binds_kw {fd : FuncData} {args : Args} {binds : List (Str × Value)} {T D : Addr} {K : Frag} {o oD : Obj} {items : Array Value} {n : Nat} {part : Option Value}
   {k : Option (Array Value) → Sem (List (Str × Value))} {k2 : Obj → Sem (List (Str × Value))}
   (X : K.In s.heap) (hd : fd.defaults = .ref T) (ho : K.lookup T = some o) (hs : o.data = .seq items n) (hD : K.lookup D = some oD)
   (h₁ : bindArgs fd args = seqItems? fd.defaults >>= k) (h₂ : k (some items) = .load D part k2) (h₃ : k2 oD = pure binds) : BindsTo s fd args binds := by
  intro M A E Q hq
  rw [h₁, hd]
  refine wpAny_bind (wpAny_seqItems (X _ _ ho) hs ?_)
  rw [h₂]
  have e : (Sem.load D part k2) = (loadPart D part >>= k2) := rfl
  rw [e]
  refine wpAny_bind (wpAny_loadPart (X _ _ hD) ?_)
  rw [h₃]
  exact wpAny_pure hq
end
theorem bis_binds {w : World} {s : Shared} (X : (hd.heap_39 w.params).In s.heap) {fo : Obj} {fd : FuncData} (ho : (hd.heap_39 w.params).lookup 56 = some fo) (hd : fo.data = .func fd) (a x : Value) :
   BindsTo s fd ⟨[a, x], []⟩ [(Str.ofString "a", a), (Str.ofString "x", x), (Str.ofString "lo", .int 0 304), (Str.ofString "hi", .none), (Str.ofString "key", .none)] := by
  have e := ho.symm.trans (show _ = some _ from rfl)
  cases e
  cases hd
  exact binds_kw (K := hd.heap_39 w.params) (T := 48) (D := 49) X rfl rfl rfl rfl rfl (by with_unfolding_all rfl) (by with_unfolding_all rfl)
end Mine
-- stores: the token forgotten, the map a name
namespace Mine
section
variable {prog : Program} {w : World} {A : Around} {E : Value → Shared → Prop} {s : Shared} {h₀ : Heap} {L a : Addr} {m : Str → Option Value} {news : List (Addr × Obj)} {cn x : Str} {cs : Scope} {ccd : Value} {cl : List (Str × Addr)} {Q : Unit → Shared → Prop} {t : Tok}
theorem storeX_i {n : Int} (F : Fr h₀ L s.heap m) (N : News h₀ L s.heap news)
    (h : ∀ h' tk' t', let m' : Str → Option Value := fun y => if y = x then some (.int n t') else m y; Fr h₀ L h' m' → News h₀ L h' news → Q () { s with heap := h', toks := tk' })
    (hk : cs.kind = .function) (hx : (envX cn cs L a ccd cl).kindOf x = some .local) : wpAny (model prog w) A (storeName (envX cn cs L a ccd cl) x (.int n t)) Q E s :=
  storeX_L F N (fun h' F' N' => h h' _ t F' N') hk hx
theorem storeX_s {n : Str} (F : Fr h₀ L s.heap m) (N : News h₀ L s.heap news)
    (h : ∀ h' tk' t', let m' : Str → Option Value := fun y => if y = x then some (.str n t') else m y; Fr h₀ L h' m' → News h₀ L h' news → Q () { s with heap := h', toks := tk' })
    (hk : cs.kind = .function) (hx : (envX cn cs L a ccd cl).kindOf x = some .local) : wpAny (model prog w) A (storeName (envX cn cs L a ccd cl) x (.str n t)) Q E s :=
  storeX_L F N (fun h' F' N' => h h' _ t F' N') hk hx
theorem storeX_f {n : UInt64} (F : Fr h₀ L s.heap m) (N : News h₀ L s.heap news)
    (h : ∀ h' tk' t', let m' : Str → Option Value := fun y => if y = x then some (.float n t') else m y; Fr h₀ L h' m' → News h₀ L h' news → Q () { s with heap := h', toks := tk' })
    (hk : cs.kind = .function) (hx : (envX cn cs L a ccd cl).kindOf x = some .local) : wpAny (model prog w) A (storeName (envX cn cs L a ccd cl) x (.float n t)) Q E s :=
  storeX_L F N (fun h' F' N' => h h' _ t F' N') hk hx
theorem storeX_v {v : Value} (F : Fr h₀ L s.heap m) (N : News h₀ L s.heap news)
    (h : ∀ h' tk', let m' : Str → Option Value := fun y => if y = x then some v else m y; Fr h₀ L h' m' → News h₀ L h' news → Q () { s with heap := h', toks := tk' })
    (hk : cs.kind = .function) (hx : (envX cn cs L a ccd cl).kindOf x = some .local) : wpAny (model prog w) A (storeName (envX cn cs L a ccd cl) x v) Q E s :=
  storeX_L F N (fun h' F' N' => h h' _ F' N') hk hx
end
end Mine
-- Base4
open PySem PySem.W PyProof.Rows PySem.Challenge PySem.Calls PySem.Spec
namespace Mine
section
variable {prog : Program} {w : World} {A₀ A : Around} {s : Shared} {base h₀ : Heap} {outer : List Env} {L : Addr} {m : Str → Option Value} {env : Env} {news : List (Addr × Obj)} {K : Frag}
  {R : Result → Shared → Prop} {name qual : Str} {params : Arguments} {body : List Stmt} {scope : Scope} {dV kV doc pm cdv ct oc : Value} {an od : Option Addr} {osl : Array (Option Value)} {f : Addr} {args : Args} {binds : List (Str × Value)}
  {p : Program} {loose : List Str} {mean : ExcName → Option Value} {mg mb : Str → Option Value}
theorem entC (B : Below A₀ base outer h₀) (F : Fr h₀ L s.heap m) (X₀ : K.In h₀) (N : News h₀ L s.heap news) (T : Top p loose mean mg mb h₀) (hA : A.frames = some (env :: outer)) (hf : env.frame = some L) (hke : env.scope.kind = .function)
    (ho : K.lookup f = some ⟨oc, od, .func (fnOf name qual params body scope dV kV doc pm an cdv ct), osl⟩) (hcd : codeIn K cdv qual = true) (hroom : A.depth < recursionLimit)
    (hbind : BindsTo s (fnOf name qual params body scope dV kV doc pm an cdv ct) args binds) (hkind : (binds.all fun y => scope.names.lookup y.1 == some .local || scope.names.lookup y.1 == some .cell) = true)
    (hnd : ((cellsFrom 0 scope.names []).map (·.1)).Nodup)
    (h : ∀ g L' h₁ tk cells, g = hideAll s.heap (news.map (·.1)) → let e₁ := envOfC qual scope L' f cdv; let A₁ := A.deeper e₁; let m₁ : Str → Option Value := bindL (envOfC qual scope L' f cdv).kindOf binds fun _ => none; Fr g L' h₁ m₁ → News g L' h₁ (cells ++ news) →
      CellsAre (bindC (envOfC qual scope L' f cdv).kindOf binds fun _ => none) (cellsFrom (L' + 1) scope.names []) cells → Below A base (env :: outer) g → K.In g → Top p loose mean mg mb g → (∀ p ∈ news, p.1 < L') →
      wpAny (model prog w) A₁ (execs body e₁)
        (fun fl s' => R (.ok (.ret (match fl with | .ret v => v | _ => .none))) s') (fun _ _ => False)
        { s with heap := h₁, toks := tk })
    (hco : scope.isCoroutine = false) (hgen : scope.isGenerator = false) (hk : scope.kind = .function) : codeAny (model prog w) A (.call (.ref f) args) R s := by
  obtain ⟨FG, BG, st, _⟩ := groundX (R := R) B F N hA hf hke
  refine codeAny_call_function hroom ((X₀.keeps F.keep) _ _ ho) rfl hco hgen rfl (codeRec_of (X₀.keeps F.keep) hcd) (hbind _ _ _ _ ?_)
  refine wpAny_newFunctionEnv_cells hk (kindsX hkind _) fun env' he s' x => ?_
  subst he
  refine ⟨(T.nolimit.keeps F.keep).keeps x.toInCall.keep, codeAny_func ?_⟩
  obtain ⟨h₁, tk, rfl, _⟩ := x.done
  have hk₁ := x.toInCall.keep
  obtain ⟨cells, NC, Y⟩ := Cl.news (h₀ := s.heap) (Nat.le_refl _) fun n c hm => ⟨x.cell n c (lookup_of_mem_nodup (cellsFrom_names scope.names 0 (s.heap.objs.size + 1) [] [] rfl ▸ hnd) hm), x.above n c hm⟩
  refine wpAny_mono (h _ s.heap.objs.size h₁ tk cells rfl ⟨x.toInCall.ns, fun b o e => hk₁ b o (of_hideAll _ e), Nat.le_of_eq (hideAll_size _ _)⟩ (fun p hp => ?_) Y BG (X₀.keeps st) (T.keeps st) (fun p hp => Heap.lt_size (N p hp).1)) (fun fl s' hl => hl) fun _ _ y => y.elim
  rcases List.mem_append.mp hp with hp | hp
  · refine ⟨(NC p hp).1, (NC p hp).2.1, ?_⟩
    cases q : (hideAll s.heap (news.map (·.1))).get? p.1 with
    | none => rfl
    | some o => have := of_hideAll _ q; rw [(NC p hp).2.2] at this; cases this
  · exact ⟨hk₁ _ _ (N p hp).1, Nat.ne_of_lt (Heap.lt_size (N p hp).1), hideAll_none _ (List.mem_map_of_mem hp)⟩
end
end Mine
-- Base5
open PySem PySem.W PyProof.Rows PySem.Challenge PySem.Calls PySem.Spec PyProof.V
namespace Mine
section
variable {prog : Program} {w : World} {A : Around} {E : Value → Shared → Prop} {s : Shared} {env : Env} {h₀ : Heap} {target : Expr} {body : List Stmt} {Q : Flow → Shared → Prop}
theorem letGo_name {x : Str} {pos : Pos} {I : Addr} {v : Value} {Q : Unit → Shared → Prop} (h : Q () s) : wpAny (model prog w) A (letOwnedTupleGo (.Name x pos) (.ref I) v) Q E s := wpAny_pure h
noncomputable def rngItms (a c : Int) : Nat → Nat → List Itm
  | _, 0 => []
  | i, n + 1 => .tok (fun t => .int (a + (i : Int) * c) t) :: rngItms a c (i + 1) n
theorem rngItms_length (a c : Int) : ∀ (n i : Nat), (rngItms a c i n).length = n
  | 0, _ => rfl
  | n + 1, i => by show (rngItms a c (i + 1) n).length + 1 = _; rw [rngItms_length a c n (i + 1)]
theorem rngItms_get (a c : Int) : ∀ (n i j : Nat), j < n → (rngItms a c i n)[j]? = some (.tok (fun t => .int (a + ((i + j : Nat) : Int) * c) t))
  | 0, _, _, h => by omega
  | n + 1, i, 0, _ => rfl
  | n + 1, i, j + 1, h => by
    show (rngItms a c (i + 1) n)[j]? = _
    rw [rngItms_get a c n (i + 1) j (by omega), show i + 1 + j = i + (j + 1) by omega]
theorem iter_rngTurns {x : Str} {pos : Pos} {r : Addr} {a b c : Int} {t₀ u₀ v₀ : Tok} {n : Nat} {m₀ : Str → Option Value} {news : List (Addr × Obj)} {xs : List Itm}
    (hh : A.handled = none) (hr : IsRange s.heap r a b c t₀ u₀ v₀) (hsmall : Builtin.Range.small a b c = true) (hn : Builtin.Range.rangeSize a b c = (n : Int)) (hx : rngItms a c 0 n = xs) (F : Fr h₀ env.locals s.heap m₀) (N : News h₀ env.locals s.heap news)
    (rest₀ : ∀ I : Addr, (∀ p ∈ news, p.1 < I) → ItemsRest prog w A E h₀ env (.Name x pos) body Q s [(I, "range_iterator")] [] xs m₀ news) :
    wpAny (model prog w) A (pyIter (.ref r)) (fun it s₂ => TurnsAt prog w A h₀ env (.Name x pos) body Q E it s₂) E s := by
  refine wpAny_pyIter_range hr hsmall ?_
  rw [hn]
  subst hx
  refine ktu_core (tk0 := s.toks) (keep := []) (KTurns.ofWalks (Walks.range hh s.heap.objs.size a c n).bound fun i v s Q E st q => letGo_name q) (rngItms_length a c n 0).symm (fun i v h hp => ?_) (fun i h st => ?_) (fun b hb => ?_) (fun b hb => by simpa using hb) (fun b hb => ?_) ?_ (fun p hp hI => ?_) ?_ (F.push _) (fun p hp => ⟨Heap.get?_push_of_some _ (N p hp).1, (N p hp).2⟩) trivial
    (rest₀ _ fun p hp => Heap.lt_size (N p hp).1)
  · obtain ⟨hi, t, e⟩ := hp
    exact ⟨_, rngItms_get a c n 0 i hi, t, by rw [e, Nat.zero_add]⟩
  · exact ⟨[(s.heap.objs.size, _)], ⟨⟨rfl, rfl⟩, trivial⟩, fun p hp => by rw [List.mem_singleton.mp hp]; exact st⟩
  · have hb' : b = s.heap.objs.size := by simpa using hb
    rw [hb']
    exact ⟨List.mem_cons_self .., next_is_new F⟩
  · exact .inl (by simpa using hb)
  · intro hI
    exact absurd F.ns.lt ((List.mem_singleton.mp hI) ▸ Nat.lt_irrefl _)
  · exact absurd (Heap.lt_size (N p hp).1) ((List.mem_singleton.mp hI) ▸ Nat.lt_irrefl _)
  · show IsRangeIter _ _ _ _ _
    simpa using Heap.get?_push_size _ rfl
end
end Mine
-- Base6
open PySem PySem.W PyProof.Rows PySem.Challenge PySem.Calls PySem.Spec PyProof.V
namespace Mine
open LCg LCt
section
variable {prog : Program} {w : World} {A : Around} {s : Shared} {h₀ : Heap} {L : Addr} {m : Str → Option Value} {env : Env} {ct elt : Expr} {x : Str} {scope : Scope} {cl : List (Str × Addr)} {S : List (Addr × Obj) → Prop} {P : Nat → Value → Prop} {Fin : List Value → List (Addr × Obj) → Prop}
theorem compEnd_mono {s₁ : Shared} {I C D : Addr} {oI oC oD : Obj} {rest rest' : Value → List (Addr × Obj) → Prop} {y : Value} {s₂ : Shared} (hr : ∀ nw, rest y nw → rest' y nw) (h : CompEnd h₀ L m s₁ I oI C oC D oD S rest y s₂) : CompEnd h₀ L m s₁ I oI C oC D oD S rest' y s₂ := by
  obtain ⟨h', tk, nw, a, b, c, d, e, f⟩ := h
  exact ⟨h', tk, nw, a, b, c, d, e, hr nw f⟩
theorem compEnd_monoR {s₁ : Shared} {I C D : Addr} {oI oC oD : Obj} {rest : Value → List (Addr × Obj) → Prop} {rest' : List (Addr × Obj) → Prop} {y : Value} {s₂ : Shared} (hr : ∀ nw, rest y nw → rest' nw) (h : CompEnd h₀ L m s₁ I oI C oC D oD S rest y s₂) : CompEnd h₀ L m s₁ I oI C oC D oD S (fun _ nw => rest' nw) y s₂ := by
  obtain ⟨h', tk, nw, a, b, c, d, e, f⟩ := h
  exact ⟨h', tk, nw, a, b, c, d, e, hr nw f⟩
theorem compRest_ind (INV : Nat → List Value → List (Addr × Obj) → Prop) {n : Nat} {news : List (Addr × Obj)} (h0 : INV 0 [] news)
    (step : ∀ i ys nw, i < n → INV i ys nw → ∀ v I oI C oC D m₂ h tk (E' Q' : Value → Shared → Prop), P i v → NsObj oC m₂ → m₂ x = some v → Fr h₀ L h m → News h₀ L h ((I, oI) :: (C, oC) :: (D, lst ys) :: nw) → Off3 I C D nw → ((@Ne Nat I C) ∧ (@Ne Nat I D) ∧ (@Ne Nat C D)) →
      (∀ y s', CompEnd h₀ L m { s with heap := h, toks := tk } I oI C oC D (lst ys) S (fun y nw' => INV (i + 1) (ys ++ [y]) nw') y s' → Q' y s') →
      let e₂ := compEnvC scope cl C env
      wpAny (model prog w) A (eval elt e₂) Q' E' { s with heap := h, toks := tk })
    (fin : ∀ ys nw, INV n ys nw → Fin ys nw) : CompRest prog w A h₀ L m env elt x scope cl s S P Fin n 0 [] news := by
  have H : ∀ k i ys nw, k + i = n → INV i ys nw → CompRest prog w A h₀ L m env elt x scope cl s S P Fin k i ys nw := by
    intro k
    induction k with
    | zero =>
      intro i ys nw e hI
      rw [Nat.zero_add] at e
      subst e
      exact CompRest.zero (fin ys nw hI)
    | succ k ih =>
      intro i ys nw e hI
      refine CompRest.succ ?_
      intro v I oI C oC D m₂ h tk E' a1 a2 a3 a4 a5 a6 a7
      exact wpAny_mono (step i ys nw (by omega) hI v I oI C oC D m₂ h tk E' _ a1 a2 a3 a4 a5 a6 a7 fun _ _ q => q) (fun y s' hq => compEnd_mono (fun nw' q => ih (i + 1) _ nw' (by omega) q) hq) fun _ _ e => e
  exact H n 0 [] news (by omega) h0
theorem compRestT_ind (INV : Nat → List Value → List (Addr × Obj) → Prop) {n : Nat} {news : List (Addr × Obj)} (h0 : INV 0 [] news)
    (step : ∀ i ys nw, i < n → INV i ys nw → ∀ v I oI C oC D m₂ h tk (E' : Value → Shared → Prop), P i v → NsObj oC m₂ → m₂ x = some v → Fr h₀ L h m → News h₀ L h ((I, oI) :: (C, oC) :: (D, lst ys) :: nw) → Off3 I C D nw → ((@Ne Nat I C) ∧ (@Ne Nat I D) ∧ (@Ne Nat C D)) →
      wpAny (model prog w) A (isTrue ct (compEnvC scope cl C env) (eval ct (compEnvC scope cl C env))) (fun ok s' => if ok = true then
        wpAny (model prog w) A (eval elt (compEnvC scope cl C env)) (CompEnd h₀ L m { s with heap := h, toks := tk } I oI C oC D (lst ys) S (fun y nw' => INV (i + 1) (ys ++ [y]) nw')) E' s'
        else CompEnd h₀ L m { s with heap := h, toks := tk } I oI C oC D (lst ys) S (fun _ nw' => INV (i + 1) ys nw') Value.none s') E' { s with heap := h, toks := tk })
    (fin : ∀ ys nw, INV n ys nw → Fin ys nw) : CompRestT prog w A h₀ L m env ct elt x scope cl s S P Fin n 0 [] news := by
  have H : ∀ k i ys nw, k + i = n → INV i ys nw → CompRestT prog w A h₀ L m env ct elt x scope cl s S P Fin k i ys nw := by
    intro k
    induction k with
    | zero =>
      intro i ys nw e hI
      rw [Nat.zero_add] at e
      subst e
      exact CompRestT.zero (fin ys nw hI)
    | succ k ih =>
      intro i ys nw e hI
      refine CompRestT.succ ?_
      intro v I oI C oC D m₂ h tk E' a1 a2 a3 a4 a5 a6 a7
      refine wpAny_mono (step i ys nw (by omega) hI v I oI C oC D m₂ h tk E' a1 a2 a3 a4 a5 a6 a7) (fun ok s' hq => ?_) fun _ _ e => e
      cases ok with
      | true =>
        simp only [if_true] at hq ⊢
        exact wpAny_mono hq (fun y s' hq => compEnd_mono (fun nw' q => ih (i + 1) _ nw' (by omega) q) hq) fun _ _ e => e
      | false =>
        simp only [Bool.false_eq_true, if_false] at hq ⊢
        exact compEnd_monoR (fun nw' q => ih (i + 1) _ nw' (by omega) q) hq
  exact H n 0 [] news (by omega) h0
end
end Mine
-- Base7
open PySem PySem.W PyProof.Rows PySem.Challenge PySem.Calls PySem.Spec PyProof.V
namespace Mine
theorem intAt {vs : List Value} {ns : List Int} {i : Nat} {v : Value} (hI : IntsAre vs ns) (hv : vs.toArray[i]? = some v) : ∃ y t, v = .int y t ∧ ns[i]? = some y := by
  have hv' : vs[i]? = some v := by simpa using hv
  have hl : i < vs.length := (List.getElem?_eq_some_iff.mp hv').1
  have hl' : i < ns.length := hI.length ▸ hl
  obtain ⟨t, hx⟩ := hI.get i ns[i] (by simp [hl'])
  rw [hv'] at hx
  exact ⟨_, t, Option.some.inj hx, by simp [hl']⟩
noncomputable def filI (p : Int → Bool) (ns : List Int) (nw0 : List (Addr × Obj)) (i : Nat) (ys : List Value) (nw : List (Addr × Obj)) : Prop := nw = nw0 ∧ IntsAre ys ((ns.take i).filter p)
theorem take_succ_of {ns : List Int} {i : Nat} {y : Int} (h : ns[i]? = some y) : ns.take (i + 1) = ns.take i ++ [y] := by simp [List.take_add_one, h]
theorem IntsAre.snoc {ys : List Value} {ns : List Int} (h : IntsAre ys ns) (y : Int) (t : Tok) : IntsAre (ys ++ [.int y t]) (ns ++ [y]) := by
  induction h with
  | nil => exact .cons y t .nil
  | cons n t' _ ih => exact .cons n t' ih
theorem filI_yes {p : Int → Bool} {ns : List Int} {nw0 : List (Addr × Obj)} {i : Nat} {ys : List Value} {y : Int} {t : Tok} (h : IntsAre ys ((ns.take i).filter p)) (hn : ns[i]? = some y) (hp : p y = true) : filI p ns nw0 (i + 1) (ys ++ [.int y t]) nw0 := by
  refine ⟨rfl, ?_⟩
  rw [take_succ_of hn, List.filter_append]
  simp only [List.filter_cons, hp, if_true, List.filter_nil]
  exact IntsAre.snoc h y t
theorem filI_no {p : Int → Bool} {ns : List Int} {nw0 : List (Addr × Obj)} {i : Nat} {ys : List Value} {y : Int} (h : IntsAre ys ((ns.take i).filter p)) (hn : ns[i]? = some y) (hp : p y = false) : filI p ns nw0 (i + 1) ys nw0 := by
  refine ⟨rfl, ?_⟩
  rw [take_succ_of hn, List.filter_append]
  simp only [List.filter_cons, hp, Bool.false_eq_true, if_false, List.filter_nil, List.append_nil]
  exact h
theorem filI_fin {p : Int → Bool} {vs : List Value} {ns : List Int} {nw0 nw : List (Addr × Obj)} {ys : List Value} (hI : IntsAre vs ns) (h : filI p ns nw0 vs.toArray.size ys nw) : nw = nw0 ∧ IntsAre ys (ns.filter p) := by
  refine ⟨h.1, ?_⟩
  have e := h.2
  rw [List.size_toArray, hI.length, List.take_length] at e
  exact e
end Mine
namespace Mine
open LCg LCt
noncomputable def leP {o : Obj} {c : Int} {t : Tok} (_ : o.data = .cell (some (.int c t))) (y : Int) : Bool := decide (y ≤ c)
noncomputable def gtP {o : Obj} {c : Int} {t : Tok} (_ : o.data = .cell (some (.int c t))) (y : Int) : Bool := decide (c < y)
noncomputable def filEnd (news : List (Addr × Obj)) (y : Int) (p : Bool) (v : Value) (nw : List (Addr × Obj)) : Prop := nw = news ∧ (∃ t, v = .int y t) ∧ p = true
noncomputable def filNo (news : List (Addr × Obj)) (p : Bool) (nw : List (Addr × Obj)) : Prop := nw = news ∧ p = false
section
variable {prog : Program} {w : World} {A : Around} {s : Shared} {h₀ : Heap} {L : Addr} {m : Str → Option Value} {env : Env} {ct elt : Expr} {x : Str} {scope : Scope} {cl : List (Str × Addr)} {S : List (Addr × Obj) → Prop} {Fin : List Value → List (Addr × Obj) → Prop}
theorem filT (p : Int → Bool) {vs : List Value} {ns : List Int} {news : List (Addr × Obj)} (hI : IntsAre vs ns)
    (step : ∀ y t ys I oI C oC D m₂ h tk (E' : Value → Shared → Prop), y ∈ ns → NsObj oC m₂ → m₂ x = some (.int y t) → Fr h₀ L h m → News h₀ L h ((I, oI) :: (C, oC) :: (D, lst ys) :: news) → Off3 I C D news → ((@Ne Nat I C) ∧ (@Ne Nat I D) ∧ (@Ne Nat C D)) →
      wpAny (model prog w) A (isTrue ct (compEnvC scope cl C env) (eval ct (compEnvC scope cl C env))) (fun ok s' => if ok = true then
        wpAny (model prog w) A (eval elt (compEnvC scope cl C env)) (CompEnd h₀ L m { s with heap := h, toks := tk } I oI C oC D (lst ys) S (filEnd news y (p y))) E' s'
        else CompEnd h₀ L m { s with heap := h, toks := tk } I oI C oC D (lst ys) S (fun _ => filNo news (p y)) Value.none s') E' { s with heap := h, toks := tk })
    (fin : ∀ ys, IntsAre ys (ns.filter p) → Fin ys news) : CompRestT prog w A h₀ L m env ct elt x scope cl s S (fun i v => vs.toArray[i]? = some v) Fin vs.toArray.size 0 [] news := by
  refine compRestT_ind (filI p ns news) ⟨rfl, .nil⟩ ?_ ?_
  · intro i ys nw hi hN v I oI C oC D m₂ h tk E' hv hC hx F N off ne
    obtain ⟨rfl, hy⟩ := hN
    obtain ⟨y, t, rfl, hn⟩ := intAt hI hv
    refine wpAny_mono (step y t ys I oI C oC D m₂ h tk E' (List.mem_of_getElem? hn) hC hx F N off ne) (fun ok s' hq => ?_) fun _ _ e => e
    cases ok with
    | true =>
      simp only [if_true] at hq ⊢
      refine wpAny_mono hq (fun v s' hq => compEnd_mono (fun nw' q => ?_) hq) fun _ _ e => e
      obtain ⟨rfl, ⟨t', rfl⟩, hp⟩ := q
      exact filI_yes hy hn hp
    | false =>
      simp only [Bool.false_eq_true, if_false] at hq ⊢
      refine compEnd_monoR (fun nw' q => ?_) hq
      obtain ⟨rfl, hp⟩ := q
      exact filI_no hy hn hp
  · intro ys nw hN
    obtain ⟨rfl, hy⟩ := filI_fin hI hN
    exact fin ys hy
end
end Mine
-- Base8
open PySem PySem.W PyProof.Rows PySem.Challenge PySem.Calls PySem.Spec PyProof.V
namespace Mine
/-- what holds between the turns of a loop: a state c, objects of the ledger, names of the frame, facts -/
noncomputable def JSt {σ : Type} (Led : σ → List (Addr × Obj)) (ps : σ → List (Str × Value)) (Facts : Nat → σ → Prop) (stored : List Str) (m₀ : Str → Option Value) (i : Nat) (m : Str → Option Value) (nw : List (Addr × Obj)) : Prop :=
  ∃ c : σ, SubL (Led c) nw ∧ Facts i c ∧ (∀ p ∈ ps c, m p.1 = some p.2) ∧ (∀ z, (∀ p ∈ ps c, z ≠ p.1) → stored.contains z = false → m z = m₀ z)
/-- two maps that agree off some names -/
noncomputable def Offs (ns : List Str) (m m₀ : Str → Option Value) : Prop := ∀ z, z ∉ ns → m z = m₀ z
theorem Offs.set {ns : List Str} {m m₀ : Str → Option Value} {x : Str} {v : Option Value} (h : Offs ns m m₀) (hx : x ∈ ns) : Offs ns (fun y => if y = x then v else m y) m₀ := fun z hz => by
  show (if z = x then v else m z) = m₀ z
  have hn : ¬ z = x := by intro e; subst e; exact hz hx
  rw [if_neg hn]
  exact h z hz
theorem Offs.kst {ns : List Str} {ps : List (Str × Value)} {stored : List Str} {u m₀ : Str → Option Value} (e : ps.map (·.1) ++ stored = ns) : Offs ns (kstB (fun z => if stored.contains z then u z else m₀ z) ps) m₀ := fun z hz => by
  subst e
  induction ps with
  | nil =>
    show (if stored.contains z then u z else m₀ z) = m₀ z
    rw [if_neg (by simpa using hz)]
  | cons p r ih =>
    show (if z = p.1 then some p.2 else kstB _ r z) = m₀ z
    rw [if_neg (fun e => hz (by simp [e]))]
    exact ih fun q => hz (by simp only [List.map_cons, List.cons_append]; exact .tail _ q)
theorem Offs.kst2 {ns : List Str} {ps : List (Str × Value)} {stored : List Str} {u m₁ m₀ : Str → Option Value} (e : ps.map (·.1) ++ stored = ns) (h : Offs ns m₁ m₀) : Offs ns (kstB (fun z => if stored.contains z then u z else m₁ z) ps) m₀ := fun z hz => (Offs.kst e z hz).trans (h z hz)
theorem Offs.out (ns : List Str) {ps : List (Str × Value)} {stored : List Str} {m m₀ : Str → Option Value} (e : ps.map (·.1) ++ stored = ns) (h : Offs ns m m₀) : ∀ z, (∀ p ∈ ps, z ≠ p.1) → stored.contains z = false → m z = m₀ z := fun z h2 h3 => by
  refine h z fun hz => ?_
  rw [← e] at hz
  rcases List.mem_append.mp hz with q | q
  · obtain ⟨p, hp, rfl⟩ := List.mem_map.mp q
    exact h2 p hp rfl
  · have : stored.contains z = true := by simpa using q
    rw [this] at h3; cases h3
theorem SubL.of {l all : List (Addr × Obj)} (h : ∀ p ∈ l, p ∈ all) : SubL l all := by
  induction l with
  | nil => trivial
  | cons p r ih => exact ⟨h p (.head _), ih fun q hq => h q (.tail _ hq)⟩
section
variable {prog : Program} {w : World} {A : Around} {E : Value → Shared → Prop} {s : Shared} {env : Env} {h₀ : Heap} {target : Expr} {body : List Stmt} {Q : Flow → Shared → Prop}
theorem ksw_fr' {L : Addr} {h : Heap} {ps : List (Str × Value)} {stored : List Str} {m₀ m₁ : Str → Option Value} (h1 : ∀ p ∈ ps, m₁ p.1 = some p.2) (h2 : ∀ z, (∀ p ∈ ps, z ≠ p.1) → stored.contains z = false → m₁ z = m₀ z)
    (F : Fr h₀ L h m₁) : Fr h₀ L h (kstB (fun z => if stored.contains z then m₁ z else m₀ z) ps) := ksw_fr h1 h2 F
theorem items_J {σ : Type} {I : Addr} {cls : String} {keep : List (Addr × Obj)} (Led : σ → List (Addr × Obj)) (ps : σ → List (Str × Value)) (Facts : Nat → σ → Prop) (stored : List Str) (m₀ : Str → Option Value) {n : Nat} (its : Nat → Nat → List Itm) (it : Nat → Value → Heap → Prop)
    (hits : ∀ i k, i + (k + 1) = n → ∃ a, its i (k + 1) = a :: its (i + 1) k ∧ ∀ v h, a.Is v h → it i v h) (hnil : ∀ i, its i 0 = [])
    (turn : ∀ i (c : σ) v (u : Str → Option Value) (o : Obj) h tk nw (Q₁ : Flow → Shared → Prop), i < n → it i v h → Facts i c → SubL keep nw → o.cls = .type cls → let m₁ := kstB (fun z => if stored.contains z then u z else m₀ z) (ps c); Fr h₀ env.locals h m₁ → News h₀ env.locals h ((I, o) :: (keep ++ Led c)) →
      (∀ f s', UnrPostW h₀ env.locals { s with heap := h, toks := tk } [(I, o)] (fun m' n' => SubL keep n' ∧ JSt Led ps Facts stored m₀ (i + 1) m' n') Q f s' → Q₁ f s') →
      wpAny (model prog w) A (assign target env v) (fun _ s₂ => wpAny (model prog w) A (execs body env) Q₁ E s₂) E { s with heap := h, toks := tk })
    (done : ∀ (c : σ) (u : Str → Option Value) h tk, Facts n c → let m₁ := kstB (fun z => if stored.contains z then u z else m₀ z) (ps c); Fr h₀ env.locals h m₁ → News h₀ env.locals h (keep ++ Led c) → Q .next { s with heap := h, toks := tk }) :
    ∀ k i m nw, i + k = n → SubL keep nw → JSt Led ps Facts stored m₀ i m nw → ItemsRest prog w A E h₀ env target body Q s [(I, cls)] keep (its i k) m nw := by
  intro k
  induction k with
  | zero =>
    intro i m nw e hk ⟨c, hL, hF, h1, h2⟩
    rw [Nat.add_zero] at e
    subst e
    rw [hnil]
    exact ItemsRest.zero fun h tk F N => done c m h tk hF (ksw_fr' h1 h2 F) fun p hp => N p ((List.mem_append.mp hp).elim (hk.mem p) (hL.mem p))
  | succ k ih =>
    intro i m nw e hk ⟨c, hL, hF, h1, h2⟩
    obtain ⟨a, ea, ha⟩ := hits i k e
    rw [ea]
    intro v h tk hv F
    refine AllObj.cons fun o ho => AllObj.nil fun N => ?_
    refine wpAny_mono (turn i c v m o h tk nw _ (by omega) (ha v h hv) hF hk ho (ksw_fr' h1 h2 F) (fun p hp => ?_) fun _ _ q => q) (fun _ s₂ h₂ => wpAny_mono h₂ (fun f s₃ q => ?_) fun _ _ e => e) fun _ _ e => e
    · rcases List.mem_cons.mp hp with rfl | hp
      · exact N _ (List.mem_cons_self ..)
      · rcases List.mem_append.mp hp with hp | hp
        · exact N _ (List.mem_cons_of_mem _ (hk.mem p hp))
        · exact N _ (List.mem_cons_of_mem _ (hL.mem p hp))
    · have up : UnrEndW h₀ env.locals { s with heap := h, toks := tk } [(I, o)] (fun m' n' => SubL keep n' ∧ JSt Led ps Facts stored m₀ (i + 1) m' n') s₃ → UnrEndW h₀ env.locals { s with heap := h, toks := tk } [(I, o)] (fun m' n' => SubL keep n' ∧ ItemsRest prog w A E h₀ env target body Q s [(I, cls)] keep (its (i + 1) k) m' n') s₃ := by
        rintro ⟨h', tk', m', news', e1, F', N', ho', hk', r⟩
        exact ⟨h', tk', m', news', e1, F', N', ho', hk', ih (i + 1) m' news' (by omega) hk' r⟩
      cases f with
      | ret v => exact q
      | brk => exact q
      | next => exact up q
      | cont => exact up q
theorem rng_J {σ : Type} {x : Str} {pos : Pos} {r : Addr} {a b c : Int} {t₀ u₀ v₀ : Tok} {n : Nat} {m₀ : Str → Option Value} {news : List (Addr × Obj)} (Led : σ → List (Addr × Obj)) (ps : σ → List (Str × Value)) (Facts : Nat → σ → Prop) (stored : List Str) (c₀ : σ)
    (hh : A.handled = none) (hr : IsRange s.heap r a b c t₀ u₀ v₀) (hsmall : Builtin.Range.small a b c = true) (hn : Builtin.Range.rangeSize a b c = (n : Int)) (F : Fr h₀ env.locals s.heap m₀) (N : News h₀ env.locals s.heap news)
    (hL : SubL (Led c₀) news) (hf : Facts 0 c₀) (hk : ∀ p ∈ ps c₀, m₀ p.1 = some p.2)
    (turn : ∀ i (d : σ) t (u : Str → Option Value) (o : Obj) I h tk (Q₁ : Flow → Shared → Prop), i < n → (∀ p ∈ news, p.1 < I) → Facts i d → o.cls = .type "range_iterator" → let m₁ := kstB (fun z => if stored.contains z then u z else m₀ z) (ps d); Fr h₀ env.locals h m₁ → News h₀ env.locals h ((I, o) :: Led d) →
      (∀ f s', UnrPostW h₀ env.locals { s with heap := h, toks := tk } [(I, o)] (fun m' n' => SubL [] n' ∧ JSt Led ps Facts stored m₀ (i + 1) m' n') Q f s' → Q₁ f s') →
      wpAny (model prog w) A (assign (.Name x pos) env (.int (a + (i : Int) * c) t)) (fun _ s₂ => wpAny (model prog w) A (execs body env) Q₁ E s₂) E { s with heap := h, toks := tk })
    (done : ∀ (d : σ) (u : Str → Option Value) h tk, Facts n d → let m₁ := kstB (fun z => if stored.contains z then u z else m₀ z) (ps d); Fr h₀ env.locals h m₁ → News h₀ env.locals h (Led d) → Q .next { s with heap := h, toks := tk }) :
    wpAny (model prog w) A (pyIter (.ref r)) (fun it s₂ => TurnsAt prog w A h₀ env (.Name x pos) body Q E it s₂) E s := by
  refine iter_rngTurns hh hr hsmall hn rfl F N fun I hI => ?_
  refine items_J Led ps Facts stored m₀ (n := n) (rngItms a c) (fun i v _ => ∃ t, v = .int (a + (i : Int) * c) t) (fun i k e => ⟨_, rfl, fun v h hv => hv⟩) (fun i => rfl) (fun i d v u o h tk nw Q₁ hi hv hF _ ho F N hQ => ?_) done n 0 m₀ news (by omega) trivial ⟨c₀, hL, hf, hk, fun _ _ _ => rfl⟩
  obtain ⟨t, rfl⟩ := hv
  exact turn i d t u o I h tk Q₁ hi hI hF ho F N hQ
theorem list_J {σ : Type} {x : Str} {pos : Pos} {ax : Addr} {lo : Obj} {vs : List Value} {nn : Nat} {m₀ : Str → Option Value} {news : List (Addr × Obj)} (Led : σ → List (Addr × Obj)) (ps : σ → List (Str × Value)) (Facts : Nat → σ → Prop) (stored : List Str) (c₀ : σ)
    (hh : A.handled = none) (F : Fr h₀ env.locals s.heap m₀) (N : News h₀ env.locals s.heap news) (hm : (ax, lo) ∈ news) (hc : lo.cls = .type "list") (hd : lo.data = .seq vs.toArray nn)
    (hL : SubL (Led c₀) news) (hf : Facts 0 c₀) (hk : ∀ p ∈ ps c₀, m₀ p.1 = some p.2)
    (turn : ∀ i (d : σ) v (u : Str → Option Value) (o : Obj) I h tk (Q₁ : Flow → Shared → Prop), vs[i]? = some v → (∀ p ∈ news, p.1 < I) → Facts i d → o.cls = .type "list_iterator" → let m₁ := kstB (fun z => if stored.contains z then u z else m₀ z) (ps d); Fr h₀ env.locals h m₁ → News h₀ env.locals h ((I, o) :: (ax, lo) :: Led d) →
      (∀ f s', UnrPostW h₀ env.locals { s with heap := h, toks := tk } [(I, o)] (fun m' n' => SubL [(ax, lo)] n' ∧ JSt Led ps Facts stored m₀ (i + 1) m' n') Q f s' → Q₁ f s') →
      wpAny (model prog w) A (assign (.Name x pos) env v) (fun _ s₂ => wpAny (model prog w) A (execs body env) Q₁ E s₂) E { s with heap := h, toks := tk })
    (done : ∀ (d : σ) (u : Str → Option Value) h tk, Facts vs.length d → let m₁ := kstB (fun z => if stored.contains z then u z else m₀ z) (ps d); Fr h₀ env.locals h m₁ → News h₀ env.locals h ((ax, lo) :: Led d) → Q .next { s with heap := h, toks := tk }) :
    wpAny (model prog w) A (pyIter (.ref ax)) (fun it s₂ => TurnsAt prog w A h₀ env (.Name x pos) body Q E it s₂) E s := by
  refine iter_listTurns (vs := vs) (n := nn) hh F N hm hc hd fun I hI => ?_
  have e : vs.map Itm.val = (fun i k => ((vs.drop i).take k).map Itm.val) 0 vs.length := by simp
  rw [e]
  refine items_J Led ps Facts stored m₀ (n := vs.length) (fun i k => ((vs.drop i).take k).map Itm.val) (fun i v _ => vs[i]? = some v) (fun i k e => ?_) (fun i => by simp) (fun i d v u o h tk nw Q₁ hi hv hF _ ho F N hQ => ?_) done vs.length 0 m₀ news (by omega) ⟨hm, trivial⟩ ⟨c₀, hL, hf, hk, fun _ _ _ => rfl⟩
  · have hi : i < vs.length := by omega
    refine ⟨.val vs[i], ?_, fun v h hv => ?_⟩
    · show List.map Itm.val ((vs.drop i).take (k + 1)) = _
      rw [List.drop_eq_getElem_cons hi, List.take_succ_cons, List.map_cons]
    · have hv' : v = vs[i] := hv
      rw [hv']
      exact List.getElem?_eq_getElem hi
  · exact turn i d v u o I h tk Q₁ hv hI hF ho F N hQ
end
end Mine
-- Base9
open PySem PySem.W PyProof.Rows PySem.Challenge PySem.Calls PySem.Spec PyProof.V
namespace Mine
theorem intsAreOf9 : ∀ {us : List Value} {ns : List Int}, us.length = ns.length → (∀ (j : Nat) (v : Value), us[j]? = some v → ∃ (t : Tok) (n : Int), v = Value.int n t ∧ ns[j]? = some n) → IntsAre us ns
  | [], [], _, _ => .nil
  | [], _ :: _, h, _ => by simp at h
  | _ :: _, [], h, _ => by simp at h
  | v :: us, n :: ns, h, hv => by
    obtain ⟨t, n', rfl, e⟩ := hv 0 v rfl
    have e' : n = n' := by simpa using e
    subst e'
    exact .cons n t (intsAreOf9 (by simpa using h) fun j w hw => by simpa using hv (j + 1) w (by simpa using hw))
section
variable {prog : Program} {w : World} {A : Around} {E : Value → Shared → Prop} {s : Shared} {h₀ : Heap} {L : Addr} {m : Str → Option Value} {Q : Value → Shared → Prop}
theorem list_rng {r : Addr} {a b c : Int} {t u v : Tok} {news : List (Addr × Obj)} (hh : A.handled = none) (F : Fr h₀ L s.heap m) (N : News h₀ L s.heap news)
    (hr : IsRange s.heap r a b c t u v) (hsmall : Builtin.Range.small a b c = true) (hn : 0 ≤ Builtin.Range.rangeSize a b c) (hlen : Builtin.Range.rangeSize a b c ≤ 1000)
    (h : ∀ D us cc h' tk, Fr h₀ L h' m → News h₀ L h' ((D, listOf (List.toArray us) cc) :: news) → (∀ p ∈ news, p.1 < D) → IntsAre us (rangeInts a c (Builtin.Range.rangeSize a b c).toNat) → Q (.ref D) { s with heap := h', toks := tk }) :
    wpAny (model prog w) A (call (.type "list") [.ref r]) Q E s := by
  refine call_list_range (n := (Builtin.Range.rangeSize a b c).toNat) hh hr hsmall (by omega) (by omega) fun h' tk acc cc hk hD hI => ?_
  have hD' : h'.get? s.heap.objs.size = some (listOf (List.toArray acc.toList) cc) := by
    rw [Array.toArray_toList]
    exact hD
  refine h _ acc.toList cc h' tk (F.keeps hk) (news_pushed F N hk hD' rfl) (fun p hp => Heap.lt_size (N p hp).1) (intsAreOf9 (by rw [Array.length_toList, rangeInts_length]; exact hI.1) fun j w hw => ?_)
  have hw' : acc[j]? = some w := by simpa using hw
  obtain ⟨t', e⟩ := hI.2 j w hw'
  have hj : j < (Builtin.Range.rangeSize a b c).toNat := by
    have := (Array.getElem?_eq_some_iff.mp hw').1
    rw [hI.1] at this; exact this
  exact ⟨t', _, e, rangeInts_get hj⟩
end
end Mine
-- ends
open PySem PySem.W PyProof.Rows PySem.Challenge PySem.Calls PySem.Spec PyProof.V
namespace Mine
theorem keeps_of {h₀ g h h' : Heap} {L L' : Addr} {m' : Str → Option Value} {news news' : List (Addr × Obj)} (hg : g = hideAll h (news.map (·.1))) (N₀ : News h₀ L h news) (F : Fr g L' h' m') (N : News g L' h' news') (hs : ∀ p ∈ news, p ∈ news') :
    ∀ b o, h.get? b = some o → h'.get? b = some o := fun b o e => by
  by_cases q : b ∈ news.map (·.1)
  · obtain ⟨p, hp, rfl⟩ := List.mem_map.mp q
    rw [(N₀ p hp).1] at e
    rw [← e]
    exact (N p (hs p hp)).1
  · exact F.keep b o (hg ▸ hideAll_get _ e q)
theorem fin_int {R : Result → Shared → Prop} {s : Shared} {h' : Heap} {tk' : Nat} {v v' : Int} {t : Tok} (hret : ∀ t h' tk', (∀ b o, s.heap.get? b = some o → h'.get? b = some o) → R (.ok (.ret (.int v t))) { s with heap := h', toks := tk' })
    (e : v' = v) (k : ∀ b o, s.heap.get? b = some o → h'.get? b = some o) : R (.ok (.ret (.int v' t))) { s with heap := h', toks := tk' } := by
  subst e
  exact hret _ _ _ k
theorem fin_bool {R : Result → Shared → Prop} {s : Shared} {h' : Heap} {tk' : Nat} {v v' : Bool} (hret : ∀ h' tk', (∀ b o, s.heap.get? b = some o → h'.get? b = some o) → R (.ok (.ret (.bool v))) { s with heap := h', toks := tk' })
    (e : v' = v) (k : ∀ b o, s.heap.get? b = some o → h'.get? b = some o) : R (.ok (.ret (.bool v'))) { s with heap := h', toks := tk' } := by
  subst e
  exact hret _ _ k
theorem new_of {g h h' : Heap} {L' : Addr} {news news' : List (Addr × Obj)} {p : Addr × Obj} (hg : g = hideAll h (news.map (·.1))) (N : News g L' h' news') (hp : p ∈ news') (hn : p.1 ∉ news.map (·.1)) : h.get? p.1 = none := by
  cases e : h.get? p.1 with
  | none => rfl
  | some o =>
    have := hideAll_get _ e hn
    rw [← hg, (N p hp).2.2] at this
    cases this
end Mine
end
section
open PySem PySem.W PyProof.Rows PySem.Challenge
namespace Mine
noncomputable def bisG (ns : List Int) (x : Int) : Nat → Int → Int → Int
  | 0, lo, _ => lo
  | k + 1, lo, hi => if lo < hi then (if ns.getD ((lo + hi).fdiv 2).toNat 0 < x then bisG ns x k ((lo + hi).fdiv 2 + 1) hi else bisG ns x k lo ((lo + hi).fdiv 2)) else lo
noncomputable def bisP (ns : List Int) (x lo hi : Int) : Prop := 0 ≤ lo ∧ hi ≤ ns.length ∧ ∃ k, (hi - lo).toNat ≤ k ∧ bisG ns x k lo hi = bisG ns x ns.length 0 ns.length
theorem bisP_start (ns : List Int) (x : Int) : bisP ns x 0 ns.length := ⟨Int.le_refl _, Int.le_refl _, ns.length, by omega, rfl⟩
theorem bisP_up {ns : List Int} {x lo hi : Int} (h : bisP ns x lo hi) (hl : lo < hi) (hv : ns.getD ((lo + hi).fdiv 2).toNat 0 < x) : bisP ns x ((lo + hi).fdiv 2 + 1) hi := by
  obtain ⟨h0, h1, k, hk, e⟩ := h
  have q : (lo + hi).fdiv 2 = (lo + hi) / 2 := Int.fdiv_eq_ediv_of_nonneg _ (by omega)
  rw [q] at hv ⊢
  match k, hk, e with
  | 0, hk, _ => omega
  | k + 1, hk, e =>
    refine ⟨by omega, h1, k, by omega, ?_⟩
    rw [← e]
    unfold bisG
    rw [if_pos hl, q, if_pos hv]
    cases k <;> rfl
theorem bisP_down {ns : List Int} {x lo hi : Int} (h : bisP ns x lo hi) (hl : lo < hi) (hv : ¬ ns.getD ((lo + hi).fdiv 2).toNat 0 < x) : bisP ns x lo ((lo + hi).fdiv 2) := by
  obtain ⟨h0, h1, k, hk, e⟩ := h
  have q : (lo + hi).fdiv 2 = (lo + hi) / 2 := Int.fdiv_eq_ediv_of_nonneg _ (by omega)
  rw [q] at hv ⊢
  match k, hk, e with
  | 0, hk, _ => omega
  | k + 1, hk, e =>
    refine ⟨by omega, by omega, k, by omega, ?_⟩
    rw [← e]
    conv => rhs; unfold bisG
    rw [if_pos hl, q, if_neg hv]
theorem bisP_end {ns : List Int} {x lo hi : Int} (h : bisP ns x lo hi) (hl : ¬ lo < hi) : lo = bisG ns x ns.length 0 ns.length := by
  obtain ⟨h0, h1, k, hk, e⟩ := h
  rw [← e]
  cases k with
  | zero => rfl
  | succ k => unfold bisG; rw [if_neg hl]
theorem bis_up {ns : List Int} {x lo hi : Int} (h0 : 0 ≤ lo) (h1 : lo ≤ hi) (h2 : hi ≤ (ns.length : Int)) (h : bisP ns x lo hi) (hl : lo < hi) (hv : ns.getD ((lo + hi).fdiv 2).toNat 0 < x) :
    0 ≤ (lo + hi).fdiv 2 + 1 ∧ (lo + hi).fdiv 2 + 1 ≤ hi ∧ hi ≤ (ns.length : Int) ∧ bisP ns x ((lo + hi).fdiv 2 + 1) hi := by
  have q : (lo + hi).fdiv 2 = (lo + hi) / 2 := Int.fdiv_eq_ediv_of_nonneg _ (by omega)
  exact ⟨by omega, by omega, h2, bisP_up h hl hv⟩
theorem bis_down {ns : List Int} {x lo hi : Int} (h0 : 0 ≤ lo) (h1 : lo ≤ hi) (h2 : hi ≤ (ns.length : Int)) (h : bisP ns x lo hi) (hl : lo < hi) (hv : ¬ ns.getD ((lo + hi).fdiv 2).toNat 0 < x) :
    0 ≤ lo ∧ lo ≤ (lo + hi).fdiv 2 ∧ (lo + hi).fdiv 2 ≤ (ns.length : Int) ∧ bisP ns x lo ((lo + hi).fdiv 2) := by
  have q : (lo + hi).fdiv 2 = (lo + hi) / 2 := Int.fdiv_eq_ediv_of_nonneg _ (by omega)
  exact ⟨h0, by omega, by omega, bisP_down h hl hv⟩
theorem meas_up {lo hi : Int} (h0 : 0 ≤ lo) (hl : lo < hi) : (hi - ((lo + hi).fdiv 2 + 1)).toNat < (hi - lo).toNat := by
  have q : (lo + hi).fdiv 2 = (lo + hi) / 2 := Int.fdiv_eq_ediv_of_nonneg _ (by omega)
  omega
theorem meas_down {lo hi : Int} (h0 : 0 ≤ lo) (hl : lo < hi) : ((lo + hi).fdiv 2 - lo).toNat < (hi - lo).toNat := by
  have q : (lo + hi).fdiv 2 = (lo + hi) / 2 := Int.fdiv_eq_ediv_of_nonneg _ (by omega)
  omega
theorem bis : ∀ {w : World} {mean : ExcName → Option Value} {mg mb : Str → Option Value} {A₀ : Around} {dp un : Nat} {gd : Option (List Code)} {env : Env} {outer : List Env} {base h₀ : Heap} {L : Addr} {m : Str → Option Value} {s : Shared} {R : Result → Shared → Prop} {l : Addr} {vs : List Value} {ns : List Int} {n : Nat} {x : Int} {tx t0 : Tok} {args : Args}
  (B : Below A₀ base outer h₀) (F : Fr h₀ L s.heap m) (X : (hd.heap_39 w.params).In h₀) (N : News h₀ L s.heap [(l, listOf vs.toArray n)]) (T : Top hd.view_39 (looseW hd.view_39 [Str.ofString "insort_left", Str.ofString "bisect_left", Str.ofString "_twin_re_1", Str.ofString "_twin_re_2", Str.ofString "Whitespace"]) mean mg mb h₀)
  (hf : env.frame = some L) (hke : env.scope.kind = .function)
  (hb : ∀ fo fd, (hd.heap_39 w.params).lookup 56 = some fo → fo.data = .func fd → BindsTo s fd args [(Str.ofString "a", .ref l), (Str.ofString "x", .int x tx), (Str.ofString "lo", .int 0 t0), (Str.ofString "hi", .none), (Str.ofString "key", .none)]) (hI : IntsAre vs ns) (hn : ns.length ≤ 60) (hd1 : dp ≤ 560) (hu : un ≤ 200)
  (hret : ∀ t h' tk', (∀ b o, s.heap.get? b = some o → h'.get? b = some o) → R (.ok (.ret (.int (bisG ns x ns.length 0 ns.length) t))) { s with heap := h', toks := tk' }),
  codeAny (model rw_sc0082_01.row.prog w) ⟨none, dp, some (env :: outer), gd, un⟩ (.call (.ref 56) args) R s := by
  k_with_none
  w_top off
  k_fill
  intro w mean mg mb A₀ dp un gd env outer base h₀ L m s R l vs ns n x tx t0 args B F X N T hf hke hb hI hn hd1 hu hret
  refine ent B F X N T rfl hf hke (by k_is) (by k_is) (by dsimp only; unfold recursionLimit; omega) (hb _ _ (by k_is) rfl) (locs rfl) ?_ rfl rfl rfl (by decide)
  intro g L' h' hg e₁ A₁ m₁ F' N' B' X' T'
  (k_with "exec While Compare cons nil" => k_while (fun ns lo hi => 0 ≤ lo ∧ lo ≤ hi ∧ hi ≤ (ns.length : Int) ∧ bisP ns x lo hi) (fun ns lo hi => (hi - lo).toNat) "lo" "hi")
  (k_with "state" => first | exact ⟨by omega, by omega, by omega, bisP_start _ _⟩ | exact bis_up (by assumption) (by assumption) (by assumption) (by assumption) (by assumption) (by assumption) | exact bis_down (by assumption) (by assumption) (by assumption) (by assumption) (by assumption) (by assumption))
  (k_with "measure" => first | exact meas_up (by assumption) (by assumption) | exact meas_down (by assumption) (by assumption))
  k_steps
  (try dsimp only)
  refine fin_int hret ?e ?k
  case e => exact bisP_end (by assumption) (by assumption)
  case k => exact keeps_of hg N (by assumption) (by assumption) (fun _ h => h)
end Mine
namespace Mine
theorem bis_binds4 {w : World} {s : Shared} (X : (hd.heap_39 w.params).In s.heap) {fo : Obj} {fd : FuncData} (ho : (hd.heap_39 w.params).lookup 56 = some fo) (hd : fo.data = .func fd) (a x : Value) (t0 : Tok) :
   BindsTo s fd ⟨[a, x, .int 0 t0, .none], []⟩ [(Str.ofString "a", a), (Str.ofString "x", x), (Str.ofString "lo", .int 0 t0), (Str.ofString "hi", .none), (Str.ofString "key", .none)] := by
  have e := ho.symm.trans (show _ = some _ from rfl)
  cases e
  cases hd
  exact binds_kw (K := hd.heap_39 w.params) (T := 48) (D := 49) X rfl rfl rfl rfl rfl (by with_unfolding_all rfl) (by with_unfolding_all rfl)
theorem ins_binds {w : World} {s : Shared} (X : (hd.heap_39 w.params).In s.heap) {fo : Obj} {fd : FuncData} (ho : (hd.heap_39 w.params).lookup 47 = some fo) (hd : fo.data = .func fd) (a x : Value) :
   BindsTo s fd ⟨[a, x], []⟩ [(Str.ofString "a", a), (Str.ofString "x", x), (Str.ofString "lo", .int 0 291), (Str.ofString "hi", .none), (Str.ofString "key", .none)] := by
  have e := ho.symm.trans (show _ = some _ from rfl)
  cases e
  cases hd
  exact binds_kw (K := hd.heap_39 w.params) (T := 39) (D := 40) X rfl rfl rfl rfl rfl (by with_unfolding_all rfl) (by with_unfolding_all rfl)
end Mine
end
section
open PySem PySem.W PyProof.Rows PySem.Challenge
namespace Mine
theorem wcall {prog : Program} {w : World} {A : Around} {E Q : Value → Shared → Prop} {s : Shared} {f : Value} {pos : List Value} (h : codeAny (model prog w) A (.call f ⟨pos, []⟩) (fun r s' => match r with | .ok (.ret v) => Q v s' | .ok _ => False | .error e => E e s') s) : wpAny (model prog w) A (call f pos) Q E s := wpAny_call h
theorem bisG_bounds (ns : List Int) (x : Int) : ∀ (k : Nat) (lo hi : Int), lo ≤ hi → 0 ≤ lo → lo ≤ bisG ns x k lo hi ∧ bisG ns x k lo hi ≤ hi
  | 0, lo, hi, h, _ => ⟨Int.le_refl _, h⟩
  | k + 1, lo, hi, h, h0 => by
    have q : (lo + hi).fdiv 2 = (lo + hi) / 2 := Int.fdiv_eq_ediv_of_nonneg _ (by omega)
    unfold bisG
    by_cases hl : lo < hi
    · rw [if_pos hl]
      by_cases hv : ns.getD ((lo + hi).fdiv 2).toNat 0 < x
      · rw [if_pos hv]
        have := bisG_bounds ns x k ((lo + hi).fdiv 2 + 1) hi (by omega) (by omega)
        omega
      · rw [if_neg hv]
        have := bisG_bounds ns x k lo ((lo + hi).fdiv 2) (by omega) (by omega)
        omega
    · rw [if_neg hl]; omega
noncomputable def insF (ns : List Int) (x : Int) : List Int := ns.take (bisG ns x ns.length 0 ns.length).toNat ++ x :: ns.drop (bisG ns x ns.length 0 ns.length).toNat
theorem IntsAre.takeN {vs : List Value} {ns : List Int} (h : IntsAre vs ns) (k : Nat) : IntsAre (vs.take k) (ns.take k) := by
  induction h generalizing k with
  | nil => simpa using IntsAre.nil
  | cons n t _ ih => cases k with
    | zero => exact .nil
    | succ k => exact .cons n t (ih k)
theorem IntsAre.dropN {vs : List Value} {ns : List Int} (h : IntsAre vs ns) (k : Nat) : IntsAre (vs.drop k) (ns.drop k) := by
  induction h generalizing k with
  | nil => simpa using IntsAre.nil
  | cons n t h ih => cases k with
    | zero => exact .cons n t h
    | succ k => exact ih k
theorem IntsAre.app {vs us : List Value} {ns ms : List Int} (h : IntsAre vs ns) (h' : IntsAre us ms) : IntsAre (vs ++ us) (ns ++ ms) := by
  induction h with
  | nil => exact h'
  | cons n t _ ih => exact .cons n t ih
theorem ins_ints {vs : List Value} {ns : List Int} (hI : IntsAre vs ns) (x : Int) (t : Tok) : IntsAre (kl_ins vs (bisG ns x ns.length 0 ns.length) (.int x t)) (insF ns x) := by
  have b := bisG_bounds ns x ns.length 0 ns.length (by omega) (by omega)
  have hl := hI.length
  unfold kl_ins insF
  rw [if_neg (by omega), show min (bisG ns x ns.length 0 ns.length).toNat vs.length = (bisG ns x ns.length 0 ns.length).toNat by omega]
  exact IntsAre.app (IntsAre.takeN hI _) (.cons x t (IntsAre.dropN hI _))
theorem bis_fits {ns : List Int} {x : Int} (hn : ns.length ≤ 60) : Builtin.List.listFitsIndex (bisG ns x ns.length 0 ns.length) = true := by
  have b := bisG_bounds ns x ns.length 0 ns.length (by omega) (by omega)
  unfold Builtin.List.listFitsIndex
  simp only [Bool.and_eq_true, decide_eq_true_eq]
  omega
theorem keeps_but {g h h' : Heap} {L' l : Addr} {o : Obj} {m' : Str → Option Value} (hg : g = hideAll h (List.map (fun x => x.1) [(l, o)])) (F : Fr g L' h' m') : ∀ b o, b ≠ l → h.get? b = some o → h'.get? b = some o := fun b o hb e =>
  F.keep b o (hg ▸ hideAll_get _ e (by simpa using hb))
theorem ins : ∀ {w : World} {mean : ExcName → Option Value} {mg mb : Str → Option Value} {A₀ : Around} {dp un : Nat} {gd : Option (List Code)} {env : Env} {outer : List Env} {base h₀ : Heap} {L : Addr} {m : Str → Option Value} {s : Shared} {R : Result → Shared → Prop} {l : Addr} {vs : List Value} {ns : List Int} {n : Nat} {x : Int} {tx : Tok}
  (B : Below A₀ base outer h₀) (F : Fr h₀ L s.heap m) (X : (hd.heap_39 w.params).In h₀) (N : News h₀ L s.heap [(l, listOf vs.toArray n)]) (T : Top hd.view_39 (looseW hd.view_39 [Str.ofString "insort_left", Str.ofString "bisect_left", Str.ofString "_twin_re_1", Str.ofString "_twin_re_2", Str.ofString "Whitespace"]) mean mg mb h₀)
  (hf : env.frame = some L) (hke : env.scope.kind = .function)
  (hI : IntsAre vs ns) (hn : ns.length ≤ 60) (hd1 : dp ≤ 540) (hu : un ≤ 170)
  (hret : ∀ h' tk' vs' n', (∀ b o, b ≠ l → s.heap.get? b = some o → h'.get? b = some o) → h'.get? l = some (listOf (List.toArray vs') n') → IntsAre vs' (insF ns x) → R (.ok (.ret .none)) { s with heap := h', toks := tk' }),
  codeAny (model rw_sc0082_01.row.prog w) ⟨none, dp, some (env :: outer), gd, un⟩ (.call (.ref 47) ⟨[.ref l, .int x tx], []⟩) R s := by
  k_with_none
  w_top off
  (k_with "storeName" => (k_here; k_dflt (first | (refine storeX_i (by k_asm) (by k_asm) ?_ (by rfl) (by rfl); k_whole; intro wh' wtk' wt' wm' wF' wN') | (refine storeX_s (by k_asm) (by k_asm) ?_ (by rfl) (by rfl); k_whole; intro wh' wtk' wt' wm' wF' wN') | (refine storeX_f (by k_asm) (by k_asm) ?_ (by rfl) (by rfl); k_whole; intro wh' wtk' wt' wm' wF' wN') | (refine storeX_v (by k_asm) (by k_asm) ?_ (by rfl) (by rfl); k_whole; intro wh' wtk' wm' wF' wN')); (try k_sweep)))
  (k_with "call ref" => ((with_reducible show wpAny _ _ (call (Value.ref 56) [_, _, _, _]) _ _ _); (rename Fr _ _ _ _ => wlF); (rename News _ _ _ _ => wlN); k_dflt (refine wcall (bis (by k_asm) wlF (by k_asm) (fun wp whp => wlN wp (by simpa using whp)) (by k_asm) rfl rfl (fun _ _ who whd => bis_binds4 (Frag.In.keeps (by k_asm) (Fr.keep wlF)) who whd _ _ _) (by assumption) (by assumption) (by (try dsimp only); omega) (by (try dsimp only); omega) (fun wt9 wh9 wtk9 wk9 => ?_))); (have wF9 := wlF.keeps wk9); (have wN9 := wlN.grown wk9); clear wlF wlN wk9; (try dsimp only)))
  (k_with "call builtin:list.insert" => ((with_reducible show wpAny _ _ (call (Value.builtin _) [Value.ref _, Value.int _ _, _]) _ _ _); (rename Fr _ _ _ _ => wlF); (rename News _ _ _ _ => wlN); k_dflt (refine kl_insert wlF wlN (bis_fits (by assumption)) rfl (by k_upd) (by first | (have whl9 := IntsAre.length (by assumption); (try rw [List.toList_toArray]); rw [whl9, sizeLine_eq]; omega)) ?_); clear wlF wlN; intro wh' wF' wN'))
  k_fill
  intro w mean mg mb A₀ dp un gd env outer base h₀ L m s R l vs ns n x tx B F X N T hf hke hI hn hd1 hu hret
  refine ent B F X N T rfl hf hke (by k_is) (by k_is) (by dsimp only; unfold recursionLimit; omega) (ins_binds (X.keeps F.keep) (by k_is) rfl _ _) (locs rfl) ?_ rfl rfl rfl (by decide)
  intro g L' h' hg e₁ A₁ m₁ F' N' B' X' T'
  k_steps
  (try dsimp only)
  (rename Fr _ _ _ _ => F8); (rename News _ _ _ _ => N8)
  refine hret _ _ _ _ (keeps_but hg F8) (N8 _ (List.mem_cons_self ..)).1 ?_
  exact ins_ints hI _ _
end Mine
end
section
open PySem PySem.W PyProof.Rows PySem.Challenge PySem.Calls PySem.Spec PyProof.V
namespace Mine
theorem insF_length (ns : List Int) (x : Int) : (insF ns x).length = ns.length + 1 := by
  have b := bisG_bounds ns x ns.length 0 ns.length (by omega) (by omega)
  unfold insF
  rw [List.length_append, List.length_take, List.length_cons, List.length_drop]
  omega
theorem intAt' {vs : List Value} {ns : List Int} {i : Nat} {v : Value} (hI : IntsAre vs ns) (hv : vs[i]? = some v) : ∃ y t, v = .int y t ∧ ns[i]? = some y := intAt hI (by simpa using hv)
theorem one_mem {h₀ h : Heap} {L : Addr} {news : List (Addr × Obj)} {p : Addr × Obj} (N : News h₀ L h news) (hm : p ∈ news) : News h₀ L h [p] := fun q hq => by rw [List.mem_singleton.mp hq]; exact N p hm
theorem fr_upd {h₀ h h' : Heap} {L l : Addr} {o : Obj} {m : Str → Option Value} {news : List (Addr × Obj)} (F : Fr h₀ L h m) (N : News h₀ L h news) (hm : (l, o) ∈ news) (k : ∀ b o, b ≠ l → h.get? b = some o → h'.get? b = some o) : Fr h₀ L h' m :=
  ⟨F.ns.at' fun o e => k L o (Ne.symm (N _ hm).2.1) e, fun b o e => k b o (fun q => by rw [q, (N _ hm).2.2] at e; cases e) (F.keep b o e), F.above⟩
theorem news_upd {h₀ h h' : Heap} {L l : Addr} {o o' : Obj} {news news' : List (Addr × Obj)} (N : News h₀ L h news) (U : Upd l o o' news news') (k : ∀ b o, b ≠ l → h.get? b = some o → h'.get? b = some o) (e : h'.get? l = some o') : News h₀ L h' news' := by
  obtain ⟨pre, post, rfl, rfl, a, c⟩ := U.split
  intro p hp
  rcases List.mem_append.mp hp with hp | hp
  · have q := N p (List.mem_append_left _ hp)
    exact ⟨k _ _ (a p hp) q.1, q.2⟩
  · rcases List.mem_cons.mp hp with rfl | hp
    · have q := N (l, o) (List.mem_append_right _ (List.mem_cons_self ..))
      exact ⟨e, q.2⟩
    · have q := N p (List.mem_append_right _ (List.mem_cons_of_mem _ hp))
      exact ⟨k _ _ (c p hp) q.1, q.2⟩
noncomputable def endsB (held : List Int) (b : Bool) (card : Int) : Bool := if held = [] then b else if bisG held card held.length 0 held.length = 0 then (b && (held.getD 0 0 - card == 1)) else if bisG held card held.length 0 held.length = held.length then (b && (card - held.getD (held.length - 1) 0 == 1)) else false
noncomputable def endsStep (st : Option (List Int × Bool)) (card : Int) : Option (List Int × Bool) := match st with
  | none => none
  | some (held, b) => if bisG (insF held card) card (insF held card).length 0 (insF held card).length ≠ bisG held card held.length 0 held.length then none else some (insF held card, endsB held b card)
noncomputable def endsF (row : List Int) : Option Bool := match row.foldl endsStep (some ([], true)) with
  | none => none
  | some (held, b) => if held = [1, 2, 3, 4, 5, 6] then some b else none
noncomputable def optV : Option Bool → Value
  | none => .none
  | some b => .bool b
theorem ends_none (row : List Int) : row.foldl endsStep none = none := by
  induction row with
  | nil => rfl
  | cons y r ih => exact ih
theorem ends_at {row : List Int} {i : Nat} {y : Int} (hn : row[i]? = some y) (st : Option (List Int × Bool)) : row.foldl endsStep st = (row.drop (i + 1)).foldl endsStep (endsStep ((row.take i).foldl endsStep st) y) := by
  have hi := (List.getElem?_eq_some_iff.mp hn).1
  have e : row = row.take i ++ y :: row.drop (i + 1) := by
    have h1 := List.take_append_drop i row
    rw [List.drop_eq_getElem_cons hi] at h1
    rw [(List.getElem?_eq_some_iff.mp hn).2] at h1
    exact h1.symm
  conv => lhs; rw [e, List.foldl_append, List.foldl_cons]
theorem ends_nope {row ms : List Int} {i : Nat} {y : Int} {b : Bool} (hst : (row.take i).foldl endsStep (some ([], true)) = some (ms, b)) (hn : row[i]? = some y) (hne : bisG (insF ms y) y (insF ms y).length 0 (insF ms y).length ≠ bisG ms y ms.length 0 ms.length) : Value.none = optV (endsF row) := by
  unfold endsF
  rw [ends_at hn, hst]
  show _ = optV (match (row.drop (i + 1)).foldl endsStep (if _ then none else _) with | none => none | some (held, b) => if held = [1, 2, 3, 4, 5, 6] then some b else none)
  rw [if_pos hne, ends_none]
  rfl
theorem ends_step {row ms : List Int} {i : Nat} {y : Int} {b b' : Bool} (hst : (row.take i).foldl endsStep (some ([], true)) = some (ms, b)) (hn : row[i]? = some y) (he : bisG (insF ms y) y (insF ms y).length 0 (insF ms y).length = bisG ms y ms.length 0 ms.length) (hb : b' = endsB ms b y) :
    (row.take (i + 1)).foldl endsStep (some ([], true)) = some (insF ms y, b') := by
  rw [take_succ_of hn, List.foldl_append, hst]
  show (if _ then none else _) = _
  rw [if_neg (by rw [he]; exact fun h => h rfl), hb]
theorem eb0 {ms : List Int} {y : Int} {b : Bool} (h0 : ms = []) : b = endsB ms b y := by rw [endsB, if_pos h0]
theorem eb1 {ms : List Int} {y : Int} {b : Bool} (h0 : ¬ ms = []) (h1 : bisG ms y ms.length 0 ms.length = 0) (hb : b = true) : (ms.getD (Int.toNat 0) 0 - y == 1) = endsB ms b y := by
  rw [endsB, if_neg h0, if_pos h1, hb, Bool.true_and]; rfl
theorem eb2 {ms : List Int} {y : Int} {b : Bool} (h0 : ¬ ms = []) (h1 : bisG ms y ms.length 0 ms.length = 0) (hb : b = false) : b = endsB ms b y := by
  rw [endsB, if_neg h0, if_pos h1, hb, Bool.false_and]
theorem eb3 {ms : List Int} {y : Int} {b : Bool} (h0 : ¬ ms = []) (h1 : bisG ms y ms.length 0 ms.length ≠ 0) (h2 : bisG ms y ms.length 0 ms.length = ms.length) (hb : b = true) : (y - ms.getD (-1 + (ms.length : Int)).toNat 0 == 1) = endsB ms b y := by
  rw [endsB, if_neg h0, if_neg h1, if_pos h2, hb, Bool.true_and, show (-1 + (ms.length : Int)).toNat = ms.length - 1 by omega]
theorem eb4 {ms : List Int} {y : Int} {b : Bool} (h0 : ¬ ms = []) (h1 : bisG ms y ms.length 0 ms.length ≠ 0) (h2 : bisG ms y ms.length 0 ms.length = ms.length) (hb : b = false) : b = endsB ms b y := by
  rw [endsB, if_neg h0, if_neg h1, if_pos h2, hb, Bool.false_and]
theorem eb5 {ms : List Int} {y : Int} {b : Bool} (h0 : ¬ ms = []) (h1 : bisG ms y ms.length 0 ms.length ≠ 0) (h2 : bisG ms y ms.length 0 ms.length ≠ ms.length) : false = endsB ms b y := by
  rw [endsB, if_neg h0, if_neg h1, if_neg h2]
theorem ends_fin {row ms : List Int} {b : Bool} (hst : (row.take row.length).foldl endsStep (some ([], true)) = some (ms, b)) (h : ms = [1, 2, 3, 4, 5, 6]) : Value.bool b = optV (endsF row) := by
  rw [List.take_length] at hst
  unfold endsF
  rw [hst]
  show _ = optV (if _ then _ else _)
  rw [if_pos h]
  rfl
theorem ends_fno {row ms : List Int} {b : Bool} (hst : (row.take row.length).foldl endsStep (some ([], true)) = some (ms, b)) (h : ms ≠ [1, 2, 3, 4, 5, 6]) : Value.none = optV (endsF row) := by
  rw [List.take_length] at hst
  unfold endsF
  rw [hst]
  show _ = optV (if _ then _ else _)
  rw [if_neg h]
  rfl
theorem fin_val {R : Result → Shared → Prop} {s : Shared} {h' : Heap} {tk' : Nat} {v v' : Value} (hret : ∀ h' tk', (∀ b o, s.heap.get? b = some o → h'.get? b = some o) → R (.ok (.ret v)) { s with heap := h', toks := tk' })
    (e : v' = v) (k : ∀ b o, s.heap.get? b = some o → h'.get? b = some o) : R (.ok (.ret v')) { s with heap := h', toks := tk' } := by
  subst e
  exact hret _ _ k
structure EndS where
  b : Bool
  vs : List Value
  ns : List Int
  nn : Nat
noncomputable def EndFacts (row : List Int) (i : Nat) (c : EndS) : Prop := IntsAre c.vs c.ns ∧ c.ns.length = i ∧ (row.take i).foldl endsStep (some ([], true)) = some (c.ns, c.b)
theorem ends : ∀ {w : World} {mean : ExcName → Option Value} {mg mb : Str → Option Value} {A₀ : Around} {dp un : Nat} {gd : Option (List Code)} {env : Env} {outer : List Env} {base h₀ : Heap} {L : Addr} {m : Str → Option Value} {s : Shared} {R : Result → Shared → Prop} {l : Addr} {vs : List Value} {ns : List Int} {n : Nat}
  (B : Below A₀ base outer h₀) (F : Fr h₀ L s.heap m) (X : (hd.heap_39 w.params).In h₀) (N : News h₀ L s.heap [(l, listOf vs.toArray n)]) (T : Top hd.view_39 (looseW hd.view_39 [Str.ofString "insort_left", Str.ofString "bisect_left", Str.ofString "_twin_re_1", Str.ofString "_twin_re_2", Str.ofString "Whitespace"]) mean mg mb h₀)
  (hf : env.frame = some L) (hke : env.scope.kind = .function)
  (hI : IntsAre vs ns) (hn : ns.length ≤ 6) (hd1 : dp ≤ 520) (hu : un ≤ 140)
  (hret : ∀ h' tk', (∀ b o, s.heap.get? b = some o → h'.get? b = some o) → R (.ok (.ret (optV (endsF ns)))) { s with heap := h', toks := tk' }),
  codeAny (model rw_sc0082_01.row.prog w) ⟨none, dp, some (env :: outer), gd, un⟩ (.call (.ref 186) ⟨[.ref l], []⟩) R s := by
  k_with_none
  w_top off
  (k_with "storeName" => (k_here; k_dflt (first | (refine storeX_i (by k_asm) (by k_asm) ?_ (by rfl) (by rfl); k_whole; intro wh' wtk' wt' wm' wF' wN') | (refine storeX_s (by k_asm) (by k_asm) ?_ (by rfl) (by rfl); k_whole; intro wh' wtk' wt' wm' wF' wN') | (refine storeX_f (by k_asm) (by k_asm) ?_ (by rfl) (by rfl); k_whole; intro wh' wtk' wt' wm' wF' wN') | (refine storeX_v (by k_asm) (by k_asm) ?_ (by rfl) (by rfl); k_whole; intro wh' wtk' wm' wF' wN')); (try k_sweep)))
  (k_with "exec For Name Name cons nil" => (k_here; (rename Fr _ _ _ _ => wlF'); (with_unfolding_all refine' For_turns wlF' ?_); k_whole))
  (k_with "call ref" => ((with_reducible show wpAny _ _ (call (Value.ref 56) [_, _]) _ _ _); (rename Fr _ _ _ _ => wlF); (rename News _ _ _ _ => wlN); k_dflt (refine wcall (bis (by k_asm) wlF (by k_asm) (one_mem wlN (by k_mem)) (by k_asm) rfl rfl (fun _ _ who whd => bis_binds (Frag.In.keeps (by k_asm) (Fr.keep wlF)) who whd _ _) (by assumption) (by (try rw [insF_length]); (try simp only [List.length_nil]); omega) (by (try dsimp only); omega) (by (try dsimp only); omega) (fun wt9 wh9 wtk9 wk9 => ?_))); (have wF9 := wlF.keeps wk9); (have wN9 := wlN.grown wk9); clear wlF wlN wk9; (try dsimp only)))
  (k_with "call ref" => ((with_reducible show wpAny _ _ (call (Value.ref 47) [_, _]) _ _ _); (rename Fr _ _ _ _ => wlF); (rename News _ _ _ _ => wlN); k_dflt (refine wcall (ins (by k_asm) wlF (by k_asm) (one_mem wlN (by k_mem)) (by k_asm) rfl rfl (by assumption) (by (try rw [insF_length]); (try simp only [List.length_nil]); omega) (by (try dsimp only); omega) (by (try dsimp only); omega) (fun wh9 wtk9 wvs9 wn9 wk9 we9 wI9 => ?_))); k_dflt (have wF9 := fr_upd wlF wlN (by k_mem) wk9); k_dflt (have wN9 := news_upd wlN (by k_upd) wk9 we9); clear wlF wlN wk9 we9; (try dsimp only)))
  k_fill
  intro w mean mg mb A₀ dp un gd env outer base h₀ L m s R l vs ns n B F X N T hf hke hI hn hd1 hu hret
  refine ent B F X N T rfl hf hke (by k_is) (by k_is) (by dsimp only; unfold recursionLimit; omega) (BindsTo.of_eq rfl) (locs rfl) ?_ rfl rfl rfl (by decide)
  intro g L' h' hg e₁ A₁ m₁ F' N' B' X' T'
  k_steps
  (rename Fr _ _ _ _ => lF'); (rename News _ _ _ _ => lN')
  refine list_J (vs := vs) (nn := n) (fun c : EndS => [(_, listOf c.vs.toArray c.nn)]) (fun c => [(Str.ofString "beside", .bool c.b)]) (EndFacts ns) [Str.ofString "card", Str.ofString "place"] ⟨true, [], [], 0⟩ (by rfl) lF' lN' (by k_mem) rfl rfl ⟨by k_mem, trivial⟩ ⟨.nil, rfl, rfl⟩ (List.forall_mem_cons.mpr ⟨rfl, List.forall_mem_nil _⟩) ?_ ?_
  · intro i ⟨b, us, ms, nn⟩ v uu o I h9 tk9 Q₁ hv hIlt hF ho m₂ F9 N9 hQ₁
    k_lt hIlt
    clear lF' lN'
    obtain ⟨hI9, hl9, hst⟩ := hF
    dsimp only at hI9 hl9 hst F9 N9
    replace F9 : Fr g L' h9 _ := F9
    replace N9 : News g L' h9 _ := N9
    obtain ⟨y, ty, hv, hn9⟩ := intAt' hI hv
    subst hv
    have hi9 : i < 6 := by have := (List.getElem?_eq_some_iff.mp hn9).1; omega
    have hm6 : ms.length ≤ 6 := by omega
    by_cases h0 : ms = []
    · subst h0
      have hus : us = [] := by cases hI9; rfl
      subst hus
      k_steps
      all_goals (refine hQ₁ _ _ ?_)
      all_goals k_steps
      all_goals first
        | (refine fin_val hret ?e ?k
           case e => exact ends_nope hst hn9 (by assumption)
           case k => exact keeps_of hg N (by assumption) (by assumption) (fun p hp => by rw [List.mem_singleton.mp hp]; k_mem))
        | (refine ⟨⟨_, _, insF _ y, _⟩, ⟨by k_mem, trivial⟩, ⟨by assumption, by dsimp only; rw [insF_length, hl9], ends_step hst hn9 (by assumption) ?b⟩, (List.forall_mem_cons.mpr ⟨rfl, List.forall_mem_nil _⟩), ?s⟩
           case b => exact eb0 rfl
           case s =>
             exact Offs.out [Str.ofString "beside", Str.ofString "card", Str.ofString "place"] rfl (by repeat (first | exact Offs.kst rfl | refine Offs.set ?_ (by decide))))
    · have hpos : 0 < ms.length := List.length_pos_iff.mpr h0
      k_steps
      all_goals (refine hQ₁ _ _ ?_)
      all_goals k_steps
      all_goals first
        | (refine fin_val hret ?e ?k
           case e => exact ends_nope hst hn9 (by assumption)
           case k => exact keeps_of hg N (by assumption) (by assumption) (fun p hp => by rw [List.mem_singleton.mp hp]; k_mem))
        | (refine ⟨⟨_, _, insF _ y, _⟩, ⟨by k_mem, trivial⟩, ⟨by assumption, by dsimp only; rw [insF_length, hl9], ends_step hst hn9 (by assumption) ?b⟩, (List.forall_mem_cons.mpr ⟨rfl, List.forall_mem_nil _⟩), ?s⟩
           case b => first | exact eb1 h0 (by assumption) (by assumption) | exact eb3 h0 (by assumption) (by assumption) (by assumption) | exact eb5 h0 (by assumption) (by assumption) | exact eb2 h0 (by assumption) (by assumption) | exact eb4 h0 (by assumption) (by assumption) (by assumption)
           case s =>
             exact Offs.out [Str.ofString "beside", Str.ofString "card", Str.ofString "place"] rfl (by repeat (first | exact Offs.kst rfl | refine Offs.set ?_ (by decide))))
  · intro ⟨b, us, ms, nn⟩ uu h9 tk9 hF m₂ F9 N9
    clear lF' lN'
    obtain ⟨hI9, hl9, hst⟩ := hF
    dsimp only at hI9 hl9 hst F9 N9
    replace F9 : Fr g L' h9 _ := F9
    replace N9 : News g L' h9 _ := N9
    have hlv := hI.length
    rw [hlv] at hst
    k_steps
    all_goals (
      (try dsimp only)
      refine fin_val hret ?e ?k
      case e => first | exact ends_fin hst (by assumption) | exact ends_fno hst (by assumption)
      case k => exact keeps_of hg N (by assumption) (by assumption) (fun p hp => by rw [List.mem_singleton.mp hp]; k_mem))
end Mine
end
section
open PySem PySem.W PyProof.Rows PySem.Challenge PySem.Calls PySem.Spec PyProof.V
namespace Mine
structure CutOk (c : Int) : Prop where
  s1 : Builtin.Range.small c 0 (-1) = true
  n1 : 0 ≤ Builtin.Range.rangeSize c 0 (-1)
  m1 : Builtin.Range.rangeSize c 0 (-1) ≤ 1000
  s2 : Builtin.Range.small (c + 1) 7 1 = true
  n2 : 0 ≤ Builtin.Range.rangeSize (c + 1) 7 1
  m2 : Builtin.Range.rangeSize (c + 1) 7 1 ≤ 1000
theorem cutOk {c : Int} {i : Nat} (hi : i < 7) (hc : c = 0 + (i : Int) * 1) : CutOk c := by
  have h : c = 0 ∨ c = 1 ∨ c = 2 ∨ c = 3 ∨ c = 4 ∨ c = 5 ∨ c = 6 := by omega
  rcases h with rfl | rfl | rfl | rfl | rfl | rfl | rfl <;> exact ⟨by decide, by decide, by decide, by decide, by decide, by decide⟩
abbrev goodC (ns : List Int) (c : Int) : Prop := ns.filter (fun y => decide (y ≤ c)) = rangeInts c (-1) (Builtin.Range.rangeSize c 0 (-1)).toNat ∧ ns.filter (fun y => decide (c < y)) = rangeInts (c + 1) 1 (Builtin.Range.rangeSize (c + 1) 7 1).toNat
noncomputable def riffF (ns : List Int) : Bool := (List.range 7).any fun c => decide (goodC ns (c : Int))
theorem riff_true {ns : List Int} {i : Nat} {c : Int} (hi : i < 7) (hc : c = 0 + (i : Int) * 1) (h1 : ns.filter (fun y => decide (y ≤ c)) = rangeInts c (-1) (Builtin.Range.rangeSize c 0 (-1)).toNat) (h2 : ns.filter (fun y => decide (c < y)) = rangeInts (c + 1) 1 (Builtin.Range.rangeSize (c + 1) 7 1).toNat) : true = riffF ns := by
  have e : c = (i : Int) := by omega
  subst e
  exact (List.any_eq_true.mpr ⟨i, List.mem_range.mpr hi, decide_eq_true ⟨h1, h2⟩⟩).symm
theorem riff_no1 {ns : List Int} {i : Nat} {c : Int} (hc : c = 0 + (i : Int) * 1) (hno : ∀ j : Nat, j < i → ¬ goodC ns j) (h1 : ¬ ns.filter (fun y => decide (y ≤ c)) = rangeInts c (-1) (Builtin.Range.rangeSize c 0 (-1)).toNat) : ∀ j : Nat, j < i + 1 → ¬ goodC ns j := by
  intro j hj
  rcases Nat.lt_succ_iff_lt_or_eq.mp hj with hj | rfl
  · exact hno j hj
  · have e : c = (j : Int) := by omega
    subst e
    exact fun g => h1 g.1
theorem riff_no2 {ns : List Int} {i : Nat} {c : Int} (hc : c = 0 + (i : Int) * 1) (hno : ∀ j : Nat, j < i → ¬ goodC ns j) (h1 : ¬ ns.filter (fun y => decide (c < y)) = rangeInts (c + 1) 1 (Builtin.Range.rangeSize (c + 1) 7 1).toNat) : ∀ j : Nat, j < i + 1 → ¬ goodC ns j := by
  intro j hj
  rcases Nat.lt_succ_iff_lt_or_eq.mp hj with hj | rfl
  · exact hno j hj
  · have e : c = (j : Int) := by omega
    subst e
    exact fun g => h1 g.2
theorem riff_false {ns : List Int} (hno : ∀ j : Nat, j < 7 → ¬ goodC ns j) : false = riffF ns := by
  refine (List.any_eq_false.mpr fun c hc => ?_).symm
  rw [decide_eq_true_eq]
  exact hno c (List.mem_range.mp hc)
theorem riff : ∀ {w : World} {mean : ExcName → Option Value} {mg mb : Str → Option Value} {A₀ : Around} {dp un : Nat} {gd : Option (List Code)} {env : Env} {outer : List Env} {base h₀ : Heap} {L : Addr} {m : Str → Option Value} {s : Shared} {R : Result → Shared → Prop} {l : Addr} {vs : List Value} {ns : List Int} {n : Nat} (hI : IntsAre vs ns) (hn : ns.length ≤ 6)
  (B : Below A₀ base outer h₀) (F : Fr h₀ L s.heap m) (X : (hd.heap_39 w.params).In h₀) (N : News h₀ L s.heap [(l, listOf vs.toArray n)]) (T : Top hd.view_39 (looseW hd.view_39 [Str.ofString "insort_left", Str.ofString "bisect_left", Str.ofString "_twin_re_1", Str.ofString "_twin_re_2", Str.ofString "Whitespace"]) mean mg mb h₀)
  (hf : env.frame = some L) (hke : env.scope.kind = .function)
   (hd1 : dp ≤ 560) (hu : un ≤ 200)
  (hret : ∀ h' tk', (∀ b o, s.heap.get? b = some o → h'.get? b = some o) → R (.ok (.ret (.bool (riffF ns)))) { s with heap := h', toks := tk' }),
  codeAny (model rw_sc0082_01.row.prog w) ⟨none, dp, some (env :: outer), gd, un⟩ (.call (.ref 191) ⟨[.ref l], []⟩) R s := by
  k_with_none
  w_top off
  (k_with "lcg_off" => with_reducible assumption)
  (k_with "storeName" => (k_here; k_dflt (first | (refine storeX_i (by k_asm) (by k_asm) ?_ (by rfl) (by rfl); k_whole; intro wh' wtk' wt' wm' wF' wN') | (refine storeX_s (by k_asm) (by k_asm) ?_ (by rfl) (by rfl); k_whole; intro wh' wtk' wt' wm' wF' wN') | (refine storeX_f (by k_asm) (by k_asm) ?_ (by rfl) (by rfl); k_whole; intro wh' wtk' wt' wm' wF' wN') | (refine storeX_v (by k_asm) (by k_asm) ?_ (by rfl) (by rfl); k_whole; intro wh' wtk' wm' wF' wN')); (try k_sweep)))
  (k_with "exec Assign cons ListComp" => (k_here; lct_look; k_dflt (refine LCt.Assign_ListComp_T (F₀ := by k_asm) (by rfl) (by with_unfolding_all rfl) (by with_unfolding_all rfl) (by decide) (by rfl) (by decide) (by rfl) (by rfl) (by rfl) ?_); k_dflt lct_toSrc))
  (k_with "CompSrcT" => (k_here; k_dflt (refine LCt.CompSrcT.ledger (by rfl) (by k_asm) (by k_asm) (by k_mem) (by first | size_fits | exact Nat.le_of_ble_eq_true rfl) ?_); intro wg'))
  (k_with "CompRestT" => ((refine filT (gtP (by assumption)) (by assumption) (fun wy9 wt9 wys9 wI9 woI9 wC9 woC9 wD9 wm9 wh9 wtk9 wE9 why9 whC9 whx9 wF9 wN9 woff9 wne9 => ?_) (fun wys9 whI9 => ?_))))
  (k_with "CompRestT" => ((with_reducible show LCt.CompRestT _ _ _ _ _ _ _ (Expr.Compare _ [CmpOp.LtE] _ _) _ _ _ _ _ _ _ _ _ _ _ _); ((refine filT (leP (by assumption)) (by assumption) (fun wy9 wt9 wys9 wI9 woI9 wC9 woC9 wD9 wm9 wh9 wtk9 wE9 why9 whC9 whx9 wF9 wN9 woff9 wne9 => ?_) (fun wys9 whI9 => ?_)))))
  (k_with "filEnd" => exact ⟨rfl, ⟨_, rfl⟩, decide_eq_true (by omega)⟩)
  (k_with "filNo" => exact ⟨rfl, decide_eq_false (by omega)⟩)
  (k_with "call type:range" => ((with_reducible show wpAny _ _ (call _ [_, _, _]) _ _ _); (rename Fr _ _ _ _ => wF'); (rename News _ _ _ _ => wN'); k_dflt (refine range3_rows wF' wN' (by decide) ?_ (Or.inl (PyProof.noPylong_of_log2 (by decide +kernel)))); intro _ _ _ _ _ _ _ _ _))
  (k_with "call type:list" => ((with_reducible show wpAny _ _ (call (Value.type _) [Value.ref _]) _ _ _); (rename CutOk _ => whK); (rename IsRange _ _ _ _ _ _ _ _ => wrgX); (rename Fr _ _ _ _ => wF'); (rename News _ _ _ _ => wN'); k_dflt (first | refine list_rng (by rfl) wF' wN' wrgX whK.s1 whK.n1 whK.m1 ?_ | refine list_rng (by rfl) wF' wN' wrgX whK.s2 whK.n2 whK.m2 ?_); intro wD' wus' wcc' wh' wtk' wF' wN' wl1 whI'; (try k_lt wl1)))
  (k_with "compareOp Eq ref ref" => k_dflt (refine eq_intsK (by is_list) (by with_reducible assumption) (by is_list) (by with_reducible assumption) (by units_room) ?_))
  k_fill
  intro w mean mg mb A₀ dp un gd env outer base h₀ L m s R l vs ns n hI hn B F X N T hf hke  hd1 hu hret
  refine entC B F X N T rfl hf hke (by k_is) (by k_is) (by dsimp only; unfold recursionLimit; omega) (BindsTo.of_eq rfl) rfl (by decide +kernel) ?_ rfl rfl rfl
  intro g L' h' tk' cells' hg e₁ A₁ m₁ F' N' Y' B' X' T' l1
  (try k_lt l1); k_cells Y'; (try simp only [List.cons_append, List.nil_append] at N'); (try dsimp only)
  (k_with "exec For Name Call cons nil" => (k_here; (rename Fr _ _ _ _ => lF'); (with_unfolding_all refine' For_turns lF' ?_); k_whole))
  k_steps
  (rename IsRange _ _ _ _ _ _ _ _ => lR'); (rename Fr _ _ _ _ => lF'); (rename News _ _ _ _ => lN')
  refine rng_J (n := 7) (fun o : Obj => [(L' + 1, o), (l, listOf vs.toArray n)]) (fun _ => []) (fun i o => (∃ v, o.data = .cell v) ∧ ∀ j : Nat, j < i → ¬ goodC ns j) [Str.ofString "falling", Str.ofString "rising"] _ (by rfl) lR' (by decide) (by decide) lF' lN' (SubL.of (fun _ h => h)) ⟨⟨_, by assumption⟩, fun j hj => absurd hj (Nat.not_lt_zero j)⟩ (fun _ h => nomatch h) ?_ ?_
  · intro i d t u o I h9 tk9 Q₁ hi hIlt hF ho m₂ F9 N9 hQ₁
    k_lt hIlt
    clear lF' lN' lR'
    replace F9 : Fr g L' h9 _ := F9
    replace N9 : News g L' h9 _ := N9
    obtain ⟨⟨v9, hv9⟩, hno⟩ := hF
    obtain ⟨c, hc⟩ : ∃ c : Int, c = 0 + (i : Int) * 1 := ⟨_, rfl⟩
    rw [← hc]
    have hcc := cutOk hi hc
    k_steps
    all_goals (refine hQ₁ _ _ ?_)
    all_goals k_steps
    all_goals first
      | (refine fin_bool hret ?e ?k
         case e => exact riff_true hi hc (by assumption) (by assumption)
         case k => exact keeps_of hg N (by assumption) (by assumption) (fun p hp => by simp only [List.mem_cons] at hp ⊢; simp only [hp, true_or, or_true]))
      | (refine ⟨_, ⟨by k_mem, by k_mem, trivial⟩, ⟨⟨_, by assumption⟩, by first | exact riff_no1 hc hno (by assumption) | exact riff_no2 hc hno (by assumption)⟩, (fun _ h => nomatch h), ?_⟩
         exact Offs.out [Str.ofString "falling", Str.ofString "rising"] rfl (by repeat (first | exact Offs.kst rfl | refine Offs.set ?_ (by decide))))
  · intro d u h9 tk9 hF m₂ F9 N9
    clear lF' lN' lR'
    replace F9 : Fr g L' h9 _ := F9
    replace N9 : News g L' h9 _ := N9
    k_steps
    (try dsimp only)
    refine fin_bool hret ?e ?k
    case e => exact riff_false hF.2
    case k => exact keeps_of hg N F9 N9 (fun p hp => by simp only [List.mem_cons] at hp ⊢; simp only [hp, true_or, or_true])
end Mine
end
section
open PySem PySem.Sre
set_option maxHeartbeats 400000
set_option linter.unusedSimpArgs false
namespace Mine
noncomputable def c2 : Array Nat := #[14,9,4,1,2,16,10,16,13,0,7,7,16,13,16,10,15,18,5,16,10,15,13,11,16,13,5,5,0,16,10,1,15,2,0,1]
noncomputable def c1 : Array Nat := #[14,4,0,1,1,6,1,16,46,1]
noncomputable def m2 (text : Array Nat) (lim s : Nat) (seen : Seen) (first must : Bool) : M :=
  { code := c2, text, lim, start := s, lastStart := lim, mustAdvance := must, pc := 10, pos := s, handed := s, marks := #[], seen, outermost := first, frames := [{ wait := .nextStart, pc := 10, pos := s, outermost := first }], weight := 1 }
noncomputable def m1 (text : Array Nat) (lim s : Nat) (seen : Seen) (first must : Bool) : M :=
  { code := c1, text, lim, start := s, lastStart := lim, mustAdvance := must, pc := 5, pos := s, handed := s, marks := #[], seen, outermost := first, frames := [{ wait := .nextStart, pc := 5, pos := s, outermost := first }], weight := 1 }
theorem runFor_done {m : M} (h : m.outcome.isSome = true) : ∀ n, m.runFor n = m
  | 0 => rfl
  | n + 1 => by rw [M.runFor, if_pos h]
theorem runFor_add : ∀ (a b : Nat) (m : M), m.runFor (a + b) = (m.runFor a).runFor b
  | 0, b, m => by rw [Nat.zero_add]; rfl
  | a + 1, b, m => by
    rw [show a + 1 + b = a + b + 1 by omega]
    by_cases h : m.outcome.isSome = true
    · rw [M.runFor, if_pos h, M.runFor, if_pos h, runFor_done h]
    · rw [M.runFor, if_neg h, M.runFor, if_neg h, runFor_add a b]
theorem g2_10 : c2.getD 10 0 = 7 := rfl
theorem g2_11 : c2.getD 11 0 = 7 := rfl
theorem g2_12 : c2.getD 12 0 = 16 := rfl
theorem g2_13 : c2.getD 13 0 = 13 := rfl
theorem g2_14 : c2.getD 14 0 = 16 := rfl
theorem g2_15 : c2.getD 15 0 = 10 := rfl
theorem g2_16 : c2.getD 16 0 = 15 := rfl
theorem g2_17 : c2.getD 17 0 = 18 := rfl
theorem g2_18 : c2.getD 18 0 = 5 := rfl
theorem g2_19 : c2.getD 19 0 = 16 := rfl
theorem g2_20 : c2.getD 20 0 = 10 := rfl
theorem g2_21 : c2.getD 21 0 = 15 := rfl
theorem g2_22 : c2.getD 22 0 = 13 := rfl
theorem g2_23 : c2.getD 23 0 = 11 := rfl
theorem g2_24 : c2.getD 24 0 = 16 := rfl
theorem g2_25 : c2.getD 25 0 = 13 := rfl
theorem g2_26 : c2.getD 26 0 = 5 := rfl
theorem g2_27 : c2.getD 27 0 = 5 := rfl
theorem g2_28 : c2.getD 28 0 = 0 := rfl
theorem g2_29 : c2.getD 29 0 = 16 := rfl
theorem g2_30 : c2.getD 30 0 = 10 := rfl
theorem g2_31 : c2.getD 31 0 = 1 := rfl
theorem g2_32 : c2.getD 32 0 = 15 := rfl
theorem g2_33 : c2.getD 33 0 = 2 := rfl
theorem g2_34 : c2.getD 34 0 = 0 := rfl
theorem g2_35 : c2.getD 35 0 = 1 := rfl
theorem g1_0 : c1.getD 0 0 = 14 := rfl
theorem g1_1 : c1.getD 1 0 = 4 := rfl
theorem g1_2 : c1.getD 2 0 = 0 := rfl
theorem g1_3 : c1.getD 3 0 = 1 := rfl
theorem g1_4 : c1.getD 4 0 = 1 := rfl
theorem g1_5 : c1.getD 5 0 = 6 := rfl
theorem g1_6 : c1.getD 6 0 = 1 := rfl
theorem g1_7 : c1.getD 7 0 = 16 := rfl
theorem g1_8 : c1.getD 8 0 = 46 := rfl
theorem g1_9 : c1.getD 9 0 = 1 := rfl
theorem op_0 : ops[0]? = some .FAILURE := rfl
theorem op_1 : ops[1]? = some .SUCCESS := rfl
theorem op_5 : ops[5]? = some .ASSERT_NOT := rfl
theorem op_6 : ops[6]? = some .AT := rfl
theorem op_7 : ops[7]? = some .BRANCH := rfl
theorem op_14 : ops[14]? = some .INFO := rfl
theorem op_15 : ops[15]? = some .JUMP := rfl
theorem op_16 : ops[16]? = some .LITERAL := rfl
theorem runFor_zero (m : M) : m.runFor 0 = m := rfl
theorem c2_size : c2.size = 36 := rfl
theorem c1_size : c1.size = 10 := rfl
theorem e_size : (#[] : Array (Option Nat)).size = 0 := rfl
theorem runFor_go {code text : Array Nat} {lim start lastStart : Nat} {wt ma : Bool} {pc pos handed : Nat} {om : Bool} {marks : Array (Option Nat)} {lm li : Int} {loops : Array Loop} {inner : Option Nat} {frames : List Sre.Frame} {weight : Nat} {answer : Option Bool} {seen : Seen} {n : Nat} :
    (M.mk code text lim start lastStart wt ma pc pos handed om marks lm li loops inner frames weight answer seen none).runFor (n + 1) = ((M.mk code text lim start lastStart wt ma pc pos handed om marks lm li loops inner frames weight answer seen none).step).runFor n := rfl
theorem runFor_end {code text : Array Nat} {lim start lastStart : Nat} {wt ma : Bool} {pc pos handed : Nat} {om : Bool} {marks : Array (Option Nat)} {lm li : Int} {loops : Array Loop} {inner : Option Nat} {frames : List Sre.Frame} {weight : Nat} {answer : Option Bool} {seen : Seen} {n : Nat} {o : Sre.Outcome} :
    (M.mk code text lim start lastStart wt ma pc pos handed om marks lm li loops inner frames weight answer seen (some o)).runFor n = M.mk code text lim start lastStart wt ma pc pos handed om marks lm li loops inner frames weight answer seen (some o) := runFor_done rfl n
theorem run_lf (text : Array Nat) (lim s p : Nat) (seen : Seen) (first must : Bool) (hs : ¬ lim ≤ s) (hc : text.getD s 0 = 10) (hp : s + 1 = p) (hne : ¬ p = s) :
    ∃ m, ((m2 text lim s seen first must).runFor 20) = m ∧ m.outcome = some .matched ∧ m.handed = p ∧ m.start = s := by
  subst hp
  refine ⟨_, rfl, ?_⟩
  simp only [m2, runFor_go, runFor_end, runFor_zero, M.step, M.exec, M.isAt, M.word, M.alternative, M.attempt, M.attemptFrom, M.attemptAt, M.hasFirstSet, M.frame, M.keep, M.say, accepts, itemWidth, M.resume, M.putBack, c2_size, c1_size, e_size, op_0, op_1, op_5, op_6, op_7, op_14, op_15, op_16, Bool.false_eq_true, ↓reduceIte, Nat.reduceAdd, Nat.reduceLT, Nat.add_zero, Nat.reduceBEq, gt_iff_lt, ge_iff_le, BEq.rfl, Nat.add_one_sub_one, Nat.not_lt_zero, Bool.and_false, Nat.sub_zero, Nat.lt_add_one, Bool.false_and, Bool.false_or, Bool.and_eq_true, beq_iff_eq, and_false, Nat.sub_self, Option.isSome_some, Option.isSome_none, and_self, Nat.zero_add, Nat.reduceSub, Bool.or_true, Bool.true_or, Bool.or_false, Bool.or_eq_true, or_self, or_false, false_or, Nat.le_refl, Nat.lt_irrefl, Bool.not_false, Bool.not_true, Bool.true_and, Bool.and_true, and_true, g2_10, g2_11, g2_12, g2_13, g2_14, g2_15, g2_16, g2_17, g2_18, g2_19, g2_20, g2_21, g2_22, g2_23, g2_24, g2_25, g2_26, g2_27, g2_28, g2_29, g2_30, g2_31, g2_32, g2_33, g2_34, g2_35, hs, hc, hne]
theorem run_crlf (text : Array Nat) (lim s p : Nat) (seen : Seen) (first must : Bool) (hs : ¬ lim ≤ s) (hc : text.getD s 0 = 13) (hp : s + 1 = p) (hs2 : ¬ lim ≤ p) (hc2 : text.getD p 0 = 10) (hne : ¬ p + 1 = s) :
    ∃ m, ((m2 text lim s seen first must).runFor 20) = m ∧ m.outcome = some .matched ∧ m.handed = p + 1 ∧ m.start = s := by
  subst hp
  refine ⟨_, rfl, ?_⟩
  simp only [m2, runFor_go, runFor_end, runFor_zero, M.step, M.exec, M.isAt, M.word, M.alternative, M.attempt, M.attemptFrom, M.attemptAt, M.hasFirstSet, M.frame, M.keep, M.say, accepts, itemWidth, M.resume, M.putBack, c2_size, c1_size, e_size, op_0, op_1, op_5, op_6, op_7, op_14, op_15, op_16, Bool.false_eq_true, ↓reduceIte, Nat.reduceAdd, Nat.reduceLT, Nat.add_zero, Nat.reduceBEq, gt_iff_lt, ge_iff_le, BEq.rfl, Nat.add_one_sub_one, Nat.not_lt_zero, Bool.and_false, Nat.sub_zero, Nat.lt_add_one, Bool.false_and, Bool.false_or, Bool.and_eq_true, beq_iff_eq, and_false, Nat.sub_self, Option.isSome_some, Option.isSome_none, and_self, Nat.zero_add, Nat.reduceSub, Bool.or_true, Bool.true_or, Bool.or_false, Bool.or_eq_true, or_self, or_false, false_or, Nat.le_refl, Nat.lt_irrefl, Bool.not_false, Bool.not_true, Bool.true_and, Bool.and_true, and_true, g2_10, g2_11, g2_12, g2_13, g2_14, g2_15, g2_16, g2_17, g2_18, g2_19, g2_20, g2_21, g2_22, g2_23, g2_24, g2_25, g2_26, g2_27, g2_28, g2_29, g2_30, g2_31, g2_32, g2_33, g2_34, g2_35, hs, hc, hs2, hc2, hne]
theorem run_crx (text : Array Nat) (lim s p : Nat) (seen : Seen) (first must : Bool) (d : Nat) (hs : ¬ lim ≤ s) (hc : text.getD s 0 = 13) (hp : s + 1 = p) (hs2 : ¬ lim ≤ p) (hc2 : text.getD p 0 = d) (hd : (d == 10) = false) (hne : ¬ p = s) :
    ∃ m, ((m2 text lim s seen first must).runFor 28) = m ∧ m.outcome = some .matched ∧ m.handed = p ∧ m.start = s := by
  subst hp
  refine ⟨_, rfl, ?_⟩
  simp only [m2, runFor_go, runFor_end, runFor_zero, M.step, M.exec, M.isAt, M.word, M.alternative, M.attempt, M.attemptFrom, M.attemptAt, M.hasFirstSet, M.frame, M.keep, M.say, accepts, itemWidth, M.resume, M.putBack, c2_size, c1_size, e_size, op_0, op_1, op_5, op_6, op_7, op_14, op_15, op_16, Bool.false_eq_true, ↓reduceIte, Nat.reduceAdd, Nat.reduceLT, Nat.add_zero, Nat.reduceBEq, gt_iff_lt, ge_iff_le, BEq.rfl, Nat.add_one_sub_one, Nat.not_lt_zero, Bool.and_false, Nat.sub_zero, Nat.lt_add_one, Bool.false_and, Bool.false_or, Bool.and_eq_true, beq_iff_eq, and_false, Nat.sub_self, Option.isSome_some, Option.isSome_none, and_self, Nat.zero_add, Nat.reduceSub, Bool.or_true, Bool.true_or, Bool.or_false, Bool.or_eq_true, or_self, or_false, false_or, Nat.le_refl, Nat.lt_irrefl, Bool.not_false, Bool.not_true, Bool.true_and, Bool.and_true, and_true, g2_10, g2_11, g2_12, g2_13, g2_14, g2_15, g2_16, g2_17, g2_18, g2_19, g2_20, g2_21, g2_22, g2_23, g2_24, g2_25, g2_26, g2_27, g2_28, g2_29, g2_30, g2_31, g2_32, g2_33, g2_34, g2_35, hs, hc, hs2, hc2, hd, hne]
theorem run_cre (text : Array Nat) (lim s p : Nat) (seen : Seen) (first must : Bool) (hs : ¬ lim ≤ s) (hc : text.getD s 0 = 13) (hp : s + 1 = p) (hs2 : lim ≤ p) (hne : ¬ p = s) :
    ∃ m, ((m2 text lim s seen first must).runFor 28) = m ∧ m.outcome = some .matched ∧ m.handed = p ∧ m.start = s := by
  subst hp
  refine ⟨_, rfl, ?_⟩
  simp only [m2, runFor_go, runFor_end, runFor_zero, M.step, M.exec, M.isAt, M.word, M.alternative, M.attempt, M.attemptFrom, M.attemptAt, M.hasFirstSet, M.frame, M.keep, M.say, accepts, itemWidth, M.resume, M.putBack, c2_size, c1_size, e_size, op_0, op_1, op_5, op_6, op_7, op_14, op_15, op_16, Bool.false_eq_true, ↓reduceIte, Nat.reduceAdd, Nat.reduceLT, Nat.add_zero, Nat.reduceBEq, gt_iff_lt, ge_iff_le, BEq.rfl, Nat.add_one_sub_one, Nat.not_lt_zero, Bool.and_false, Nat.sub_zero, Nat.lt_add_one, Bool.false_and, Bool.false_or, Bool.and_eq_true, beq_iff_eq, and_false, Nat.sub_self, Option.isSome_some, Option.isSome_none, and_self, Nat.zero_add, Nat.reduceSub, Bool.or_true, Bool.true_or, Bool.or_false, Bool.or_eq_true, or_self, or_false, false_or, Nat.le_refl, Nat.lt_irrefl, Bool.not_false, Bool.not_true, Bool.true_and, Bool.and_true, and_true, g2_10, g2_11, g2_12, g2_13, g2_14, g2_15, g2_16, g2_17, g2_18, g2_19, g2_20, g2_21, g2_22, g2_23, g2_24, g2_25, g2_26, g2_27, g2_28, g2_29, g2_30, g2_31, g2_32, g2_33, g2_34, g2_35, hs, hc, hs2, hne]
theorem run1_hit0 (text : Array Nat) (lim s p : Nat) (seen : Seen) (first must : Bool) (hs : ¬ lim ≤ 0) (hz : s = 0) (hc : text.getD 0 0 = 46) :
    ∃ m, ((m1 text lim s seen first must).runFor 8) = m ∧ m.outcome = some .matched ∧ m.handed = 1 ∧ m.start = 0 := by
  subst hz
  refine ⟨_, rfl, ?_⟩
  simp only [m1, runFor_go, runFor_end, runFor_zero, M.step, M.exec, M.isAt, M.word, M.alternative, M.attempt, M.attemptFrom, M.attemptAt, M.hasFirstSet, M.frame, M.keep, M.say, accepts, itemWidth, M.resume, M.putBack, c2_size, c1_size, e_size, op_0, op_1, op_5, op_6, op_7, op_14, op_15, op_16, Bool.false_eq_true, ↓reduceIte, Nat.reduceAdd, Nat.reduceLT, Nat.add_zero, Nat.reduceBEq, gt_iff_lt, ge_iff_le, BEq.rfl, Nat.add_one_sub_one, Nat.not_lt_zero, Bool.and_false, Nat.sub_zero, Nat.lt_add_one, Bool.false_and, Bool.false_or, Bool.and_eq_true, beq_iff_eq, and_false, Nat.sub_self, Option.isSome_some, Option.isSome_none, and_self, Nat.zero_add, Nat.reduceSub, Bool.or_true, Bool.true_or, Bool.or_false, Bool.or_eq_true, or_self, or_false, false_or, Nat.le_refl, Nat.lt_irrefl, Bool.not_false, Bool.not_true, Bool.true_and, Bool.and_true, and_true, g1_0, g1_1, g1_2, g1_3, g1_4, g1_5, g1_6, g1_7, g1_8, g1_9, hs, hc]
theorem run1_hit (text : Array Nat) (lim s p : Nat) (seen : Seen) (first must : Bool) (hs : ¬ lim ≤ s) (hb : text.getD (s - 1) 0 = 10) (hc : text.getD s 0 = 46) (hp : s + 1 = p) (hne : ¬ p = s) :
    ∃ m, ((m1 text lim s seen first must).runFor 8) = m ∧ m.outcome = some .matched ∧ m.handed = p ∧ m.start = s := by
  subst hp
  refine ⟨_, rfl, ?_⟩
  simp only [m1, runFor_go, runFor_end, runFor_zero, M.step, M.exec, M.isAt, M.word, M.alternative, M.attempt, M.attemptFrom, M.attemptAt, M.hasFirstSet, M.frame, M.keep, M.say, accepts, itemWidth, M.resume, M.putBack, c2_size, c1_size, e_size, op_0, op_1, op_5, op_6, op_7, op_14, op_15, op_16, Bool.false_eq_true, ↓reduceIte, Nat.reduceAdd, Nat.reduceLT, Nat.add_zero, Nat.reduceBEq, gt_iff_lt, ge_iff_le, BEq.rfl, Nat.add_one_sub_one, Nat.not_lt_zero, Bool.and_false, Nat.sub_zero, Nat.lt_add_one, Bool.false_and, Bool.false_or, Bool.and_eq_true, beq_iff_eq, and_false, Nat.sub_self, Option.isSome_some, Option.isSome_none, and_self, Nat.zero_add, Nat.reduceSub, Bool.or_true, Bool.true_or, Bool.or_false, Bool.or_eq_true, or_self, or_false, false_or, Nat.le_refl, Nat.lt_irrefl, Bool.not_false, Bool.not_true, Bool.true_and, Bool.and_true, and_true, g1_0, g1_1, g1_2, g1_3, g1_4, g1_5, g1_6, g1_7, g1_8, g1_9, hs, hc, hb, hne]
theorem run1_no (text : Array Nat) (lim s p : Nat) (seen : Seen) (first must : Bool) (hs : ¬ lim ≤ s) (hl : s < lim) (hz : ¬ s = 0) (d : Nat) (hb : text.getD (s - 1) 0 = d) (hd : ¬ d = 10) (hp : s + 1 = p) :
    ∃ m, ((m1 text lim s seen first must).runFor 2) = m ∧ m = m1 text lim p m.seen false false := by
  subst hp
  refine ⟨_, rfl, ?_⟩
  simp only [m1, runFor_go, runFor_end, runFor_zero, M.step, M.exec, M.isAt, M.word, M.alternative, M.attempt, M.attemptFrom, M.attemptAt, M.hasFirstSet, M.frame, M.keep, M.say, accepts, itemWidth, M.resume, M.putBack, c2_size, c1_size, e_size, op_0, op_1, op_5, op_6, op_7, op_14, op_15, op_16, Bool.false_eq_true, ↓reduceIte, Nat.reduceAdd, Nat.reduceLT, Nat.add_zero, Nat.reduceBEq, gt_iff_lt, ge_iff_le, BEq.rfl, Nat.add_one_sub_one, Nat.not_lt_zero, Bool.and_false, Nat.sub_zero, Nat.lt_add_one, Bool.false_and, Bool.false_or, Bool.and_eq_true, beq_iff_eq, and_false, Nat.sub_self, Option.isSome_some, Option.isSome_none, and_self, Nat.zero_add, Nat.reduceSub, Bool.or_true, Bool.true_or, Bool.or_false, Bool.or_eq_true, or_self, or_false, false_or, Nat.le_refl, Nat.lt_irrefl, Bool.not_false, Bool.not_true, Bool.true_and, Bool.and_true, and_true, g1_0, g1_1, g1_2, g1_3, g1_4, g1_5, g1_6, g1_7, g1_8, g1_9, hs, hl, hz, hb, hd]
theorem run1_not (text : Array Nat) (lim s p : Nat) (seen : Seen) (first must : Bool) (hs : ¬ lim ≤ s) (hl : s < lim) (hb : text.getD (s - 1) 0 = 10) (d : Nat) (hc : text.getD s 0 = d) (hd : (d == 46) = false) (hp : s + 1 = p) :
    ∃ m, ((m1 text lim s seen first must).runFor 3) = m ∧ m = m1 text lim p m.seen false false := by
  subst hp
  refine ⟨_, rfl, ?_⟩
  simp only [m1, runFor_go, runFor_end, runFor_zero, M.step, M.exec, M.isAt, M.word, M.alternative, M.attempt, M.attemptFrom, M.attemptAt, M.hasFirstSet, M.frame, M.keep, M.say, accepts, itemWidth, M.resume, M.putBack, c2_size, c1_size, e_size, op_0, op_1, op_5, op_6, op_7, op_14, op_15, op_16, Bool.false_eq_true, ↓reduceIte, Nat.reduceAdd, Nat.reduceLT, Nat.add_zero, Nat.reduceBEq, gt_iff_lt, ge_iff_le, BEq.rfl, Nat.add_one_sub_one, Nat.not_lt_zero, Bool.and_false, Nat.sub_zero, Nat.lt_add_one, Bool.false_and, Bool.false_or, Bool.and_eq_true, beq_iff_eq, and_false, Nat.sub_self, Option.isSome_some, Option.isSome_none, and_self, Nat.zero_add, Nat.reduceSub, Bool.or_true, Bool.true_or, Bool.or_false, Bool.or_eq_true, or_self, or_false, false_or, Nat.le_refl, Nat.lt_irrefl, Bool.not_false, Bool.not_true, Bool.true_and, Bool.and_true, and_true, g1_0, g1_1, g1_2, g1_3, g1_4, g1_5, g1_6, g1_7, g1_8, g1_9, hs, hl, hb, hc, hd]
theorem run1_not0 (text : Array Nat) (lim s : Nat) (seen : Seen) (first must : Bool) (hs : ¬ lim ≤ 0) (hl : 0 < lim) (hz : s = 0) (d : Nat) (hc : text.getD 0 0 = d) (hd : (d == 46) = false) :
    ∃ m, ((m1 text lim s seen first must).runFor 3) = m ∧ m = m1 text lim 1 m.seen false false := by
  subst hz
  refine ⟨_, rfl, ?_⟩
  simp only [m1, runFor_go, runFor_end, runFor_zero, M.step, M.exec, M.isAt, M.word, M.alternative, M.attempt, M.attemptFrom, M.attemptAt, M.hasFirstSet, M.frame, M.keep, M.say, accepts, itemWidth, M.resume, M.putBack, c2_size, c1_size, e_size, op_0, op_1, op_5, op_6, op_7, op_14, op_15, op_16, Bool.false_eq_true, ↓reduceIte, Nat.reduceAdd, Nat.reduceLT, Nat.add_zero, Nat.reduceBEq, gt_iff_lt, ge_iff_le, BEq.rfl, Nat.add_one_sub_one, Nat.not_lt_zero, Bool.and_false, Nat.sub_zero, Nat.lt_add_one, Bool.false_and, Bool.false_or, Bool.and_eq_true, beq_iff_eq, and_false, Nat.sub_self, Option.isSome_some, Option.isSome_none, and_self, Nat.zero_add, Nat.reduceSub, Bool.or_true, Bool.true_or, Bool.or_false, Bool.or_eq_true, or_self, or_false, false_or, Nat.le_refl, Nat.lt_irrefl, Bool.not_false, Bool.not_true, Bool.true_and, Bool.and_true, and_true, g1_0, g1_1, g1_2, g1_3, g1_4, g1_5, g1_6, g1_7, g1_8, g1_9, hs, hl, hc, hd]
theorem run1_end0 (text : Array Nat) (lim s p : Nat) (seen : Seen) (first must : Bool) (hz : s = 0) (hl : lim = 0) :
    ∃ m, ((m1 text lim s seen first must).runFor 8) = m ∧ m.outcome = some .failed := by
  subst hz hl
  refine ⟨_, rfl, ?_⟩
  simp only [m1, runFor_go, runFor_end, runFor_zero, M.step, M.exec, M.isAt, M.word, M.alternative, M.attempt, M.attemptFrom, M.attemptAt, M.hasFirstSet, M.frame, M.keep, M.say, accepts, itemWidth, M.resume, M.putBack, c2_size, c1_size, e_size, op_0, op_1, op_5, op_6, op_7, op_14, op_15, op_16, Bool.false_eq_true, ↓reduceIte, Nat.reduceAdd, Nat.reduceLT, Nat.add_zero, Nat.reduceBEq, gt_iff_lt, ge_iff_le, BEq.rfl, Nat.add_one_sub_one, Nat.not_lt_zero, Bool.and_false, Nat.sub_zero, Nat.lt_add_one, Bool.false_and, Bool.false_or, Bool.and_eq_true, beq_iff_eq, and_false, Nat.sub_self, Option.isSome_some, Option.isSome_none, and_self, Nat.zero_add, Nat.reduceSub, Bool.or_true, Bool.true_or, Bool.or_false, Bool.or_eq_true, or_self, or_false, false_or, Nat.le_refl, Nat.lt_irrefl, Bool.not_false, Bool.not_true, Bool.true_and, Bool.and_true, and_true, g1_0, g1_1, g1_2, g1_3, g1_4, g1_5, g1_6, g1_7, g1_8, g1_9]
theorem run1_endb (text : Array Nat) (lim s p : Nat) (seen : Seen) (first must : Bool) (hl : lim = s) (hb : text.getD (s - 1) 0 = 10) :
    ∃ m, ((m1 text lim s seen first must).runFor 8) = m ∧ m.outcome = some .failed := by
  subst hl
  refine ⟨_, rfl, ?_⟩
  simp only [m1, runFor_go, runFor_end, runFor_zero, M.step, M.exec, M.isAt, M.word, M.alternative, M.attempt, M.attemptFrom, M.attemptAt, M.hasFirstSet, M.frame, M.keep, M.say, accepts, itemWidth, M.resume, M.putBack, c2_size, c1_size, e_size, op_0, op_1, op_5, op_6, op_7, op_14, op_15, op_16, Bool.false_eq_true, ↓reduceIte, Nat.reduceAdd, Nat.reduceLT, Nat.add_zero, Nat.reduceBEq, gt_iff_lt, ge_iff_le, BEq.rfl, Nat.add_one_sub_one, Nat.not_lt_zero, Bool.and_false, Nat.sub_zero, Nat.lt_add_one, Bool.false_and, Bool.false_or, Bool.and_eq_true, beq_iff_eq, and_false, Nat.sub_self, Option.isSome_some, Option.isSome_none, and_self, Nat.zero_add, Nat.reduceSub, Bool.or_true, Bool.true_or, Bool.or_false, Bool.or_eq_true, or_self, or_false, false_or, Nat.le_refl, Nat.lt_irrefl, Bool.not_false, Bool.not_true, Bool.true_and, Bool.and_true, and_true, g1_0, g1_1, g1_2, g1_3, g1_4, g1_5, g1_6, g1_7, g1_8, g1_9, hb]
theorem run1_endn (text : Array Nat) (lim s p : Nat) (seen : Seen) (first must : Bool) (hl : lim = s) (hz : ¬ s = 0) (d : Nat) (hb : text.getD (s - 1) 0 = d) (hd : ¬ d = 10) :
    ∃ m, ((m1 text lim s seen first must).runFor 8) = m ∧ m.outcome = some .failed := by
  subst hl
  refine ⟨_, rfl, ?_⟩
  simp only [m1, runFor_go, runFor_end, runFor_zero, M.step, M.exec, M.isAt, M.word, M.alternative, M.attempt, M.attemptFrom, M.attemptAt, M.hasFirstSet, M.frame, M.keep, M.say, accepts, itemWidth, M.resume, M.putBack, c2_size, c1_size, e_size, op_0, op_1, op_5, op_6, op_7, op_14, op_15, op_16, Bool.false_eq_true, ↓reduceIte, Nat.reduceAdd, Nat.reduceLT, Nat.add_zero, Nat.reduceBEq, gt_iff_lt, ge_iff_le, BEq.rfl, Nat.add_one_sub_one, Nat.not_lt_zero, Bool.and_false, Nat.sub_zero, Nat.lt_add_one, Bool.false_and, Bool.false_or, Bool.and_eq_true, beq_iff_eq, and_false, Nat.sub_self, Option.isSome_some, Option.isSome_none, and_self, Nat.zero_add, Nat.reduceSub, Bool.or_true, Bool.true_or, Bool.or_false, Bool.or_eq_true, or_self, or_false, false_or, Nat.le_refl, Nat.lt_irrefl, Bool.not_false, Bool.not_true, Bool.true_and, Bool.and_true, and_true, g1_0, g1_1, g1_2, g1_3, g1_4, g1_5, g1_6, g1_7, g1_8, g1_9, hb, hd, hz]
end Mine
end
section
open PySem PySem.Sre
set_option maxHeartbeats 400000
set_option linter.unusedSimpArgs false
namespace Mine
theorem inSet2 (c : Nat) (seen : Seen) : ∃ seen', inSet c2 c 36 5 true seen = .ok (c == 10 || c == 13, seen') := by
  by_cases h1 : (c == 10) = true
  · exact ⟨seen.add 16, by simp [inSet, c2, ops, h1]⟩
  · have h1' : (c == 10) = false := by simpa using h1
    by_cases h2 : (c == 13) = true
    · exact ⟨(seen.add 16).add 16, by simp [inSet, c2, ops, h1', h2]⟩
    · have h2' : (c == 13) = false := by simpa using h2
      exact ⟨((seen.add 16).add 16).add 0, by simp [inSet, c2, ops, h1', h2']⟩
/-- the first place from s on that holds an end sign -/
noncomputable def nextE (text : Array Nat) (lim : Nat) : (fuel s : Nat) → Option Nat
  | 0, _ => none
  | fuel + 1, s => if lim ≤ s then none else if (text.getD s 0 == 10 || text.getD s 0 == 13) = true then some s else nextE text lim fuel (s + 1)
theorem admitted2 (m : M) (hc : m.code = c2) : ∀ (fuel s : Nat) (seen : Seen), ∃ seen', M.admitted m fuel s seen = .ok (nextE m.text m.lim fuel s, seen')
  | 0, s, seen => ⟨seen, rfl⟩
  | fuel + 1, s, seen => by
    unfold M.admitted nextE
    by_cases hs : m.lim ≤ s
    · exact ⟨seen, by rw [if_pos hs, if_pos hs]⟩
    · rw [if_neg hs, if_neg hs]
      obtain ⟨seen1, e⟩ := inSet2 (m.text.getD s 0) seen
      rw [hc, show c2.size = 36 from rfl, e]
      by_cases hh : (m.text.getD s 0 == 10 || m.text.getD s 0 == 13) = true
      · rw [hh]; exact ⟨_, rfl⟩
      · have hh' : (m.text.getD s 0 == 10 || m.text.getD s 0 == 13) = false := by simpa using hh
        rw [hh']
        exact admitted2 m hc fuel (s + 1) seen1
end Mine
end
section
open PySem PySem.Sre
set_option maxHeartbeats 400000
set_option linter.unusedSimpArgs false
namespace Mine
noncomputable def f2 (text : Array Nat) (lim s : Nat) (must : Bool) : M := { code := c2, text, lim, start := s, lastStart := lim, pc := 10, pos := s, handed := s, marks := #[], mustAdvance := must, seen := ({} : Seen).add 14 }
theorem fs2 {text : Array Nat} {lim s : Nat} {must : Bool} (h : s < lim) : forSearch c2 text 0 s lim must = (f2 text lim s must).attemptFrom s true := by
  have h1 : (decide (s > lim) || decide (lim - s < 1)) = false := by simp; omega
  show (if (decide (s > lim) || decide (lim - s < 1)) = true then _ else _) = _
  rw [if_neg (by rw [h1]; decide)]
  rfl
theorem fs2_end {text : Array Nat} {lim s : Nat} {must : Bool} (h : lim ≤ s) : ((forSearch c2 text 0 s lim must).runFor 4).outcome = some .failed := by
  have h1 : (decide (s > lim) || decide (lim - s < 1)) = true := by simp; omega
  have e : forSearch c2 text 0 s lim must = ({ f2 text lim s must with lastStart := 0 } : M).say false := by
    show (if (decide (s > lim) || decide (lim - s < 1)) = true then M.say _ false else _ : M) = _
    rw [if_pos h1]
    rfl
  rw [e]
  simp [f2, M.say, M.runFor, M.step, M.resume]
theorem af2_hit {text : Array Nat} {lim s p : Nat} {must : Bool} (h : nextE text lim (lim + 1 - s) s = some p) : ∃ seen, (f2 text lim s must).attemptFrom s true = m2 text lim p seen true false := by
  obtain ⟨seen, e⟩ := admitted2 (f2 text lim s must) rfl (lim + 1 - s) s (({} : Seen).add 14)
  refine ⟨seen, ?_⟩
  have e' : (f2 text lim s must).admitted ((f2 text lim s must).lim + 1 - s) s (f2 text lim s must).seen = .ok (some p, seen) := by rw [← h]; exact e
  unfold M.attemptFrom
  have hf : (f2 text lim s must).hasFirstSet = true := rfl
  rw [hf, e']
  rfl
theorem af2_no {text : Array Nat} {lim s : Nat} {must : Bool} (h : nextE text lim (lim + 1 - s) s = none) : (((f2 text lim s must).attemptFrom s true).runFor 4).outcome = some .failed := by
  obtain ⟨seen, e⟩ := admitted2 (f2 text lim s must) rfl (lim + 1 - s) s (({} : Seen).add 14)
  have e' : (f2 text lim s must).admitted ((f2 text lim s must).lim + 1 - s) s (f2 text lim s must).seen = .ok (none, seen) := by rw [← h]; exact e
  have hf : (f2 text lim s must).hasFirstSet = true := rfl
  unfold M.attemptFrom
  rw [hf, e']
  simp [f2, M.say, M.runFor, M.step, M.resume]
noncomputable def endAt (text : Array Nat) (lim p : Nat) : Nat := if text.getD p 0 = 13 ∧ p + 1 < lim ∧ text.getD (p + 1) 0 = 10 then p + 2 else p + 1
theorem run2 {text : Array Nat} {lim p : Nat} {seen : Seen} {first must : Bool} (hp : p < lim) (h : text.getD p 0 = 10 ∨ text.getD p 0 = 13) :
    ∃ m k, k < 10 ∧ (m2 text lim p seen first must).runFor (4 * (k + 1)) = m ∧ m.outcome = some .matched ∧ m.handed = endAt text lim p ∧ m.start = p := by
  rcases h with h | h
  · obtain ⟨m, e, h1, h2, h3⟩ := run_lf text lim p (p + 1) seen first must (by omega) h rfl (by omega)
    exact ⟨m, 4, by omega, e, h1, by rw [h2, endAt, if_neg (by rw [h]; omega)], h3⟩
  · by_cases hl : p + 1 < lim
    · by_cases hc : text.getD (p + 1) 0 = 10
      · obtain ⟨m, e, h1, h2, h3⟩ := run_crlf text lim p (p + 1) seen first must (by omega) h rfl (by omega) hc (by omega)
        exact ⟨m, 4, by omega, e, h1, by rw [h2, endAt, if_pos ⟨h, hl, hc⟩], h3⟩
      · obtain ⟨m, e, h1, h2, h3⟩ := run_crx text lim p (p + 1) seen first must _ (by omega) h rfl (by omega) rfl (by simpa using hc) (by omega)
        exact ⟨m, 6, by omega, e, h1, by rw [h2, endAt, if_neg (fun q => hc q.2.2)], h3⟩
    · obtain ⟨m, e, h1, h2, h3⟩ := run_cre text lim p (p + 1) seen first must (by omega) h rfl (by omega) (by omega)
      exact ⟨m, 6, by omega, e, h1, by rw [h2, endAt, if_neg (fun q => hl q.2.1)], h3⟩
theorem nextE_spec {text : Array Nat} {lim : Nat} : ∀ (fuel s p : Nat), nextE text lim fuel s = some p → s ≤ p ∧ p < lim ∧ (text.getD p 0 = 10 ∨ text.getD p 0 = 13)
  | 0, _, _, h => by cases h
  | fuel + 1, s, p, h => by
    unfold nextE at h
    by_cases hs : lim ≤ s
    · rw [if_pos hs] at h; cases h
    · rw [if_neg hs] at h
      by_cases hh : (text.getD s 0 == 10 || text.getD s 0 == 13) = true
      · rw [if_pos hh] at h
        cases h
        exact ⟨Nat.le_refl _, by omega, by simpa using hh⟩
      · rw [if_neg hh] at h
        have := nextE_spec fuel (s + 1) p h
        exact ⟨by omega, this.2⟩
/-- the whole search of the second pattern from s on -/
noncomputable def find2 (text : Array Nat) (lim s : Nat) : Option Nat := if s < lim then nextE text lim (lim + 1 - s) s else none
theorem search2_hit {text : Array Nat} {lim s p : Nat} {must : Bool} (h : find2 text lim s = some p) :
    ∃ m k, k < 10 ∧ (forSearch c2 text 0 s lim must).runFor (4 * (k + 1)) = m ∧ m.outcome = some .matched ∧ m.handed = endAt text lim p ∧ m.start = p := by
  unfold find2 at h
  by_cases hs : s < lim
  · rw [if_pos hs] at h
    obtain ⟨seen, e⟩ := af2_hit (must := must) h
    rw [fs2 hs, e]
    have q := nextE_spec _ _ _ h
    exact run2 q.2.1 q.2.2
  · rw [if_neg hs] at h; cases h
theorem search2_no {text : Array Nat} {lim s : Nat} {must : Bool} (h : find2 text lim s = none) : ((forSearch c2 text 0 s lim must).runFor (4 * (0 + 1))).outcome = some .failed := by
  unfold find2 at h
  by_cases hs : s < lim
  · rw [if_pos hs] at h
    rw [fs2 hs]
    exact af2_no h
  · exact fs2_end (by omega)
end Mine
end
section
open PySem PySem.Sre
set_option maxHeartbeats 400000
set_option linter.unusedSimpArgs false
namespace Mine
noncomputable def find1 (text : Array Nat) (lim : Nat) : (fuel s : Nat) → Option Nat
  | 0, _ => none
  | fuel + 1, s => if (s = 0 ∨ text.getD (s - 1) 0 = 10) ∧ text.getD s 0 = 46 then some s else find1 text lim fuel (s + 1)
noncomputable def Ends1 (o : Option Nat) (m : M) : Prop := match o with
  | some p => m.outcome = some .matched ∧ m.handed = p + 1 ∧ m.start = p
  | none => m.outcome = some .failed
theorem run1 {text : Array Nat} {lim : Nat} : ∀ (k s : Nat) (seen : Seen) (first must : Bool), s + k = lim → ∃ n, n ≤ 3 * k + 8 ∧ Ends1 (find1 text lim k s) ((m1 text lim s seen first must).runFor n)
  | 0, s, seen, first, must, h => by
    refine ⟨8, by omega, ?_⟩
    show _ = _
    by_cases hz : s = 0
    · obtain ⟨m, e, h1⟩ := run1_end0 text lim s 0 seen first must hz (by omega)
      rw [e]; exact h1
    · by_cases hb : text.getD (s - 1) 0 = 10
      · obtain ⟨m, e, h1⟩ := run1_endb text lim s 0 seen first must (by omega) hb
        rw [e]; exact h1
      · obtain ⟨m, e, h1⟩ := run1_endn text lim s 0 seen first must (by omega) hz _ rfl hb
        rw [e]; exact h1
  | k + 1, s, seen, first, must, h => by
    have up : ∀ (j : Nat) (m : M), j ≤ 3 → (m1 text lim s seen first must).runFor j = m → m = m1 text lim (s + 1) m.seen false false → find1 text lim (k + 1) s = find1 text lim k (s + 1) → ∃ n, n ≤ 3 * (k + 1) + 8 ∧ Ends1 (find1 text lim (k + 1) s) ((m1 text lim s seen first must).runFor n) := by
      intro j m hj e em ef
      obtain ⟨n, hn, r⟩ := run1 (text := text) (lim := lim) k (s + 1) m.seen false false (by omega)
      refine ⟨j + n, by omega, ?_⟩
      rw [runFor_add, e, em, ef]
      exact r
    by_cases hz : s = 0
    · subst hz
      by_cases hc : text.getD 0 0 = 46
      · obtain ⟨m, e, h1, h2, h3⟩ := run1_hit0 text lim 0 0 seen first must (by omega) rfl hc
        refine ⟨8, by omega, ?_⟩
        rw [e, find1, if_pos ⟨.inl rfl, hc⟩]
        exact ⟨h1, h2, h3⟩
      · obtain ⟨m, e, em⟩ := run1_not0 text lim 0 seen first must (by omega) (by omega) rfl _ rfl (by simpa using hc)
        exact up 3 m (by omega) e em (by rw [find1, if_neg (fun q => hc q.2)])
    · by_cases hb : text.getD (s - 1) 0 = 10
      · by_cases hc : text.getD s 0 = 46
        · obtain ⟨m, e, h1, h2, h3⟩ := run1_hit text lim s (s + 1) seen first must (by omega) hb hc rfl (by omega)
          refine ⟨8, by omega, ?_⟩
          rw [e, find1, if_pos ⟨.inr hb, hc⟩]
          exact ⟨h1, h2, h3⟩
        · obtain ⟨m, e, em⟩ := run1_not text lim s (s + 1) seen first must (by omega) (by omega) hb _ rfl (by simpa using hc) rfl
          exact up 3 m (by omega) e em (by rw [find1, if_neg (fun q => hc q.2)])
      · obtain ⟨m, e, em⟩ := run1_no text lim s (s + 1) seen first must (by omega) (by omega) hz _ rfl hb rfl
        exact up 2 m (by omega) e em (by rw [find1, if_neg (fun q => q.1.elim hz hb)])
theorem fs1 {text : Array Nat} {lim s : Nat} {must : Bool} (h : s < lim) : forSearch c1 text 0 s lim must = m1 text lim s (({} : Seen).add 14) true must := by
  have h1 : (decide (s > lim) || decide (lim - s < 1)) = false := by simp; omega
  show (if (decide (s > lim) || decide (lim - s < 1)) = true then _ else _) = _
  rw [if_neg (by rw [h1]; decide)]
  rfl
theorem fs1_end {text : Array Nat} {lim s : Nat} {must : Bool} (h : lim ≤ s) : ((forSearch c1 text 0 s lim must).runFor 4).outcome = some .failed := by
  have h1 : (decide (s > lim) || decide (lim - s < 1)) = true := by simp; omega
  have e : forSearch c1 text 0 s lim must = ({ code := c1, text, lim, start := s, pc := 5, pos := s, handed := s, marks := #[], mustAdvance := must, seen := ({} : Seen).add 14 } : M).say false := by
    show (if (decide (s > lim) || decide (lim - s < 1)) = true then M.say _ false else _ : M) = _
    rw [if_pos h1]
    rfl
  rw [e]
  simp [M.say, M.runFor, M.step, M.resume]
theorem ends1_done {o : Option Nat} {m : M} (h : Ends1 o m) : m.outcome.isSome = true := by
  cases o with
  | none => rw [show m.outcome = _ from h]; rfl
  | some p => rw [h.1]; rfl
theorem search1 {text : Array Nat} {lim s : Nat} {must : Bool} (hz : lim < 2 ^ 40) : ∃ k, k < 2 ^ 64 ∧ Ends1 (find1 text lim (lim - s) s) ((forSearch c1 text 0 s lim must).runFor (4 * (k + 1))) := by
  by_cases h : s < lim
  · rw [fs1 h]
    obtain ⟨n, hn, r⟩ := run1 (text := text) (lim := lim) (lim - s) s (({} : Seen).add 14) true must (by omega)
    refine ⟨n, by omega, ?_⟩
    rw [show 4 * (n + 1) = n + (3 * n + 4) by omega, runFor_add, runFor_done (ends1_done r)]
    exact r
  · refine ⟨0, by decide, ?_⟩
    rw [show lim - s = 0 by omega]
    exact fs1_end (by omega)
end Mine
end
section
open PySem PySem.W PyProof.Rows PySem.Challenge PySem.Calls PySem.Spec PyProof.V
namespace Mine
section
variable {prog : Program} {w : World} {A : Around} {E : Value → Shared → Prop} {s : Shared}
open Builtin.Re in
theorem drive_ok {Q : Sre.M → Shared → Prop} : ∀ (j turns : Nat) (m : Sre.M), j < turns → (m.runFor (4 * (j + 1))).outcome.isSome = true → Q (m.runFor (4 * (j + 1))) s → wpAny (model prog w) A (reDrive turns m) Q E s
  | j, 0, _, h, _, _ => absurd h (Nat.not_lt_zero _)
  | j, turns + 1, m, h, ho, hQ => by
    unfold reDrive
    by_cases hs : (m.runFor reTurnSteps).outcome.isSome = true
    · dsimp only
      rw [if_pos hs]
      refine wpAny_pure ?_
      have e : m.runFor (4 * (j + 1)) = m.runFor reTurnSteps := by
        rw [show 4 * (j + 1) = reTurnSteps + 4 * j by unfold reTurnSteps; omega, runFor_add, runFor_done hs]
      rw [e] at hQ
      exact hQ
    · dsimp only
      rw [if_neg hs]
      refine wpAny_bind (wpAny_rule ?_)
      cases j with
      | zero => exact absurd ho hs
      | succ j =>
        have e : m.runFor (4 * (j + 1 + 1)) = (m.runFor reTurnSteps).runFor (4 * (j + 1)) := by
          rw [show 4 * (j + 1 + 1) = reTurnSteps + 4 * (j + 1) by unfold reTurnSteps; omega, runFor_add]
        rw [e] at ho hQ
        exact drive_ok j turns _ (by omega) ho hQ
theorem rules_in {m : Sre.M} : ∀ (l : List Nat) {Q : PUnit → Shared → Prop}, Q ⟨⟩ s → wpAny (model prog w) A (forIn l PUnit.unit fun i _ => if m.seen.has i = true then do rule (Sre.names.getD i ""); pure (ForInStep.yield PUnit.unit) else pure (ForInStep.yield PUnit.unit)) Q E s
  | [], _, h => wpAny_pure h
  | a :: l, Q, h => by
    have ih := rules_in (m := m) l h
    rw [List.forIn_cons]
    refine wpAny_bind ?_
    split
    · exact wpAny_bind (wpAny_rule (wpAny_pure ih))
    · exact wpAny_pure ih
open Builtin.Re in
theorem toEnd_hit {Q : Option Sre.M → Shared → Prop} {m m' : Sre.M} {k : Nat} (hk : k < 2 ^ 64) (e : m.runFor (4 * (k + 1)) = m') (ho : m'.outcome = some .matched) (h : Q (some m') s) : wpAny (model prog w) A (reRunToEnd m) Q E s := by
  unfold reRunToEnd
  refine wpAny_bind (drive_ok k _ m hk (by rw [e, ho]; rfl) ?_)
  rw [e]
  refine wpAny_bind (rules_in _ ?_)
  rw [ho]
  exact wpAny_pure h
open Builtin.Re in
theorem toEnd_no {Q : Option Sre.M → Shared → Prop} {m m' : Sre.M} {k : Nat} (hk : k < 2 ^ 64) (e : m.runFor (4 * (k + 1)) = m') (ho : m'.outcome = some .failed) (h : Q none s) : wpAny (model prog w) A (reRunToEnd m) Q E s := by
  unfold reRunToEnd
  refine wpAny_bind (drive_ok k _ m hk (by rw [e, ho]; rfl) ?_)
  rw [e]
  refine wpAny_bind (rules_in _ ?_)
  rw [ho]
  exact wpAny_pure h
end
end Mine
end
section
open PySem PySem.W PyProof.Rows PySem.Challenge PySem.Calls PySem.Spec PyProof.V
namespace Mine
section
variable {prog : Program} {w : World} {A : Around} {E : Value → Shared → Prop} {s : Shared}
open Builtin.Re
/-- what a search finds: where it starts and where it hands on -/
noncomputable def found2 (text : Array Nat) (lim a : Nat) : Option (Nat × Nat) := (find2 text lim a).map fun p => (p, endAt text lim p)
noncomputable def found1 (text : Array Nat) (lim a : Nat) : Option (Nat × Nat) := (find1 text lim (lim - a) a).map fun p => (p, p + 1)
noncomputable def IsFound (r : Option (Nat × Nat)) (o : Option Sre.M) : Prop := match r, o with
  | none, none => True
  | some (p, e), some m => m.start = p ∧ m.handed = e
  | _, _ => False
theorem next2 {Q : Option Sre.M → Shared → Prop} {t : ReTarget} {a : Nat} {must : Bool} (hc : t.code = c2) (hg : t.groups = 0) (h : ∀ o, IsFound (found2 t.text t.lim a) o → Q o s) : wpAny (model prog w) A (reNextFound t a must) Q E s := by
  unfold reNextFound
  rw [hc, hg]
  cases e : find2 t.text t.lim a with
  | none => exact toEnd_no (k := 0) (by decide) rfl (search2_no e) (h none (by rw [found2, e]; trivial))
  | some p =>
    obtain ⟨m, k, hk, er, h1, h2, h3⟩ := search2_hit (must := must) e
    exact toEnd_hit (by omega) er h1 (h (some m) (by rw [found2, e]; exact ⟨h3, h2⟩))
theorem next1 {Q : Option Sre.M → Shared → Prop} {t : ReTarget} {a : Nat} {must : Bool} (hc : t.code = c1) (hg : t.groups = 0) (hz : t.lim < 2 ^ 40) (h : ∀ o, IsFound (found1 t.text t.lim a) o → Q o s) : wpAny (model prog w) A (reNextFound t a must) Q E s := by
  unfold reNextFound
  rw [hc, hg]
  obtain ⟨k, hk, r⟩ := search1 (text := t.text) (lim := t.lim) (s := a) (must := must) hz
  cases e : find1 t.text t.lim (t.lim - a) a with
  | none => rw [e] at r; exact toEnd_no hk rfl r (h none (by rw [found1, e]; trivial))
  | some p => rw [e] at r; exact toEnd_hit hk rfl r.1 (h (some _) (by rw [found1, e]; exact ⟨r.2.2, r.2.1⟩))
end
end Mine
end
section
open PySem PySem.W PyProof.Rows PySem.Challenge PySem.Calls PySem.Spec PyProof.V
namespace Mine
section
variable {prog : Program} {w : World} {A : Around} {E : Value → Shared → Prop} {s : Shared}
open Builtin.Re
theorem textOf_ok {Q : Array Nat × Nat → Shared → Prop} {st : Str} {tk : Tok} (h : Q (st.cps, 0) s) : wpAny (model prog w) A (reTextOf (.str st tk)) Q E s := by
  unfold reTextOf
  refine wpAny_bind (wpAny_pure ?_)
  exact wpAny_pure h
theorem whole_ok {Q : ReTarget → Shared → Prop} {P C : Addr} {oP oC : Obj} {src : Value} {fl : Int} {t tk : Tok} {items : Array Value} {n : Nat} {code : Array Nat} {st : Str}
    (hP : s.heap.get? P = some oP) (dP : oP.data = .fields #[src, .int fl t, .int 0 0, .none, .none, .ref C, .int 0 0]) (hC : s.heap.get? C = some oC) (dC : oC.data = .seq items n) (hcode : (items.map reRawOf).map (·.toNat) = code)
    (h : Q { pattern := .ref P, string := .str st tk, code, text := st.cps, kind := 0, groups := 0, pos := 0, lim := st.cps.size } s) : wpAny (model prog w) A (reWholeTarget (.ref P) (.str st tk)) Q E s := by
  subst hcode
  unfold reWholeTarget
  refine wpAny_bind (wpAny_fieldsOf hP dP ?_)
  refine wpAny_bind (textOf_ok ?_)
  refine wpAny_bind (wpAny_pure ?_)
  refine wpAny_bind ?_
  show wpAny _ _ (reRawItems (.ref C)) _ _ _
  unfold reRawItems
  refine wpAny_bind (wpAny_seqItems hC dC ?_)
  refine wpAny_pure ?_
  exact wpAny_pure h
end
end Mine
end
section
open PySem PySem.W PyProof.Rows PySem.Challenge PySem.Calls PySem.Spec PyProof.V
namespace Mine
theorem entry_subl : entryFor table "re.Pattern.sub.loop" = some Builtin.«re.Pattern.sub.loop» := entryFor_of_tree (by kernel_rfl)
theorem plain_subl : plainId "re.Pattern.sub.loop" = true := by decide +kernel
theorem entry_sub : entryFor table "re.Pattern.sub" = some Builtin.«re.Pattern.sub» := entryFor_of_tree (by kernel_rfl)
theorem plain_sub : plainId "re.Pattern.sub" = true := by decide +kernel
/-- the pieces from a on -/
noncomputable def piecesF (found : Nat → Option (Nat × Nat)) (text repl : Array Nat) (lim : Nat) : (fuel a : Nat) → List Str
  | 0, _ => []
  | fuel + 1, a => match found a with
    | some (p, e) => (if a < p then [⟨text.extract a p⟩] else []) ++ ⟨repl⟩ :: piecesF found text repl lim fuel e
    | none => if a < lim then [⟨text.extract a lim⟩] else []
section
variable {prog : Program} {w : World} {A : Around} {R : Result → Shared → Prop}
open Builtin.Re
theorem lit_ok {E : Value → Shared → Prop} {Q : Unit → Shared → Prop} {rp : Str} {tr : Tok} {s : Shared} (h : Q () s) : wpAny (model prog w) A (reLiteralCannotBeTurned (.str rp tr)) Q E s := by
  unfold reLiteralCannotBeTurned
  refine wpAny_bind (wpAny_pure ?_)
  exact wpAny_pure h
theorem slice_ok {E : Value → Shared → Prop} {Q : Value → Shared → Prop} {text : Array Nat} {b e : Nat} {s : Shared} (hz : (⟨text.extract b e⟩ : Str).length ≤ sizeLine) (h : Q (.str ⟨text.extract b e⟩ s.toks) { s with toks := s.toks + 1 }) : wpAny (model prog w) A (reSlice text 0 b e) Q E s := by
  obtain ⟨hh, g, d, t, os⟩ := s
  exact wpAny_mkStr' h hz
theorem push_ok {E : Value → Shared → Prop} {Q : Unit → Shared → Prop} {S : Addr} {pcs : List Value} {cc : Nat} {x : Value} {s : Shared} (hS : s.heap.get? S = some (listOf pcs.toArray cc)) (hz : pcs.length ≤ 5000)
    (h : ∀ h' cc', h'.get? S = some (listOf (pcs ++ [x]).toArray cc') → (∀ b o, b ≠ S → s.heap.get? b = some o → h'.get? b = some o) → Q () { s with heap := h' }) : wpAny (model prog w) A (updateSeq S (·.push x)) Q E s := by
  refine wpAny_updateSeq hS rfl ?_ (by rw [sizeLine_eq, List.size_toArray]; omega) (by rw [sizeLine_eq, Array.size_push, List.size_toArray]; omega)
  refine h _ (cc + 1) ((Heap.get?_update_self _ hS rfl).trans (congrArg some ?_)) fun b o hb e => (Heap.get?_update_other _ _ (Ne.symm hb)).trans e
  show Obj.mapSeq _ (W.listOf pcs.toArray cc) = _
  rw [← List.push_toArray]
  show (⟨_, _, .seq (pcs.toArray.push x) (if (pcs.toArray.push x).size == pcs.toArray.size then cc else cc + 1), _⟩ : Obj) = _
  rw [show ((pcs.toArray.push x).size == pcs.toArray.size) = false by simp]
  rfl
theorem sum_le {ys : List Str} (h : ∀ y ∈ ys, y.length ≤ 1000) : (ys.map (·.length)).sum ≤ 1000 * ys.length := by
  induction ys with
  | nil => simp
  | cons y r ih =>
    have h1 := h y (.head _)
    have h2 := ih fun z hz => h z (.tail _ hz)
    rw [List.map_cons, List.sum_cons, List.length_cons]
    omega
theorem cut_le {text : Array Nat} {a b : Nat} {texts : List Str} (hl : text.size ≤ 1000) (hy : ∀ y ∈ texts, y.length ≤ 1000) : ∀ y ∈ texts ++ (if a < b then [(⟨text.extract a b⟩ : Str)] else []), y.length ≤ 1000 := by
  intro y h
  rcases List.mem_append.mp h with h | h
  · exact hy y h
  · split at h
    · rw [List.mem_singleton.mp h]
      show (text.extract a b).size ≤ _
      rw [Array.size_extract]; omega
    · cases h
theorem cut_len {text : Array Nat} {a b : Nat} {texts : List Str} : (texts ++ (if a < b then [(⟨text.extract a b⟩ : Str)] else [])).length ≤ texts.length + 1 := by
  split <;> simp
theorem strs_snoc {vs : List Value} {ys : List Str} (h : StrsAre vs ys) (y : Str) (t : Tok) : StrsAre (vs ++ [.str y t]) (ys ++ [y]) := h.append' (.cons y t .nil)
theorem piece_ok {γ : Type} {E : Value → Shared → Prop} {Q : γ → Shared → Prop} {S : Addr} {pcs : List Value} {texts : List Str} {cc : Nat} {text : Array Nat} {a b : Nat} {s : Shared} {jp : PUnit → Sem γ} (hS : s.heap.get? S = some (listOf pcs.toArray cc)) (hI : StrsAre pcs texts) (hz : texts.length ≤ 5000) (hl : text.size ≤ 1000)
    (h : ∀ h' tk' pcs' cc', h'.get? S = some (listOf (List.toArray pcs') cc') → StrsAre pcs' (texts ++ (if a < b then [⟨text.extract a b⟩] else [])) → (∀ b o, b ≠ S → s.heap.get? b = some o → h'.get? b = some o) → wpAny (model prog w) A (jp ⟨⟩) Q E { s with heap := h', toks := tk' }) :
    wpAny (model prog w) A (if a < b then (reSlice text 0 a b >>= fun x => updateSeq S (·.push x) >>= jp) else jp ⟨⟩) Q E s := by
  by_cases q : a < b
  · rw [if_pos q]
    refine wpAny_bind (slice_ok (by rw [sizeLine_eq]; show (text.extract a b).size ≤ _; rw [Array.size_extract]; omega) ?_)
    refine wpAny_bind (push_ok (s := { s with toks := s.toks + 1 }) hS (by rw [hI.length]; exact hz) fun h' cc' e k => ?_)
    refine h h' _ _ cc' e ?_ k
    rw [if_pos q]
    exact strs_snoc hI _ _
  · rw [if_neg q]
    have := h s.heap s.toks pcs cc hS (by rw [if_neg q, List.append_nil]; exact hI) fun b o _ e => e
    exact this
/-- what a search may find, with its progress -/
structure Finds (found : Nat → Option (Nat × Nat)) (lim : Nat) : Prop where
  go : ∀ a p e, found a = some (p, e) → a ≤ p ∧ p < e ∧ e ≤ lim
theorem str_ne {rp : Str} {tr : Tok} : ((Value.str rp tr) != Value.none) = true := rfl
theorem sub_loop {P C S : Addr} {oP oC : Obj} {src : Value} {fl : Int} {t tk tr : Tok} {items : Array Value} {n : Nat} {code : Array Nat} {st rp : Str} {found : Nat → Option (Nat × Nat)}
    (dP : oP.data = .fields #[src, .int fl t, .int 0 0, .none, .none, .ref C, .int 0 0]) (dC : oC.data = .seq items n) (cC : oC.cls ≠ .type "list") (hcode : (items.map reRawOf).map (·.toNat) = code)
    (hfound : ∀ (a : Nat) (must : Bool) (s : Shared) (Q : Option Sre.M → Shared → Prop) E, (∀ o, IsFound (found a) o → Q o s) → wpAny (model prog w) A.in1 (reNextFound { pattern := .ref P, string := .str st tk, code, text := st.cps, kind := 0, groups := 0, pos := 0, lim := st.cps.size } a must) Q E s)
    (hgo : Finds found st.cps.size) (hl : st.cps.size ≤ 1000) (hr : rp.length ≤ 1000) :
    ∀ (fuel a : Nat) (s : Shared) (pcs : List Value) (texts : List Str) (cc nn : Nat) (must : Bool), st.cps.size - a < fuel → a ≤ st.cps.size → texts.length + 2 * (st.cps.size - a) ≤ 4000 → (∀ y ∈ texts, y.length ≤ 1000) →
      s.heap.get? P = some oP → s.heap.get? C = some oC → s.heap.get? S = some (W.listOf pcs.toArray cc) → StrsAre pcs texts →
      (∀ t' h' tk', (∀ b o, b ≠ S → s.heap.get? b = some o → h'.get? b = some o) → R (.ok (.ret (.str (Txt.join ⟨#[]⟩ (texts ++ piecesF found st.cps rp.cps st.cps.size fuel a)) t'))) { s with heap := h', toks := tk' }) →
      codeAny (model prog w) A (.builtin "re.Pattern.sub.loop" ⟨[.ref P, .str st tk, .str rp tr, rawInt 0, rawInt 0, rawInt nn, rawInt a, rawInt a, .bool must, .ref S, .bool false], []⟩) R s := by
  intro fuel
  induction fuel with
  | zero => intro a s pcs texts cc nn must h; omega
  | succ fuel ih =>
    intro a s pcs texts cc nn must hf ha hz hy hP hC hS hI hR
    refine codeAny_builtin entry_subl ?_
    rw [Around.under_plainId plain_subl _]
    show wpAny _ A.in1 (reWholeTarget (.ref P) (.str st tk) >>= _) _ _ s
    refine wpAny_bind (whole_ok hP dP hC dC hcode ?_)
    show wpAny _ A.in1 (reLiteralCannotBeTurned (.str rp tr) >>= _) _ _ s
    refine wpAny_bind (lit_ok ?_)
    show wpAny _ A.in1 (reNextFound _ ((a : Int).toNat) must >>= _) _ _ s
    rw [Int.toNat_natCast]
    refine wpAny_bind (hfound a must s _ _ fun o ho => ?_)
    have hpl : pcs.length = texts.length := hI.length
    have hPS : P ≠ S := fun q => by
      rw [q, hS] at hP
      cases hP
      cases dP
    have hCS : C ≠ S := fun q => by
      rw [q, hS] at hC
      cases hC
      exact cC rfl
    unfold piecesF at hR
    cases e : found a with
    | none =>
      rw [e] at ho hR
      cases o with
      | some m => exact ho.elim
      | none =>
        (try dsimp only)
        refine piece_ok hS hI (by omega) hl fun h1 tk1 p1 c1 e1 I1 k1 => ?_
        (try dsimp only)
        refine wpAny_bind (slice_ok (by rw [sizeLine_eq]; show (st.cps.extract 0 0).size ≤ _; rw [Array.size_extract]; omega) ?_)
        refine wpAny_bind (wpAny_seqItems (s := { s with heap := h1, toks := tk1 + 1 }) e1 rfl ?_)
        have e0 : st.cps.extract 0 0 = #[] := by simp
        rw [e0]
        by_cases q : p1.toArray.isEmpty = true
        · have q' : p1 = [] := by simpa using q
          subst q'
          have q2 := I1
          generalize hT : texts ++ (if a < st.cps.size then [(⟨st.cps.extract a st.cps.size⟩ : Str)] else []) = T1 at I1 hR
          cases I1
          exact wpAny_bind (wpAny_pure (wpAny_pure (hR _ _ _ k1)))
        · have q' : ((some p1.toArray).getD #[]).isEmpty = false := by simpa using q
          rw [q']
          refine wpAny_bind (join_list (s := { s with heap := h1, toks := tk1 + 1 }) (ys := texts ++ (if a < st.cps.size then [(⟨st.cps.extract a st.cps.size⟩ : Str)] else [])) ⟨_, e1, rfl, _, rfl⟩ I1 ?_ fun t' k' => ?_)
          · have h1 := sum_le (cut_le (a := a) (b := st.cps.size) hl hy)
            have h2 := cut_len (text := st.cps) (a := a) (b := st.cps.size) (texts := texts)
            have h3 : (⟨#[]⟩ : Str).length = 0 := rfl
            rw [h3]
            omega
          · exact wpAny_pure (hR _ _ _ k1)
    | some r =>
      obtain ⟨p, e'⟩ := r
      rw [e] at ho hR
      cases o with
      | none => exact ho.elim
      | some m =>
        (try dsimp only)
        obtain ⟨hp, he⟩ := ho
        obtain ⟨g1, g2, g3⟩ := hgo.go a p e' e
        subst hp he
        refine piece_ok hS hI (by omega) hl fun h1 tk1 p1 c1 e1 I1 k1 => ?_
        (try dsimp only)
        refine wpAny_bind (wpAny_pure ?_)
        rw [str_ne]
        refine wpAny_bind (push_ok (s := { s with heap := h1, toks := tk1 }) e1 (by rw [I1.length]; split <;> simp <;> omega) fun h2 c2 e2 k2 => ?_)
        refine wpAny_pure ⟨plainId_quiet plain_subl _, ?_⟩
        refine ih m.handed _ _ _ c2 (nn + 1) _ (by omega) g3 ?_ ?_ ?_ ?_ e2 (strs_snoc I1 rp tr) ?_
        · have h2 := cut_len (text := st.cps) (a := a) (b := m.start) (texts := texts)
          rw [List.length_append, List.length_singleton]
          omega
        · intro y h
          rcases List.mem_append.mp h with h | h
          · exact cut_le hl hy y h
          · rw [List.mem_singleton.mp h]; exact hr
        · exact k2 _ _ hPS (k1 _ _ hPS hP)
        · exact k2 _ _ hCS (k1 _ _ hCS hC)
        · intro t' h' tk' k'
          have := hR t' h' tk' fun b o hb e => k' b o hb (k2 b o hb (k1 b o hb e))
          rw [List.append_assoc, List.append_assoc]
          exact this
end
end Mine
end
section
open PySem PySem.W PyProof.Rows PySem.Challenge PySem.Calls PySem.Spec PyProof.V
namespace Mine
theorem plainAttrs_re : PlainAttrs "re.Pattern" :=
  ⟨⟨"object.__getattribute__", by rw [typeLookup_type, builtinLookup_eq_fast]; kernel_rfl, by decide +kernel⟩, by rw [typeLookup_type, builtinLookup_eq_fast]; kernel_rfl⟩
theorem slot_re_sub : Slot "re.Pattern" "sub" "re.Pattern.sub" :=
  .of (owner := "re.Pattern") (n := "sub") (by rw [typeLookup_type, builtinLookup_eq_fast]; kernel_rfl) (by decide +kernel) (by decide +kernel) (by decide +kernel)
    (by first | exact .inl (by decide +kernel) | exact .inr (by decide +kernel)) (by rw [isSubtype_type]; kernel_rfl)
theorem type_re_sub : typeOf (.builtin "re.Pattern.sub") = pure (.type "method_descriptor") := by show builtinType _ = _; rw [builtinType_eq_fast]; kernel_rfl
theorem args_re_sub (a b c : Value) : argsOk "re.Pattern.sub" ⟨[a, b, c], []⟩ := by
  unfold argsOk; kernel_rfl
theorem str_nocall : typeLookup (.type "str") "__call__" = pure none := by rw [typeLookup_type, builtinLookup_eq_fast]; kernel_rfl
section
variable {prog : Program} {w : World} {A : Around} {E : Value → Shared → Prop} {s : Shared}
open Builtin.Re
theorem call_sub {Q : Value → Shared → Prop} {P C : Addr} {oP oC : Obj} {src : Value} {fl : Int} {t tk tr : Tok} {items : Array Value} {n : Nat} {code : Array Nat} {st rp : Str} {found : Nat → Option (Nat × Nat)}
    (hP : s.heap.get? P = some oP) (tP : oP.cls = .type "re.Pattern") (dP : oP.data = .fields #[src, .int fl t, .int 0 0, .none, .none, .ref C, .int 0 0])
    (hC : s.heap.get? C = some oC) (dC : oC.data = .seq items n) (cC : oC.cls ≠ .type "list") (hcode : (items.map reRawOf).map (·.toNat) = code)
    (hfound : ∀ (A : Around) (a : Nat) (must : Bool) (s : Shared) (Q : Option Sre.M → Shared → Prop) E, (∀ o, IsFound (found a) o → Q o s) → wpAny (model prog w) A (reNextFound { pattern := .ref P, string := .str st tk, code, text := st.cps, kind := 0, groups := 0, pos := 0, lim := st.cps.size } a must) Q E s)
    (hgo : Finds found st.cps.size) (hl : st.cps.size ≤ 1000) (hr : rp.length ≤ 1000) (hlit : rp.cps.contains 92 = false)
    (h : ∀ t' h' tk', (∀ b o, s.heap.get? b = some o → h'.get? b = some o) → Q (.str (Txt.join ⟨#[]⟩ (piecesF found st.cps rp.cps st.cps.size (st.cps.size + 1) 0)) t') { s with heap := h', toks := tk' }) :
    wpAny (model prog w) A (call (.builtin "re.Pattern.sub") [.ref P, .str rp tr, .str st tk]) Q E s := by
  refine wpAny_call (codeAny_call_builtin slot_re_sub.plain entry_sub (slot_re_sub.check _ _ _ _ _ _ _ _ ⟨_, hP, tP⟩ (args_re_sub _ _ _) ?_))
  unfold Builtin.«re.Pattern.sub» reSubstitute
  dsimp only
  refine wpAny_bind (m := reNamed _ _ _ _ _ _) (wpAny_of_eq (show _ = pure [some (.str rp tr), some (.str st tk), none] from rfl) ?_)
  show wpAny _ A.in1 ((pure (0 : Int)) >>= _) _ _ s
  refine wpAny_bind (wpAny_pure ?_)
  show wpAny _ A.in1 (specialOf (.str rp tr) (Str.ofString "__call__") >>= _) _ _ s
  refine wpAny_bind (wpAny_specialOf (T := "str") rfl str_nocall ?_)
  show wpAny _ A.in1 (asStr? (.str rp tr) >>= _) _ _ s
  refine wpAny_bind (wpAny_pure ?_)
  show wpAny _ A.in1 (pure (!rp.cps.contains 92) >>= _) _ _ s
  refine wpAny_bind (wpAny_pure ?_)
  rw [hlit]
  show wpAny _ A.in1 (pure (Value.str rp tr, (0 : Int)) >>= _) _ _ s
  refine wpAny_bind (wpAny_pure ?_)
  show wpAny _ A.in1 (holding [Value.str rp tr] (reWholeTarget (.ref P) (.str st tk)) >>= _) _ _ s
  refine wpAny_bind (wpAny_holding (whole_ok hP dP hC dC hcode ?_))
  show wpAny _ A.in1 (newList [] >>= _) _ _ s
  refine wpAny_bind (wpAny_newObj_type ?_)
  refine wpAny_pure ⟨plainId_quiet plain_subl _, ?_⟩
  refine sub_loop (S := s.heap.objs.size) dP dC cC hcode (hfound _) hgo hl hr (st.cps.size + 1) 0 _ [] [] 0 0 false (by omega) (by omega) (by simp; omega) (fun y h => nomatch h) (Heap.get?_push_of_some _ hP) (Heap.get?_push_of_some _ hC) (Heap.get?_push_size _ rfl) .nil fun t' h' tk' k => ?_
  exact h t' h' tk' fun b o e => k b o (Nat.ne_of_lt (Heap.lt_size e)) (Heap.get?_push_of_some _ e)
end
end Mine
end
section
open PySem PySem.W PyProof.Rows PySem.Challenge PySem.Calls PySem.Spec PyProof.V
namespace Mine
theorem finds2 (text : Array Nat) : Finds (found2 text text.size) text.size := ⟨fun a p e h => by
  unfold found2 at h
  cases q : find2 text text.size a with
  | none => rw [q] at h; cases h
  | some p' =>
    rw [q] at h
    have h' : p' = p ∧ endAt text text.size p' = e := by simpa using h
    obtain ⟨rfl, rfl⟩ := h'
    unfold find2 at q
    split at q
    · have r := nextE_spec _ _ _ q
      refine ⟨r.1, ?_, ?_⟩
      · unfold endAt; split <;> omega
      · unfold endAt; split
        · rename_i g; have := g.2.1; omega
        · have := r.2.1; omega
    · cases q⟩
theorem find1_spec {text : Array Nat} {lim : Nat} : ∀ (fuel s p : Nat), find1 text lim fuel s = some p → s ≤ p ∧ p < s + fuel
  | 0, _, _, h => by cases h
  | fuel + 1, s, p, h => by
    unfold find1 at h
    split at h
    · cases h; omega
    · have := find1_spec fuel (s + 1) p h; omega
theorem finds1 (text : Array Nat) : Finds (found1 text text.size) text.size := ⟨fun a p e h => by
  unfold found1 at h
  cases q : find1 text text.size (text.size - a) a with
  | none => rw [q] at h; cases h
  | some p' =>
    rw [q] at h
    have h' : p' = p ∧ p' + 1 = e := by simpa using h
    obtain ⟨rfl, rfl⟩ := h'
    have r := find1_spec _ _ _ q
    omega⟩
noncomputable def fixS (st : Str) : Str := Txt.join ⟨#[]⟩ (piecesF (found2 st.cps st.cps.size) st.cps (Str.ofString "\r\n").cps st.cps.size (st.cps.size + 1) 0)
noncomputable def dotS (st : Str) : Str := Txt.join ⟨#[]⟩ (piecesF (found1 st.cps st.cps.size) st.cps (Str.ofString "..").cps st.cps.size (st.cps.size + 1) 0)
section
variable {prog : Program} {w : World} {A : Around} {E : Value → Shared → Prop} {s : Shared} {h₀ : Heap} {L : Addr} {m : Str → Option Value}
theorem reMethod {P : Addr} {oP : Obj} {pl : Sem Bool} {Q : Value × List Value → Shared → Prop} (hP : s.heap.get? P = some oP) (tP : oP.cls = .type "re.Pattern") (nP : oP.dict = none) (h : Q (.builtin "re.Pattern.sub", [.ref P]) s) : wpAny (model prog w) A (getMethod (.ref P) (Str.ofString "sub") pl) Q E s :=
  getMethod_builtin ⟨_, hP, tP⟩ plainAttrs_re slot_re_sub type_re_sub (fun a e => by cases e; exact ⟨_, hP, nP⟩) h
theorem call_fix {Q : Value → Shared → Prop} {tk tr : Tok} {st : Str} (X : (hd.heap_39 w.params).In s.heap) (hl : st.cps.size ≤ 1000)
    (h : ∀ t' h' tk', (∀ b o, s.heap.get? b = some o → h'.get? b = some o) → Q (.str (fixS st) t') { s with heap := h', toks := tk' }) :
    wpAny (model prog w) A (call (.builtin "re.Pattern.sub") [.ref 80, .str (Str.ofString "\r\n") tr, .str st tk]) Q E s :=
  call_sub (found := found2 st.cps st.cps.size) (X 80 _ (show _ = some _ from rfl)) rfl rfl (X 79 _ (show _ = some _ from rfl)) rfl (by simp) (code := c2) (by decide +kernel) (fun _ a must s Q E q => next2 rfl rfl q) (finds2 _) hl (by decide +kernel) (by decide +kernel) h
theorem call_dot {Q : Value → Shared → Prop} {tk tr : Tok} {st : Str} (X : (hd.heap_39 w.params).In s.heap) (hl : st.cps.size ≤ 1000)
    (h : ∀ t' h' tk', (∀ b o, s.heap.get? b = some o → h'.get? b = some o) → Q (.str (dotS st) t') { s with heap := h', toks := tk' }) :
    wpAny (model prog w) A (call (.builtin "re.Pattern.sub") [.ref 75, .str (Str.ofString "..") tr, .str st tk]) Q E s :=
  call_sub (found := found1 st.cps st.cps.size) (X 75 _ (show _ = some _ from rfl)) rfl rfl (X 74 _ (show _ = some _ from rfl)) rfl (by simp) (code := c1) (by decide +kernel) (fun _ a must s Q E q => next1 rfl rfl (by show st.cps.size < _; omega) q) (finds1 _) hl (by decide +kernel) (by decide +kernel) h
end
theorem fixe : ∀ {w : World} {mean : ExcName → Option Value} {mg mb : Str → Option Value} {A₀ : Around} {dp un : Nat} {gd : Option (List Code)} {env : Env} {outer : List Env} {base h₀ : Heap} {L : Addr} {m : Str → Option Value} {s : Shared} {R : Result → Shared → Prop} {st : Str} {t1 : Tok}
  (B : Below A₀ base outer h₀) (F : Fr h₀ L s.heap m) (X : (hd.heap_39 w.params).In h₀) (N : News h₀ L s.heap []) (T : Top hd.view_39 (looseW hd.view_39 [Str.ofString "insort_left", Str.ofString "bisect_left", Str.ofString "_twin_re_1", Str.ofString "_twin_re_2", Str.ofString "Whitespace"]) mean mg mb h₀)
  (hf : env.frame = some L) (hke : env.scope.kind = .function)
  (hl : st.cps.size ≤ 1000) (hd1 : dp ≤ 560) (hu : un ≤ 200)
  (hret : ∀ t' h' tk', (∀ b o, s.heap.get? b = some o → h'.get? b = some o) → R (.ok (.ret (.str (fixS st) t'))) { s with heap := h', toks := tk' }),
  codeAny (model rw_sc0082_01.row.prog w) ⟨none, dp, some (env :: outer), gd, un⟩ (.call (.ref 94) ⟨[.str st t1], []⟩) R s := by
  k_with_none
  w_top off
  (k_with "storeName" => (k_here; k_dflt (first | (refine storeX_i (by k_asm) (by k_asm) ?_ (by rfl) (by rfl); k_whole; intro wh' wtk' wt' wm' wF' wN') | (refine storeX_s (by k_asm) (by k_asm) ?_ (by rfl) (by rfl); k_whole; intro wh' wtk' wt' wm' wF' wN') | (refine storeX_f (by k_asm) (by k_asm) ?_ (by rfl) (by rfl); k_whole; intro wh' wtk' wt' wm' wF' wN') | (refine storeX_v (by k_asm) (by k_asm) ?_ (by rfl) (by rfl); k_whole; intro wh' wtk' wm' wF' wN')); (try k_sweep)))
  (k_with "getMethod ref" => ((with_reducible show wpAny _ _ (getMethod (Value.ref _) (Str.ofString "sub") _) _ _ _); (rename Fr _ _ _ _ => wlF); k_dflt (refine reMethod (Fr.keep wlF _ _ ((by assumption : Frag.In _ _) _ _ (by k_is))) rfl rfl ?_)))
  (k_with "call builtin:re.Pattern.sub" => ((with_reducible show wpAny _ _ (call _ [Value.ref 80, _, _]) _ _ _); (rename Fr _ _ _ _ => wlF); (rename News _ _ _ _ => wlN); k_dflt (refine call_fix (Frag.In.keeps (by assumption) (Fr.keep wlF)) (by assumption) (fun wt9 wh9 wtk9 wk9 => ?_)); (have wF9 := wlF.keeps wk9); (have wN9 := wlN.grown wk9); clear wlF wlN wk9; (try dsimp only)))
  (k_with "call builtin:re.Pattern.sub" => ((with_reducible show wpAny _ _ (call _ [Value.ref 75, _, _]) _ _ _); (rename Fr _ _ _ _ => wlF); (rename News _ _ _ _ => wlN); k_dflt (refine call_dot (Frag.In.keeps (by assumption) (Fr.keep wlF)) (by assumption) (fun wt9 wh9 wtk9 wk9 => ?_)); (have wF9 := wlF.keeps wk9); (have wN9 := wlN.grown wk9); clear wlF wlN wk9; (try dsimp only)))
  k_fill
  intro w mean mg mb A₀ dp un gd env outer base h₀ L m s R st t1 B F X N T hf hke hl hd1 hu hret
  refine ent B F X N T rfl hf hke (by k_is) (by k_is) (by dsimp only; unfold recursionLimit; omega) (BindsTo.of_eq rfl) (locs rfl) ?_ rfl rfl rfl (by decide)
  intro g L' h' hg e₁ A₁ m₁ F' N' B' X' T'
  k_steps
  all_goals (
    (rename News g L' _ _ => N8); (rename Fr g L' _ _ => F8);
    exact hret _ _ _ (keeps_of hg N F8 N8 (fun p hp => nomatch hp)))
  all_goals trace_state
end Mine
end
section
open PySem PySem.W PyProof.Rows PySem.Challenge PySem.Calls PySem.Spec PyProof.V
namespace Mine
noncomputable def rowSt (cut falls : Int) : Nat → Int × Int × List Int
  | 0 => (cut, cut + 1, [])
  | k + 1 => if 0 < (rowSt cut falls k).1 ∧ (6 < (rowSt cut falls k).2.1 ∨ (falls.fdiv (2 ^ k)).fmod 2 = 0) then ((rowSt cut falls k).1 - 1, (rowSt cut falls k).2.1, (rowSt cut falls k).2.2 ++ [(rowSt cut falls k).1]) else ((rowSt cut falls k).1, (rowSt cut falls k).2.1 + 1, (rowSt cut falls k).2.2 ++ [(rowSt cut falls k).2.1])
structure RowS where
  d : Int
  td : Tok
  u : Int
  tu : Tok
  vs : List Value
  ns : List Int
  nn : Nat
noncomputable def RowFacts (cut falls : Int) (i : Nat) (c : RowS) : Prop := IntsAre c.vs c.ns ∧ c.ns.length = i ∧ -6 ≤ c.d ∧ c.d ≤ 12 ∧ 0 ≤ c.u ∧ c.u ≤ 7 + i ∧ (c.d, c.u, c.ns) = rowSt cut falls i
theorem row_dn {cut falls : Int} {i : Nat} {d u : Int} {ns : List Int} (h : (d, u, ns) = rowSt cut falls i) (h0 : 0 < d) (h1 : 6 < u ∨ (falls.fdiv (2 ^ i)).fmod 2 = 0) : (d - 1, u, ns ++ [d]) = rowSt cut falls (i + 1) := by
  have e1 : (rowSt cut falls i).1 = d := by rw [← h]
  have e2 : (rowSt cut falls i).2.1 = u := by rw [← h]
  have e3 : (rowSt cut falls i).2.2 = ns := by rw [← h]
  rw [rowSt, e1, e2, e3, if_pos ⟨h0, h1⟩]
theorem row_up {cut falls : Int} {i : Nat} {d u : Int} {ns : List Int} (h : (d, u, ns) = rowSt cut falls i) (h1 : ¬ (0 < d ∧ (6 < u ∨ (falls.fdiv (2 ^ i)).fmod 2 = 0))) : (d, u + 1, ns ++ [u]) = rowSt cut falls (i + 1) := by
  have e1 : (rowSt cut falls i).1 = d := by rw [← h]
  have e2 : (rowSt cut falls i).2.1 = u := by rw [← h]
  have e3 : (rowSt cut falls i).2.2 = ns := by rw [← h]
  rw [rowSt, e1, e2, e3, if_neg h1]
noncomputable def swapF (r : List Int) (a b : Nat) : List Int := (r.set a (r.getD b 0)).set b (r.getD a 0)
noncomputable def rowF (cut falls trade : Int) : List Int := swapF (rowSt cut falls 6).2.2 (trade.fdiv 6).toNat (trade.fmod 6).toNat
theorem rowx : ∀ {w : World} {mean : ExcName → Option Value} {mg mb : Str → Option Value} {A₀ : Around} {dp un : Nat} {gd : Option (List Code)} {env : Env} {outer : List Env} {base h₀ : Heap} {L : Addr} {m : Str → Option Value} {s : Shared} {R : Result → Shared → Prop} {cut falls trade : Int} {t1 t2 t3 : Tok}
  (B : Below A₀ base outer h₀) (F : Fr h₀ L s.heap m) (X : (hd.heap_39 w.params).In h₀) (N : News h₀ L s.heap []) (T : Top hd.view_39 (looseW hd.view_39 [Str.ofString "insort_left", Str.ofString "bisect_left", Str.ofString "_twin_re_1", Str.ofString "_twin_re_2", Str.ofString "Whitespace"]) mean mg mb h₀)
  (hf : env.frame = some L) (hke : env.scope.kind = .function)
  (c0 : 0 ≤ cut) (c1 : cut < 7) (f0 : 0 ≤ falls) (f1 : falls < 64) (q0 : 0 ≤ trade) (q1 : trade < 36) (hd1 : dp ≤ 560) (hu : un ≤ 200)
  (hret : ∀ r vs' n' h' tk', (∀ b o, s.heap.get? b = some o → h'.get? b = some o) → s.heap.get? r = none → h'.get? r = some (listOf (List.toArray vs') n') → IntsAre vs' (rowF cut falls trade) → R (.ok (.ret (.ref r))) { s with heap := h', toks := tk' }),
  codeAny (model rw_sc0082_01.row.prog w) ⟨none, dp, some (env :: outer), gd, un⟩ (.call (.ref 167) ⟨[.int cut t1, .int falls t2, .int trade t3], []⟩) R s := by
  k_with_none
  w_top off
  (k_with "storeName" => (k_here; k_dflt (first | (refine storeX_i (by k_asm) (by k_asm) ?_ (by rfl) (by rfl); k_whole; intro wh' wtk' wt' wm' wF' wN') | (refine storeX_s (by k_asm) (by k_asm) ?_ (by rfl) (by rfl); k_whole; intro wh' wtk' wt' wm' wF' wN') | (refine storeX_f (by k_asm) (by k_asm) ?_ (by rfl) (by rfl); k_whole; intro wh' wtk' wt' wm' wF' wN') | (refine storeX_v (by k_asm) (by k_asm) ?_ (by rfl) (by rfl); k_whole; intro wh' wtk' wm' wF' wN')); (try k_sweep)))
  k_fill
  intro w mean mg mb A₀ dp un gd env outer base h₀ L m s R cut falls trade t1 t2 t3 B F X N T hf hke c0 c1 f0 f1 q0 q1 hd1 hu hret
  refine ent B F X N T rfl hf hke (by k_is) (by k_is) (by dsimp only; unfold recursionLimit; omega) (BindsTo.of_eq rfl) (locs rfl) ?_ rfl rfl rfl (by decide)
  intro g L' h' hg e₁ A₁ m₁ F' N' B' X' T'
  (k_with "exec For Name Call cons nil" => (k_here; (rename Fr _ _ _ _ => lF'); (with_unfolding_all refine' For_turns lF' ?_); k_whole))
  k_steps
  (rename IsRange _ _ _ _ _ _ _ _ => lR'); (rename Fr _ _ _ _ => lF'); (rename News _ _ _ _ => lN')
  refine rng_J (n := 6) (fun c : RowS => [(_, listOf c.vs.toArray c.nn)]) (fun c => [(Str.ofString "down", .int c.d c.td), (Str.ofString "up", .int c.u c.tu)]) (RowFacts cut falls) [Str.ofString "k"] ⟨cut, _, cut + 1, _, [], [], 0⟩ (by rfl) lR' (by decide) (by decide) lF' lN' ⟨by k_mem, trivial⟩ ⟨.nil, rfl, by dsimp only; omega, by dsimp only; omega, by dsimp only; omega, by dsimp only; omega, rfl⟩ (List.forall_mem_cons.mpr ⟨rfl, List.forall_mem_cons.mpr ⟨rfl, List.forall_mem_nil _⟩⟩) ?_ ?_
  · intro i ⟨d, td, u, tu, vs, ns, nn⟩ t uu o I h9 tk9 Q₁ hi hIlt hF ho m₂ F9 N9 hQ₁
    k_lt hIlt
    clear lF' lN' lR'
    obtain ⟨hI, hl, hd0, hd1, hu0, hu1, hst⟩ := hF
    dsimp only at hI hl hd0 hd1 hu0 hu1 hst F9 N9
    replace F9 : Fr g L' h9 _ := F9
    replace N9 : News g L' h9 _ := N9
    have e2 : (0 + (i : Int) * 1).toNat = i := by omega
    k_steps
    all_goals (refine hQ₁ _ _ ?_)
    all_goals k_steps
    all_goals (
      (try simp only [e2] at *)
      (try simp only [List.push_toArray])
      first
        | refine ⟨⟨_, _, _, _, _, ns ++ [d], _⟩, ⟨by k_mem, trivial⟩, ⟨IntsAre.snoc hI _ _, by simp [hl], by dsimp only; omega, by dsimp only; omega, by dsimp only; omega, by dsimp only; omega, row_dn hst (by assumption) (.inl (by assumption))⟩, (List.forall_mem_cons.mpr ⟨rfl, List.forall_mem_cons.mpr ⟨rfl, List.forall_mem_nil _⟩⟩), ?s⟩
        | refine ⟨⟨_, _, _, _, _, ns ++ [d], _⟩, ⟨by k_mem, trivial⟩, ⟨IntsAre.snoc hI _ _, by simp [hl], by dsimp only; omega, by dsimp only; omega, by dsimp only; omega, by dsimp only; omega, row_dn hst (by assumption) (.inr (by assumption))⟩, (List.forall_mem_cons.mpr ⟨rfl, List.forall_mem_cons.mpr ⟨rfl, List.forall_mem_nil _⟩⟩), ?s⟩
        | refine ⟨⟨_, _, _, _, _, ns ++ [u], _⟩, ⟨by k_mem, trivial⟩, ⟨IntsAre.snoc hI _ _, by simp [hl], by dsimp only; omega, by dsimp only; omega, by dsimp only; omega, by dsimp only; omega, row_up hst (by rintro ⟨x1, x2 | x2⟩ <;> first | omega | contradiction)⟩, (List.forall_mem_cons.mpr ⟨rfl, List.forall_mem_cons.mpr ⟨rfl, List.forall_mem_nil _⟩⟩), ?s⟩
      case s =>
        exact Offs.out [Str.ofString "down", Str.ofString "up", Str.ofString "k"] rfl (by repeat (first | exact Offs.kst rfl | refine Offs.set ?_ (by decide))))
  · intro ⟨d, td, u, tu, vs, ns, nn⟩ uu h9 tk9 hF m₂ F9 N9
    clear lF' lN' lR'
    obtain ⟨hI, hl, hd0, hd1, hu0, hu1, hst⟩ := hF
    dsimp only at hI hl hd0 hd1 hu0 hu1 hst F9 N9
    replace F9 : Fr g L' h9 _ := F9
    replace N9 : News g L' h9 _ := N9
    k_steps
    (try dsimp only)
    (rename Fr _ _ _ _ => F8); (rename News _ _ _ _ => N8); (rename IntsAre _ _ => I8)
    have er : ns = (rowSt cut falls 6).2.2 := by rw [← hst]
    subst er
    refine hret _ _ _ _ _ (keeps_of hg N F8 N8 (fun p hp => nomatch hp)) (new_of hg N8 (List.mem_cons_self ..) (fun h => nomatch h)) (N8 _ (List.mem_cons_self ..)).1 ?_
    exact I8
end Mine
end
section
open PySem PySem.W PyProof.Rows PySem.Challenge PySem.Calls PySem.Spec PyProof.V
namespace Mine
theorem quote : ∀ {w : World} {mean : ExcName → Option Value} {mg mb : Str → Option Value} {A₀ : Around} {dp un : Nat} {gd : Option (List Code)} {env : Env} {outer : List Env} {base h₀ : Heap} {L : Addr} {m : Str → Option Value} {s : Shared} {R : Result → Shared → Prop} {st : Str} {t1 : Tok}
  (B : Below A₀ base outer h₀) (F : Fr h₀ L s.heap m) (X : (hd.heap_39 w.params).In h₀) (N : News h₀ L s.heap []) (T : Top hd.view_39 (looseW hd.view_39 [Str.ofString "insort_left", Str.ofString "bisect_left", Str.ofString "_twin_re_1", Str.ofString "_twin_re_2", Str.ofString "Whitespace"]) mean mg mb h₀)
  (hf : env.frame = some L) (hke : env.scope.kind = .function)
  (hl : st.cps.size ≤ 1000) (hl2 : (fixS st).cps.size ≤ 1000) (hd1 : dp ≤ 560) (hu : un ≤ 200)
  (hret : ∀ t' h' tk', (∀ b o, s.heap.get? b = some o → h'.get? b = some o) → R (.ok (.ret (.str (dotS (fixS st)) t'))) { s with heap := h', toks := tk' }),
  codeAny (model rw_sc0082_01.row.prog w) ⟨none, dp, some (env :: outer), gd, un⟩ (.call (.ref 87) ⟨[.str st t1], []⟩) R s := by
  k_with_none
  w_top off
  (k_with "storeName" => (k_here; k_dflt (first | (refine storeX_i (by k_asm) (by k_asm) ?_ (by rfl) (by rfl); k_whole; intro wh' wtk' wt' wm' wF' wN') | (refine storeX_s (by k_asm) (by k_asm) ?_ (by rfl) (by rfl); k_whole; intro wh' wtk' wt' wm' wF' wN') | (refine storeX_f (by k_asm) (by k_asm) ?_ (by rfl) (by rfl); k_whole; intro wh' wtk' wt' wm' wF' wN') | (refine storeX_v (by k_asm) (by k_asm) ?_ (by rfl) (by rfl); k_whole; intro wh' wtk' wm' wF' wN')); (try k_sweep)))
  (k_with "getMethod ref" => ((with_reducible show wpAny _ _ (getMethod (Value.ref _) (Str.ofString "sub") _) _ _ _); (rename Fr _ _ _ _ => wlF); k_dflt (refine reMethod (Fr.keep wlF _ _ ((by assumption : Frag.In _ _) _ _ (by k_is))) rfl rfl ?_)))
  (k_with "call builtin:re.Pattern.sub" => ((with_reducible show wpAny _ _ (call _ [Value.ref 80, _, _]) _ _ _); (rename Fr _ _ _ _ => wlF); (rename News _ _ _ _ => wlN); k_dflt (refine call_fix (Frag.In.keeps (by assumption) (Fr.keep wlF)) (by assumption) (fun wt9 wh9 wtk9 wk9 => ?_)); (have wF9 := wlF.keeps wk9); (have wN9 := wlN.grown wk9); clear wlF wlN wk9; (try dsimp only)))
  (k_with "call builtin:re.Pattern.sub" => ((with_reducible show wpAny _ _ (call _ [Value.ref 75, _, _]) _ _ _); (rename Fr _ _ _ _ => wlF); (rename News _ _ _ _ => wlN); k_dflt (refine call_dot (Frag.In.keeps (by assumption) (Fr.keep wlF)) (by assumption) (fun wt9 wh9 wtk9 wk9 => ?_)); (have wF9 := wlF.keeps wk9); (have wN9 := wlN.grown wk9); clear wlF wlN wk9; (try dsimp only)))
  k_fill
  intro w mean mg mb A₀ dp un gd env outer base h₀ L m s R st t1 B F X N T hf hke hl hl2 hd1 hu hret
  refine ent B F X N T rfl hf hke (by k_is) (by k_is) (by dsimp only; unfold recursionLimit; omega) (BindsTo.of_eq rfl) (locs rfl) ?_ rfl rfl rfl (by decide)
  intro g L' h' hg e₁ A₁ m₁ F' N' B' X' T'
  k_steps
  all_goals (
    (rename News g L' _ _ => N8); (rename Fr g L' _ _ => F8);
    exact hret _ _ _ (keeps_of hg N F8 N8 (fun p hp => nomatch hp)))
  all_goals trace_state
end Mine
end
section
open PySem PySem.W PyProof.Rows PySem.Challenge PySem.Calls PySem.Spec PyProof.V
namespace Mine
noncomputable def flatL (ps : List Str) : List Nat := (ps.map (·.cps.toList)).flatten
theorem fold_flat : ∀ (ps : List Str) (a : Array Nat), (ps.foldl (fun acc p => acc ++ (#[] : Array Nat) ++ p.cps) a).toList = a.toList ++ flatL ps
  | [], a => by simp [flatL]
  | p :: ps, a => by
    rw [List.foldl_cons, fold_flat ps]
    simp [flatL]
theorem join_flat (ps : List Str) : (Txt.join ⟨#[]⟩ ps).cps.toList = flatL ps := by
  show (Array.toList (List.foldl (fun acc p => acc ++ (#[] : Array Nat) ++ p.cps) (ps.headD Str.empty).cps (ps.drop 1))) = _
  rw [fold_flat]
  cases ps with
  | nil => rfl
  | cons p ps => simp [flatL]
theorem str_of_list {st : Str} {l : List Nat} (h : st.cps.toList = l) : st = ⟨l.toArray⟩ := by
  obtain ⟨c⟩ := st
  subst h
  simp
theorem ext_list (text : Array Nat) (a b : Nat) : (text.extract a b).toList = (text.toList.drop a).take (b - a) := by
  simp [Array.toList_extract, List.extract_eq_take_drop]
noncomputable def isE (c : Nat) : Bool := c == 10 || c == 13
noncomputable def fixL : List Nat → List Nat
  | [] => []
  | 13 :: 10 :: r => 13 :: 10 :: fixL r
  | c :: r => if isE c then 13 :: 10 :: fixL r else c :: fixL r
theorem fixL_no {c : Nat} {r : List Nat} (h : isE c = false) : fixL (c :: r) = c :: fixL r := by
  have h1 : c ≠ 13 := by intro e; subst e; simp [isE] at h
  rw [fixL]
  · rw [if_neg (by rw [h]; decide)]
  · intro r' e; exact absurd e h1
theorem fixL_lf {r : List Nat} : fixL (10 :: r) = 13 :: 10 :: fixL r := by rw [fixL]; rfl; simp
theorem fixL_crlf {r : List Nat} : fixL (13 :: 10 :: r) = 13 :: 10 :: fixL r := by rw [fixL]
theorem fixL_cr {r : List Nat} (h : r.head? ≠ some 10) : fixL (13 :: r) = 13 :: 10 :: fixL r := by
  rw [fixL]; rfl
  intro r' _ e; subst e; simp at h
theorem fixL_app : ∀ {pre r : List Nat}, (∀ c ∈ pre, isE c = false) → fixL (pre ++ r) = pre ++ fixL r
  | [], r, _ => rfl
  | c :: pre, r, h => by
    rw [List.cons_append, fixL_no (h c (.head _)), fixL_app fun d hd => h d (.tail _ hd)]
    rfl
theorem getD_drop {text : Array Nat} {p c : Nat} (hp : p < text.size) (h : text.getD p 0 = c) : text.toList.drop p = c :: text.toList.drop (p + 1) := by
  have e : text.toList[p]'(by simpa using hp) = c := by
    simp [Array.getD, hp] at h
    simpa using h
  rw [List.drop_eq_getElem_cons (by simpa using hp), e]
theorem take_drop_app {l : List Nat} {a p : Nat} (h : a ≤ p) : (l.drop a).take (p - a) ++ l.drop p = l.drop a := by
  have := List.take_append_drop (p - a) (l.drop a)
  rw [List.drop_drop, show a + (p - a) = p by omega] at this
  exact this
theorem nextE_pre {text : Array Nat} {lim : Nat} (hl : lim = text.size) : ∀ (fuel s p : Nat), nextE text lim fuel s = some p → ∀ c ∈ (text.toList.drop s).take (p - s), isE c = false
  | 0, _, _, h => by cases h
  | fuel + 1, s, p, h => by
    unfold nextE at h
    by_cases hs : lim ≤ s
    · rw [if_pos hs] at h; cases h
    · rw [if_neg hs] at h
      by_cases hh : (text.getD s 0 == 10 || text.getD s 0 == 13) = true
      · rw [if_pos hh] at h
        cases h
        simp
      · rw [if_neg hh] at h
        have r := nextE_pre hl fuel (s + 1) p h
        have r2 := (nextE_spec fuel (s + 1) p h).1
        rw [getD_drop (by omega) rfl, show p - s = (p - (s + 1)) + 1 by omega, List.take_succ_cons]
        intro c hc
        rcases List.mem_cons.mp hc with rfl | hc
        · simpa [isE] using hh
        · exact r c hc
theorem nextE_none {text : Array Nat} {lim : Nat} (hl : lim = text.size) : ∀ (fuel s : Nat), lim - s < fuel → nextE text lim fuel s = none → ∀ c ∈ text.toList.drop s, isE c = false
  | 0, _, hf, _ => by omega
  | fuel + 1, s, hf, h => by
    unfold nextE at h
    by_cases hs : lim ≤ s
    · rw [List.drop_eq_nil_of_le (by simp; omega)]
      intro c hc; cases hc
    · rw [if_neg hs] at h
      by_cases hh : (text.getD s 0 == 10 || text.getD s 0 == 13) = true
      · rw [if_pos hh] at h; cases h
      · rw [if_neg hh] at h
        have r := nextE_none hl fuel (s + 1) (by omega) h
        rw [getD_drop (by omega) rfl]
        intro c hc
        rcases List.mem_cons.mp hc with rfl | hc
        · simpa [isE] using hh
        · exact r c hc
theorem crlf_l : (Str.ofString "\r\n").cps = #[13, 10] := by decide +kernel
theorem dots_l : (Str.ofString "..").cps = #[46, 46] := by decide +kernel
theorem flat_app (a b : List Str) : flatL (a ++ b) = flatL a ++ flatL b := by simp [flatL]
theorem flat_cut {text : Array Nat} {a b : Nat} : flatL (if a < b then [(⟨text.extract a b⟩ : Str)] else []) = (text.toList.drop a).take (b - a) := by
  split
  · simp [flatL, List.extract_eq_take_drop]
  · rw [show b - a = 0 by omega]; simp [flatL]
theorem flat_cons (a : Str) (b : List Str) : flatL (a :: b) = a.cps.toList ++ flatL b := by simp [flatL]
theorem fix_pieces {text : Array Nat} : ∀ (fuel a : Nat), text.size - a < fuel → a ≤ text.size → flatL (piecesF (found2 text text.size) text #[13, 10] text.size fuel a) = fixL (text.toList.drop a)
  | 0, _, h, _ => by omega
  | fuel + 1, a, h, ha => by
    unfold piecesF
    cases e : find2 text text.size a with
    | none =>
      have e' : found2 text text.size a = none := by rw [found2, e]; rfl
      rw [e']
      show flatL (if a < text.size then [_] else []) = _
      rw [flat_cut]
      have hno : ∀ c ∈ text.toList.drop a, isE c = false := by
        unfold find2 at e
        split at e
        · exact nextE_none rfl _ _ (by omega) e
        · rw [List.drop_eq_nil_of_le (by simp; omega)]
          intro c hc; cases hc
      have := fixL_app (r := []) hno
      rw [List.append_nil, fixL, List.append_nil] at this
      rw [this, List.take_of_length_le (by simp)]
    | some p =>
      have e' : found2 text text.size a = some (p, endAt text text.size p) := by rw [found2, e]; rfl
      rw [e']
      show flatL ((if a < p then [_] else []) ++ _ :: piecesF _ _ _ _ fuel (endAt text text.size p)) = _
      have g := (finds2 text).go _ _ _ e'
      rw [flat_app, flat_cut, flat_cons, fix_pieces fuel _ (by omega) g.2.2]
      unfold find2 at e
      split at e
      · have r := nextE_spec _ _ _ e
        have q := nextE_pre rfl _ _ _ e
        conv => rhs; rw [← take_drop_app (l := text.toList) r.1, fixL_app q]
        congr 1
        show [13, 10] ++ _ = _
        rcases r.2.2 with hc | hc
        · have e1 : endAt text text.size p = p + 1 := by rw [endAt, if_neg (by rw [hc]; omega)]
          rw [e1, getD_drop r.2.1 hc, fixL_lf]
          rfl
        · by_cases hx : p + 1 < text.size ∧ text.getD (p + 1) 0 = 10
          · have e1 : endAt text text.size p = p + 2 := by rw [endAt, if_pos ⟨hc, hx⟩]
            rw [e1, getD_drop r.2.1 hc, getD_drop hx.1 hx.2, fixL_crlf]
            rfl
          · have e1 : endAt text text.size p = p + 1 := by rw [endAt, if_neg (fun z => hx z.2)]
            rw [e1, getD_drop r.2.1 hc, fixL_cr]
            · rfl
            · by_cases hy : p + 1 < text.size
              · rw [getD_drop hy rfl]
                intro z
                exact hx ⟨hy, by simpa using z⟩
              · rw [List.drop_eq_nil_of_le (by simp; omega)]; simp
      · cases e
theorem fixS_eq (st : Str) : fixS st = ⟨(fixL st.cps.toList).toArray⟩ := by
  refine str_of_list ?_
  unfold fixS
  rw [join_flat, crlf_l, fix_pieces _ _ (by omega) (Nat.zero_le _), List.drop_zero]
noncomputable def dotL : Bool → List Nat → List Nat
  | _, [] => []
  | b, c :: r => if b && c == 46 then 46 :: 46 :: dotL false r else c :: dotL (c == 10) r
noncomputable def bolB (text : Array Nat) (s : Nat) : Bool := decide (s = 0 ∨ text.getD (s - 1) 0 = 10)
theorem find1_law {text : Array Nat} {lim : Nat} (hl : lim = text.size) : ∀ (k s : Nat), s + k = lim → match find1 text lim k s with
    | some p => s ≤ p ∧ p < lim ∧ text.getD p 0 = 46 ∧ dotL (bolB text s) (text.toList.drop s) = (text.toList.drop s).take (p - s) ++ 46 :: 46 :: dotL false (text.toList.drop (p + 1))
    | none => dotL (bolB text s) (text.toList.drop s) = text.toList.drop s
  | 0, s, h => by
    show dotL _ _ = _
    rw [List.drop_eq_nil_of_le (by simp; omega)]
    rfl
  | k + 1, s, h => by
    have ih := find1_law hl k (s + 1) (by omega)
    have hd := getD_drop (text := text) (p := s) (by omega) rfl
    unfold find1
    by_cases hc : (s = 0 ∨ text.getD (s - 1) 0 = 10) ∧ text.getD s 0 = 46
    · rw [if_pos hc]
      refine ⟨Nat.le_refl _, by omega, hc.2, ?_⟩
      rw [hd, hc.2, Nat.sub_self, dotL, if_pos]
      · rfl
      · rw [show bolB text s = true from decide_eq_true hc.1]; rfl
    · rw [if_neg hc]
      have e : dotL (bolB text s) (text.toList.drop s) = text.getD s 0 :: dotL (bolB text (s + 1)) (text.toList.drop (s + 1)) := by
        have hb : bolB text (s + 1) = (text.getD s 0 == 10) := by
          unfold bolB
          rw [Bool.eq_iff_iff]
          simp
        rw [hd, dotL, if_neg, hb]
        intro hh
        refine hc ?_
        simpa [bolB] using hh
      cases q : find1 text lim k (s + 1) with
      | none =>
        rw [q] at ih
        show dotL _ _ = _
        have ih' : dotL (bolB text (s + 1)) (text.toList.drop (s + 1)) = text.toList.drop (s + 1) := ih
        rw [e, ih', hd]
      | some p =>
        rw [q] at ih
        obtain ⟨h1, h2, h3, h4⟩ := ih
        refine ⟨by omega, h2, h3, ?_⟩
        rw [e, h4, hd, show p - s = (p - (s + 1)) + 1 by omega, List.take_succ_cons]
        rfl
theorem dot_pieces {text : Array Nat} : ∀ (fuel a : Nat), text.size - a < fuel → a ≤ text.size → flatL (piecesF (found1 text text.size) text #[46, 46] text.size fuel a) = dotL (bolB text a) (text.toList.drop a)
  | 0, _, h, _ => by omega
  | fuel + 1, a, h, ha => by
    have r := find1_law (text := text) rfl (text.size - a) a (by omega)
    unfold piecesF
    cases e : find1 text text.size (text.size - a) a with
    | none =>
      rw [e] at r
      have r' : dotL (bolB text a) (text.toList.drop a) = text.toList.drop a := r
      have e' : found1 text text.size a = none := by rw [found1, e]; rfl
      rw [e']
      show flatL (if a < text.size then [_] else []) = _
      rw [flat_cut, r', List.take_of_length_le (by simp)]
    | some p =>
      rw [e] at r
      obtain ⟨h1, h2, h3, h4⟩ := r
      have e' : found1 text text.size a = some (p, p + 1) := by rw [found1, e]; rfl
      rw [e']
      show flatL ((if a < p then [_] else []) ++ _ :: piecesF _ _ _ _ fuel (p + 1)) = _
      rw [flat_app, flat_cut, flat_cons, dot_pieces fuel _ (by omega) (by omega), h4]
      have hb : bolB text (p + 1) = false := by
        unfold bolB
        rw [decide_eq_false_iff_not]
        simp [h3]
      rw [hb]
      rfl
theorem dotS_eq (st : Str) : dotS st = ⟨(dotL true st.cps.toList).toArray⟩ := by
  refine str_of_list ?_
  unfold dotS
  rw [join_flat, dots_l, dot_pieces _ _ (by omega) (Nat.zero_le _), List.drop_zero]
  rfl
/-- a line: n dots, a tab, a sign, an end -/
noncomputable def lineL (n c : Nat) (e : List Nat) : List Nat := List.replicate n 46 ++ 9 :: c :: e
noncomputable def typedL : List (Nat × Nat × List Nat) → List Nat
  | [] => [120]
  | (n, c, e) :: r => lineL n c e ++ typedL r
noncomputable def okE (e : List Nat) : Prop := e = [10] ∨ e = [13] ∨ e = [13, 10]
theorem typed_head : ∀ {ls : List (Nat × Nat × List Nat)}, (typedL ls).head? ≠ some 10
  | [] => by simp [typedL]
  | (0, c, e) :: r => by simp [typedL, lineL]
  | (n + 1, c, e) :: r => by simp [typedL, lineL, List.replicate_succ]
theorem fix_typed : ∀ (ls : List (Nat × Nat × List Nat)), (∀ q ∈ ls, isE q.2.1 = false ∧ okE q.2.2) → fixL (typedL ls) = typedL (ls.map fun q => (q.1, q.2.1, [13, 10]))
  | [], _ => by simp [typedL, fixL, isE]
  | (n, c, e) :: r, h => by
    have ih := fix_typed r fun q hq => h q (.tail _ hq)
    obtain ⟨hc, he⟩ := h _ (.head _)
    show fixL (List.replicate n 46 ++ 9 :: c :: e ++ typedL r) = List.replicate n 46 ++ 9 :: c :: [13, 10] ++ typedL _
    rw [List.append_assoc, fixL_app (fun d hd => by rw [(List.mem_replicate.mp hd).2]; rfl), List.append_assoc]
    congr 1
    show fixL (9 :: c :: (e ++ typedL r)) = 9 :: c :: 13 :: 10 :: typedL _
    rw [fixL_no rfl, fixL_no hc, ← ih]
    congr 2
    have he' : okE e := he
    rcases he' with rfl | rfl | rfl
    · exact fixL_lf
    · exact fixL_cr typed_head
    · exact fixL_crlf
theorem dot_no : ∀ {l r : List Nat}, (∀ c ∈ l, c ≠ 10) → dotL false (l ++ r) = l ++ dotL false r
  | [], _, _ => rfl
  | c :: l, r, h => by
    rw [List.cons_append, dotL, if_neg (by simp), show (c == 10) = false by simpa using h c (.head _), dot_no fun d hd => h d (.tail _ hd)]
    rfl
theorem dot_typed : ∀ (ls : List (Nat × Nat × List Nat)), (∀ q ∈ ls, 1 ≤ q.1 ∧ q.2.1 ≠ 10 ∧ q.2.2 = [13, 10]) → dotL true (typedL ls) = typedL (ls.map fun q => (q.1 + 1, q.2))
  | [], _ => by simp [typedL, dotL]
  | (0, c, e) :: r, h => by have := (h _ (.head _)).1; simp at this
  | (n + 1, c, e) :: r, h => by
    have ih := dot_typed r fun q hq => h q (.tail _ hq)
    obtain ⟨_, hc, he⟩ := h _ (.head _)
    have he' : e = [13, 10] := he
    subst he'
    show dotL true (List.replicate (n + 1) 46 ++ 9 :: c :: [13, 10] ++ typedL r) = List.replicate (n + 1 + 1) 46 ++ 9 :: c :: [13, 10] ++ typedL _
    rw [List.replicate_succ, List.cons_append, List.cons_append, dotL, if_pos (by rfl), List.append_assoc, dot_no (fun d hd => by rw [(List.mem_replicate.mp hd).2]; decide), ← ih]
    have e1 : dotL false (9 :: c :: [13, 10] ++ typedL r) = 9 :: c :: [13, 10] ++ dotL true (typedL r) := by
      have hc' : (c == 10) = false := by simpa using hc
      simp [dotL, hc']
    rw [e1, List.replicate_succ, List.replicate_succ]
    simp
end Mine
end
section
open PySem PySem.W PyProof.Rows PySem.Challenge PySem.Calls PySem.Spec PyProof.V
namespace Mine
theorem lit_dot : Str.ofString "." = ⟨([46] : List Nat).toArray⟩ := by decide +kernel
theorem lit_tab : Str.ofString "\t" = ⟨([9] : List Nat).toArray⟩ := by decide +kernel
theorem lit_x : Str.ofString "x" = ⟨([120] : List Nat).toArray⟩ := by decide +kernel
theorem lit_lf : Str.ofString "\n" = ⟨([10] : List Nat).toArray⟩ := by decide +kernel
theorem lit_cr : Str.ofString "\r" = ⟨([13] : List Nat).toArray⟩ := by decide +kernel
theorem lit_crlf : Str.ofString "\r\n" = ⟨([13, 10] : List Nat).toArray⟩ := by decide +kernel
theorem lit_empty : Str.ofString "" = ⟨([] : List Nat).toArray⟩ := by decide +kernel
theorem reps_dot : ∀ (n : Nat) (a : Array Nat), ((List.replicate n #[46]).foldl (· ++ ·) a).toList = a.toList ++ List.replicate n 46
  | 0, a => by simp
  | n + 1, a => by
    rw [List.replicate_succ, List.foldl_cons, reps_dot n, List.replicate_succ]
    simp
theorem mul_dot {n : Int} (h : 0 ≤ n) : Txt.mul (Str.ofString ".") n = ⟨(List.replicate n.toNat 46).toArray⟩ := by
  rw [lit_dot]
  unfold Txt.mul
  by_cases h1 : n < 1
  · rw [if_pos h1, show n = 0 by omega]; rfl
  · rw [if_neg h1]
    by_cases h2 : n = 1
    · subst h2; rfl
    · rw [if_neg (by simp [h2, Str.length])]
      congr 1
      apply Array.ext'
      rw [reps_dot]
      simp
section
variable {prog : Program} {w : World} {A : Around} {E : Value → Shared → Prop} {s : Shared} {Q : Value → Shared → Prop} {value slice : Expr} {t u : Tok}
theorem op_mul {n : Int} (h0 : 0 ≤ n) (h1 : n ≤ 100) (h : ∀ t' k, Q (.str ⟨(List.replicate n.toNat 46).toArray⟩ t') { s with toks := k }) : wpAny (model prog w) A (binaryOp .Mult (.str (Str.ofString ".") t) (.int n u)) Q E s := by
  refine SB.mul (mulOk_of 16 1048576 (by decide +kernel) (by omega) (by omega) (by decide) (by decide)) ?_
  rw [mul_dot h0]
  exact h
theorem op_add {a b : Str} {la lb : List Nat} (ha : a = ⟨la.toArray⟩) (hb : b = ⟨lb.toArray⟩) (hz : la.length + lb.length ≤ 5000) (h : ∀ t' k, Q (.str ⟨(la ++ lb).toArray⟩ t') { s with toks := k }) : wpAny (model prog w) A (binaryOp .Add (.str a t) (.str b u)) Q E s := by
  subst ha hb
  refine SB.add ?_ (by rw [sizeLine_eq]; show la.toArray.size + lb.toArray.size ≤ _; rw [List.size_toArray, List.size_toArray]; omega)
  have e : ((⟨la.toArray⟩ : Str) ++ (⟨lb.toArray⟩ : Str)) = ⟨(la ++ lb).toArray⟩ := by
    show (⟨la.toArray ++ lb.toArray⟩ : Str) = _
    rw [List.append_toArray]
  rw [e]
  exact h
theorem letter_at {y : Int} (h1 : 1 ≤ y) (h2 : y ≤ 6) : Txt.item (Str.ofString "abcdef") (y - 1) = ⟨([96 + y.toNat] : List Nat).toArray⟩ := by
  have : y = 1 ∨ y = 2 ∨ y = 3 ∨ y = 4 ∨ y = 5 ∨ y = 6 := by omega
  rcases this with rfl | rfl | rfl | rfl | rfl | rfl <;> decide +kernel
theorem op_letter {y : Int} (h1 : 1 ≤ y) (h2 : y ≤ 6) (h : ∀ t' k, Q (.str ⟨([96 + y.toNat] : List Nat).toArray⟩ t') { s with toks := k })
    (hs : subscripted slice false (.str (Str.ofString "abcdef") t) (.int (y - 1) u) = operate [.str (Str.ofString "abcdef") t, .int (y - 1) u] (getItem (.str (Str.ofString "abcdef") t) (.int (y - 1) u)) := by with_unfolding_all rfl)
    (ht : ∀ r, letTemporaryGo value (.str (Str.ofString "abcdef") t) r = pure () := by intro _; with_unfolding_all rfl) :
    wpAny (model prog w) A (subscriptTail value slice (.str (Str.ofString "abcdef") t) (.int (y - 1) u)) Q E s := by
  have hl : (Str.ofString "abcdef").length = 6 := by decide +kernel
  refine item_str (by unfold fitsSsize; simp; omega) (by rw [hl]; omega) (by rw [hl]; omega) (fun _ => ?_) hs ht
  rw [letter_at h1 h2]
  exact h _ _
end
end Mine
end
section
open PySem PySem.W PyProof.Rows PySem.Challenge PySem.Calls PySem.Spec PyProof.V
namespace Mine
open PySem.StrLaws Builtin.Str
noncomputable def mkS (l : List Nat) : Str := ⟨l.toArray⟩
noncomputable def bodyL : List (List Nat) → List Nat → List Nat
  | [], last => last
  | l :: L, last => l ++ 13 :: 10 :: bodyL L last
theorem at_crlf {l : List Nat} {i : Nat} : At (mkS l) (mkS [13, 10]) (mkS l).length i ↔ ∃ r, l.drop i = 13 :: 10 :: r := by
  unfold At
  rw [subAt_eq]
  show i + 2 ≤ l.toArray.size ∧ _ ↔ _
  rw [List.size_toArray]
  show i + 2 ≤ l.length ∧ ((l.drop i).take 2 == [13, 10]) = true ↔ _
  rw [beq_iff_eq]
  constructor
  · rintro ⟨h, e⟩
    refine ⟨(l.drop i).drop 2, ?_⟩
    have := List.take_append_drop 2 (l.drop i)
    rw [e] at this
    exact this.symm
  · rintro ⟨r, e⟩
    refine ⟨?_, by rw [e]; rfl⟩
    have := congrArg List.length e
    simp at this
    omega
theorem no_at {pre l r : List Nat} (h : 13 ∉ l) {k : Nat} (h1 : pre.length ≤ k) (h2 : k < pre.length + l.length) : ¬ At (mkS (pre ++ (l ++ r))) (mkS [13, 10]) (mkS (pre ++ (l ++ r))).length k := by
  rw [at_crlf]
  rintro ⟨q, e⟩
  apply h
  have e0 : (pre ++ (l ++ r))[k]? = some 13 := by
    have := congrArg (·[0]?) e
    simpa using this
  rw [List.getElem?_append_right h1, List.getElem?_append_left (by omega)] at e0
  exact List.mem_of_getElem? e0
theorem cut_parts : ∀ (L : List (List Nat)) (last pre : List Nat) (cuts : List Nat) (f : Nat), (∀ l ∈ L, 13 ∉ l) → 13 ∉ last →
    ChainG (mkS (pre ++ bodyL L last)) (mkS [13, 10]) (mkS (pre ++ bodyL L last)).length pre.length cuts f → (∀ k, f ≤ k → ¬ At (mkS (pre ++ bodyL L last)) (mkS [13, 10]) (mkS (pre ++ bodyL L last)).length k) →
    ((pre.length :: cuts.map (· + 2)).zip (cuts ++ [(mkS (pre ++ bodyL L last)).length])).map (fun p => strSub (mkS (pre ++ bodyL L last)) p.1 p.2) = L.map mkS ++ [mkS last]
  | [], last, pre, cuts, f, _, hl, hc, hf => by
    have e0 : pre ++ bodyL [] last = pre ++ (last ++ []) := by simp [bodyL]
    rw [e0] at hc hf ⊢
    cases cuts with
    | nil =>
      show [strSub _ _ _] = _
      refine congrArg (· :: []) ?_
      refine str_of_list ?_
      rw [strSub_toList]
      show ((pre ++ (last ++ [])).drop pre.length).take ((pre ++ (last ++ [])).toArray.size - pre.length) = _
      rw [List.size_toArray]
      simp
    | cons c r =>
      obtain ⟨h1, h2, _⟩ := hc
      by_cases hk : c < pre.length + last.length
      · exact absurd h2 (no_at hl h1 hk)
      · have := h2.1
        have e : (mkS (pre ++ (last ++ []))).length = pre.length + last.length := by show (List.toArray _).size = _; rw [List.size_toArray]; simp
        rw [e] at this
        have : c + 2 ≤ pre.length + last.length := this
        omega
  | l :: L, last, pre, cuts, f, hL, hl, hc, hf => by
    have hA : At (mkS (pre ++ bodyL (l :: L) last)) (mkS [13, 10]) (mkS (pre ++ bodyL (l :: L) last)).length (pre.length + l.length) := by
      rw [at_crlf]
      refine ⟨bodyL L last, ?_⟩
      show (pre ++ (l ++ 13 :: 10 :: bodyL L last)).drop (pre.length + l.length) = _
      rw [← List.append_assoc, List.drop_append_of_le_length (by simp), List.drop_of_length_le (by simp)]
      rfl
    have hno : ∀ k, pre.length ≤ k → k < pre.length + l.length → ¬ At (mkS (pre ++ bodyL (l :: L) last)) (mkS [13, 10]) (mkS (pre ++ bodyL (l :: L) last)).length k := fun k h1 h2 => no_at (r := 13 :: 10 :: bodyL L last) (hL l (.head _)) h1 h2
    cases cuts with
    | nil =>
      have e : f = pre.length := hc
      exact absurd hA (hf _ (by omega))
    | cons c r =>
      obtain ⟨h1, h2, h3, h4⟩ := hc
      have hcp : c = pre.length + l.length := by
        rcases Nat.lt_trichotomy c (pre.length + l.length) with h | h | h
        · exact absurd h2 (hno c h1 h)
        · exact h
        · exact absurd hA (h3 _ (by omega) h)
      subst hcp
      have ex : pre ++ bodyL (l :: L) last = (pre ++ (l ++ [13, 10])) ++ bodyL L last := by simp [bodyL]
      have el : (pre ++ (l ++ [13, 10])).length = pre.length + l.length + 2 := by simp; omega
      have ih := cut_parts L last (pre ++ (l ++ [13, 10])) r f (fun q hq => hL q (.tail _ hq)) hl (by rw [← ex, el]; exact h4) (by rw [← ex]; exact hf)
      rw [← ex, el] at ih
      show strSub _ _ _ :: _ = mkS l :: _
      refine congr (congrArg List.cons ?_) ih
      refine str_of_list ?_
      rw [strSub_toList]
      show ((pre ++ (l ++ 13 :: 10 :: bodyL L last)).drop pre.length).take (pre.length + l.length - pre.length) = _
      simp
theorem kind_ge (x : Str) : 1 ≤ PySem.Builtin.Str.strKind x := by
  unfold PySem.Builtin.Str.strKind
  split
  · omega
  · split <;> omega
theorem split_lines {L : List (List Nat)} {last : List Nat} (hL : ∀ l ∈ L, 13 ∉ l) (hl : 13 ∉ last) (hk : 2 ≤ (mkS (bodyL L last)).length) : Txt.split (mkS (bodyL L last)) (mkS [13, 10]) = L.map mkS ++ [mkS last] := by
  obtain ⟨f, hc, hf⟩ := occ_tight (mkS (bodyL L last)) (mkS [13, 10]) (by decide)
  have h := cut_parts L last [] _ f hL hl hc hf
  rw [List.nil_append] at h
  unfold Txt.split
  have e1 : (decide ((mkS (bodyL L last)).length < (mkS [13, 10]).length) || decide (PySem.Builtin.Str.strKind (mkS (bodyL L last)) < PySem.Builtin.Str.strKind (mkS [13, 10]))) = false := by
    have a1 : (mkS [13, 10]).length = 2 := rfl
    have a2 : PySem.Builtin.Str.strKind (mkS [13, 10]) = 1 := by decide +kernel
    have a3 := kind_ge (mkS (bodyL L last))
    rw [a1, a2, Bool.or_eq_false_iff]
    exact ⟨decide_eq_false (by omega), decide_eq_false (by omega)⟩
  rw [e1, if_neg (by decide), ← h]
  split
  · rename_i q
    have q' : occurrences (mkS (bodyL L last)) (mkS [13, 10]) 0 (mkS (bodyL L last)).length ((mkS (bodyL L last)).length + 1) = [] := by simpa using q
    rw [q']
    show [_] = [strSub _ 0 _]
    refine congrArg (· :: []) (Eq.symm (str_of_list ?_))
    rw [strSub_toList, List.drop_zero, List.take_of_length_le]
    · simp [mkS]
    · rw [Nat.sub_zero]
      show _ ≤ (List.toArray _).size
      simp [mkS]
  · rfl
end Mine
end
section
open PySem PySem.W PyProof.Rows PySem.Challenge PySem.Calls PySem.Spec PyProof.V
namespace Mine
section
variable {prog : Program} {w : World} {A : Around} {E : Value → Shared → Prop} {s : Shared} {env : Env} {h₀ : Heap} {body : List Stmt} {Q : Flow → Shared → Prop}
noncomputable def strItms (y : List Nat) (i k : Nat) : List Itm := ((y.drop i).take k).map fun c => .tok (fun t => .str ⟨#[c]⟩ t)
theorem str_J {σ : Type} {x : Str} {pos : Pos} {y : Str} {ty : Tok} {m₀ : Str → Option Value} {news : List (Addr × Obj)} (Led : σ → List (Addr × Obj)) (ps : σ → List (Str × Value)) (Facts : Nat → σ → Prop) (stored : List Str) (c₀ : σ)
    (hh : A.handled = none) (hy : y.cps.all (· < 128) = true) (F : Fr h₀ env.locals s.heap m₀) (N : News h₀ env.locals s.heap news)
    (hL : SubL (Led c₀) news) (hf : Facts 0 c₀) (hk : ∀ p ∈ ps c₀, m₀ p.1 = some p.2)
    (turn : ∀ i (d : σ) c t (u : Str → Option Value) (o : Obj) I h tk (Q₁ : Flow → Shared → Prop), y.cps[i]? = some c → (∀ p ∈ news, p.1 < I) → Facts i d → o.cls = .type "str_ascii_iterator" → let m₁ := kstB (fun z => if stored.contains z then u z else m₀ z) (ps d); Fr h₀ env.locals h m₁ → News h₀ env.locals h ((I, o) :: Led d) →
      (∀ f s', UnrPostW h₀ env.locals { s with heap := h, toks := tk } [(I, o)] (fun m' n' => SubL [] n' ∧ JSt Led ps Facts stored m₀ (i + 1) m' n') Q f s' → Q₁ f s') →
      wpAny (model prog w) A (assign (.Name x pos) env (.str ⟨#[c]⟩ t)) (fun _ s₂ => wpAny (model prog w) A (execs body env) Q₁ E s₂) E { s with heap := h, toks := tk })
    (done : ∀ (d : σ) (u : Str → Option Value) h tk, Facts y.cps.size d → let m₁ := kstB (fun z => if stored.contains z then u z else m₀ z) (ps d); Fr h₀ env.locals h m₁ → News h₀ env.locals h (Led d) → Q .next { s with heap := h, toks := tk }) :
    wpAny (model prog w) A (pyIter (.str y ty)) (fun it s₂ => TurnsAt prog w A h₀ env (.Name x pos) body Q E it s₂) E s := by
  refine wpAny_pyIter_ascii hy ?_
  have hlen : y.cps.size = (strItms y.cps.toList 0 y.cps.size).length := by simp [strItms]
  refine ktu_core (tk0 := s.toks) (ws := [(s.heap.objs.size, "str_ascii_iterator")]) (keep := []) (KTurns.ofWalks (Walks.strAscii hh s.heap.objs.size y ty) fun i v s Q E st q => letGo_name q) hlen (fun i v h hp => ?_) (fun i h st => ?_) (fun b hb => ?_) (fun b hb => by simpa using hb) (fun b hb => ?_) ?_ (fun p hp hI => ?_) ?_ (F.push _) (fun p hp => ⟨Heap.get?_push_of_some _ (N p hp).1, (N p hp).2⟩) trivial
    (items_J Led ps Facts stored m₀ (n := y.cps.size) (strItms y.cps.toList) (fun i v _ => ∃ c t, y.cps[i]? = some c ∧ v = .str ⟨#[c]⟩ t) (fun i k e => ?_) (fun i => by simp [strItms]) (fun i d v u o h tk nw Q₁ hi hv hF _ ho F' N' hQ => ?_) done y.cps.size 0 m₀ news (by omega) trivial ⟨c₀, hL, hf, hk, fun _ _ _ => rfl⟩)
  · obtain ⟨c, u, hc, rfl⟩ := hp
    refine ⟨.tok (fun t => .str ⟨#[c]⟩ t), ?_, u, rfl⟩
    rw [strItms, List.drop_zero, List.take_of_length_le (by simp)]
    simp [hc]
  · obtain ⟨o, ho, r⟩ := st
    exact ⟨[(s.heap.objs.size, o)], ⟨⟨rfl, r.1⟩, trivial⟩, fun p hp => by rw [List.mem_singleton.mp hp]; exact ho⟩
  · have hb' : b = s.heap.objs.size := by simpa using hb
    rw [hb']
    exact ⟨List.mem_cons_self .., next_is_new F⟩
  · exact .inl (by simpa using hb)
  · intro hI
    exact absurd F.ns.lt ((List.mem_singleton.mp hI) ▸ Nat.lt_irrefl _)
  · exact absurd (Heap.lt_size (N p hp).1) ((List.mem_singleton.mp hI) ▸ Nat.lt_irrefl _)
  · exact ⟨_, Heap.get?_push_size _ rfl, rfl, rfl⟩
  · have hi : i < y.cps.toList.length := by simp; omega
    refine ⟨.tok (fun t => .str ⟨#[y.cps.toList[i]]⟩ t), ?_, fun v h hv => ?_⟩
    · show List.map _ ((y.cps.toList.drop i).take (k + 1)) = _
      rw [List.drop_eq_getElem_cons hi, List.take_succ_cons, List.map_cons]
      rfl
    · obtain ⟨t, e⟩ := hv
      exact ⟨_, t, by simp, e⟩
  · obtain ⟨c, t, hc, rfl⟩ := hv
    exact turn i d c t u o _ h tk Q₁ hc (fun p hp => Heap.lt_size (N p hp).1) hF ho F' N' hQ
end
end Mine
end
section
open PySem PySem.W PyProof.Rows PySem.Challenge PySem.Calls PySem.Spec PyProof.V
namespace Mine
theorem tup_list {prog : Program} {w : World} {A : Around} {E Q : Value → Shared → Prop} {s : Shared} {h₀ : Heap} {L : Addr} {m : Str → Option Value} {news : List (Addr × Obj)} {l : Addr} {vs : List Value} {cc : Nat}
    (F : Fr h₀ L s.heap m) (N : News h₀ L s.heap news) (hl : (l, listOf vs.toArray cc) ∈ news) (hz : vs.length ≤ 1000)
    (h : ∀ D h', Fr h₀ L h' m → News h₀ L h' ((D, { cls := .type "tuple", data := .seq vs.toArray }) :: news) → (∀ p ∈ news, p.1 < D) → Q (.ref D) { s with heap := h' }) :
    wpAny (model prog w) A (call (.type "tuple") [.ref l]) Q E s := by
  refine call_tuple_list (News.isList N hl) (fun h' hk => ?_) (by rw [sizeLine_eq, List.size_toArray]; omega)
  have F1 := F.keeps hk
  have N1 := N.grown hk
  exact h _ _ (F1.push _) (N1.push F1 _) fun p hp => Heap.lt_size (N1 p hp).1
theorem make_K' {prog : Program} {w : World} {A : Around} {s : Shared} {h₀ : Heap} {L : Addr} {m : Str → Option Value} {K : Frag} {C : Addr} {R : Result → Shared → Prop} {news : List (Addr × Obj)} {rest : List Value} {kw : List (Str × Value)} {fI : Addr} (F : Fr h₀ L s.heap m) (N : News h₀ L s.heap news) (X : K.In s.heap) (hm : makesIn K C = true)
    (hi : findIn K (.ref C) "__init__" = some (some (.ref fI))) (hf : typeIn K (.ref fI) = some (.type "function"))
    (h : ∀ x dx h', Fr h₀ L h' m → News h₀ L h' ((x, instObj C dx) :: (dx, emptyDict) :: news) → (∀ p ∈ news, p.1 < dx) → dx < x → (∀ b o, s.heap.get? b = some o → h'.get? b = some o) → s.heap.objs.size ≤ dx →
      codeAny (model prog w) (A.under (.builtin "type.__call__" ⟨.ref C :: rest, kw⟩)) (.call (.ref fI) ⟨.ref x :: rest, kw⟩) (InitBack x R) { s with heap := h' }) :
    codeAny (model prog w) A (.call (.ref C) ⟨rest, kw⟩) R s := by
  obtain ⟨hh, g, d, t, os⟩ := s
  refine make_core (makes_of X hm) (looks_findIn X hi) (fun self => bind_fn X self hf) (.inl rfl) (h _ hh.objs.size _ ((F.push _).push _) ?_ (fun p hp => Heap.lt_size (N p hp).1) (Nat.lt_succ_self _) (fun b o e => Heap.get?_push_of_some _ (Heap.get?_push_of_some _ e)) (Nat.le_refl _))
  have := (N.push F emptyDict).push (F.push _) (instObj C hh.objs.size)
  rwa [Heap.size_push] at this
theorem keeps_in {h h1 g h' : Heap} {L' x dx : Addr} {m' : Str → Option Value} {ox od : Obj} (hg : g = hideAll h1 (List.map (fun x => x.1) [(x, ox), (dx, od)])) (F : Fr g L' h' m') (kx : ∀ b o, h.get? b = some o → h1.get? b = some o) (ky : h.objs.size ≤ dx) (l2 : dx < x) :
    ∀ b o, h.get? b = some o → h'.get? b = some o := fun b o e => by
  have hb := Heap.lt_size e
  refine F.keep b o (hg ▸ hideAll_get _ (kx b o e) ?_)
  intro hm
  rcases List.mem_cons.mp hm with q | hm
  · have q' : b = x := q
    rw [q'] at hb
    exact absurd hb (Nat.not_lt.mpr (Nat.le_trans ky (Nat.le_of_lt l2)))
  · have q' : b = dx := List.mem_singleton.mp hm
    rw [q'] at hb
    exact absurd hb (Nat.not_lt.mpr ky)
theorem rep_flat (i : Nat) : (List.nil ++ (List.replicate (i + 1) [0]).flatten : List Int) = List.replicate i 0 ++ [0] := by
  rw [List.nil_append]
  induction i with
  | zero => rfl
  | succ i ih => rw [List.replicate_succ, List.flatten_cons, ih]; rfl
theorem none_ge {h : Heap} {a : Addr} (k : h.objs.size ≤ a) : h.get? a = none := by
  cases e : h.get? a with
  | none => rfl
  | some o => exact absurd (Heap.lt_size e) (Nat.not_lt.mpr k)
theorem none_new {h h1 g h' : Heap} {L' x dx a : Addr} {news' : List (Addr × Obj)} {o ox od : Obj} (hg : g = hideAll h1 (List.map (fun x => x.1) [(x, ox), (dx, od)])) (N : News g L' h' news') (hp : (a, o) ∈ news') (hx : @LT.lt Nat _ x a) (hd : @LT.lt Nat _ dx a) (kx : ∀ b o, h.get? b = some o → h1.get? b = some o) : h.get? a = none := by
  cases e : h.get? a with
  | none => rfl
  | some o' =>
    have := new_of (p := (a, o)) hg N hp (by
      intro hm
      rcases List.mem_cons.mp hm with q | hm
      · exact absurd hx (by dsimp only at q; subst q; exact Nat.lt_irrefl _)
      · have q := List.mem_singleton.mp hm
        exact absurd hd (by dsimp only at q; subst q; exact Nat.lt_irrefl _))
    rw [kx a o' e] at this
    cases this
theorem rep_set (i : Nat) : ((List.nil ++ (List.replicate (i + 1) [0]).flatten : List Int).set i ((List.nil ++ (List.replicate (i + 1) [0]).flatten : List Int).getD i 0 + 1)) = List.replicate i 0 ++ [1] := by
  rw [rep_flat]
  have h : (List.replicate i (0 : Int) ++ [0]).getD i 0 = 0 := by simp [List.getD_eq_getElem?_getD]
  rw [h, List.set_append_right _ _ (by simp)]
  simp
noncomputable def wsDict (w : World) (v1 v2 v3 v4 v5 : Value) (k1 k2 k3 k4 k5 : Tok) : Obj := dictOf [{ hash := PyData.keyHash w.params (Str.ofString "raw"), key := .str (Str.ofString "raw") k1, val := v1 }, { hash := PyData.keyHash w.params (Str.ofString "n"), key := .str (Str.ofString "n") k2, val := v2 }, { hash := PyData.keyHash w.params (Str.ofString "nt"), key := .str (Str.ofString "nt") k3, val := v3 }, { hash := PyData.keyHash w.params (Str.ofString "norm"), key := .str (Str.ofString "norm") k4, val := v4 }, { hash := PyData.keyHash w.params (Str.ofString "is_simple"), key := .str (Str.ofString "is_simple") k5, val := v5 }] 5
noncomputable def tupOf (vs : List Value) : Obj := { cls := .type "tuple", data := .seq vs.toArray }
noncomputable def WsAt (w : World) (h0 h : Heap) (v : Value) (n : Nat) : Prop := ∃ (x dx dn dc : Addr) (v1 v2 v5 : Value) (k1 k2 k3 k4 k5 t3 tb : Tok) (vs : List Value), v = .ref x ∧ h.get? x = some (instObj 156 dx) ∧ h.get? dx = some (wsDict w v1 v2 (.int 1 t3) (.ref dn) v5 k1 k2 k3 k4 k5) ∧ h.get? dn = some (tupOf [.ref dc, .int 0 tb]) ∧ h.get? dc = some (tupOf vs) ∧ IntsAre vs (List.replicate n 0 ++ [1]) ∧ h0.get? x = none ∧ h0.get? dx = none ∧ h0.get? dn = none ∧ h0.get? dc = none
structure WsS where
  l : Addr
  vs : List Value
  nn : Nat
  b : Int
  tb : Tok
  n : Int
  tn : Tok
  nt : Int
  tt : Tok
noncomputable def WsFacts (x dx : Addr) (n : Nat) (i : Nat) (c : WsS) : Prop := (@LT.lt Nat _ x c.l ∧ @LT.lt Nat _ dx c.l) ∧ ((i ≤ n ∧ c.b = i ∧ c.n = i ∧ c.nt = 0 ∧ c.vs = []) ∨ (i = n + 1 ∧ c.b = 0 ∧ c.n = n + 1 ∧ c.nt = 1 ∧ IntsAre c.vs (List.replicate n 0 ++ [1])))
theorem sign_ne {c k : Nat} (h : c ≠ k) : ((⟨#[c]⟩ : Str) == ⟨#[k]⟩) = false := by
  rw [beq_eq_false_iff_ne]
  intro e
  injection e with e
  simp at e
  exact h e
theorem ws_ascii {n ch : Nat} (h : ch ≤ 102) : ((⟨(List.replicate n 32 ++ [9, ch]).toArray⟩ : Str).cps.all (· < 128)) = true := by
  rw [Array.all_eq_true]
  intro i hi
  have : ∀ x ∈ List.replicate n 32 ++ [9, ch], x < 128 := by
    intro x hx
    rcases List.mem_append.mp hx with hx | hx
    · rw [(List.mem_replicate.mp hx).2]; decide
    · simp at hx; omega
  simpa using this _ (List.getElem_mem (by simpa using hi))
theorem ws_at {n ch i c : Nat} (h : (List.replicate n 32 ++ [9, ch]).toArray[i]? = some c) : (i < n ∧ c = 32) ∨ (i = n ∧ c = 9) ∨ (i = n + 1 ∧ c = ch) := by
  have h' : (List.replicate n 32 ++ [9, ch])[i]? = some c := by simpa using h
  by_cases hi : i < n
  · rw [List.getElem?_append_left (by simpa using hi), List.getElem?_replicate, if_pos hi] at h'
    left; exact ⟨hi, by simpa using h'.symm⟩
  · rw [List.getElem?_append_right (by simpa using hi), List.length_replicate] at h'
    by_cases h1 : i = n
    · right; left; subst h1; refine ⟨rfl, ?_⟩; simpa using h'.symm
    · obtain ⟨k, rfl⟩ : ∃ k, i = n + 1 + k := ⟨i - n - 1, by omega⟩
      rw [show n + 1 + k - n = k + 1 by omega] at h'
      cases k with
      | zero => right; right; refine ⟨rfl, ?_⟩; simpa using h'.symm
      | succ k => simp at h'
theorem hide_obj {g h : Heap} {L a : Addr} {o : Obj} {news : List (Addr × Obj)} (N : News g L h news) (hm : (a, o) ∈ news) : ∃ od, od = o ∧ News g L h ((a, od) :: news) :=
  ⟨o, rfl, List.forall_mem_cons.mpr ⟨N _ hm, N⟩⟩
theorem wsp : ∀ {w : World} {mean : ExcName → Option Value} {mg mb : Str → Option Value} {A₀ : Around} {dp un : Nat} {gd : Option (List Code)} {env : Env} {outer : List Env} {base h₀ : Heap} {L : Addr} {m : Str → Option Value} {s : Shared} {R : Result → Shared → Prop} {t1 : Tok} {n : Nat} {ch : Nat}
  (B : Below A₀ base outer h₀) (F : Fr h₀ L s.heap m) (X : (hd.heap_39 w.params).In h₀) (N : News h₀ L s.heap []) (T : Top hd.view_39 (looseW hd.view_39 [Str.ofString "insort_left", Str.ofString "bisect_left", Str.ofString "_twin_re_1", Str.ofString "_twin_re_2", Str.ofString "Whitespace"]) mean mg mb h₀)
  (hf : env.frame = some L) (hke : env.scope.kind = .function)
  (n1 : 1 ≤ n) (n2 : n ≤ 11) (c1 : 97 ≤ ch) (c2 : ch ≤ 102) (hd1 : dp ≤ 560) (hu : un ≤ 200)
  (hret : ∀ v h' tk', (∀ b o, s.heap.get? b = some o → h'.get? b = some o) → WsAt w s.heap h' v n → R (.ok (.ret v)) { s with heap := h', toks := tk' }),
  codeAny (model rw_sc0082_01.row.prog w) ⟨none, dp, some (env :: outer), gd, un⟩ (.call (.ref 156) ⟨[.str ⟨(List.replicate n 32 ++ [9, ch]).toArray⟩ t1], []⟩) R s := by
  k_with_none
  w_top off
  (k_with "storeName" => (k_here; k_dflt (first | (refine storeX_i (by k_asm) (by k_asm) ?_ (by rfl) (by rfl); k_whole; intro wh' wtk' wt' wm' wF' wN') | (refine storeX_s (by k_asm) (by k_asm) ?_ (by rfl) (by rfl); k_whole; intro wh' wtk' wt' wm' wF' wN') | (refine storeX_f (by k_asm) (by k_asm) ?_ (by rfl) (by rfl); k_whole; intro wh' wtk' wt' wm' wF' wN') | (refine storeX_v (by k_asm) (by k_asm) ?_ (by rfl) (by rfl); k_whole; intro wh' wtk' wm' wF' wN')); (try k_sweep)))
  (k_with "exec For Name Attribute cons nil" => (k_here; (rename Fr _ _ _ _ => wlF'); (with_unfolding_all refine' For_turns wlF' ?_); k_whole))
  (k_with "call type:tuple" => ((with_reducible show wpAny _ _ (call (Value.type "tuple") [Value.ref _]) _ _ _); (rename Fr _ _ _ _ => wlF); (rename News _ _ _ _ => wlN); k_dflt (refine tup_list wlF wlN (by k_mem) (by assumption) ?_); clear wlF wlN; intro wD9 wh9 wF9 wN9 wl9; (try k_lt wl9)))
  k_fill
  intro w mean mg mb A₀ dp un gd env outer base h₀ L m s R t1 n ch B F X N T hf hke n1 n2 c1 c2 hd1 hu hret
  refine make_K' F N (X.keeps F.keep) (by k_is) (by k_is) (by k_is) ?_
  intro x dx h1 F1 N1 l1 l2 kx ky
  (try k_lt l1); k_lt2 l2
  refine ent (env := env) (outer := outer) B F1 X N1 T rfl hf hke (by k_is) (by k_is) (by k_room) (BindsTo.of_eq rfl) (locs rfl) ?_ rfl rfl rfl (by decide)
  intro g L' h' hg e₁ A₁ m₁ F' N' B' X' T'
  k_steps
  (rename Fr _ _ _ _ => lF'); (rename News _ _ _ _ => lN')
  obtain ⟨od, hod, lN'⟩ := hide_obj lN' (a := dx) (by k_mem)
  refine str_J (fun c : WsS => [(c.l, listOf c.vs.toArray c.nn), (x, instObj 156 dx), (dx, od)]) (fun c => [(Str.ofString "b", .int c.b c.tb), (Str.ofString "n", .int c.n c.tn), (Str.ofString "nt", .int c.nt c.tt), (Str.ofString "count", .ref c.l)]) (WsFacts x dx n) [Str.ofString "ch"] ⟨_, [], 0, 0, _, 0, _, 0, _⟩ rfl (ws_ascii c2) lF' lN' ⟨by k_mem, by k_mem, by k_mem, trivial⟩ ⟨⟨by dsimp only; omega, by dsimp only; omega⟩, .inl ⟨Nat.zero_le _, rfl, rfl, rfl, rfl⟩⟩ (List.forall_mem_cons.mpr ⟨rfl, List.forall_mem_cons.mpr ⟨rfl, List.forall_mem_cons.mpr ⟨rfl, List.forall_mem_cons.mpr ⟨rfl, List.forall_mem_nil _⟩⟩⟩⟩) ?_ ?_
  · intro i ⟨l, vs, nn, b, tb, nv, tn, nt, tt⟩ c t uu o I h9 tk9 Q₁ hc hIlt hF ho m₂ F9 N9 hQ₁
    k_lt hIlt
    clear lF' lN'
    dsimp only at F9 N9
    replace F9 : Fr g L' h9 _ := F9
    replace N9 : News g L' h9 _ := N9
    rcases ws_at hc with ⟨hi, hcc⟩ | ⟨hi, hcc⟩ | ⟨hi, hcc⟩
    · subst hcc
      clear hc hret B' B
      obtain ⟨⟨hx1, hx2⟩, ⟨_, hb, hn, ht, hv⟩ | ⟨q, _⟩⟩ := hF
      · dsimp only at hx1 hx2 hb hn ht hv
        subst hb hn ht hv
        k_steps
        refine hQ₁ _ _ ?_
        k_steps
        refine ⟨⟨l, [], nn, _, _, _, _, 0, _⟩, ⟨by k_mem, by k_mem, by k_mem, trivial⟩, ⟨⟨hx1, hx2⟩, .inl ⟨by omega, by dsimp only; omega, by dsimp only; omega, rfl, rfl⟩⟩, (List.forall_mem_cons.mpr ⟨rfl, List.forall_mem_cons.mpr ⟨rfl, List.forall_mem_cons.mpr ⟨rfl, List.forall_mem_cons.mpr ⟨rfl, List.forall_mem_nil _⟩⟩⟩⟩), ?_⟩
        exact Offs.out [Str.ofString "b", Str.ofString "n", Str.ofString "nt", Str.ofString "count", Str.ofString "ch"] rfl (by repeat (first | exact Offs.kst rfl | refine Offs.set ?_ (by decide)))
      · omega
    · subst hcc
      clear hret B' B
      subst hi
      obtain ⟨⟨hx1, hx2⟩, ⟨_, hb, hn, ht, hv⟩ | ⟨q, _⟩⟩ := hF
      · dsimp only at hx1 hx2 hb hn ht hv
        subst hb hn ht hv
        k_steps
        refine hQ₁ _ _ ?_
        k_steps
        have eL : ((i : Int) - 0 + 1).toNat = i + 1 := by omega
        have eI : ((i : Int)).toNat = i := by omega
        simp only [eL, eI] at *
        (rename IntsAre _ _ => hI8)
        refine ⟨⟨_, _, 0, _, _, _, _, _, _⟩, ⟨List.mem_cons_self .., by k_mem, by k_mem, trivial⟩, ⟨⟨by dsimp only; omega, by dsimp only; omega⟩, .inr ⟨rfl, rfl, by dsimp only; try omega, by dsimp only; try omega, ?_⟩⟩, (List.forall_mem_cons.mpr ⟨rfl, List.forall_mem_cons.mpr ⟨rfl, List.forall_mem_cons.mpr ⟨rfl, List.forall_mem_cons.mpr ⟨rfl, List.forall_mem_nil _⟩⟩⟩⟩), ?_⟩
        · exact rep_set i ▸ hI8
        · exact Offs.out [Str.ofString "b", Str.ofString "n", Str.ofString "nt", Str.ofString "count", Str.ofString "ch"] rfl (by repeat (first | exact Offs.kst rfl | refine Offs.set ?_ (by decide)))
      · omega
    · subst hi hcc
      obtain ⟨⟨hx1, hx2⟩, ⟨q, _⟩ | ⟨_, hb, hn, ht, hv⟩⟩ := hF
      · omega
      · dsimp only at hx1 hx2 hb hn ht hv
        subst hb hn ht
        have hlen : vs.length ≤ 1000 := by have := hv.length; simp at this; omega
        obtain ⟨ns, hns⟩ : ∃ ns : List Int, ns = List.replicate n 0 ++ [1] := ⟨_, rfl⟩
        rw [← hns] at hv
        have hz : ns.length = n + 1 := by rw [hns]; simp
        have hz2 : ns.length ≤ 1000 := by omega
        have e1 : ((⟨#[c]⟩ : Str) == Str.ofString " ") = false := by with_unfolding_all exact sign_ne (k := 32) (by omega)
        have e2 : ((⟨#[c]⟩ : Str) == Str.ofString "	") = false := by with_unfolding_all exact sign_ne (k := 9) (by omega)
        k_steps
        refine hQ₁ _ _ ?_
        subst hod
        k_steps
        (rename News g L' _ _ => N8); (rename Fr g L' _ _ => F8)
        refine ⟨rfl, hret _ _ _ (keeps_in hg F8 kx ky l2) ⟨x, dx, _, _, _, _, _, _, _, _, _, _, _, _, _, rfl, (N8 (x, _) (by k_mem)).1, (N8 (dx, _) (by k_mem)).1, (N8 _ (List.mem_cons_self ..)).1, (N8 _ (List.mem_cons_of_mem _ (List.mem_cons_self ..))).1, hns ▸ hv, none_ge (by omega), none_ge ky, none_new hg N8 (List.mem_cons_self ..) (by omega) (by omega) kx, none_new hg N8 (List.mem_cons_of_mem _ (List.mem_cons_self ..)) (by omega) (by omega) kx⟩⟩
  · intro ⟨l, vs, nn, b, tb, nv, tn, nt, tt⟩ uu h9 tk9 hF m₂ F9 N9
    rcases hF with ⟨_, ⟨q, _⟩ | ⟨q, _⟩⟩
    · simp at q; omega
    · simp at q
end Mine
end
section
open PySem PySem.W PyProof.Rows PySem.Challenge PySem.Calls PySem.Spec PyProof.V
namespace Mine
theorem max3f {prog : Program} {w : World} {A : Around} {E : Value → Shared → Prop} {s : Shared} {Q : Value → Shared → Prop} {a b c : UInt64} {t u x : Tok} {h₀ : Heap} {L : Addr} {m : Str → Option Value} {news : List (Addr × Obj)}
    (hh : A.handled = none) (F : Fr h₀ L s.heap m) (N : News h₀ L s.heap news)
    (h : ∀ h' tk v, Fr h₀ L h' m → News h₀ L h' news → Q (.float (Flt.bestBits Flt.gtB a [b, c]) v) { s with heap := h', toks := tk }) :
    wpAny (model prog w) A (call (.builtin "max") [.float a t, .float b u, .float c x]) Q E s := by
  have hT : (s.heap.push { cls := .type "tuple", data := .seq #[.float a t, .float b u, .float c x] }).IsTuple s.heap.objs.size #[.float a t, .float b u, .float c x] := ⟨_, Heap.get?_push_size _ rfl, rfl, 0, rfl⟩
  refine call_max_three (wpAny_pyIter_tuple hT ?_)
  have hsz : (s.heap.push { cls := .type "tuple", data := .seq #[.float a t, .float b u, .float c x] }).objs.size = s.heap.objs.size + 1 := Heap.size_push ..
  have hf : Flt.FloatsAre [.float a t, .float b u, .float c x] [a, b, c] := .cons _ _ (.cons _ _ (.cons _ _ .nil))
  refine ⟨_, [_, s.heap.objs.size], [_], _, _, _, fun i j => Flt.gtB ([a, b, c].getD i 0) ([a, b, c].getD j 0), rfl, Walks.tuple (A := A.in1) hh _ s.heap.objs.size (by rw [hsz]; exact Nat.ne_of_lt (Nat.lt_succ_self _)) #[.float a t, .float b u, .float c x],
    ⟨⟨_, Heap.get?_push_size _ rfl, rfl, rfl⟩, hT.push _⟩, fun d hd => ?_, by simp, fun i j vi vj s Q E hi hj h => ?_, fun v h' tk hP hk => ?_⟩
  · show d < ((s.heap.push _).push _).objs.size
    rw [Heap.size_push, hsz]
    rcases List.mem_cons.mp hd with rfl | hd
    · rw [hsz]; exact Nat.lt_succ_self _
    · rcases List.mem_cons.mp hd with rfl | hd
      · exact Nat.lt_succ_of_lt (Nat.lt_succ_self _)
      · cases hd
  · obtain ⟨b', t', rfl, e1⟩ := hf.at i vi (by simpa using hi)
    obtain ⟨c', u', rfl, e2⟩ := hf.at j vj (by simpa using hj)
    simp only [List.getD_eq_getElem?_getD, e1, e2, Option.getD_some] at h
    exact AutoFloatOps.gt_0 (by rw [Flt.cmp_gt]; exact h)
  · have hold : ∀ d o, s.heap.get? d = some o → h'.get? d = some o := fun d o e => by
      refine hk d o (fun hm => ?_) (Heap.get?_push_of_some _ (Heap.get?_push_of_some _ e))
      rcases List.mem_cons.mp hm with e1 | hm
      · have := Heap.lt_size e; rw [e1, hsz] at this; exact Nat.lt_irrefl _ (Nat.lt_of_succ_lt this)
      · cases hm
    obtain ⟨b', t', rfl, e1⟩ := hf.at _ v ((List.getElem?_toArray).symm.trans hP)
    have e2 := Flt.argBest_bits Flt.gtB [a, b, c] 2 (by simp)
    have e3 : ([a, b, c] : List UInt64).tail.take 2 = [b, c] := rfl
    rw [e3, List.getD_eq_getElem?_getD] at e2
    have e4 : (#[Value.float a t, .float b u, .float c x] : Array Value).size - 1 = 2 := rfl
    rw [e4] at e1
    rw [e1, Option.getD_some] at e2
    rw [e2]
    exact h h' tk t' (F.keeps hold) (N.grown hold)
theorem min3f {prog : Program} {w : World} {A : Around} {E : Value → Shared → Prop} {s : Shared} {Q : Value → Shared → Prop} {a b c : UInt64} {t u x : Tok} {h₀ : Heap} {L : Addr} {m : Str → Option Value} {news : List (Addr × Obj)}
    (hh : A.handled = none) (F : Fr h₀ L s.heap m) (N : News h₀ L s.heap news)
    (h : ∀ h' tk v, Fr h₀ L h' m → News h₀ L h' news → Q (.float (Flt.bestBits Flt.ltB a [b, c]) v) { s with heap := h', toks := tk }) :
    wpAny (model prog w) A (call (.builtin "min") [.float a t, .float b u, .float c x]) Q E s := by
  have hT : (s.heap.push { cls := .type "tuple", data := .seq #[.float a t, .float b u, .float c x] }).IsTuple s.heap.objs.size #[.float a t, .float b u, .float c x] := ⟨_, Heap.get?_push_size _ rfl, rfl, 0, rfl⟩
  refine call_min_three (wpAny_pyIter_tuple hT ?_)
  have hsz : (s.heap.push { cls := .type "tuple", data := .seq #[.float a t, .float b u, .float c x] }).objs.size = s.heap.objs.size + 1 := Heap.size_push ..
  have hf : Flt.FloatsAre [.float a t, .float b u, .float c x] [a, b, c] := .cons _ _ (.cons _ _ (.cons _ _ .nil))
  refine ⟨_, [_, s.heap.objs.size], [_], _, _, _, fun i j => Flt.ltB ([a, b, c].getD i 0) ([a, b, c].getD j 0), rfl, Walks.tuple (A := A.in1) hh _ s.heap.objs.size (by rw [hsz]; exact Nat.ne_of_lt (Nat.lt_succ_self _)) #[.float a t, .float b u, .float c x],
    ⟨⟨_, Heap.get?_push_size _ rfl, rfl, rfl⟩, hT.push _⟩, fun d hd => ?_, by simp, fun i j vi vj s Q E hi hj h => ?_, fun v h' tk hP hk => ?_⟩
  · show d < ((s.heap.push _).push _).objs.size
    rw [Heap.size_push, hsz]
    rcases List.mem_cons.mp hd with rfl | hd
    · rw [hsz]; exact Nat.lt_succ_self _
    · rcases List.mem_cons.mp hd with rfl | hd
      · exact Nat.lt_succ_of_lt (Nat.lt_succ_self _)
      · cases hd
  · obtain ⟨b', t', rfl, e1⟩ := hf.at i vi (by simpa using hi)
    obtain ⟨c', u', rfl, e2⟩ := hf.at j vj (by simpa using hj)
    simp only [List.getD_eq_getElem?_getD, e1, e2, Option.getD_some] at h
    exact AutoFloatOps.lt_0 (by exact h)
  · have hold : ∀ d o, s.heap.get? d = some o → h'.get? d = some o := fun d o e => by
      refine hk d o (fun hm => ?_) (Heap.get?_push_of_some _ (Heap.get?_push_of_some _ e))
      rcases List.mem_cons.mp hm with e1 | hm
      · have := Heap.lt_size e; rw [e1, hsz] at this; exact Nat.lt_irrefl _ (Nat.lt_of_succ_lt this)
      · cases hm
    obtain ⟨b', t', rfl, e1⟩ := hf.at _ v ((List.getElem?_toArray).symm.trans hP)
    have e2 := Flt.argBest_bits Flt.ltB [a, b, c] 2 (by simp)
    have e3 : ([a, b, c] : List UInt64).tail.take 2 = [b, c] := rfl
    rw [e3, List.getD_eq_getElem?_getD] at e2
    have e4 : (#[Value.float a t, .float b u, .float c x] : Array Value).size - 1 = 2 := rfl
    rw [e4] at e1
    rw [e1, Option.getD_some] at e2
    rw [e2]
    exact h h' tk t' (F.keeps hold) (N.grown hold)
theorem max3i {prog : Program} {w : World} {A : Around} {E : Value → Shared → Prop} {s : Shared} {Q : Value → Shared → Prop} {a b c : Int} {t u x : Tok} {h₀ : Heap} {L : Addr} {m : Str → Option Value} {news : List (Addr × Obj)}
    (hh : A.handled = none) (F : Fr h₀ L s.heap m) (N : News h₀ L s.heap news)
    (h : ∀ h' tk v n, Fr h₀ L h' m → News h₀ L h' news → n = (if b > a then (if c > b then c else b) else (if c > a then c else a)) → Q (.int n v) { s with heap := h', toks := tk }) :
    wpAny (model prog w) A (call (.builtin "max") [.int a t, .int b u, .int c x]) Q E s := by
  refine max_three_ints hh fun h' tk hk => ?_
  have key := fun tok => h h' tk tok _ (F.keeps hk) (N.grown hk) rfl
  by_cases hba : b > a <;> by_cases hc1 : c > b <;> by_cases hc2 : c > a <;> simp only [hba, hc1, hc2, if_true, if_false] at key ⊢ <;> exact key _
theorem min3i {prog : Program} {w : World} {A : Around} {E : Value → Shared → Prop} {s : Shared} {Q : Value → Shared → Prop} {a b c : Int} {t u x : Tok} {h₀ : Heap} {L : Addr} {m : Str → Option Value} {news : List (Addr × Obj)}
    (hh : A.handled = none) (F : Fr h₀ L s.heap m) (N : News h₀ L s.heap news)
    (h : ∀ h' tk v n, Fr h₀ L h' m → News h₀ L h' news → n = (if b < a then (if c < b then c else b) else (if c < a then c else a)) → Q (.int n v) { s with heap := h', toks := tk }) :
    wpAny (model prog w) A (call (.builtin "min") [.int a t, .int b u, .int c x]) Q E s := by
  refine min_three_ints hh fun h' tk hk => ?_
  have key := fun tok => h h' tk tok _ (F.keeps hk) (N.grown hk) rfl
  by_cases hba : b < a <;> by_cases hc1 : c < b <;> by_cases hc2 : c < a <;> simp only [hba, hc1, hc2, if_true, if_false] at key ⊢ <;> exact key _
noncomputable def hueF (ra ga ba : UInt64) : UInt64 :=
  if (Float64.cmp ra (Flt.bestBits Flt.gtB ra [ga, ba]) == some Ordering.eq) = true then (Float64.divmod (Float64.div (Float64.sub (Float64.div (Float64.sub (Flt.bestBits Flt.gtB ra [ga, ba]) ba) (Float64.sub (Flt.bestBits Flt.gtB ra [ga, ba]) (Flt.bestBits Flt.ltB ra [ga, ba]))) (Float64.div (Float64.sub (Flt.bestBits Flt.gtB ra [ga, ba]) ga) (Float64.sub (Flt.bestBits Flt.gtB ra [ga, ba]) (Flt.bestBits Flt.ltB ra [ga, ba])))) 4618441417868443648) 4607182418800017408).snd
  else if (Float64.cmp ga (Flt.bestBits Flt.gtB ra [ga, ba]) == some Ordering.eq) = true then (Float64.divmod (Float64.div (Float64.sub (Float64.add 4611686018427387904 (Float64.div (Float64.sub (Flt.bestBits Flt.gtB ra [ga, ba]) ra) (Float64.sub (Flt.bestBits Flt.gtB ra [ga, ba]) (Flt.bestBits Flt.ltB ra [ga, ba])))) (Float64.div (Float64.sub (Flt.bestBits Flt.gtB ra [ga, ba]) ba) (Float64.sub (Flt.bestBits Flt.gtB ra [ga, ba]) (Flt.bestBits Flt.ltB ra [ga, ba])))) 4618441417868443648) 4607182418800017408).snd
  else (Float64.divmod (Float64.div (Float64.sub (Float64.add 4616189618054758400 (Float64.div (Float64.sub (Flt.bestBits Flt.gtB ra [ga, ba]) ga) (Float64.sub (Flt.bestBits Flt.gtB ra [ga, ba]) (Flt.bestBits Flt.ltB ra [ga, ba])))) (Float64.div (Float64.sub (Flt.bestBits Flt.gtB ra [ga, ba]) ra) (Float64.sub (Flt.bestBits Flt.gtB ra [ga, ba]) (Flt.bestBits Flt.ltB ra [ga, ba])))) 4618441417868443648) 4607182418800017408).snd
theorem rgbf : ∀ {w : World} {mean : ExcName → Option Value} {mg mb : Str → Option Value} {A₀ : Around} {dp un : Nat} {gd : Option (List Code)} {env : Env} {outer : List Env} {base h₀ : Heap} {L : Addr} {m : Str → Option Value} {s : Shared} {R : Result → Shared → Prop} {ra ga ba : UInt64} {t1 t2 t3 : Tok}
  (B : Below A₀ base outer h₀) (F : Fr h₀ L s.heap m) (X : (hd.heap_39 w.params).In h₀) (N : News h₀ L s.heap []) (T : Top hd.view_39 (looseW hd.view_39 [Str.ofString "insort_left", Str.ofString "bisect_left", Str.ofString "_twin_re_1", Str.ofString "_twin_re_2", Str.ofString "Whitespace"]) mean mg mb h₀)
  (hf : env.frame = some L) (hke : env.scope.kind = .function)
  (hne : (Float64.cmp (Flt.bestBits Flt.ltB ra [ga, ba]) (Flt.bestBits Flt.gtB ra [ga, ba]) == some Ordering.eq) = false) (hz1 : Float64.isZero (Flt.bestBits Flt.gtB ra [ga, ba]) = false) (hz2 : Float64.isZero (Float64.sub (Flt.bestBits Flt.gtB ra [ga, ba]) (Flt.bestBits Flt.ltB ra [ga, ba])) = false) (hd1 : dp ≤ 560) (hu : un ≤ 200)
  (hret : ∀ r x y z tx ty tz h' tk', (∀ b o, s.heap.get? b = some o → h'.get? b = some o) → s.heap.get? r = none → h'.get? r = some { cls := .type "tuple", data := .seq #[.float x tx, .float y ty, .float z tz] } → hueF ra ga ba = x → R (.ok (.ret (.ref r))) { s with heap := h', toks := tk' }),
  codeAny (model rw_sc0082_01.row.prog w) ⟨none, dp, some (env :: outer), gd, un⟩ (.call (.ref 63) ⟨[.float ra t1, .float ga t2, .float ba t3], []⟩) R s := by
  k_with_none
  w_top off
  (k_with "storeName" => (k_here; k_dflt (first | (refine storeX_i (by k_asm) (by k_asm) ?_ (by rfl) (by rfl); k_whole; intro wh' wtk' wt' wm' wF' wN') | (refine storeX_s (by k_asm) (by k_asm) ?_ (by rfl) (by rfl); k_whole; intro wh' wtk' wt' wm' wF' wN') | (refine storeX_f (by k_asm) (by k_asm) ?_ (by rfl) (by rfl); k_whole; intro wh' wtk' wt' wm' wF' wN') | (refine storeX_v (by k_asm) (by k_asm) ?_ (by rfl) (by rfl); k_whole; intro wh' wtk' wm' wF' wN')); (try k_sweep)))
  (k_with "call builtin:max" => ((with_reducible show wpAny _ _ (call _ [Value.float _ _, Value.float _ _, Value.float _ _]) _ _ _); (rename News _ _ _ _ => wlN'); (rename Fr _ _ _ _ => wlF'); k_dflt (refine max3f rfl wlF' wlN' ?_); clear wlN' wlF'; intro _ _ _ _ _))
  (k_with "call builtin:min" => ((with_reducible show wpAny _ _ (call _ [Value.float _ _, Value.float _ _, Value.float _ _]) _ _ _); (rename News _ _ _ _ => wlN'); (rename Fr _ _ _ _ => wlF'); k_dflt (refine min3f rfl wlF' wlN' ?_); clear wlN' wlF'; intro _ _ _ _ _))
  k_fill
  intro w mean mg mb A₀ dp un gd env outer base h₀ L m s R ra ga ba t1 t2 t3 B F X N T hf hke hne hz1 hz2 hd1 hu hret
  refine ent B F X N T rfl hf hke (by k_is) (by k_is) (by dsimp only; unfold recursionLimit; omega) (BindsTo.of_eq rfl) (locs rfl) ?_ rfl rfl rfl (by decide)
  intro g L' h' hg e₁ A₁ m₁ F' N' B' X' T'
  k_steps
  all_goals first
    | (exfalso; exact Bool.noConfusion (hne.symm.trans (by assumption)))
    | (exfalso; exact Bool.noConfusion (hz1.symm.trans (by assumption)))
    | (exfalso; exact Bool.noConfusion (hz2.symm.trans (by assumption)))
    | ((rename News g L' _ _ => N8); (rename Fr g L' _ _ => F8);
       refine hret _ _ _ _ _ _ _ _ _ (keeps_of hg N F8 N8 (fun p hp => nomatch hp)) (new_of hg N8 (List.mem_cons_self ..) (fun h => nomatch h)) (N8 _ (List.mem_cons_self ..)).1 ?_;
       unfold hueF; (first | rw [if_pos (by assumption)] | rw [if_neg (Bool.eq_false_iff.mp (by assumption)), if_pos (by assumption)] | rw [if_neg (Bool.eq_false_iff.mp (by assumption)), if_neg (Bool.eq_false_iff.mp (by assumption))]))
  all_goals trace_state
end Mine
end
section
open PySem PySem.W PyProof.Rows PySem.Challenge PySem.Calls PySem.Spec PyProof.V
namespace Mine
theorem tup_len {prog : Program} {w : World} {A : Around} {E Q : Value → Shared → Prop} {s : Shared} {h₀ : Heap} {L : Addr} {news : List (Addr × Obj)} {l : Addr} {vs : List Value} {ns : List Int}
    (N : News h₀ L s.heap news) (hl : (l, { cls := .type "tuple", data := .seq vs.toArray }) ∈ news) (hI : IntsAre vs ns) (hz : ns.length ≤ 1000)
    (h : Q (.int ns.length (s.toks + 1)) { s with toks := s.toks + 1 + 1 }) :
    wpAny (model prog w) A (call (.builtin "len") [.ref l]) Q E s := by
  have e := hI.length
  refine len_tuple (items := vs.toArray) ⟨_, (N _ hl).1, rfl, 0, rfl⟩ (by rw [List.size_toArray]; omega) ?_
  rw [List.size_toArray, e]
  exact h
structure IndS where
  il : Int
  ti : Tok
noncomputable def indL (z n i : Nat) : Int := if n < z + i then ((n / z : Nat) : Int) else 0
noncomputable def indF (z n : Nat) : Int := (z : Int) * (((n / z : Nat) : Int) + 1)
theorem rng_okF : ∀ n : Fin 12, ∀ z : Fin 6, Builtin.Range.small ((z.1 : Nat) : Int) ((n.1 + 1 : Nat) : Int) 1 = true ∧ Builtin.Range.rangeSize ((z.1 : Nat) : Int) ((n.1 + 1 : Nat) : Int) 1 = ((n.1 + 1 - z.1 : Nat) : Int) := by decide +kernel
theorem rng_ok {n z : Nat} (hn : n ≤ 11) (hz : z ≤ 5) : Builtin.Range.small (z : Int) ((n + 1 : Nat) : Int) 1 = true ∧ Builtin.Range.rangeSize (z : Int) ((n + 1 : Nat) : Int) 1 = ((n + 1 - z : Nat) : Int) := rng_okF ⟨n, by omega⟩ ⟨z, by omega⟩
theorem ind_zero (n z : Nat) : (0 : Int) = indL z n 0 := by
  unfold indL
  split
  · rw [Nat.div_eq_of_lt (by omega)]; rfl
  · rfl
theorem ind_fin {z n : Nat} (_ : n ≤ 11) (z1 : 2 ≤ z) : (0 : Int) + (z : Int) * (indL z n (n + 1 - z) + 1) = indF z n := by
  unfold indL indF
  split
  · omega
  · rw [Nat.div_eq_of_lt (by omega)]; omega
theorem ind_step {z n i : Nat} {ns : List Int} (hns : ns = List.replicate n 0 ++ [1]) (hi : i < n + 1 - z) (z1 : 2 ≤ z) : indL z n i + ((z : Int) + (i : Int) * 1).fdiv (z : Int) * ns.getD ((z : Int) + (i : Int) * 1).toNat 0 = indL z n (i + 1) := by
  have e : ((z : Int) + (i : Int) * 1).toNat = z + i := by omega
  have e2 : ((z : Int) + (i : Int) * 1) = ((z + i : Nat) : Int) := by omega
  rw [e, e2, hns]
  unfold indL
  rw [if_neg (by omega)]
  by_cases h : z + i = n
  · rw [if_pos (by omega), h, List.getD_eq_getElem?_getD, List.getElem?_append_right (by simp)]
    simp
    rw [Int.fdiv_eq_ediv_of_nonneg _ (by omega)]
  · rw [if_neg (by omega), List.getD_eq_getElem?_getD, List.getElem?_append_left (by simp; omega), List.getElem?_replicate, if_pos (by omega)]
    simp
theorem indent : ∀ {w : World} {mean : ExcName → Option Value} {mg mb : Str → Option Value} {A₀ : Around} {dp un : Nat} {gd : Option (List Code)} {env : Env} {outer : List Env} {base h₀ : Heap} {L : Addr} {m : Str → Option Value} {s : Shared} {R : Result → Shared → Prop} {x dx dn dc : Addr} {v1 v2 v5 : Value} {k1 k2 k3 k4 k5 t3 tb : Tok} {vs : List Value} {n z : Nat} {tz : Tok} {ns : List Int}
  (B : Below A₀ base outer h₀) (F : Fr h₀ L s.heap m) (X : (hd.heap_39 w.params).In h₀) (N : News h₀ L s.heap [(x, instObj 156 dx), (dx, dictOf [{ hash := PyData.keyHash w.params (Str.ofString "raw"), key := .str (Str.ofString "raw") k1, val := v1 }, { hash := PyData.keyHash w.params (Str.ofString "n"), key := .str (Str.ofString "n") k2, val := v2 }, { hash := PyData.keyHash w.params (Str.ofString "nt"), key := .str (Str.ofString "nt") k3, val := .int 1 t3 }, { hash := PyData.keyHash w.params (Str.ofString "norm"), key := .str (Str.ofString "norm") k4, val := .ref dn }, { hash := PyData.keyHash w.params (Str.ofString "is_simple"), key := .str (Str.ofString "is_simple") k5, val := v5 }] 5), (dn, { cls := .type "tuple", data := .seq #[.ref dc, .int 0 tb] }), (dc, { cls := .type "tuple", data := .seq vs.toArray })]) (T : Top hd.view_39 (looseW hd.view_39 [Str.ofString "insort_left", Str.ofString "bisect_left", Str.ofString "_twin_re_1", Str.ofString "_twin_re_2", Str.ofString "Whitespace"]) mean mg mb h₀)
  (hf : env.frame = some L) (hke : env.scope.kind = .function)
  (hI : IntsAre vs ns) (hns : ns = List.replicate n 0 ++ [1]) (hlen : ns.length = n + 1) (hlen2 : ns.length ≤ 1000) (n1 : 1 ≤ n) (n2 : n ≤ 11) (z1 : 2 ≤ z) (z2 : z ≤ 5) (hd1 : dp ≤ 560) (hu : un ≤ 200)
  (hret : ∀ t h' tk', (∀ b o, s.heap.get? b = some o → h'.get? b = some o) → R (.ok (.ret (.int (indF z n) t))) { s with heap := h', toks := tk' }),
  codeAny (model rw_sc0082_01.row.prog w) ⟨none, dp, some (env :: outer), gd, un⟩ (.call (.ref 125) ⟨[.ref x, .int z tz], []⟩) R s := by
  k_with_none
  w_top off
  (k_with "storeName" => (k_here; k_dflt (first | (refine storeX_i (by k_asm) (by k_asm) ?_ (by rfl) (by rfl); k_whole; intro wh' wtk' wt' wm' wF' wN') | (refine storeX_s (by k_asm) (by k_asm) ?_ (by rfl) (by rfl); k_whole; intro wh' wtk' wt' wm' wF' wN') | (refine storeX_f (by k_asm) (by k_asm) ?_ (by rfl) (by rfl); k_whole; intro wh' wtk' wt' wm' wF' wN') | (refine storeX_v (by k_asm) (by k_asm) ?_ (by rfl) (by rfl); k_whole; intro wh' wtk' wm' wF' wN')); (try k_sweep)))
  (k_with "call builtin:len" => ((with_reducible show wpAny _ _ (call (Value.builtin "len") [Value.ref _]) _ _ _); k_dflt (refine tup_len (by assumption) (by k_mem) (by assumption) (by assumption) ?_)))
  (k_with "subscriptTail" => ((with_reducible show wpAny _ _ (subscriptTail _ _ (Value.ref _) (Value.int _ _)) _ _ _); (rename News _ _ _ _ => wlN); k_dflt (refine PySem.W.item_anyT ⟨_, (wlN (_, { cls := .type "tuple", data := .seq (List.toArray _) }) (by k_mem)).1, rfl, 0, rfl⟩ (by assumption) (by omega) (by omega) (by omega) ?_); intro wt9; (try dsimp only)))
  k_fill
  intro w mean mg mb A₀ dp un gd env outer base h₀ L m s R x dx dn dc v1 v2 v5 k1 k2 k3 k4 k5 t3 tb vs n z tz ns B F X N T hf hke hI hns hlen hlen2 n1 n2 z1 z2 hd1 hu hret
  refine ent B F X N T rfl hf hke (by k_is) (by k_is) (by dsimp only; unfold recursionLimit; omega) (BindsTo.of_eq rfl) (locs rfl) ?_ rfl rfl rfl (by decide)
  intro g L' h' hg e₁ A₁ m₁ F' N' B' X' T'
  (k_with "exec For Name Call cons nil" => (k_here; (rename Fr _ _ _ _ => lF'); (with_unfolding_all refine' For_turns lF' ?_); k_whole))
  have rk := rng_ok n2 z2
  rw [← hlen] at rk
  k_steps
  (rename IsRange _ _ _ _ _ _ _ _ => lR'); (rename Fr _ _ _ _ => lF'); (rename News _ _ _ _ => lN')
  refine rng_J (n := n + 1 - z) (fun c : IndS => [(x, instObj 156 dx), (dx, dictOf [{ hash := PyData.keyHash w.params (Str.ofString "raw"), key := .str (Str.ofString "raw") k1, val := v1 }, { hash := PyData.keyHash w.params (Str.ofString "n"), key := .str (Str.ofString "n") k2, val := v2 }, { hash := PyData.keyHash w.params (Str.ofString "nt"), key := .str (Str.ofString "nt") k3, val := .int 1 t3 }, { hash := PyData.keyHash w.params (Str.ofString "norm"), key := .str (Str.ofString "norm") k4, val := .ref dn }, { hash := PyData.keyHash w.params (Str.ofString "is_simple"), key := .str (Str.ofString "is_simple") k5, val := v5 }] 5), (dn, { cls := .type "tuple", data := .seq #[.ref dc, .int 0 tb] }), (dc, { cls := .type "tuple", data := .seq vs.toArray })]) (fun c => [(Str.ofString "il", .int c.il c.ti)]) (fun i c => c.il = indL z n i) [Str.ofString "i"] ⟨0, _⟩ (by rfl) lR' rk.1 (rk.2.trans (by rw [hlen])) lF' lN' ⟨by k_mem, by k_mem, by k_mem, by k_mem, trivial⟩ (ind_zero n z) (List.forall_mem_cons.mpr ⟨rfl, List.forall_mem_nil _⟩) ?_ ?_
  · intro i ⟨il, ti⟩ t uu o I h9 tk9 Q₁ hi hIlt hF ho m₂ F9 N9 hQ₁
    k_lt hIlt
    clear lF' lN' lR'
    dsimp only at hF F9 N9
    replace F9 : Fr g L' h9 _ := F9
    replace N9 : News g L' h9 _ := N9
    subst hF
    have hq0 : 0 ≤ ((z : Int) + (i : Int) * 1).fdiv (z : Int) := Int.fdiv_nonneg (by omega) (by omega)
    have hq1 : ((z : Int) + (i : Int) * 1).fdiv (z : Int) ≤ 100 := by
      rw [Int.fdiv_eq_ediv_of_nonneg _ (by omega)]
      exact Int.le_trans (Int.ediv_le_self _ (by omega)) (by omega)
    k_steps
    refine hQ₁ _ _ ?_
    k_steps
    refine ⟨⟨_, _⟩, ⟨by k_mem, by k_mem, by k_mem, by k_mem, trivial⟩, (ind_step hns hi z1), (List.forall_mem_cons.mpr ⟨rfl, List.forall_mem_nil _⟩), ?_⟩
    exact Offs.out [Str.ofString "il", Str.ofString "i"] rfl (by repeat (first | exact Offs.kst rfl | refine Offs.set ?_ (by decide)))
  · intro ⟨il, ti⟩ uu h9 tk9 hF m₂ F9 N9
    clear lF' lN' lR'
    dsimp only at hF F9 N9
    replace F9 : Fr g L' h9 _ := F9
    replace N9 : News g L' h9 _ := N9
    subst hF
    k_steps
    (rename News g L' _ _ => N8); (rename Fr g L' _ _ => F8)
    show R (.ok (.ret (.int (0 + (z : Int) * (indL z n (n + 1 - z) + 1)) _))) { s with heap := _, toks := _ }
    rw [ind_fin n2 z1]
    exact hret _ _ _ (keeps_of hg N F8 N8 (fun p hp => hp))
end Mine
end
section
open PySem PySem.W PyProof.Rows PySem.Challenge PySem.Calls PySem.Spec PyProof.V
namespace Mine
/-- a Whitespace of n blanks, told by a ledger -/
noncomputable def WsT (w : World) (tl : List (Addr × Obj)) (x : Addr) (n : Nat) : Prop := ∃ (dx dn dc : Addr) (v1 v2 v5 : Value) (k1 k2 k3 k4 k5 t3 tb : Tok) (vs : List Value), (x, instObj 156 dx) ∈ tl ∧ (dx, wsDict w v1 v2 (.int 1 t3) (.ref dn) v5 k1 k2 k3 k4 k5) ∈ tl ∧ (dn, tupOf [.ref dc, .int 0 tb]) ∈ tl ∧ (dc, tupOf vs) ∈ tl ∧ IntsAre vs (List.replicate n 0 ++ [1])
theorem WsT.mono {w : World} {tl tl' : List (Addr × Obj)} {x : Addr} {n : Nat} (h : WsT w tl x n) (s : ∀ p ∈ tl, p ∈ tl') : WsT w tl' x n := by
  obtain ⟨dx, dn, dc, v1, v2, v5, k1, k2, k3, k4, k5, t3, tb, vs, h1, h2, h3, h4, h5⟩ := h
  exact ⟨dx, dn, dc, v1, v2, v5, k1, k2, k3, k4, k5, t3, tb, vs, s _ h1, s _ h2, s _ h3, s _ h4, h5⟩
/-- the tail's objects stand in the ground g, and not in h₀ -/
noncomputable def TlIn (h₀ g : Heap) (L : Addr) (tl : List (Addr × Obj)) : Prop := ∀ p ∈ tl, g.get? p.1 = some p.2 ∧ p.1 ≠ L ∧ h₀.get? p.1 = none
theorem tlIn_of {h₀ h : Heap} {L : Addr} {tl news : List (Addr × Obj)} (N : News h₀ L h tl) (d : ∀ p ∈ tl, ∀ q ∈ news, p.1 ≠ q.1) : TlIn h₀ (hideAll h (news.map (·.1))) L tl := fun p hp => by
  refine ⟨hideAll_get _ (N p hp).1 fun hm => ?_, (N p hp).2⟩
  obtain ⟨q, hq, e⟩ := List.mem_map.mp hm
  exact d p hp q hq e.symm
theorem ws_method {prog : Program} {w : World} {A : Around} {E : Value → Shared → Prop} {s : Shared} {h₀ g : Heap} {L₀ L : Addr} {m : Str → Option Value} {tl : List (Addr × Obj)} {x : Addr} {n : Nat} {pl : Sem Bool} {Q : Value × List Value → Shared → Prop}
    (F : Fr g L s.heap m) (X : (hd.heap_39 w.params).In g) (G : TlIn h₀ g L₀ tl) (W : WsT w tl x n) (h : Q (.ref 125, [.ref x]) s) : wpAny (model prog w) A (getMethod (.ref x) (Str.ofString "indent_level") pl) Q E s := by
  obtain ⟨dx, dn, dc, v1, v2, v5, k1, k2, k3, k4, k5, t3, tb, vs, h1, h2, h3, h4, h5⟩ := W
  exact method_inst F X (C := 156) ⟨F.keep _ _ (G _ h1).1, rfl, rfl, F.keep _ _ (G _ h2).1⟩ rfl rfl rfl rfl h
theorem ws_call : ∀ {w : World} {mean : ExcName → Option Value} {mg mb : Str → Option Value} {A₀ A₁ : Around} {dp un : Nat} {gd : Option (List Code)} {env env' : Env} {outer : List Env} {base h₀ g : Heap} {L L' : Addr} {m : Str → Option Value} {s : Shared} {tl : List (Addr × Obj)} {x : Addr} {n z : Nat} {tz : Tok} {Q : Value → Shared → Prop} {E : Value → Shared → Prop}
    (B : Below A₀ base outer h₀) (X : (hd.heap_39 w.params).In h₀) (T : Top hd.view_39 (looseW hd.view_39 [Str.ofString "insort_left", Str.ofString "bisect_left", Str.ofString "_twin_re_1", Str.ofString "_twin_re_2", Str.ofString "Whitespace"]) mean mg mb h₀) (hf : env.frame = some L)
    (B' : Below A₁ base (env :: outer) g) (st : ∀ b o, h₀.get? b = some o → g.get? b = some o) (F : Fr g L' s.heap m) (hf' : env'.frame = some L') (hke' : env'.scope.kind = .function)
    (G : TlIn h₀ g L tl) (W : WsT w tl x n) (hlen2 : n ≤ 11) (n1 : 1 ≤ n) (z1 : 2 ≤ z) (z2 : z ≤ 5) (hd1 : dp ≤ 560) (hu : un ≤ 200)
    (hret : ∀ t h' tk', (∀ b o, s.heap.get? b = some o → h'.get? b = some o) → Q (.int (indF z n) t) { s with heap := h', toks := tk' }),
    wpAny (model rw_sc0082_01.row.prog w) ⟨none, dp, some (env' :: env :: outer), gd, un⟩ (call (.ref 125) [.ref x, .int z tz]) Q E s := by
  intro w mean mg mb A₀ A₁ dp un gd env env' outer base h₀ g L L' m s tl x n z tz Q E B X T hf B' st F hf' hke' G W hlen2 n1 z1 z2 hd1 hu hret
  obtain ⟨dx, dn, dc, v1, v2, v5, k1, k2, k3, k4, k5, t3, tb, vs, h1, h2, h3, h4, h5⟩ := W
  have no : ∀ b o, h₀.get? b = some o → b ∉ [x, dx, dn, dc] := fun b o e hm => by
    have n1 := (G _ h1).2.2
    have n2 := (G _ h2).2.2
    have n3 := (G _ h3).2.2
    have n4 := (G _ h4).2.2
    simp only [List.mem_cons, List.not_mem_nil, or_false] at hm
    rcases hm with q | q | q | q
    · rw [q, n1] at e; cases e
    · rw [q, n2] at e; cases e
    · rw [q, n3] at e; cases e
    · rw [q, n4] at e; cases e
  have st' : ∀ b o, h₀.get? b = some o → (hideAll g [x, dx, dn, dc]).get? b = some o := fun b o e => hideAll_get _ (st b o e) (no b o e)
  have nL : L ∉ [x, dx, dn, dc] := fun hm => by
    simp only [List.mem_cons, List.not_mem_nil, or_false] at hm
    rcases hm with q | q | q | q
    · exact (G _ h1).2.1 q.symm
    · exact (G _ h2).2.1 q.symm
    · exact (G _ h3).2.1 q.symm
    · exact (G _ h4).2.1 q.symm
  have F₁ : Fr (hideAll g [x, dx, dn, dc]) L' s.heap m := ⟨F.ns, fun b o e => F.keep b o (of_hideAll _ e), by rw [hideAll_size]; exact F.above⟩
  have gn : ∀ {p : Addr × Obj}, p ∈ tl → p.1 ∈ [x, dx, dn, dc] → s.heap.get? p.1 = some p.2 ∧ p.1 ≠ L' ∧ (hideAll g [x, dx, dn, dc]).get? p.1 = none := fun {p} hp hm =>
    ⟨F.keep _ _ (G p hp).1, Nat.ne_of_lt (Nat.lt_of_lt_of_le (Heap.lt_size (G p hp).1) F.above), hideAll_none _ hm⟩
  have N₁ : News (hideAll g [x, dx, dn, dc]) L' s.heap [(x, instObj 156 dx), (dx, wsDict w v1 v2 (.int 1 t3) (.ref dn) v5 k1 k2 k3 k4 k5), (dn, tupOf [.ref dc, .int 0 tb]), (dc, tupOf vs)] := by
    intro p hp
    simp only [List.mem_cons, List.not_mem_nil, or_false] at hp
    rcases hp with rfl | rfl | rfl | rfl
    · exact gn h1 (by simp)
    · exact gn h2 (by simp)
    · exact gn h3 (by simp)
    · exact gn h4 (by simp)
  have B₁ : Below A₁ base (env :: outer) (hideAll g [x, dx, dn, dc]) := by
    refine ⟨B'.stack, fun b o e => st' b o (B.stays b o e), funFrames_hideAll B'.frames fun env₁ he b hb hf₁ => ?_⟩
    cases he with
    | head => exact nL ((Option.some.inj (hf.symm.trans hf₁) : L = b) ▸ hb)
    | tail _ he =>
      obtain ⟨L₁, o₁, hf₂, ho₁⟩ := funFrames_in B.frames env₁ he
      rw [hf₂] at hf₁
      exact no L₁ o₁ ho₁ ((Option.some.inj hf₁ : L₁ = b) ▸ hb)
  refine wcall (indent (z := z) B₁ F₁ (X.keeps st') N₁ (T.keeps st') hf' hke' h5 rfl (by simp) (by simp; omega) n1 hlen2 z1 z2 hd1 hu fun t h' tk' k => ?_)
  exact hret t h' tk' k
end Mine
end
section
open PySem PySem.W PyProof.Rows PySem.Challenge PySem.Calls PySem.Spec PyProof.V
namespace Mine
noncomputable def maxI (a b c : Int) : Int := if b > a then (if c > b then c else b) else (if c > a then c else a)
noncomputable def minI (a b c : Int) : Int := if b < a then (if c < b then c else b) else (if c < a then c else a)
noncomputable def satI (a b c : Int) : UInt64 := if minI a b c = maxI a b c then 0 else Float64.ofFrac (decide (maxI a b c - minI a b c < 0) != decide (maxI a b c < 0)) (maxI a b c - minI a b c).natAbs (maxI a b c).natAbs
/-- the greatest and the least, each under its name (kept from omega) -/
noncomputable def MaxOf (n a b c : Int) : Prop := n = maxI a b c
noncomputable def MinOf (n a b c : Int) : Prop := n = minI a b c
theorem max_facts {a b c n : Int} (h : MaxOf n a b c) : a ≤ n ∧ b ≤ n ∧ c ≤ n ∧ (n = a ∨ n = b ∨ n = c) := by
  have h' : n = maxI a b c := h
  clear h
  subst h'
  unfold maxI
  by_cases q : b > a
  · rw [if_pos q]
    by_cases r : c > b
    · rw [if_pos r]; exact ⟨Int.le_of_lt (Int.lt_trans q r), Int.le_of_lt r, Int.le_refl _, .inr (.inr rfl)⟩
    · rw [if_neg r]; exact ⟨Int.le_of_lt q, Int.le_refl _, Int.not_lt.mp r, .inr (.inl rfl)⟩
  · rw [if_neg q]
    by_cases r : c > a
    · rw [if_pos r]; exact ⟨Int.le_of_lt r, Int.le_trans (Int.not_lt.mp q) (Int.le_of_lt r), Int.le_refl _, .inr (.inr rfl)⟩
    · rw [if_neg r]; exact ⟨Int.le_refl _, Int.not_lt.mp q, Int.not_lt.mp r, .inl rfl⟩
theorem min_facts {a b c n : Int} (h : MinOf n a b c) : n ≤ a ∧ n ≤ b ∧ n ≤ c ∧ (n = a ∨ n = b ∨ n = c) := by
  have h' : n = minI a b c := h
  clear h
  subst h'
  unfold minI
  by_cases q : b < a
  · rw [if_pos q]
    by_cases r : c < b
    · rw [if_pos r]; exact ⟨Int.le_of_lt (Int.lt_trans r q), Int.le_of_lt r, Int.le_refl _, .inr (.inr rfl)⟩
    · rw [if_neg r]; exact ⟨Int.le_of_lt q, Int.le_refl _, Int.not_lt.mp r, .inr (.inl rfl)⟩
  · rw [if_neg q]
    by_cases r : c < a
    · rw [if_pos r]; exact ⟨Int.le_of_lt r, Int.le_trans (Int.le_of_lt r) (Int.not_lt.mp q), Int.le_refl _, .inr (.inr rfl)⟩
    · rw [if_neg r]; exact ⟨Int.le_refl _, Int.not_lt.mp q, Int.not_lt.mp r, .inl rfl⟩
theorem max3I {prog : Program} {w : World} {A : Around} {E : Value → Shared → Prop} {s : Shared} {Q : Value → Shared → Prop} {a b c : Int} {t u x : Tok} {h₀ : Heap} {L : Addr} {m : Str → Option Value} {news : List (Addr × Obj)}
    (hh : A.handled = none) (F : Fr h₀ L s.heap m) (N : News h₀ L s.heap news) (a1 : a < 100) (b1 : b < 100) (c1 : c < 100)
    (h : ∀ h' tk v n, Fr h₀ L h' m → News h₀ L h' news → MaxOf n a b c → a ≤ n → b ≤ n → c ≤ n → n < 100 → Q (.int n v) { s with heap := h', toks := tk }) :
    wpAny (model prog w) A (call (.builtin "max") [.int a t, .int b u, .int c x]) Q E s :=
  max3i hh F N fun h' tk v n F' N' e => by
    have q := max_facts (n := n) (a := a) (b := b) (c := c) e
    exact h h' tk v n F' N' e q.1 q.2.1 q.2.2.1 (by rcases q.2.2.2 with r | r | r <;> rw [r] <;> assumption)
theorem min3I {prog : Program} {w : World} {A : Around} {E : Value → Shared → Prop} {s : Shared} {Q : Value → Shared → Prop} {a b c : Int} {t u x : Tok} {h₀ : Heap} {L : Addr} {m : Str → Option Value} {news : List (Addr × Obj)}
    (hh : A.handled = none) (F : Fr h₀ L s.heap m) (N : News h₀ L s.heap news) (a1 : 0 ≤ a) (b1 : 0 ≤ b) (c1 : 0 ≤ c)
    (h : ∀ h' tk v n, Fr h₀ L h' m → News h₀ L h' news → MinOf n a b c → n ≤ a → n ≤ b → n ≤ c → 0 ≤ n → Q (.int n v) { s with heap := h', toks := tk }) :
    wpAny (model prog w) A (call (.builtin "min") [.int a t, .int b u, .int c x]) Q E s :=
  min3i hh F N fun h' tk v n F' N' e => by
    have q := min_facts (n := n) (a := a) (b := b) (c := c) e
    exact h h' tk v n F' N' e q.1 q.2.1 q.2.2.1 (by rcases q.2.2.2 with r | r | r <;> rw [r] <;> assumption)
theorem rgbi : ∀ {w : World} {mean : ExcName → Option Value} {mg mb : Str → Option Value} {A₀ : Around} {dp un : Nat} {gd : Option (List Code)} {env : Env} {outer : List Env} {base h₀ : Heap} {L : Addr} {m : Str → Option Value} {s : Shared} {R : Result → Shared → Prop} {ra ga ba : Int} {t1 t2 t3 : Tok}
  (B : Below A₀ base outer h₀) (F : Fr h₀ L s.heap m) (X : (hd.heap_39 w.params).In h₀) (N : News h₀ L s.heap []) (T : Top hd.view_39 (looseW hd.view_39 [Str.ofString "insort_left", Str.ofString "bisect_left", Str.ofString "_twin_re_1", Str.ofString "_twin_re_2", Str.ofString "Whitespace"]) mean mg mb h₀)
  (hf : env.frame = some L) (hke : env.scope.kind = .function)
  (r0 : 0 ≤ ra) (r1 : ra < 100) (g0 : 0 ≤ ga) (g1 : ga < 100) (b0 : 0 ≤ ba) (b1 : ba < 100) (hd1 : dp ≤ 560) (hu : un ≤ 200)
  (hret : ∀ r x y z tx ty tz h' tk', (∀ b o, s.heap.get? b = some o → h'.get? b = some o) → s.heap.get? r = none → h'.get? r = some { cls := .type "tuple", data := .seq #[.float x tx, .float y ty, .int z tz] } → satI ra ga ba = y → R (.ok (.ret (.ref r))) { s with heap := h', toks := tk' }),
  codeAny (model rw_sc0082_01.row.prog w) ⟨none, dp, some (env :: outer), gd, un⟩ (.call (.ref 63) ⟨[.int ra t1, .int ga t2, .int ba t3], []⟩) R s := by
  k_with_none
  w_top off
  (k_with "storeName" => (k_here; k_dflt (first | (refine storeX_i (by k_asm) (by k_asm) ?_ (by rfl) (by rfl); k_whole; intro wh' wtk' wt' wm' wF' wN') | (refine storeX_s (by k_asm) (by k_asm) ?_ (by rfl) (by rfl); k_whole; intro wh' wtk' wt' wm' wF' wN') | (refine storeX_f (by k_asm) (by k_asm) ?_ (by rfl) (by rfl); k_whole; intro wh' wtk' wt' wm' wF' wN') | (refine storeX_v (by k_asm) (by k_asm) ?_ (by rfl) (by rfl); k_whole; intro wh' wtk' wm' wF' wN')); (try k_sweep)))
  (k_with "call builtin:max" => ((with_reducible show wpAny _ _ (call _ [Value.int _ _, Value.int _ _, Value.int _ _]) _ _ _); (rename News _ _ _ _ => wlN'); (rename Fr _ _ _ _ => wlF'); k_dflt (refine max3I rfl wlF' wlN' (by assumption) (by assumption) (by assumption) ?_); clear wlN' wlF'; intro _ _ _ _ _ _ _ _ _ _ _))
  (k_with "call builtin:min" => ((with_reducible show wpAny _ _ (call _ [Value.int _ _, Value.int _ _, Value.int _ _]) _ _ _); (rename News _ _ _ _ => wlN'); (rename Fr _ _ _ _ => wlF'); k_dflt (refine min3I rfl wlF' wlN' (by assumption) (by assumption) (by assumption) ?_); clear wlN' wlF'; intro _ _ _ _ _ _ _ _ _ _ _))
  k_fill
  intro w mean mg mb A₀ dp un gd env outer base h₀ L m s R ra ga ba t1 t2 t3 B F X N T hf hke r0 r1 g0 g1 b0 b1 hd1 hu hret
  refine ent B F X N T rfl hf hke (by k_is) (by k_is) (by dsimp only; unfold recursionLimit; omega) (BindsTo.of_eq rfl) (locs rfl) ?_ rfl rfl rfl (by decide)
  intro g L' h' hg e₁ A₁ m₁ F' N' B' X' T'
  k_steps
  all_goals (
    (rename News g L' _ _ => N8); (rename Fr g L' _ _ => F8);
    refine hret _ _ _ _ _ _ _ _ _ (keeps_of hg N F8 N8 (fun p hp => nomatch hp)) (new_of hg N8 (List.mem_cons_self ..) (fun h => nomatch h)) (N8 _ (List.mem_cons_self ..)).1 ?_;
    unfold satI;
    (rename MaxOf _ _ _ _ => e8); (rename MinOf _ _ _ _ => e9); (change _ = maxI ra ga ba at e8); (change _ = minI ra ga ba at e9);
    rw [← e8, ← e9];
    (first | rw [if_pos (by assumption)] | rw [if_neg (by assumption)]))
  all_goals trace_state
end Mine
end
section
open PySem PySem.W PyProof.Rows PySem.Challenge PySem.Calls PySem.Spec PyProof.V
namespace Mine
noncomputable def hueI (h : UInt64) : Int := Flt.toInt Float64.truncOf (Float64.mul h 4618441417868443648)
noncomputable def lightF (h : UInt64) : UInt64 × UInt64 × UInt64 :=
  if (Flt.toInt Float64.truncOf (Float64.mul h 4618441417868443648)).fmod 6 = 0 then (4607182418800017408, Float64.mul 4607182418800017408 (Float64.sub 4607182418800017408 (Float64.mul 4607182418800017408 (Float64.sub 4607182418800017408 (Float64.sub (Float64.mul h 4618441417868443648) (Float64.ofInt (Flt.toInt Float64.truncOf (Float64.mul h 4618441417868443648))))))), Float64.mul 4607182418800017408 (Float64.sub 4607182418800017408 4607182418800017408))
  else if (Flt.toInt Float64.truncOf (Float64.mul h 4618441417868443648)).fmod 6 = 1 then (Float64.mul 4607182418800017408 (Float64.sub 4607182418800017408 (Float64.mul 4607182418800017408 (Float64.sub (Float64.mul h 4618441417868443648) (Float64.ofInt (Flt.toInt Float64.truncOf (Float64.mul h 4618441417868443648)))))), 4607182418800017408, Float64.mul 4607182418800017408 (Float64.sub 4607182418800017408 4607182418800017408))
  else if (Flt.toInt Float64.truncOf (Float64.mul h 4618441417868443648)).fmod 6 = 2 then (Float64.mul 4607182418800017408 (Float64.sub 4607182418800017408 4607182418800017408), 4607182418800017408, Float64.mul 4607182418800017408 (Float64.sub 4607182418800017408 (Float64.mul 4607182418800017408 (Float64.sub 4607182418800017408 (Float64.sub (Float64.mul h 4618441417868443648) (Float64.ofInt (Flt.toInt Float64.truncOf (Float64.mul h 4618441417868443648))))))))
  else if (Flt.toInt Float64.truncOf (Float64.mul h 4618441417868443648)).fmod 6 = 3 then (Float64.mul 4607182418800017408 (Float64.sub 4607182418800017408 4607182418800017408), Float64.mul 4607182418800017408 (Float64.sub 4607182418800017408 (Float64.mul 4607182418800017408 (Float64.sub (Float64.mul h 4618441417868443648) (Float64.ofInt (Flt.toInt Float64.truncOf (Float64.mul h 4618441417868443648)))))), 4607182418800017408)
  else if (Flt.toInt Float64.truncOf (Float64.mul h 4618441417868443648)).fmod 6 = 4 then (Float64.mul 4607182418800017408 (Float64.sub 4607182418800017408 (Float64.mul 4607182418800017408 (Float64.sub 4607182418800017408 (Float64.sub (Float64.mul h 4618441417868443648) (Float64.ofInt (Flt.toInt Float64.truncOf (Float64.mul h 4618441417868443648))))))), Float64.mul 4607182418800017408 (Float64.sub 4607182418800017408 4607182418800017408), 4607182418800017408)
  else (4607182418800017408, Float64.mul 4607182418800017408 (Float64.sub 4607182418800017408 4607182418800017408), Float64.mul 4607182418800017408 (Float64.sub 4607182418800017408 (Float64.mul 4607182418800017408 (Float64.sub (Float64.mul h 4618441417868443648) (Float64.ofInt (Flt.toInt Float64.truncOf (Float64.mul h 4618441417868443648)))))))
theorem no_six {i : Int} (h0 : i.fmod 6 ≠ 0) (h1 : i.fmod 6 ≠ 1) (h2 : i.fmod 6 ≠ 2) (h3 : i.fmod 6 ≠ 3) (h4 : i.fmod 6 ≠ 4) (h5 : i.fmod 6 ≠ 5) : False := by
  have a := Int.fmod_nonneg_of_pos i (show (0 : Int) < 6 by decide)
  have b := Int.fmod_lt_of_pos i (show (0 : Int) < 6 by decide)
  omega
theorem no_big {i : Int} (a : 0 ≤ i) (b : i < 100) (h : 2 ^ 1024 - 2 ^ 970 ≤ i.natAbs) : False := absurd (Nat.le_trans h (show i.natAbs ≤ 100 by omega)) (by decide +kernel)
theorem hsv : ∀ {w : World} {mean : ExcName → Option Value} {mg mb : Str → Option Value} {A₀ : Around} {dp un : Nat} {gd : Option (List Code)} {env : Env} {outer : List Env} {base h₀ : Heap} {L : Addr} {m : Str → Option Value} {s : Shared} {R : Result → Shared → Prop} {h : UInt64} {t1 t2 t3 : Tok}
  (B : Below A₀ base outer h₀) (F : Fr h₀ L s.heap m) (X : (hd.heap_39 w.params).In h₀) (N : News h₀ L s.heap []) (T : Top hd.view_39 (looseW hd.view_39 [Str.ofString "insort_left", Str.ofString "bisect_left", Str.ofString "_twin_re_1", Str.ofString "_twin_re_2", Str.ofString "Whitespace"]) mean mg mb h₀)
  (hf : env.frame = some L) (hke : env.scope.kind = .function)
  (hnan : Float64.isNaN (Float64.mul h 4618441417868443648) = false) (hinf : Float64.isInf (Float64.mul h 4618441417868443648) = false) (ht0 : 0 ≤ Flt.toInt Float64.truncOf (Float64.mul h 4618441417868443648)) (ht1 : Flt.toInt Float64.truncOf (Float64.mul h 4618441417868443648) < 100) (hd1 : dp ≤ 560) (hu : un ≤ 200)
  (hret : ∀ r a b c ta tb tc h' tk', (∀ b o, s.heap.get? b = some o → h'.get? b = some o) → s.heap.get? r = none → h'.get? r = some { cls := .type "tuple", data := .seq #[.float a ta, .float b tb, .float c tc] } → lightF h = (a, b, c) → R (.ok (.ret (.ref r))) { s with heap := h', toks := tk' }),
  codeAny (model rw_sc0082_01.row.prog w) ⟨none, dp, some (env :: outer), gd, un⟩ (.call (.ref 70) ⟨[.float h t1, .float 4607182418800017408 t2, .float 4607182418800017408 t3], []⟩) R s := by
  k_with_none
  w_top off
  (k_with "storeName" => (k_here; k_dflt (first | (refine storeX_i (by k_asm) (by k_asm) ?_ (by rfl) (by rfl); k_whole; intro wh' wtk' wt' wm' wF' wN') | (refine storeX_s (by k_asm) (by k_asm) ?_ (by rfl) (by rfl); k_whole; intro wh' wtk' wt' wm' wF' wN') | (refine storeX_f (by k_asm) (by k_asm) ?_ (by rfl) (by rfl); k_whole; intro wh' wtk' wt' wm' wF' wN') | (refine storeX_v (by k_asm) (by k_asm) ?_ (by rfl) (by rfl); k_whole; intro wh' wtk' wm' wF' wN')); (try k_sweep)))
  k_fill
  intro w mean mg mb A₀ dp un gd env outer base h₀ L m s R h t1 t2 t3 B F X N T hf hke hnan hinf ht0 ht1 hd1 hu hret
  refine ent B F X N T rfl hf hke (by k_is) (by k_is) (by dsimp only; unfold recursionLimit; omega) (BindsTo.of_eq rfl) (locs rfl) ?_ rfl rfl rfl (by decide)
  intro g L' h' hg e₁ A₁ m₁ F' N' B' X' T'
  k_steps
  all_goals first
    | (exfalso; exact absurd ‹(Float64.cmp 4607182418800017408 0 == some Ordering.eq) = true› (by decide +kernel))
    | (exfalso; exact Bool.noConfusion (hnan.symm.trans (by assumption)))
    | (exfalso; exact Bool.noConfusion (hinf.symm.trans (by assumption)))
    | (exfalso; exact no_big ht0 ht1 (by assumption))
    | (exfalso; exact no_six (by assumption) (by assumption) (by assumption) (by assumption) (by assumption) (by assumption))
    | ((rename News g L' _ _ => N8); (rename Fr g L' _ _ => F8);
       refine hret _ _ _ _ _ _ _ _ _ (keeps_of hg N F8 N8 (fun p hp => nomatch hp)) (new_of hg N8 (List.mem_cons_self ..) (fun h => nomatch h)) (N8 _ (List.mem_cons_self ..)).1 ?_;
       unfold lightF; repeat (first | rw [if_pos (by assumption)] | rw [if_neg (by assumption)]))
  all_goals trace_state
end Mine
end
section
open PySem PySem.W PyProof.Rows PySem.Challenge PySem.Calls PySem.Spec PyProof.V
namespace Mine
noncomputable def hueQ (y : Int) (z : Nat) : UInt64 := Float64.ofFrac (decide (4 * y + 1 < 0) != decide (4 * (z : Int) < 0)) (4 * y + 1).natAbs (4 * (z : Int)).natAbs
noncomputable def sixM (h : UInt64) : UInt64 := Float64.mul h 4618441417868443648
noncomputable def mx3 (a b c : UInt64) : UInt64 := Flt.bestBits Flt.gtB a [b, c]
noncomputable def mn3 (a b c : UInt64) : UInt64 := Flt.bestBits Flt.ltB a [b, c]
noncomputable def lit (y : Int) (z : Nat) : UInt64 × UInt64 × UInt64 := lightF (hueQ y z)
noncomputable def backM (y : Int) (z : Nat) : UInt64 := Float64.mul (hueF (lit y z).1 (lit y z).2.1 (lit y z).2.2) (Float64.ofInt z)
noncomputable def hueOk (y : Int) (z : Nat) : Bool :=
  !Float64.isNaN (sixM (hueQ y z)) && !Float64.isInf (sixM (hueQ y z)) && decide (0 ≤ Flt.toInt Float64.truncOf (sixM (hueQ y z))) && decide (Flt.toInt Float64.truncOf (sixM (hueQ y z)) < 100)
  && !(Float64.cmp (mn3 (lit y z).1 (lit y z).2.1 (lit y z).2.2) (mx3 (lit y z).1 (lit y z).2.1 (lit y z).2.2) == some Ordering.eq)
  && !Float64.isZero (mx3 (lit y z).1 (lit y z).2.1 (lit y z).2.2) && !Float64.isZero (Float64.sub (mx3 (lit y z).1 (lit y z).2.1 (lit y z).2.2) (mn3 (lit y z).1 (lit y z).2.1 (lit y z).2.2))
  && !Float64.isNaN (backM y z) && !Float64.isInf (backM y z) && decide (Flt.toInt Float64.truncOf (backM y z) = y.fmod z)
theorem hue_tbl : ∀ y : Fin 6, ∀ z : Fin 4, hueOk ((y.1 + 1 : Nat) : Int) (z.1 + 2) = true := by decide +kernel
theorem hue_ok {y : Int} {z : Nat} (y1 : 1 ≤ y) (y2 : y ≤ 6) (z1 : 2 ≤ z) (z2 : z ≤ 5) : hueOk y z = true := by
  have h := hue_tbl ⟨(y - 1).toNat, by omega⟩ ⟨z - 2, by omega⟩
  dsimp only at h
  rw [show (((y - 1).toNat + 1 : Nat) : Int) = y by omega, show z - 2 + 2 = z by omega] at h
  exact h
structure HueOk (y : Int) (z : Nat) : Prop where
  nan : Float64.isNaN (Float64.mul (hueQ y z) 4618441417868443648) = false
  inf : Float64.isInf (Float64.mul (hueQ y z) 4618441417868443648) = false
  t0 : 0 ≤ Flt.toInt Float64.truncOf (Float64.mul (hueQ y z) 4618441417868443648)
  t1 : Flt.toInt Float64.truncOf (Float64.mul (hueQ y z) 4618441417868443648) < 100
  ne : (Float64.cmp (mn3 (lit y z).1 (lit y z).2.1 (lit y z).2.2) (mx3 (lit y z).1 (lit y z).2.1 (lit y z).2.2) == some Ordering.eq) = false
  z1 : Float64.isZero (mx3 (lit y z).1 (lit y z).2.1 (lit y z).2.2) = false
  z2 : Float64.isZero (Float64.sub (mx3 (lit y z).1 (lit y z).2.1 (lit y z).2.2) (mn3 (lit y z).1 (lit y z).2.1 (lit y z).2.2)) = false
  bnan : Float64.isNaN (backM y z) = false
  binf : Float64.isInf (backM y z) = false
  back : Flt.toInt Float64.truncOf (backM y z) = y.fmod z
theorem hueOk_of {y : Int} {z : Nat} (y1 : 1 ≤ y) (y2 : y ≤ 6) (z1 : 2 ≤ z) (z2 : z ≤ 5) : HueOk y z := by
  have h := hue_ok y1 y2 z1 z2
  unfold hueOk at h
  simp only [Bool.and_eq_true, Bool.not_eq_true', decide_eq_true_eq] at h
  obtain ⟨⟨⟨⟨⟨⟨⟨⟨⟨h1, h2⟩, h3⟩, h4⟩, h5⟩, h6⟩, h7⟩, h8⟩, h9⟩, h10⟩ := h
  exact ⟨h1, h2, h3, h4, h5, h6, h7, h8, h9, h10⟩
section
variable {prog : Program} {w : World} {A : Around} {E : Value → Shared → Prop} {s : Shared} {t u : Tok} {Q : Value → Shared → Prop}
theorem div_hue {y : Int} {z : Nat} (hA : A.handled = none) (y1 : 1 ≤ y) (y2 : y ≤ 6) (z1 : 2 ≤ z) (h : ∀ t' k, Q (.float (hueQ y z) t') { s with toks := k }) : wpAny (model prog w) A (binaryOp .Div (.int (4 * y + 1) t) (.int (4 * (z : Int)) u)) Q E s :=
  Flt.div_ii_fits hA (Nat.lt_of_le_of_lt (show (4 * y + 1).natAbs ≤ 25 by omega) (by decide +kernel)) (fun e => absurd e (by omega)) fun _ _ => h _ _
end
end Mine
end
section
open PySem PySem.W PyProof.Rows PySem.Challenge PySem.Calls PySem.Spec PyProof.V
namespace Mine
open LCg
section
variable {prog : Program} {w : World} {A : Around} {E : Value → Shared → Prop} {s : Shared} {h₀ : Heap} {L : Addr} {m : Str → Option Value} {env : Env}
/-- what an element must bring: the ledger as it was, and its word -/
abbrev TriEnd (h₀ : Heap) (L : Addr) (m : Str → Option Value) (s : Shared) (I : Addr) (oI : Obj) (C : Addr) (oC : Obj) (D : Addr) (ys : List Value) (news : List (Addr × Obj)) (Rel : Value → Prop) : Value → Shared → Prop :=
  CompEnd h₀ L m s I oI C oC D (lst ys) (fun _ => True) (fun v nw => nw = news ∧ Rel v)
/-- between the turns of such a comprehension -/
noncomputable def TriMid (h₀ : Heap) (L : Addr) (m : Str → Option Value) (s₂ : Shared) (I C D ax : Addr) (its : List Value) (news : List (Addr × Obj)) (Rel : Nat → Value → Prop) (k : Nat) (s' : Shared) : Prop :=
  ∃ h tk i ys m', s' = { s₂ with heap := h, toks := tk } ∧ i ≤ its.length ∧ k = its.length + 1 - i ∧ ys.length = i ∧ (h.IsListIter I ax i ∧ h.IsList ax its.toArray) ∧ Fr h₀ L h m ∧ h.Ns C m' ∧ News h₀ L h ((D, lst ys) :: news) ∧ ∀ j v, ys[j]? = some v → Rel j v
theorem rel_snoc {Rel : Nat → Value → Prop} {ys : List Value} {v : Value} (h : ∀ j u, ys[j]? = some u → Rel j u) (r : Rel ys.length v) : ∀ j u, (ys ++ [v])[j]? = some u → Rel j u := by
  intro j u e
  rcases Nat.lt_trichotomy j ys.length with hj | hj | hj
  · rw [List.getElem?_append_left hj] at e; exact h j u e
  · subst hj
    rw [List.getElem?_append_right (Nat.le_refl _), Nat.sub_self] at e
    cases e; exact r
  · rw [List.getElem?_eq_none (by simp; omega)] at e; cases e
theorem tri_loop {elt iter : Expr} {x y q : Str} {px py pq tp : Pos} {tk₀} {scope : Scope} {cl : List (Str × Addr)} {pos : Pos} {ax I C D : Addr} {its : List Value} {cc : Nat} {news : List (Addr × Obj)} {m₁ : Str → Option Value} (Rel : Nat → Value → Prop) {R : Result → Shared → Prop}
    (hh : A.handled = none) (F : Fr h₀ L s.heap m) (N : News h₀ L s.heap ((D, lst []) :: news)) (hm : (ax, listOf its.toArray cc) ∈ news) (hsz : its.length ≤ 1000)
    (hn : s.heap.Ns C m₁) (hI : s.heap.IsListIter I ax 0)
    (hIL : I ≠ L) (hCL : C ≠ L) (hI₀ : h₀.get? I = none) (hC₀ : h₀.get? C = none) (hIC : I ≠ C) (hID : I ≠ D) (hCD : C ≠ D) (off : Off3 I C D news)
    (hkind : scope.kind = .function) (hx : scope.names.lookup x = some .local) (hy : scope.names.lookup y = some .local) (hq : scope.names.lookup q = some .local) (hxy : x ≠ y) (hxq : x ≠ q) (hyq : y ≠ q)
    (turn : ∀ i v, its[i]? = some v → ∃ (t : Addr) (v₁ v₂ v₃ : Value) (nt : Nat), v = .ref t ∧ (t, ({ cls := .type "tuple", data := .seq #[v₁, v₂, v₃] nt } : Obj)) ∈ news ∧
      ∀ ys I oI C oC D m₂ h tk (E' Q' : Value → Shared → Prop), NsObj oC m₂ → m₂ x = some v₁ → m₂ y = some v₂ → m₂ q = some v₃ → Fr h₀ L h m → News h₀ L h ((I, oI) :: (C, oC) :: (D, lst ys) :: news) → Off3 I C D news → ((@Ne Nat I C) ∧ (@Ne Nat I D) ∧ (@Ne Nat C D)) →
        (∀ y s', TriEnd h₀ L m { s with heap := h, toks := tk } I oI C oC D ys news (Rel i) y s' → Q' y s') →
        let e₂ := compEnvC scope cl C env
        wpAny (model prog w) A (eval elt e₂) Q' E' { s with heap := h, toks := tk })
    (fin : ∀ ys h tk m', Fr h₀ L h m → News h₀ L h ((D, lst ys) :: news) → h.Ns C m' → ys.length = its.length → (∀ j v, ys[j]? = some v → Rel j v) → R (.ok .next) { s with heap := h, toks := tk }) :
    codeAny (model prog w) A (.compLoop (.ListComp elt [⟨.Tuple [.Name x px, .Name y py, .Name q pq] tk₀ tp, iter, [], 0⟩] scope pos) 0 (.ref I) (.ref D) (compEnvC scope cl C env)) R s := by
  have off3 := off.mem
  have hDN := N (D, lst []) List.mem_cons_self
  have hDL : D ≠ L := hDN.2.1
  have hD₀ : h₀.get? D = none := hDN.2.2
  have hLs : s.heap.IsList ax its.toArray := News.isList (fun p hp => N p (List.mem_cons_of_mem _ hp)) hm
  have haI : ax ≠ I := (off3 _ hm).1
  have haC : ax ≠ C := (off3 _ hm).2.1
  have haD : ax ≠ D := (off3 _ hm).2.2
  have W := Walks.list (prog := prog) (w := w) hh I ax haI its.toArray
  refine LCp.codeAny_compLoop_pair (TriMid h₀ L m s I C D ax its news Rel) ?_ (its.length + 1) ⟨s.heap, s.toks, 0, [], m₁, rfl, Nat.zero_le _, rfl, rfl, ⟨hI, hLs⟩, F, hn, N, fun j v e => by cases e⟩
  rintro k s' ⟨h, tk, i, ys, m', rfl, hi, rfl, hyl, hst, F', hn', N', hrel⟩
  by_cases hlt : i < its.length
  · refine W.item i _ _ _ (by simpa using hlt) hst fun v h₂ tk₂ hv hst₂ hk₂ => ?_
    have hv' : its[i]? = some v := by simpa using hv
    obtain ⟨t, v₁, v₂, v₃, nt, rfl, hmt, step⟩ := turn i v hv'
    have N₂ : News h₀ L h₂ ((D, lst ys) :: news) := fun p hp => by
      refine ⟨hk₂ _ _ ?_ (N' p hp).1, (N' p hp).2⟩
      rcases List.mem_cons.mp hp with rfl | hp
      · simpa using Ne.symm hID
      · simpa using (off3 p hp).1
    have F₂ : Fr h₀ L h₂ m := fr_but F' hk₂ (Ne.symm hIL) hI₀
    have ht : IsTup h₂ t #[v₁, v₂, v₃] := ⟨_, (N₂ _ (List.mem_cons_of_mem _ hmt)).1, rfl, nt, rfl⟩
    refine wpAny_letOwnedTupleGo_listiter hst₂.1 ?_
    refine assign_Tuple_tuple hh ht rfl rfl fun h₅ he => ?_
    have he' : ∀ b o, h₂.get? b = some o → h₅.get? b = some o := fun b o e => he b o (Nat.ne_of_lt (Heap.lt_size e)) e
    have hp : ((compEnvC scope cl C env).scope.kind == .class || ((compEnvC scope cl C env).scope.kind == .module && (compEnvC scope cl C env).locals != (compEnvC scope cl C env).globals)) = false := by simp [compEnvC, relabel, hkind]
    refine assignInOrder_cons (wpAny_assign_Name (wpAny_storeName_local (lookup_relabel_local hx) ((hn'.at' fun o e => hk₂ _ o (by simpa using Ne.symm hIC) e).at' fun o e => he' _ o e) (fun h₆ hn₆ hs₆ => ?_) hp))
    refine assignInOrder_cons (wpAny_assign_Name (wpAny_storeName_local (lookup_relabel_local hy) hn₆ (fun h₇ hn₇ hs₇ => ?_) hp))
    refine assignInOrder_cons (wpAny_assign_Name (wpAny_storeName_local (lookup_relabel_local hq) hn₇ (fun h₃ hn₃ hs₃ => ?_) hp))
    refine assignInOrder_nil ?_
    have old3 : ∀ b o, b ≠ C → h₂.get? b = some o → h₃.get? b = some o := fun b o hb e => hs₃.extBut b o hb (hs₇.extBut b o hb (hs₆.extBut b o hb (he' b o e)))
    have hst₃ := W.frame _ _ h₃ hst₂ fun b hb o e => old3 b o (fun z => by
      simp only [List.mem_cons, List.not_mem_nil, or_false] at hb
      rcases hb with h1 | h1
      · exact hIC (h1.symm.trans z)
      · exact haC (h1.symm.trans z)) e
    obtain ⟨oI, heI, _⟩ := id hst₃.1
    obtain ⟨oC, heC, hoC⟩ := ns_obj hn₃
    have F₃ : Fr h₀ L h₃ m := (((F₂.keeps he').change hs₆ hCL hC₀).change hs₇ hCL hC₀).change hs₃ hCL hC₀
    have N₃ : News h₀ L h₃ ((I, oI) :: (C, oC) :: (D, lst ys) :: news) := fun p hp => by
      rcases List.mem_cons.mp hp with rfl | hp
      · exact ⟨heI, hIL, hI₀⟩
      · rcases List.mem_cons.mp hp with rfl | hp
        · exact ⟨heC, hCL, hC₀⟩
        · refine ⟨old3 _ _ ?_ (N₂ p hp).1, (N₂ p hp).2⟩
          rcases List.mem_cons.mp hp with rfl | hp
          · exact Ne.symm hCD
          · exact (off3 p hp).2.1
    refine wpAny_mono (step ys I oI C oC D _ h₃ _ _ _ hoC (by simp [hxy, hxq]) (by simp [hyq]) (by simp) F₃ N₃ off ⟨hIC, hID, hCD⟩ fun _ _ q => q) (fun u s₄ h₄ => ?_) fun _ _ e => e
    obtain ⟨h₄, tk₄, news₄, rfl, F₄, N₄, off₄, _, hnw, hr⟩ := h₄
    rw [hnw] at N₄
    have zI := (N₄ (I, oI) List.mem_cons_self).1
    have zC := (N₄ (C, oC) (List.mem_cons_of_mem _ List.mem_cons_self)).1
    have zD := (N₄ (D, lst ys) (List.mem_cons_of_mem _ (List.mem_cons_of_mem _ List.mem_cons_self))).1
    have N₄' : News h₀ L h₄ news := fun p hp => N₄ p (List.mem_cons_of_mem _ (List.mem_cons_of_mem _ (List.mem_cons_of_mem _ hp)))
    have hst₄ : h₄.IsListIter I ax (i + 1) ∧ h₄.IsList ax its.toArray := ⟨hst₃.1.at fun o e => by rw [heI] at e; cases e; exact zI, News.isList N₄' hm⟩
    refine append_at (hsz := by show ys.toArray.size ≤ sizeLine; rw [List.size_toArray, sizeLine_eq]; omega) zD fun h₅ hs₅ hD₅ => ?_
    refine ⟨its.length + 1 - (i + 1), by omega, h₅, tk₄, i + 1, ys ++ [u], _, rfl, hlt, rfl, by rw [List.length_append, List.length_singleton, hyl], ?_, F₄.change hs₅ hDL hD₀, (hoC.ns zC).sameBut hs₅ hCD, fun p hp => ?_, rel_snoc hrel (by rw [hyl]; exact hr)⟩
    · exact W.frame _ _ h₅ hst₄ fun b hb o e => hs₅.extBut b o (fun z => by
        simp only [List.mem_cons, List.not_mem_nil, or_false] at hb
        rcases hb with h1 | h1
        · exact hID (h1.symm.trans z)
        · exact haD (h1.symm.trans z)) e
    · rcases List.mem_cons.mp hp with rfl | hp
      · exact ⟨hD₅.trans (congrArg some (lst_snoc ys u)), hDL, hD₀⟩
      · exact ⟨hs₅.extBut _ _ (off3 p hp).2.2 (N₄' p hp).1, (N₄' p hp).2⟩
  · obtain rfl : i = its.length := Nat.le_antisymm hi (Nat.not_lt.mp hlt)
    refine W.done _ _ _ (by simpa using hst) fun h₂ tk₂ hk₂ => ?_
    refine fin ys h₂ tk₂ m' (fr_but F' hk₂ (Ne.symm hIL) hI₀) (fun p hp => ?_) (hn'.at' fun o e => hk₂ _ o (by simpa using Ne.symm hIC) e) hyl hrel
    refine ⟨hk₂ _ _ ?_ (N' p hp).1, (N' p hp).2⟩
    rcases List.mem_cons.mp hp with rfl | hp
    · simpa using Ne.symm hID
    · simpa using (off3 p hp).1
/-- a comprehension whose target is three names, over a list of triples of the ledger; the elements leave the ledger as it is -/
theorem tri_comp {elt iter : Expr} {x y q : Str} {px py pq tp : Pos} {tk₀} {scope : Scope} {cl : List (Str × Addr)} {pos : Pos} {Q : Value → Shared → Prop} {ax : Addr} {its : List Value} {cc : Nat} {news : List (Addr × Obj)} (Rel : Nat → Value → Prop)
    (hh : A.handled = none) (F : Fr h₀ L s.heap m) (N : News h₀ L s.heap news) (hm : (ax, listOf its.toArray cc) ∈ news) (hsz : its.length ≤ 1000)
    (hclos : closureFor scope env = pure cl) (hcell : ∀ z ∈ scope.names, z.2 ≠ .cell) (hkind : scope.kind = .function)
    (hnames : ∀ z ∈ scope.names, z.2 = .local → scope.names.lookup z.1 = some .local) (hx : scope.names.lookup x = some .local) (hy : scope.names.lookup y = some .local) (hq : scope.names.lookup q = some .local) (hxy : x ≠ y) (hxq : x ≠ q) (hyq : y ≠ q)
    (hit : ∀ Q' : Value → Shared → Prop, Q' (.ref ax) s → wpAny (model prog w) A (eval iter env) Q' E s)
    (turn : ∀ i v, its[i]? = some v → ∃ (t : Addr) (v₁ v₂ v₃ : Value) (nt : Nat), v = .ref t ∧ (t, ({ cls := .type "tuple", data := .seq #[v₁, v₂, v₃] nt } : Obj)) ∈ news ∧
      ∀ ys I oI C oC D m₂ h tk (E' Q' : Value → Shared → Prop), NsObj oC m₂ → m₂ x = some v₁ → m₂ y = some v₂ → m₂ q = some v₃ → Fr h₀ L h m → News h₀ L h ((I, oI) :: (C, oC) :: (D, lst ys) :: news) → Off3 I C D news → ((@Ne Nat I C) ∧ (@Ne Nat I D) ∧ (@Ne Nat C D)) →
        (∀ y s', TriEnd h₀ L m { s with heap := h, toks := tk } I oI C oC D ys news (Rel i) y s' → Q' y s') →
        let e₂ := compEnvC scope cl C env
        wpAny (model prog w) A (eval elt e₂) Q' E' { s with heap := h, toks := tk })
    (fin : ∀ D ys h tk, Fr h₀ L h m → News h₀ L h ((D, lst ys) :: news) → Off1 D news → ys.length = its.length → (∀ j v, ys[j]? = some v → Rel j v) → Q (.ref D) { s with heap := h, toks := tk })
    (hs : ∀ z, foldedSetIterable iter env z = pure z := by intro _; rfl) :
    wpAny (model prog w) A (eval (.ListComp elt [⟨.Tuple [.Name x px, .Name y py, .Name q pq] tk₀ tp, iter, [], 0⟩] scope pos) env) Q E s := by
  rw [eval_ListComp]
  refine wpAny_comprehension_free (use := none) rfl hs hclos hkind hnames (hit _ ?_)
  have hl : s.heap.IsList ax its.toArray := News.isList N hm
  refine wpAny_pyIter_list hl ?_
  refine wpAny_newObj_type (wpAny_newFunctionEnv hcell (by intro y hy; simp at hy) (fun h₁ hns₁ hsb₁ => ?_) hkind)
  dsimp only at hns₁ hsb₁ ⊢
  generalize hH1 : s.heap.push { cls := .type "list_iterator", data := .fields #[.ref ax, .int 0 0] } = H1 at hns₁ hsb₁ ⊢
  have hD : H1.objs.size = s.heap.objs.size + 1 := by rw [← hH1, Heap.size_push]
  generalize hH2 : H1.push { cls := .type "list", dict := none, data := .seq ([] : List Value).toArray } = H2 at hns₁ hsb₁ ⊢
  have hC : H2.objs.size = s.heap.objs.size + 1 + 1 := by rw [← hH2, Heap.size_push, hD]
  have hIC : s.heap.objs.size ≠ H2.objs.size := by rw [hC]; exact Nat.ne_of_lt (Nat.lt_succ_of_lt (Nat.lt_succ_self _))
  have hID : s.heap.objs.size ≠ H1.objs.size := by rw [hD]; exact Nat.ne_of_lt (Nat.lt_succ_self _)
  have hCD : H2.objs.size ≠ H1.objs.size := by rw [hC, hD]; exact Nat.ne_of_gt (Nat.lt_succ_self _)
  have low : ∀ b, @LT.lt Nat _ b s.heap.objs.size → b ≠ s.heap.objs.size ∧ b ≠ H2.objs.size ∧ b ≠ H1.objs.size := fun b hb =>
    ⟨Nat.ne_of_lt hb, by rw [hC]; exact Nat.ne_of_lt (Nat.lt_succ_of_lt (Nat.lt_succ_of_lt hb)), by rw [hD]; exact Nat.ne_of_lt (Nat.lt_succ_of_lt hb)⟩
  have up1 : ∀ b o, s.heap.get? b = some o → H1.get? b = some o := fun b o e => by rw [← hH1]; exact Heap.get?_push_of_some _ e
  have up2 : ∀ b o, H1.get? b = some o → H2.get? b = some o := fun b o e => by rw [← hH2]; exact Heap.get?_push_of_some _ e
  have atI : H1.get? s.heap.objs.size = some { cls := .type "list_iterator", data := .fields #[.ref ax, .int 0 0] } := by rw [← hH1]; exact Heap.get?_push_size _ rfl
  have atD : H2.get? H1.objs.size = some (lst []) := by rw [← hH2]; exact Heap.get?_push_size _ rfl
  have old : ∀ b o, s.heap.get? b = some o → h₁.get? b = some o := fun b o e => hsb₁.extBut b o (low b (Heap.lt_size e)).2.1 (Heap.get?_push_of_some _ (up2 _ _ (up1 _ _ e)))
  have hIo : h₁.get? s.heap.objs.size = some { cls := .type "list_iterator", data := .fields #[.ref ax, .int 0 0] } := hsb₁.extBut _ _ hIC (Heap.get?_push_of_some _ (up2 _ _ atI))
  have hDo : h₁.get? H1.objs.size = some (lst []) := hsb₁.extBut _ _ (Ne.symm hCD) (Heap.get?_push_of_some _ atD)
  have fresh₀ : ∀ a, @LE.le Nat _ s.heap.objs.size a → h₀.get? a = none := fun a ha => by
    cases e : h₀.get? a with
    | none => rfl
    | some o' => exact absurd (Heap.lt_size (F.keep a o' e)) (Nat.not_lt.mpr ha)
  have hI₀ := fresh₀ s.heap.objs.size (Nat.le_refl _)
  have hC₀ := fresh₀ H2.objs.size (by rw [hC]; exact Nat.le_succ_of_le (Nat.le_succ _))
  have hD₀ := fresh₀ H1.objs.size (by rw [hD]; exact Nat.le_succ _)
  have hLl := low L F.ns.lt
  have off : Off3 s.heap.objs.size H2.objs.size H1.objs.size news := Off3.of fun p hp => low _ (Heap.lt_size (N p hp).1)
  have N₁ : News h₀ L h₁ ((H1.objs.size, lst []) :: news) := fun p hp => by
    rcases List.mem_cons.mp hp with rfl | hp
    · exact ⟨hDo, Ne.symm hLl.2.2, hD₀⟩
    · exact ⟨old _ _ (N p hp).1, (N p hp).2⟩
  have loop : ∀ s₃ : Shared, s₃ = { s with heap := h₁, toks := s.toks + ([] : List (Str × Value)).length } →
      codeAny (model prog w) A (.compLoop (.ListComp elt [⟨.Tuple [.Name x px, .Name y py, .Name q pq] tk₀ tp, iter, [], 0⟩] scope pos) 0 (.ref s.heap.objs.size) (.ref H1.objs.size) (compEnvC scope cl H2.objs.size env)) (compPost (model prog w) A E none Q (.ref H1.objs.size) H2.objs.size) s₃ := by
    rintro s₃ rfl
    refine tri_loop Rel hh (F.keeps old) N₁ hm hsz hns₁ ⟨_, hIo, rfl, rfl⟩ (Ne.symm hLl.1) (Ne.symm hLl.2.1) hI₀ hC₀ hIC hID hCD off hkind hx hy hq hxy hxq hyq turn fun ys h tk m' F' N' hn' hlen hrel => ?_
    have off3 := off.mem
    refine ⟨m', hn', fun h'' hs'' => fin _ ys h'' tk (F'.change hs'' (Ne.symm hLl.2.1) hC₀) (fun p hp => ?_) off.one hlen hrel⟩
    refine ⟨hs''.extBut _ _ ?_ (N' p hp).1, (N' p hp).2⟩
    rcases List.mem_cons.mp hp with rfl | hp
    · exact Ne.symm hCD
    · exact (off3 p hp).2.1
  have W := Walks.list (prog := prog) (w := w) hh s.heap.objs.size ax (Nat.ne_of_lt (Heap.lt_size (N _ hm).1)) its.toArray
  exact codeAny_compStart_list (loop _ rfl) (W.self 0 _ _ _ ⟨⟨_, hIo, rfl, rfl⟩, News.isList (fun p hp => N₁ p (List.mem_cons_of_mem _ hp)) hm⟩ (loop _ rfl))
theorem mulz {x : UInt64} {z : Nat} {t u : Tok} {Q : Value → Shared → Prop} (z2 : z ≤ 5) (h : ∀ t' k, Q (.float (Float64.mul x (Float64.ofInt z)) t') { s with toks := k }) : wpAny (model prog w) A (binaryOp .Mult (.float x t) (.int (z : Int) u)) Q E s :=
  mul_fi_fits (Nat.lt_of_le_of_lt (show ((z : Int)).natAbs ≤ 5 by omega) (by decide +kernel)) (h _ _)
theorem int_fl {x : UInt64} {t : Tok} {Q : Value → Shared → Prop} (hA : A.handled = none) (hn : Float64.isNaN x = false) (hi : Float64.isInf x = false) (h : ∀ t' k, Q (.int (Flt.toInt Float64.truncOf x) t') { s with toks := k }) : wpAny (model prog w) A (call (.type "int") [.float x t]) Q E s :=
  Flt.call_int_float3 hA (fun e => by rw [hn] at e; cases e) (fun e => by rw [hi] at e; cases e) fun _ => h _ _
/-- the facts of a light, told of its parts -/
structure BackOk (y : Int) (z : Nat) (a b c : UInt64) : Prop where
  ne : (Float64.cmp (Flt.bestBits Flt.ltB a [b, c]) (Flt.bestBits Flt.gtB a [b, c]) == some Ordering.eq) = false
  z1 : Float64.isZero (Flt.bestBits Flt.gtB a [b, c]) = false
  z2 : Float64.isZero (Float64.sub (Flt.bestBits Flt.gtB a [b, c]) (Flt.bestBits Flt.ltB a [b, c])) = false
  nan : Float64.isNaN (Float64.mul (hueF a b c) (Float64.ofInt z)) = false
  inf : Float64.isInf (Float64.mul (hueF a b c) (Float64.ofInt z)) = false
  back : Flt.toInt Float64.truncOf (Float64.mul (hueF a b c) (Float64.ofInt z)) = y.fmod z
theorem backOk_of {y : Int} {z : Nat} {a b c : UInt64} (H : HueOk y z) (e : lit y z = (a, b, c)) : BackOk y z a b c := by
  have e1 : (lit y z).1 = a := by rw [e]
  have e2 : (lit y z).2.1 = b := by rw [e]
  have e3 : (lit y z).2.2 = c := by rw [e]
  have h := H
  obtain ⟨_, _, _, _, h5, h6, h7, h8, h9, h10⟩ := h
  unfold backM at h8 h9 h10
  rw [e1, e2, e3] at h5 h6 h7 h8 h9 h10
  exact ⟨h5, h6, h7, h8, h9, h10⟩
end
end Mine
end
section
open PySem PySem.W PyProof.Rows PySem.Challenge PySem.Calls PySem.Spec PyProof.V
namespace Mine
noncomputable def eightF (q : UInt64) : Int := Flt.toInt Float64.truncOf (Float64.add (Float64.mul (Float64.ofInt 8) q) 4602678819172646912)
structure EightOk (q : UInt64) : Prop where
  nan : Float64.isNaN (Float64.add (Float64.mul (Float64.ofInt 8) q) 4602678819172646912) = false
  inf : Float64.isInf (Float64.add (Float64.mul (Float64.ofInt 8) q) 4602678819172646912) = false
structure EOk (a b c : Int) : Prop where
  a0 : 0 ≤ a
  a1 : a < 100
  b0 : 0 ≤ b
  b1 : b < 100
  c0 : 0 ≤ c
  c1 : c < 100
noncomputable def litT (z : Nat) (r : Int) : UInt64 × UInt64 × UInt64 :=
  if z = 2 then (if r = 1 then (0, 4598175219545276416, 4607182418800017408) else (4607182418800017408, 4604930618986332160, 0))
  else (if r = 1 then (0, 4607182418800017408, 4602678819172646912) else if r = 2 then (4602678819172646912, 0, 4607182418800017408) else (4607182418800017408, 4602678819172646912, 0))
theorem lit_tbl : ∀ y : Fin 6, ∀ z : Fin 2, lit ((y.1 + 1 : Nat) : Int) (z.1 + 2) = litT (z.1 + 2) (((y.1 + 1 : Nat) : Int).fmod ((z.1 + 2 : Nat) : Int)) := by decide +kernel
theorem lit_eq {y : Int} {z : Nat} (y1 : 1 ≤ y) (y2 : y ≤ 6) (hz : z = 2 ∨ z = 3) : lit y z = litT z (y.fmod z) := by
  have h := lit_tbl ⟨(y - 1).toNat, by omega⟩ ⟨z - 2, by omega⟩
  dsimp only at h
  rw [show (((y - 1).toNat + 1 : Nat) : Int) = y by omega, show z - 2 + 2 = z by omega] at h
  exact h
/-- the sums of paints p, q, r: that they are numbers, and grey just if g -/
noncomputable def greyB (p q r : UInt64) (g : Bool) : Bool :=
  [p, q, r].all (fun x => !Float64.isNaN (Float64.add (Float64.mul (Float64.ofInt 8) x) 4602678819172646912) && !Float64.isInf (Float64.add (Float64.mul (Float64.ofInt 8) x) 4602678819172646912) && decide (0 ≤ eightF x) && decide (eightF x < 100))
  && (Float64.cmp (satI (eightF p) (eightF q) (eightF r)) 0 == some Ordering.eq) == g
structure GreyOk (p q r : UInt64) (g : Bool) : Prop where
  eight : ∀ i, i < 3 → EightOk ([p, q, r].getD i 0)
  e : EOk (eightF p) (eightF q) (eightF r)
  grey : (Float64.cmp (satI (eightF p) (eightF q) (eightF r)) 0 == some Ordering.eq) = g
theorem greyOk_of {p q r : UInt64} {g : Bool} (h : greyB p q r g = true) : GreyOk p q r g := by
  unfold greyB at h
  simp only [List.all_cons, List.all_nil, Bool.and_true, Bool.and_eq_true, Bool.not_eq_true', decide_eq_true_eq, beq_iff_eq] at h
  obtain ⟨⟨⟨⟨⟨h1, h2⟩, h3⟩, h4⟩, ⟨⟨⟨k1, k2⟩, k3⟩, k4⟩, ⟨⟨m1, m2⟩, m3⟩, m4⟩, hg⟩ := h
  refine ⟨fun i hi => ?_, ⟨h3, h4, k3, k4, m3, m4⟩, hg⟩
  have : i = 0 ∨ i = 1 ∨ i = 2 := by omega
  rcases this with rfl | rfl | rfl
  · exact ⟨h1, h2⟩
  · exact ⟨k1, k2⟩
  · exact ⟨m1, m2⟩
theorem grey2_tbl : ∀ r0 r1 : Fin 2, greyB (Float64.add (Float64.add (Float64.ofInt 0) (litT 2 (r0.1 : Int)).1) (litT 2 (r1.1 : Int)).1) (Float64.add (Float64.add (Float64.ofInt 0) (litT 2 (r0.1 : Int)).2.1) (litT 2 (r1.1 : Int)).2.1) (Float64.add (Float64.add (Float64.ofInt 0) (litT 2 (r0.1 : Int)).2.2) (litT 2 (r1.1 : Int)).2.2) (decide ([(r0.1 : Int), (r1.1 : Int)].Perm [0, 1])) = true := by decide +kernel
theorem grey3_tbl : ∀ r0 r1 r2 : Fin 3, greyB (Float64.add (Float64.add (Float64.add (Float64.ofInt 0) (litT 3 (r0.1 : Int)).1) (litT 3 (r1.1 : Int)).1) (litT 3 (r2.1 : Int)).1) (Float64.add (Float64.add (Float64.add (Float64.ofInt 0) (litT 3 (r0.1 : Int)).2.1) (litT 3 (r1.1 : Int)).2.1) (litT 3 (r2.1 : Int)).2.1) (Float64.add (Float64.add (Float64.add (Float64.ofInt 0) (litT 3 (r0.1 : Int)).2.2) (litT 3 (r1.1 : Int)).2.2) (litT 3 (r2.1 : Int)).2.2) (decide ([(r0.1 : Int), (r1.1 : Int), (r2.1 : Int)].Perm [0, 1, 2])) = true := by decide +kernel
theorem fin_of {y : Int} {z : Nat} (hz : 0 < z) : ∃ r : Fin z, y.fmod (z : Int) = (r.1 : Int) := by
  have a := Int.fmod_nonneg_of_pos y (show (0 : Int) < (z : Int) by omega)
  have b := Int.fmod_lt_of_pos y (show (0 : Int) < (z : Int) by omega)
  exact ⟨⟨(y.fmod z).toNat, by omega⟩, by show _ = (((y.fmod z).toNat : Nat) : Int); omega⟩
theorem grey2 {y0 y1 : Int} {a0 b0 c0 a1 b1 c1 : UInt64} (h0 : 1 ≤ y0 ∧ y0 ≤ 6) (h1 : 1 ≤ y1 ∧ y1 ≤ 6) (e0 : lit y0 2 = (a0, b0, c0)) (e1 : lit y1 2 = (a1, b1, c1)) :
    GreyOk (Float64.add (Float64.add (Float64.ofInt 0) a0) a1) (Float64.add (Float64.add (Float64.ofInt 0) b0) b1) (Float64.add (Float64.add (Float64.ofInt 0) c0) c1) (decide ([y0.fmod (2 : Nat), y1.fmod (2 : Nat)].Perm [0, 1])) := by
  rw [lit_eq h0.1 h0.2 (.inl rfl)] at e0
  rw [lit_eq h1.1 h1.2 (.inl rfl)] at e1
  obtain ⟨r0, q0⟩ := fin_of (y := y0) (z := 2) (by decide)
  obtain ⟨r1, q1⟩ := fin_of (y := y1) (z := 2) (by decide)
  rw [q0] at e0 ⊢
  rw [q1] at e1 ⊢
  have h := grey2_tbl r0 r1
  rw [e0, e1] at h
  exact greyOk_of h
theorem grey3 {y0 y1 y2 : Int} {a0 b0 c0 a1 b1 c1 a2 b2 c2 : UInt64} (h0 : 1 ≤ y0 ∧ y0 ≤ 6) (h1 : 1 ≤ y1 ∧ y1 ≤ 6) (h2 : 1 ≤ y2 ∧ y2 ≤ 6) (e0 : lit y0 3 = (a0, b0, c0)) (e1 : lit y1 3 = (a1, b1, c1)) (e2 : lit y2 3 = (a2, b2, c2)) :
    GreyOk (Float64.add (Float64.add (Float64.add (Float64.ofInt 0) a0) a1) a2) (Float64.add (Float64.add (Float64.add (Float64.ofInt 0) b0) b1) b2) (Float64.add (Float64.add (Float64.add (Float64.ofInt 0) c0) c1) c2) (decide ([y0.fmod (3 : Nat), y1.fmod (3 : Nat), y2.fmod (3 : Nat)].Perm [0, 1, 2])) := by
  rw [lit_eq h0.1 h0.2 (.inr rfl)] at e0
  rw [lit_eq h1.1 h1.2 (.inr rfl)] at e1
  rw [lit_eq h2.1 h2.2 (.inr rfl)] at e2
  obtain ⟨r0, q0⟩ := fin_of (y := y0) (z := 3) (by decide)
  obtain ⟨r1, q1⟩ := fin_of (y := y1) (z := 3) (by decide)
  obtain ⟨r2, q2⟩ := fin_of (y := y2) (z := 3) (by decide)
  rw [q0] at e0 ⊢
  rw [q1] at e1 ⊢
  rw [q2] at e2 ⊢
  have h := grey3_tbl r0 r1 r2
  rw [e0, e1, e2] at h
  exact greyOk_of h
theorem sorted_iff {ms L R : List Int} (hp : ms.Perm L) (hs : ms.Pairwise (· ≤ ·)) (hR : R.Pairwise (· ≤ ·)) : decide (ms = R) = decide (L.Perm R) := by
  rw [decide_eq_decide]
  constructor
  · rintro rfl; exact hp.symm
  · intro h
    exact List.Perm.eq_of_pairwise (fun a b _ _ => Int.le_antisymm) hs hR (hp.trans h)
theorem rangeInts2 : rangeInts 0 1 (Builtin.Range.rangeSize 0 ((2 : Nat) : Int) 1).toNat = [0, 1] := by decide +kernel
theorem rangeInts3 : rangeInts 0 1 (Builtin.Range.rangeSize 0 ((3 : Nat) : Int) 1).toNat = [0, 1, 2] := by decide +kernel
theorem bne_no {a b : Bool} (h : a = b) (h' : (a != b) = true) : False := by subst h; simp at h'
/-- what the block asks of the grey, for two cards -/
theorem grey_law2 {ns ms : List Int} {z : Nat} {p q r : UInt64} (hz : z = 2) (G : GreyOk p q r (decide ([(ns.getD 0 0).fmod (2 : Nat), (ns.getD 1 0).fmod (2 : Nat)].Perm [0, 1]))) (hp : ms.Perm ((List.range z).map fun j => (ns.getD j 0).fmod (z : Int))) (hs : ms.Pairwise (· ≤ ·)) :
    (Float64.cmp (satI (eightF p) (eightF q) (eightF r)) 0 == some Ordering.eq) = decide (ms = rangeInts 0 1 (Builtin.Range.rangeSize 0 (z : Int) 1).toNat) := by
  subst hz
  rw [G.grey, sorted_iff hp hs (by rw [rangeInts2]; decide), rangeInts2]
  rfl
theorem grey_law3 {ns ms : List Int} {z : Nat} {p q r : UInt64} (hz : z = 3) (G : GreyOk p q r (decide ([(ns.getD 0 0).fmod (3 : Nat), (ns.getD 1 0).fmod (3 : Nat), (ns.getD 2 0).fmod (3 : Nat)].Perm [0, 1, 2]))) (hp : ms.Perm ((List.range z).map fun j => (ns.getD j 0).fmod (z : Int))) (hs : ms.Pairwise (· ≤ ·)) :
    (Float64.cmp (satI (eightF p) (eightF q) (eightF r)) 0 == some Ordering.eq) = decide (ms = rangeInts 0 1 (Builtin.Range.rangeSize 0 (z : Int) 1).toNat) := by
  subst hz
  rw [G.grey, sorted_iff hp hs (by rw [rangeInts3]; decide), rangeInts3]
  rfl
end Mine
end
section
open PySem PySem.W PyProof.Rows PySem.Challenge PySem.Calls PySem.Spec PyProof.V
namespace Mine
noncomputable def eolL (r : Int) : List Nat := if r = 0 then [10] else if r = 1 then [13] else [13, 10]
theorem eolL_len (r : Int) : (eolL r).length ≤ 2 := by unfold eolL; split <;> (try split) <;> decide
theorem eol_at {r : Int} (h0 : 0 ≤ r) (h1 : r < 3) : [Str.ofString "\n", Str.ofString "\r", Str.ofString "\r\n"].getD r.toNat Str.empty = ⟨(eolL r).toArray⟩ := by
  have : r = 0 ∨ r = 1 ∨ r = 2 := by omega
  rcases this with rfl | rfl | rfl <;> decide +kernel
theorem op_eol {prog : Program} {w : World} {A : Around} {E : Value → Shared → Prop} {s : Shared} {Q : Value → Shared → Prop} {value slice : Expr} {h₀ : Heap} {L D : Addr} {news : List (Addr × Obj)} {t1 t2 t3 u : Tok} {a : Int}
    (N : News h₀ L s.heap news) (hm : (D, { cls := .type "tuple", data := .seq (List.toArray [.str (Str.ofString "\n") t1, .str (Str.ofString "\r") t2, .str (Str.ofString "\r\n") t3]) }) ∈ news)
    (h : ∀ t, Q (.str ⟨(eolL (a.fmod 3)).toArray⟩ t) s)
    (hs : subscripted slice false (.ref D) (.int (a.fmod 3) u) = operate [.ref D, .int (a.fmod 3) u] (getItem (.ref D) (.int (a.fmod 3) u)) := by with_unfolding_all rfl) :
    wpAny (model prog w) A (subscriptTail value slice (.ref D) (.int (a.fmod 3) u)) Q E s := by
  have b0 : 0 ≤ a.fmod 3 := by rw [Int.fmod_eq_emod_of_nonneg _ (by decide)]; exact Int.emod_nonneg _ (by decide)
  have b1 : a.fmod 3 < 3 := Int.fmod_lt_of_pos _ (by decide)
  refine KTb.item_tup (ws := [Str.ofString "\n", Str.ofString "\r", Str.ofString "\r\n"]) ⟨_, (N _ hm).1, rfl, 0, rfl⟩ (.cons _ _ (.cons _ _ (.cons _ _ .nil))) b0 b1 (by omega) (fun t _ => ?_) hs
  rw [eol_at b0 b1]
  exact h t
theorem three_pow {i : Nat} (h : i < 6) : 1 ≤ (3 : Int) ^ i ∧ (3 : Int) ^ i ≤ 243 := by
  have : i = 0 ∨ i = 1 ∨ i = 2 ∨ i = 3 ∨ i = 4 ∨ i = 5 := by omega
  rcases this with rfl | rfl | rfl | rfl | rfl | rfl <;> decide
theorem getD_mem9 {ns : List Int} {i : Nat} (h : i < ns.length) : ns.getD i 0 ∈ ns := by
  rw [List.getD_eq_getElem?_getD, List.getElem?_eq_getElem h]
  exact List.getElem_mem h
structure MOk (M : Nat → Str) : Prop where
  sz : ∀ k, k ≤ 10 → (M k).cps.size ≤ 1000
  fsz : ∀ k, k ≤ 10 → (fixS (M k)).cps.size ≤ 1000
  q : ∀ k, dotS (fixS (M k)) = M (k + 1)
noncomputable def lineOf (ns : List Int) (ends : Int) (k : Nat) : Nat × Nat × List Nat := ((ns.getD k 0).toNat, 96 + (ns.getD k 0).toNat, eolL ((ends.fdiv (3 ^ k)).fmod 3))
noncomputable def linesOf (ns : List Int) (ends : Int) (i : Nat) : List (Nat × Nat × List Nat) := (List.range i).map (lineOf ns ends)
noncomputable def catL : List (Nat × Nat × List Nat) → List Nat
  | [] => []
  | (n, c, e) :: r => lineL n c e ++ catL r
theorem catL_app : ∀ (a b : List (Nat × Nat × List Nat)), catL (a ++ b) = catL a ++ catL b
  | [], _ => rfl
  | (n, c, e) :: a, b => by
    show lineL n c e ++ catL (a ++ b) = lineL n c e ++ catL a ++ catL b
    rw [catL_app a b, List.append_assoc]
theorem typed_cat : ∀ (a : List (Nat × Nat × List Nat)), typedL a = catL a ++ [120]
  | [] => rfl
  | (n, c, e) :: a => by
    show lineL n c e ++ typedL a = lineL n c e ++ catL a ++ [120]
    rw [typed_cat a, List.append_assoc]
structure MailS where
  st : Str
  tt : Tok
noncomputable def MailFacts (ns : List Int) (ends : Int) (i : Nat) (c : MailS) : Prop := c.st = ⟨(catL (linesOf ns ends i)).toArray⟩ ∧ c.st.length ≤ 10 * i
theorem catL_snoc (ls : List (Nat × Nat × List Nat)) (n c : Nat) (e : List Nat) : catL (ls ++ [(n, c, e)]) = catL ls ++ (List.replicate n 46 ++ 9 :: c :: e) := by
  rw [catL_app]
  show catL ls ++ (lineL n c e ++ catL []) = _
  rw [show catL [] = [] from rfl, List.append_nil]
  rfl
theorem mail_step {ns : List Int} {ends : Int} {i j : Nat} {l0 : List Nat} {t : Tok} (hl0 : l0 = catL (linesOf ns ends i)) (e2 : j = i) (hy2 : ns.getD j 0 ≤ 6) (hlen : l0.length ≤ 10 * i) :
    MailFacts ns ends (i + 1) ⟨⟨(l0 ++ List.replicate (ns.getD j 0).toNat 46 ++ [9] ++ [96 + (ns.getD j 0).toNat] ++ eolL ((ends.fdiv (3 ^ j)).fmod 3)).toArray⟩, t⟩ := by
  subst e2
  refine ⟨?_, ?_⟩
  · show (⟨_⟩ : Str) = ⟨_⟩
    unfold linesOf
    rw [List.range_succ, List.map_append]
    show _ = (⟨(catL (linesOf ns ends j ++ [lineOf ns ends j])).toArray⟩ : Str)
    unfold lineOf
    rw [catL_snoc, ← hl0]
    simp [List.append_assoc]
  · show (List.toArray _).size ≤ _
    rw [List.size_toArray]
    have h := eolL_len ((ends.fdiv (3 ^ j)).fmod 3)
    simp only [List.length_append, List.length_replicate, List.length_cons, List.length_nil]
    omega
noncomputable def mailT (ns : List Int) (k : Nat) : List Nat := typedL ((List.range 6).map fun j => ((ns.getD j 0).toNat + k, 96 + (ns.getD j 0).toNat, [13, 10]))
noncomputable def mailS (ns : List Int) (k : Nat) : Str := ⟨(mailT ns k).toArray⟩
theorem okE_eol (r : Int) : okE (eolL r) := by unfold eolL okE; split <;> (try split) <;> simp
theorem isE_big {c : Nat} : isE (96 + c) = false := by
  have h1 : (96 + c == 10) = false := by simp; omega
  have h2 : (96 + c == 13) = false := by simp; omega
  rw [isE, h1, h2]; rfl
theorem fix_typed0 (ns : List Int) (ends : Int) : fixS ⟨(typedL (linesOf ns ends 6)).toArray⟩ = mailS ns 0 := by
  rw [fixS_eq]
  show (⟨(fixL (typedL _)).toArray⟩ : Str) = _
  rw [fix_typed]
  · unfold mailS mailT linesOf
    rw [List.map_map]
    rfl
  · intro q hq
    obtain ⟨j, _, rfl⟩ := List.mem_map.mp hq
    exact ⟨isE_big, okE_eol _⟩
theorem fix_mail (ns : List Int) (k : Nat) : fixS (mailS ns k) = mailS ns k := by
  rw [fixS_eq]
  show (⟨(fixL (typedL _)).toArray⟩ : Str) = _
  rw [fix_typed]
  · unfold mailS mailT
    rw [List.map_map]
    rfl
  · intro q hq
    obtain ⟨j, _, rfl⟩ := List.mem_map.mp hq
    exact ⟨isE_big, .inr (.inr rfl)⟩
theorem dot_mail {ns : List Int} (hn : ns.length = 6) (hr : ∀ y ∈ ns, 1 ≤ y ∧ y ≤ 6) (k : Nat) : dotS (mailS ns k) = mailS ns (k + 1) := by
  rw [dotS_eq]
  show (⟨(dotL true (typedL _)).toArray⟩ : Str) = _
  rw [dot_typed]
  · unfold mailS mailT
    rw [List.map_map]
    rfl
  · intro q hq
    obtain ⟨j, hj, rfl⟩ := List.mem_map.mp hq
    have := hr _ (getD_mem9 (ns := ns) (i := j) (by rw [hn]; exact List.mem_range.mp hj))
    refine ⟨?_, ?_, rfl⟩
    · show 1 ≤ (ns.getD j 0).toNat + k
      omega
    · show 96 + (ns.getD j 0).toNat ≠ 10
      omega
theorem typed_len : ∀ (ls : List (Nat × Nat × List Nat)), (∀ q ∈ ls, q.1 ≤ 20 ∧ q.2.2.length ≤ 2) → (typedL ls).length ≤ 24 * ls.length + 1
  | [], _ => by decide
  | (n, c, e) :: r, h => by
    have ih := typed_len r fun q hq => h q (.tail _ hq)
    have h1 : n ≤ 20 ∧ e.length ≤ 2 := h _ (.head _)
    show (lineL n c e ++ typedL r).length ≤ _
    unfold lineL
    simp only [List.length_append, List.length_replicate, List.length_cons]
    omega
theorem mail_len {ns : List Int} (hn : ns.length = 6) (hr : ∀ y ∈ ns, 1 ≤ y ∧ y ≤ 6) {k : Nat} (hk : k ≤ 10) : (mailS ns k).cps.size ≤ 200 := by
  show (List.toArray _).size ≤ _
  rw [List.size_toArray]
  refine Nat.le_trans (typed_len _ fun q hq => ?_) (by simp)
  obtain ⟨j, hj, rfl⟩ := List.mem_map.mp hq
  have := hr _ (getD_mem9 (ns := ns) (i := j) (by rw [hn]; exact List.mem_range.mp hj))
  refine ⟨?_, Nat.le_refl 2⟩
  show (ns.getD j 0).toNat + k ≤ 20
  omega
structure MlS where
  va : Array Value
  nn : Nat
noncomputable def MlFacts (M : Nat → Str) (i : Nat) (c : MlS) : Prop := StrsAre c.va.toList ((List.range (i + 2)).map M)
theorem strs_last {va : Array Value} {M : Nat → Str} {i : Nat} (h : StrsAre va.toList ((List.range (i + 2)).map M)) : va.size = i + 2 ∧ ∃ t, va[va.size - 1]? = some (.str (M (i + 1)) t) := by
  have hl : va.size = i + 2 := by have := h.len_eq; simpa using this
  obtain ⟨t, e⟩ := h.at (j := i + 1) (y := M (i + 1)) (by simp)
  refine ⟨hl, t, ?_⟩
  rw [hl]
  simpa using e
theorem strs_push {va : Array Value} {M : Nat → Str} {i : Nat} (h : StrsAre va.toList ((List.range (i + 2)).map M)) (t : Tok) : StrsAre (va.push (.str (M (i + 1 + 1)) t)).toList ((List.range (i + 1 + 2)).map M) := by
  rw [Array.toList_push, show i + 1 + 2 = i + 2 + 1 from rfl, List.range_succ, List.map_append]
  exact StrsAre.append' h (.cons _ t .nil)
theorem item_last {prog : Program} {w : World} {A : Around} {E : Value → Shared → Prop} {s : Shared} {value slice : PySem.Expr} {h₀ : Heap} {L l : Addr} {n : Nat} {va : Array Value} {news : List (Addr × Obj)} {u : Tok} {v : Value} {Q : Value → Shared → Prop} (N : News h₀ L s.heap news) (hm : (l, listOf va n) ∈ news) (hx : va[va.size - 1]? = some v) (hne : 1 ≤ va.size) (h : Q v s)
    (hs : subscripted slice false (.ref l) (.int (-1) u) = operate [.ref l, .int (-1) u] (getItem (.ref l) (.int (-1) u)) := by with_unfolding_all rfl) : wpAny (model prog w) A (subscriptTail value slice (.ref l) (.int (-1) u)) Q E s :=
  tail_any (News.isList N hm).typeIs slot_list_getitem.lookup (wpAny_getItem_list_neg (News.isList N hm) (by decide) (by omega) (by decide) (by rw [show ((-1 : Int) + (va.size : Int)).toNat = va.size - 1 by omega]; exact hx) h) hs
theorem mails : ∀ {w : World} {mean : ExcName → Option Value} {mg mb : Str → Option Value} {A₀ : Around} {dp un : Nat} {gd : Option (List Code)} {env : Env} {outer : List Env} {base h₀ : Heap} {L : Addr} {m : Str → Option Value} {s : Shared} {R : Result → Shared → Prop} {l : Addr} {vs : List Value} {ns : List Int} {n : Nat} {ends : Int} {t2 : Tok}
  (B : Below A₀ base outer h₀) (F : Fr h₀ L s.heap m) (X : (hd.heap_39 w.params).In h₀) (N : News h₀ L s.heap [(l, listOf vs.toArray n)]) (T : Top hd.view_39 (looseW hd.view_39 [Str.ofString "insort_left", Str.ofString "bisect_left", Str.ofString "_twin_re_1", Str.ofString "_twin_re_2", Str.ofString "Whitespace"]) mean mg mb h₀)
  (hf : env.frame = some L) (hke : env.scope.kind = .function)
  (hI : IntsAre vs ns) (hn : ns.length = 6) (hr : ∀ y ∈ ns, 1 ≤ y ∧ y ≤ 6) (e0 : 0 ≤ ends) (e1 : ends < 729) (hd1 : dp ≤ 540) (hu : un ≤ 170)
  (hret : ∀ r vs' n' h' tk', (∀ b o, s.heap.get? b = some o → h'.get? b = some o) → s.heap.get? r = none → h'.get? r = some (listOf (List.toArray vs') n') → StrsAre vs' ((List.range 6).map fun k => (⟨(typedL ((List.range 6).map fun j => ((ns.getD j 0).toNat + k, 96 + (ns.getD j 0).toNat, [13, 10]))).toArray⟩ : Str)) → R (.ok (.ret (.ref r))) { s with heap := h', toks := tk' }),
  codeAny (model rw_sc0082_01.row.prog w) ⟨none, dp, some (env :: outer), gd, un⟩ (.call (.ref 174) ⟨[.ref l, .int ends t2], []⟩) R s := by
  k_with_none
  w_top off
  (k_with "storeName" => (k_here; k_dflt (first | (refine storeX_i (by k_asm) (by k_asm) ?_ (by rfl) (by rfl); k_whole; intro wh' wtk' wt' wm' wF' wN') | (refine storeX_s (by k_asm) (by k_asm) ?_ (by rfl) (by rfl); k_whole; intro wh' wtk' wt' wm' wF' wN') | (refine storeX_f (by k_asm) (by k_asm) ?_ (by rfl) (by rfl); k_whole; intro wh' wtk' wt' wm' wF' wN') | (refine storeX_v (by k_asm) (by k_asm) ?_ (by rfl) (by rfl); k_whole; intro wh' wtk' wm' wF' wN')); (try k_sweep)))
  (k_with "call ref" => ((with_reducible show wpAny _ _ (call (Value.ref 94) [_]) _ _ _); (rename Fr _ _ _ _ => wlF); (rename News _ _ _ _ => wlN); k_dflt (refine wcall (fixe (by k_asm) wlF (by k_asm) News.nil (by k_asm) rfl rfl (by assumption) (by (try dsimp only); omega) (by (try dsimp only); omega) (fun wt9 wh9 wtk9 wk9 => ?_))); (have wF9 := wlF.keeps wk9); (have wN9 := wlN.grown wk9); clear wlF wlN wk9; (try dsimp only); (simp only [(by assumption : fixS ⟨(_ ++ [120]).toArray⟩ = _)])))
  (k_with "call ref" => ((with_reducible show wpAny _ _ (call (Value.ref 87) [Value.str ⟨_⟩ _]) _ _ _); (rename Fr _ _ _ _ => wlF); (rename News _ _ _ _ => wlN); k_dflt (refine wcall (quote (by k_asm) wlF (by k_asm) News.nil (by k_asm) rfl rfl (by assumption) (by assumption) (by (try dsimp only); omega) (by (try dsimp only); omega) (fun wt9 wh9 wtk9 wk9 => ?_))); (have wF9 := wlF.keeps wk9); (have wN9 := wlN.grown wk9); clear wlF wlN wk9; (try dsimp only); (simp only [(by assumption : dotS (fixS ⟨(_ ++ [120]).toArray⟩) = _)])))
  (k_with "call ref" => ((with_reducible show wpAny _ _ (call (Value.ref 87) [Value.str _ _]) _ _ _); (rename MOk _ => whMO); (rename Fr _ _ _ _ => wlF); (rename News _ _ _ _ => wlN); k_dflt (refine wcall (quote (by k_asm) wlF (by k_asm) News.nil (by k_asm) rfl rfl (whMO.sz _ (by omega)) (whMO.fsz _ (by omega)) (by (try dsimp only); omega) (by (try dsimp only); omega) (fun wt9 wh9 wtk9 wk9 => ?_))); (have wF9 := wlF.keeps wk9); (have wN9 := wlN.grown wk9); clear wlF wlN wk9; (try dsimp only); (rw [whMO.q])))
  (k_with "binaryOp Mult str int" => ((with_reducible show wpAny _ _ (binaryOp _ (Value.str _ _) (Value.int _ _)) _ _ _); k_dflt (refine op_mul (by omega) (by omega) (fun wt9 wk9 => ?_))))
  (k_with "binaryOp Add str str" => ((with_reducible show wpAny _ _ (binaryOp _ (Value.str _ _) (Value.str _ _)) _ _ _); k_dflt (refine op_add (by first | exact rfl | assumption) (by first | exact lit_tab | exact lit_x | exact rfl) (by (try simp only [List.length_append, List.length_replicate, List.length_cons, List.length_nil]); first | omega | exact Nat.le_trans (Nat.add_le_add_left (eolL_len _) _) (by omega)) (fun wt9 wk9 => ?_))))
  (k_with "subscriptTail" => ((with_reducible show wpAny _ _ (subscriptTail _ _ (Value.str _ _) (Value.int (_ - _) _)) _ _ _); k_dflt (refine op_letter (by omega) (by omega) (fun wt9 wk9 => ?_))))
  (k_with "binaryOp FloorDiv int int" => ((with_reducible show wpAny _ _ (binaryOp _ (Value.int _ _) (Value.int (3 ^ _) _)) _ _ _); k_dflt (refine floordiv_int (by omega) ?_ (hp := Or.inl (PyProof.noPylong_small (by omega))))))
  (k_with "binaryOp Mod int int" => ((with_reducible show wpAny _ _ (binaryOp _ (Value.int (Int.fdiv _ (3 ^ _)) _) (Value.int 3 _)) _ _ _); k_dflt (refine mod_int' (by decide) ?_)))
  (k_with "subscriptTail" => ((with_reducible show wpAny _ _ (subscriptTail _ _ (Value.ref _) (Value.int (Int.fmod _ 3) _)) _ _ _); (rename News _ _ _ _ => wlN); k_dflt (refine op_eol wlN (by k_mem) (fun wt9 => ?_))))
  k_fill
  intro w mean mg mb A₀ dp un gd env outer base h₀ L m s R l vs ns n ends t2 B F X N T hf hke hI hn hr e0 e1 hd1 hu hret
  refine ent B F X N T rfl hf hke (by k_is) (by k_is) (by dsimp only; unfold recursionLimit; omega) (BindsTo.of_eq rfl) (locs rfl) ?_ rfl rfl rfl (by decide)
  intro g L' h' hg e₁ A₁ m₁ F' N' B' X' T'
  (k_with "exec For Name Call cons nil" => (k_here; (rename Fr _ _ _ _ => lF'); (with_unfolding_all refine' For_turns lF' ?_); k_whole))
  k_steps
  (rename IsRange _ _ _ _ _ _ _ _ => lR'); (rename Fr _ _ _ _ => lF'); (rename News _ _ _ _ => lN')
  refine rng_J (n := 6) (fun c : MailS => [(l, listOf vs.toArray n)]) (fun c => [(Str.ofString "typed", .str c.st c.tt)]) (MailFacts ns ends) [Str.ofString "k"] ⟨⟨#[]⟩, _⟩ (by rfl) lR' (by decide) (by decide) lF' lN' ⟨by k_mem, trivial⟩ ⟨rfl, by dsimp only; decide⟩ (List.forall_mem_cons.mpr ⟨rfl, List.forall_mem_nil _⟩) ?_ ?_
  · intro i ⟨st, tt⟩ t uu o I h9 tk9 Q₁ hi hIlt hF ho m₂ F9 N9 hQ₁
    k_lt hIlt
    clear lF' lN' lR'
    obtain ⟨hst, hlen⟩ := hF
    dsimp only at hst hlen F9 N9
    obtain ⟨l0, hl0⟩ : ∃ l0, l0 = catL (linesOf ns ends i) := ⟨_, rfl⟩
    rw [← hl0] at hst
    subst hst
    have hlen : l0.length ≤ 10 * i := by simpa [Str.length] using hlen
    replace F9 : Fr g L' h9 _ := F9
    replace N9 : News g L' h9 _ := N9
    have e2 : (0 + (i : Int) * 1).toNat = i := by omega
    have hi' : i < ns.length := by omega
    obtain ⟨hy1, hy2⟩ := hr _ (getD_mem9 hi')
    have h3 := three_pow hi
    rw [← e2] at hy1 hy2 h3
    obtain ⟨h31, h32⟩ := h3
    k_steps
    refine hQ₁ _ _ ?_
    k_steps
    refine ⟨⟨_, _⟩, ⟨by k_mem, trivial⟩, mail_step hl0 e2 hy2 hlen, (List.forall_mem_cons.mpr ⟨rfl, List.forall_mem_nil _⟩), ?_⟩
    exact Offs.out [Str.ofString "typed", Str.ofString "k"] rfl (by repeat (first | exact Offs.kst rfl | refine Offs.set ?_ (by decide)))
  · intro ⟨st, tt⟩ uu h9 tk9 hF m₂ F9 N9
    clear lF' lN' lR'
    obtain ⟨hst, hlen⟩ := hF
    dsimp only at hst hlen F9 N9
    replace F9 : Fr g L' h9 _ := F9
    replace N9 : News g L' h9 _ := N9
    have hT1 := fix_typed0 ns ends
    have hM1 := dot_mail hn hr
    have hM2 := fix_mail ns
    have hM3 : ∀ k, k ≤ 10 → (mailS ns k).cps.size ≤ 1000 := fun k hk => Nat.le_trans (mail_len hn hr hk) (by decide)
    have hM4 : ∀ k, k ≤ 10 → (fixS (mailS ns k)).cps.size ≤ 1000 := fun k hk => by rw [hM2]; exact hM3 k hk
    have hT2 := hT1 ▸ hM3 0 (by decide)
    rw [typed_cat] at hT1 hT2
    obtain ⟨l0, hl0⟩ : ∃ l0, l0 = catL (linesOf ns ends 6) := ⟨_, rfl⟩
    rw [← hl0] at hst hT1 hT2
    subst hst
    have hlen : l0.length ≤ 60 := by simpa [Str.length] using hlen
    obtain ⟨M, hM⟩ : ∃ M, M = mailS ns := ⟨_, rfl⟩
    rw [← hM] at hT1 hM1 hM2 hM3 hM4
    have hT3 : (⟨(l0 ++ [120]).toArray⟩ : Str).cps.size ≤ 1000 := by show (List.toArray _).size ≤ _; rw [List.size_toArray, List.length_append]; simp; omega
    have hT4 : dotS (fixS ⟨(l0 ++ [120]).toArray⟩) = M 1 := by rw [hT1, hM1]
    have hQ : ∀ k, dotS (fixS (M k)) = M (k + 1) := fun k => by rw [hM2, hM1]
    have hMO : MOk M := ⟨hM3, hM4, hQ⟩
    (k_with "subscriptTail Name UnaryOp ref int" => k_dflt (refine item_last (by k_asm) (by k_mem) (by with_reducible assumption) (by omega) ?_))
    (k_with "call builtin:list.append" => ((with_reducible show wpAny _ _ (call (Value.builtin _) [Value.ref _, _]) _ _ _); k_dflt (refine' append_K ?k1 ?k2 ?k3 ?_ ?z; (case k1 => k_asm); (case k2 => k_asm); (case k3 => k_upd); (case z => rw [sizeLine_eq]; omega); k_whole); intro wh9 wF9 wN9))
    k_steps
    (rename IsRange _ _ _ _ _ _ _ _ => lR'); (rename Fr _ _ _ _ => lF'); (rename News _ _ _ _ => lN')
    refine rng_J (n := 4) (fun c : MlS => [(_, listOf c.va c.nn), (l, listOf vs.toArray n)]) (fun _ => [(Str.ofString "mails", .ref _)]) (MlFacts M) [Str.ofString "k"] ⟨_, _⟩ (by rfl) lR' (by decide) (by decide) lF' lN' ⟨by k_mem, by k_mem, trivial⟩ (.cons _ _ (.cons _ _ .nil)) (List.forall_mem_cons.mpr ⟨rfl, List.forall_mem_nil _⟩) ?_ ?_
    · intro i ⟨va, na⟩ t uu o I h9 tk9 Q₂ hi hIlt hF ho m₃ F9 N9 hQ₂
      k_lt hIlt
      clear lF' lN' lR'
      dsimp only at F9 N9
      obtain ⟨hva, tl, hlast⟩ := strs_last (va := va) (M := M) (i := i) hF
      k_steps
      refine hQ₂ _ _ ?_
      k_steps
      refine ⟨⟨_, _⟩, ⟨by k_mem, by k_mem, trivial⟩, strs_push (va := va) (M := M) (i := i) hF _, (List.forall_mem_cons.mpr ⟨rfl, List.forall_mem_nil _⟩), ?_⟩
      exact Offs.out [Str.ofString "mails", Str.ofString "k"] rfl (by repeat (first | exact Offs.kst rfl | refine Offs.set ?_ (by decide)))
    · intro ⟨va, na⟩ uu h9 tk9 hF m₃ F9 N9
      clear lF' lN' lR'
      dsimp only at F9 N9
      k_steps
      (try dsimp only)
      (rename News g L' _ _ => N8); (rename Fr g L' _ _ => F8)
      refine hret _ va.toList _ _ _ (keeps_of hg N F8 N8 (fun p hp => by rw [List.mem_singleton.mp hp]; k_mem)) (new_of hg N8 (List.mem_cons_self ..) ?nm) (by rw [Array.toArray_toList]; exact (N8 _ (List.mem_cons_self ..)).1) ?st
      case st =>
        subst hM
        exact hF
      case nm =>
        intro hm
        have q := List.mem_singleton.mp hm
        (have hlt := (by assumption : @LT.lt Nat _ l _))
        exact absurd q (Nat.ne_of_gt hlt)
end Mine
end
section
open PySem PySem.W PyProof.Rows PySem.Challenge PySem.Calls PySem.Spec PyProof.V
namespace Mine
structure WsC (w : World) (mean : ExcName → Option Value) (mg mb : Str → Option Value) (A₀ A₁ : Around) (env : Env) (outer : List Env) (base h₀ g : Heap) (L : Addr) (tl : List (Addr × Obj)) : Prop where
  B : Below A₀ base outer h₀
  X : (hd.heap_39 w.params).In h₀
  T : Top hd.view_39 (looseW hd.view_39 [Str.ofString "insort_left", Str.ofString "bisect_left", Str.ofString "_twin_re_1", Str.ofString "_twin_re_2", Str.ofString "Whitespace"]) mean mg mb h₀
  hf : env.frame = some L
  B' : Below A₁ base (env :: outer) g
  st : ∀ b o, h₀.get? b = some o → g.get? b = some o
  G : TlIn h₀ g L tl
noncomputable def Stop (P : Prop) : Prop := P
theorem of_stop {P : Prop} (h : Stop P) : P := h
theorem kms_upto (vs : List Value) {k : Int} (h : 0 ≤ k) : kms_pick vs none (some k) = vs.take k.toNat := by
  unfold kms_pick kms_lo kms_hi
  simp only [if_neg (show ¬ k < 0 by omega), List.drop_zero, Nat.sub_zero]
  by_cases q : k.toNat ≤ vs.length
  · rw [Nat.min_eq_left q]
  · rw [Nat.min_eq_right (by omega), List.take_of_length_le (Nat.le_refl _), List.take_of_length_le (by omega)]
noncomputable def MapI (N : List (Addr × Obj)) (f : Nat → Int) (i : Nat) (ys : List Value) (nw : List (Addr × Obj)) : Prop := nw = N ∧ IntsAre ys ((List.range i).map f)
theorem MapI.zero {N : List (Addr × Obj)} {f : Nat → Int} : MapI N f 0 [] N := ⟨rfl, .nil⟩
theorem MapI.succ {N : List (Addr × Obj)} {f : Nat → Int} {i : Nat} {ys : List Value} {v : Int} {t : Tok} (h : IntsAre ys ((List.range i).map f)) (e : v = f i) : MapI N f (i + 1) (ys ++ [.int v t]) N := by
  refine ⟨rfl, ?_⟩
  rw [List.range_succ, List.map_append, e]
  exact IntsAre.snoc h _ _
/-- the pages -/
noncomputable def PagesT (w : World) (tl : List (Addr × Obj)) (ps : List Value) (ns : List Int) (z : Nat) : Prop := ∀ k, k < 6 → ∃ (pk : Addr) (wk : List Value) (nk : Nat), ps[k]? = some (.ref pk) ∧ (pk, listOf wk.toArray nk) ∈ tl ∧ wk.length = z ∧ ∀ j, j < z → ∃ x, wk[j]? = some (.ref x) ∧ WsT w tl x ((ns.getD j 0).toNat + k)
noncomputable def colF (ns : List Int) (z k : Nat) : Int := ((List.range z).map fun j => indF z ((ns.getD j 0).toNat + k)).sum
noncomputable def NewOff (news : List (Addr × Obj)) (r : Addr) : Prop := ∀ p ∈ news, p.1 ≠ r
/-- lights laid: tuples of the ledger -/
noncomputable def LightsT (N ls : List (Addr × Obj)) (ys : List Value) (ns : List Int) (z i : Nat) : Prop := ys.length = i ∧ ∀ j, j < i → ∃ (r : Addr) (a b c : UInt64) (ta tb tc : Tok), ys[j]? = some (.ref r) ∧ (r, tupOf [.float a ta, .float b tb, .float c tc]) ∈ ls ∧ lit (ns.getD j 0) z = (a, b, c) ∧ NewOff N r
noncomputable def NoCell (o : Obj) : Prop := ∀ v, o.data ≠ .cell v
noncomputable def LightI (N : List (Addr × Obj)) (ns : List Int) (z i : Nat) (ys : List Value) (nw : List (Addr × Obj)) : Prop := ∃ ls, nw = N ++ ls ∧ LightsT N ls ys ns z i ∧ ∀ p ∈ ls, NoCell p.2
theorem LightI.zero {N : List (Addr × Obj)} {ns : List Int} {z : Nat} : LightI N ns z 0 [] N := ⟨[], (List.append_nil N).symm, ⟨rfl, fun j h => absurd h (Nat.not_lt_zero j)⟩, fun p h => nomatch h⟩
theorem range_getD {α : Type} (f : Int → α) : ∀ (ns : List Int), (List.range ns.length).map (fun j => f (ns.getD j 0)) = ns.map f := by
  intro ns
  apply List.ext_getElem
  · simp
  · intro i h1 h2
    have hi : i < ns.length := by simpa using h1
    simp [List.getD_eq_getElem?_getD, List.getElem?_eq_getElem hi]
theorem col0_sum {z : Nat} (z1 : 2 ≤ z) : ∀ (ns : List Int), (∀ y ∈ ns, 1 ≤ y ∧ y ≤ 6) → (ns.map fun y => indF z (y.toNat + 0)).sum = ns.sum - (ns.map fun y => y.fmod (z : Int)).sum + (z : Int) * (ns.length : Int)
  | [], _ => by simp
  | y :: ns, h => by
    have ih := col0_sum z1 ns fun x hx => h x (.tail _ hx)
    have hy := h y (.head _)
    rw [List.map_cons, List.sum_cons, ih, List.sum_cons, List.map_cons, List.sum_cons, List.length_cons]
    have e : indF z (y.toNat + 0) = y - y.fmod (z : Int) + (z : Int) := by
      unfold indF
      rw [Nat.add_zero]
      have hyn : y = (y.toNat : Int) := by omega
      rw [Int.fmod_eq_emod_of_nonneg _ (by omega)]
      have hd := Int.mul_ediv_add_emod y (z : Int)
      rw [show ((y.toNat / z : Nat) : Int) = y / (z : Int) by rw [Int.natCast_ediv, ← hyn]]
      rw [Int.mul_add, Int.mul_one]
      omega
    rw [e]
    have : (z : Int) * ((ns.length + 1 : Nat) : Int) = (z : Int) * (ns.length : Int) + (z : Int) := by rw [Int.natCast_add, Int.mul_add]; simp
    rw [this]
    omega
theorem col0_ok {ns : List Int} {z : Nat} (hn : ns.length = z) (z1 : 2 ≤ z) (hr : ∀ y ∈ ns, 1 ≤ y ∧ y ≤ 6) : (List.map (colF ns z) (List.range (z + 1))).getD (Int.toNat 0) 0 = ns.sum - (List.map (fun j => (ns.getD j 0).fmod (z : Int)) (List.range z)).sum + (z : Int) * (z : Int) := by
  have h0 : (List.map (colF ns z) (List.range (z + 1))).getD (Int.toNat 0) 0 = colF ns z 0 := by simp [List.getD_eq_getElem?_getD]
  rw [h0]
  unfold colF
  have h := col0_sum z1 ns hr
  rw [hn] at h
  have e1 := range_getD (fun y => indF z (y.toNat + 0)) ns
  have e2 := range_getD (fun y => y.fmod (z : Int)) ns
  rw [hn] at e1 e2
  rw [e1, e2]
  exact h
theorem news_new {g h h' : Heap} {L r : Addr} {o : Obj} {m : Str → Option Value} {news : List (Addr × Obj)} (F : Fr g L h m) (N : News g L h news) (k : ∀ b o, h.get? b = some o → h'.get? b = some o) (hn : h.get? r = none) (hr : h'.get? r = some o) : News g L h' ((r, o) :: news) := fun p hp => by
  rcases List.mem_cons.mp hp with rfl | hp
  · refine ⟨hr, fun e => ?_, ?_⟩
    · obtain ⟨oL, _, _, hL, _⟩ := F.ns
      have e' : r = L := e
      rw [e', hL] at hn; cases hn
    · cases q : g.get? r with
      | none => rfl
      | some o' => have := F.keep _ _ q; rw [hn] at this; cases this
  · exact ⟨k _ _ (N p hp).1, (N p hp).2⟩
theorem new_off {g h : Heap} {L r : Addr} {news : List (Addr × Obj)} (N : News g L h news) (hn : h.get? r = none) : NewOff news r := fun p hp e => by
  have := (N p hp).1
  rw [e, hn] at this; cases this
theorem off3_new {I C D r : Addr} {o oI oC oD : Obj} {ls : List (Addr × Obj)} : ∀ {N : List (Addr × Obj)}, LCg.Off3 I C D (N ++ ls) → (∀ p ∈ (I, oI) :: (C, oC) :: (D, oD) :: (N ++ ls), p.1 ≠ r) → LCg.Off3 I C D (N ++ (r, o) :: ls)
  | [], h, d => ⟨⟨fun e => d (I, oI) (by simp) e.symm, fun e => d (C, oC) (by simp) e.symm, fun e => d (D, oD) (by simp) e.symm⟩, h⟩
  | p :: N, h, d => ⟨h.1, off3_new (oI := oI) (oC := oC) (oD := oD) h.2 fun q hq => d q (by simp only [List.cons_append, List.mem_cons] at hq ⊢; rcases hq with hq | hq | hq | hq <;> simp [hq])⟩
theorem lights_end {g h' : Heap} {L I C D r : Addr} {m : Str → Option Value} {oI oC : Obj} {s : Shared} {vs : List Value} {S : List (Addr × Obj) → Prop} {N ls : List (Addr × Obj)} {ns : List Int} {z j : Nat} {a b c : UInt64} {ta tb tc : Tok} {tk : Nat}
    (F : Fr g L h' m) (Nw : News g L h' ((r, tupOf [.float a ta, .float b tb, .float c tc]) :: (I, oI) :: (C, oC) :: (D, LCg.lst vs) :: (N ++ ls))) (off : LCg.Off3 I C D (N ++ ls)) (l9 : NewOff ((I, oI) :: (C, oC) :: (D, LCg.lst vs) :: (N ++ ls)) r)
    (hS : S (N ++ (r, tupOf [.float a ta, .float b tb, .float c tc]) :: ls)) (hls : LightsT N ls vs ns z j) (hno : ∀ p ∈ ls, NoCell p.2) (hl : lit (ns.getD j 0) z = (a, b, c)) :
    LCg.CompEnd g L m s I oI C oC D (LCg.lst vs) S (fun y nw' => LightI N ns z (j + 1) (vs ++ [y]) nw') (.ref r) { s with heap := h', toks := tk } := by
  refine LCg.CompEnd.intro F Nw (N ++ (r, tupOf [.float a ta, .float b tb, .float c tc]) :: ls) (fun p hp => ?_) (off3_new off l9) hS ⟨_, rfl, ⟨?_, fun i hi => ?_⟩, List.forall_mem_cons.mpr ⟨(fun v e => by cases e), hno⟩⟩
  · simp only [List.mem_cons, List.mem_append] at hp ⊢
    rcases hp with hp | hp | hp | hp | hp | hp <;> simp [hp]
  · rw [List.length_append, hls.1]; rfl
  · rcases Nat.lt_succ_iff_lt_or_eq.mp hi with hi | rfl
    · obtain ⟨r', a', b', c', ta', tb', tc', h1, h2, h3⟩ := hls.2 i hi
      refine ⟨r', a', b', c', ta', tb', tc', ?_, List.mem_cons_of_mem _ h2, h3⟩
      rw [List.getElem?_append_left (by rw [hls.1]; exact hi)]
      exact h1
    · refine ⟨r, a, b, c, ta, tb, tc, ?_, List.mem_cons_self, hl, fun p hp => l9 p (by simp [hp])⟩
      rw [List.getElem?_append_right (by rw [hls.1]; exact Nat.le_refl _), hls.1, Nat.sub_self]
      rfl
theorem ints_of_rel {f : Nat → Int} : ∀ {n : Nat} {ys : List Value}, ys.length = n → (∀ (j : Nat) (v : Value), ys[j]? = some v → ∃ t, v = Value.int (f j) t) → IntsAre ys ((List.range n).map f) := by
  intro n ys hl h
  refine intsAreOf9 (by simp [hl]) fun j v e => ?_
  obtain ⟨t, rfl⟩ := h j v e
  refine ⟨t, f j, rfl, ?_⟩
  have hj : j < n := by rw [← hl]; exact (List.getElem?_eq_some_iff.mp e).1
  simp [hj]
structure ZOk (z : Nat) : Prop where
  z1 : 2 ≤ z
  z2 : z ≤ 5
theorem rng1 {z : Nat} (z1 : 2 ≤ z) (z2 : z ≤ 5) : Builtin.Range.small 1 ((z : Int) + 1) 1 = true ∧ Builtin.Range.rangeSize 1 ((z : Int) + 1) 1 = ((z : Nat) : Int) := by
  have : z = 2 ∨ z = 3 ∨ z = 4 ∨ z = 5 := by omega
  rcases this with rfl | rfl | rfl | rfl <;> decide +kernel
theorem col_at {ns : List Int} {z i : Nat} (h : i < z) : ((List.range (z + 1)).map (colF ns z)).getD ((1 : Int) + (i : Int)).toNat 0 - ((List.range (z + 1)).map (colF ns z)).getD ((1 : Int) + (i : Int) - 1).toNat 0 = colF ns z (i + 1) - colF ns z i := by
  have e1 : ((1 : Int) + (i : Int)).toNat = i + 1 := by omega
  have e2 : ((1 : Int) + (i : Int) - 1).toNat = i := by omega
  rw [e1, e2]
  simp [List.getD_eq_getElem?_getD, show i < z + 1 by omega, h]
noncomputable def blockF (ns : List Int) (z : Nat) : Bool := decide ((List.range z).map (fun i => colF ns z (i + 1) - colF ns z i) = List.replicate z (z : Int))
theorem off1_of {D : Addr} {l : List (Addr × Obj)} (h : ∀ p ∈ l, p.1 ≠ D) : LCg.Off1 D l := by
  induction l with
  | nil => trivial
  | cons p l ih => exact ⟨h p (.head _), ih fun q hq => h q (.tail _ hq)⟩
theorem off1_mem {D : Addr} {l : List (Addr × Obj)} (h : LCg.Off1 D l) : ∀ p ∈ l, p.1 ≠ D := by
  induction l with
  | nil => intro p hp; cases hp
  | cons q l ih =>
    intro p hp
    rcases List.mem_cons.mp hp with rfl | hp
    · exact h.1
    · exact ih h.2 p hp
theorem off1_sub {D : Addr} {l l' : List (Addr × Obj)} (h : LCg.Off1 D l) (s : ∀ p ∈ l', p ∈ l) : LCg.Off1 D l' := off1_of fun p hp => off1_mem h p (s p hp)
theorem flat_rep (z : Nat) (x : Int) : (List.replicate z [x]).flatten = List.replicate z x := by
  induction z with
  | zero => rfl
  | succ z ih => rw [List.replicate_succ, List.flatten_cons, ih]; rfl
theorem block_eq (ns : List Int) (z : Nat) : decide (List.map (fun i => colF ns z (i + 1) - colF ns z i) (List.range z) = (List.replicate (z : Int).toNat [(z : Int)]).flatten) = blockF ns z := by
  rw [flat_rep, Int.toNat_natCast]
  rfl
noncomputable def lit3 (y : Int) (z k : Nat) : UInt64 := match k with
  | 0 => (lit y z).1
  | 1 => (lit y z).2.1
  | _ => (lit y z).2.2
/-- the k-th sum of the first i paints -/
noncomputable def mixF (ns : List Int) (z i k : Nat) : UInt64 := (List.range i).foldl (fun a j => Float64.add a (lit3 (ns.getD j 0) z k)) (Float64.ofInt 0)
theorem mixF_succ (ns : List Int) (z i k : Nat) : mixF ns z (i + 1) k = Float64.add (mixF ns z i k) (lit3 (ns.getD i 0) z k) := by
  unfold mixF
  rw [List.range_succ, List.foldl_append]
  rfl
/-- the first i floats f tells -/
noncomputable def MapG (N : List (Addr × Obj)) (f : Nat → UInt64) (i : Nat) (ys : List Value) (nw : List (Addr × Obj)) : Prop := nw = N ∧ ys.length = i ∧ ∀ j, j < i → ∃ t, ys[j]? = some (.float (f j) t)
theorem MapG.zero {N : List (Addr × Obj)} {f : Nat → UInt64} : MapG N f 0 [] N := ⟨rfl, rfl, fun j h => absurd h (Nat.not_lt_zero j)⟩
theorem MapG.succ {N : List (Addr × Obj)} {f : Nat → UInt64} {i : Nat} {ys : List Value} {x : UInt64} {t : Tok} (hl : ys.length = i) (h : ∀ j, j < i → ∃ t, ys[j]? = some (.float (f j) t)) (e : x = f i) : MapG N f (i + 1) (ys ++ [.float x t]) N := by
  refine ⟨rfl, by rw [List.length_append, hl]; rfl, fun j hj => ?_⟩
  rcases Nat.lt_succ_iff_lt_or_eq.mp hj with hj | rfl
  · obtain ⟨t', h'⟩ := h j hj
    exact ⟨t', by rw [List.getElem?_append_left (by rw [hl]; exact hj)]; exact h'⟩
  · exact ⟨t, by rw [List.getElem?_append_right (by rw [hl]; exact Nat.le_refl _), hl, Nat.sub_self, ← e]; rfl⟩
noncomputable def MixV (ns : List Int) (z i : Nat) (vs : List Value) : Prop := vs.length = 3 ∧ ∀ k, k < 3 → ∃ t, vs[k]? = some (if i = 0 then .int 0 t else .float (mixF ns z i k) t)
theorem mixV0 {ns : List Int} {z : Nat} {t0 t1 t2 : Tok} : MixV ns z 0 [.int 0 t0, .int 0 t1, .int 0 t2] := ⟨rfl, fun k hk => match k, hk with
  | 0, _ => ⟨t0, rfl⟩
  | 1, _ => ⟨t1, rfl⟩
  | 2, _ => ⟨t2, rfl⟩⟩
theorem mixV_succ {ns : List Int} {z i : Nat} {ys : List Value} (hl : ys.length = 3) (h : ∀ j, j < 3 → ∃ t, ys[j]? = some (.float (mixF ns z (i + 1) j) t)) : MixV ns z (i + 1) ys := ⟨hl, fun k hk => by simp only [Nat.succ_ne_zero, if_false]; exact h k hk⟩
theorem mixV_at {ns : List Int} {z i k : Nat} {vs : List Value} (h : MixV ns z i vs) (hi : i ≠ 0) (hk : k < 3) : ∃ t, vs[k]? = some (.float (mixF ns z i k) t) := by
  have := h.2 k hk
  simp only [hi, if_false] at this
  exact this
theorem mixV_at0 {ns : List Int} {z i k : Nat} {vs : List Value} (h : MixV ns z i vs) (hi : i = 0) (hk : k < 3) : ∃ t, vs[k]? = some (.int 0 t) := by
  have := h.2 k hk
  simp only [hi, if_true] at this
  exact this
theorem mix_add0 {ns : List Int} {z i k : Nat} (hi : i = 0) : Float64.add (Float64.ofInt 0) (lit3 (ns.getD i 0) z k) = mixF ns z (i + 1) k := by subst hi; rfl
theorem light_at {y : Int} {z k : Nat} {a b c : UInt64} {ta tb tc : Tok} (h : lit y z = (a, b, c)) (hk : k < 3) : ∃ t, ([.float a ta, .float b tb, .float c tc] : List Value)[k]? = some (.float (lit3 y z k) t) := by
  match k, hk with
  | 0, _ => exact ⟨ta, by unfold lit3; rw [h]; rfl⟩
  | 1, _ => exact ⟨tb, by unfold lit3; rw [h]; rfl⟩
  | 2, _ => exact ⟨tc, by unfold lit3; rw [h]; rfl⟩
structure MixS where
  l : Addr
  vs : List Value
  nn : Nat
  om : Obj
  ol : Obj
noncomputable def MixFacts (ns : List Int) (z : Nat) (i : Nat) (c : MixS) : Prop := c.om.data = .cell (some (.ref c.l)) ∧ (∃ v, c.ol.data = .cell v) ∧ MixV ns z i c.vs
/-- what the block knows of the grey -/
structure GreyAny (ns : List Int) (z : Nat) : Prop where
  eight : ∀ i, i < 3 → EightOk (mixF ns z z i)
  e : EOk (eightF (mixF ns z z 0)) (eightF (mixF ns z z 1)) (eightF (mixF ns z z 2))
  law : ∀ ms : List Int, ms.Perm ((List.range z).map fun j => (ns.getD j 0).fmod (z : Int)) → ms.Pairwise (· ≤ ·) → (Float64.cmp (satI (eightF (mixF ns z z 0)) (eightF (mixF ns z z 1)) (eightF (mixF ns z z 2))) 0 == some Ordering.eq) = decide (ms = rangeInts 0 1 (Builtin.Range.rangeSize 0 (z : Int) 1).toNat)
theorem grey_at {p q r : UInt64} {f : Nat → UInt64} (h0 : p = f 0) (h1 : q = f 1) (h2 : r = f 2) (h : ∀ i, i < 3 → EightOk ([p, q, r].getD i 0)) (i : Nat) (hi : i < 3) : EightOk (f i) := by
  have := h i hi
  match i, hi with
  | 0, _ => exact h0 ▸ this
  | 1, _ => exact h1 ▸ this
  | 2, _ => exact h2 ▸ this
theorem grey_any {ns : List Int} {z : Nat} (hz : z = 2 ∨ z = 3) (hr : ∀ j, j < z → 1 ≤ ns.getD j 0 ∧ ns.getD j 0 ≤ 6) : GreyAny ns z := by
  rcases hz with rfl | rfl
  · have G := grey2 (hr 0 (by decide)) (hr 1 (by decide)) (a0 := lit3 (ns.getD 0 0) 2 0) (b0 := lit3 (ns.getD 0 0) 2 1) (c0 := lit3 (ns.getD 0 0) 2 2) (a1 := lit3 (ns.getD 1 0) 2 0) (b1 := lit3 (ns.getD 1 0) 2 1) (c1 := lit3 (ns.getD 1 0) 2 2) rfl rfl
    exact ⟨grey_at rfl rfl rfl G.eight, G.e, fun ms hp hs => grey_law2 rfl G hp hs⟩
  · have G := grey3 (hr 0 (by decide)) (hr 1 (by decide)) (hr 2 (by decide)) (a0 := lit3 (ns.getD 0 0) 3 0) (b0 := lit3 (ns.getD 0 0) 3 1) (c0 := lit3 (ns.getD 0 0) 3 2) (a1 := lit3 (ns.getD 1 0) 3 0) (b1 := lit3 (ns.getD 1 0) 3 1) (c1 := lit3 (ns.getD 1 0) 3 2) (a2 := lit3 (ns.getD 2 0) 3 0) (b2 := lit3 (ns.getD 2 0) 3 1) (c2 := lit3 (ns.getD 2 0) 3 2) rfl rfl rfl
    exact ⟨grey_at rfl rfl rfl G.eight, G.e, fun ms hp hs => grey_law3 rfl G hp hs⟩
section
variable {prog : Program} {w : World} {A : Around} {E : Value → Shared → Prop} {s : Shared} {env : Env} {h₀ : Heap} {L : Addr} {news : List (Addr × Obj)}
/-- an if's end is told once: what holds behind it, and the rest from there -/
theorem cutIf {st : Stmt} {rest : List Stmt} {Q : Flow → Shared → Prop} (P : Shared → Prop) (h1 : ∀ Q₁ : Flow → Shared → Prop, (∀ s', P s' → Q₁ .next s') → wpAny (model prog w) A (exec st env) Q₁ E s) (h2 : ∀ s', P s' → wpAny (model prog w) A (execs rest env) Q E s') : wpAny (model prog w) A (execs (st :: rest) env) Q E s :=
  wpAny_execs_cons (h1 _ fun s' hp => h2 s' hp)
theorem item_lst {value slice : PySem.Expr} {l : Addr} {n : Nat} {vs : List Value} {k : Int} {u : Tok} {v : Value} {Q : Value → Shared → Prop} (N : News h₀ L s.heap news) (hm : (l, listOf vs.toArray n) ∈ news) (hx : vs[k.toNat]? = some v) (h0 : 0 ≤ k) (hhi : k < 2 ^ 63) (h : Q v s)
    (hs : subscripted slice false (.ref l) (.int k u) = operate [.ref l, .int k u] (getItem (.ref l) (.int k u)) := by with_unfolding_all rfl) : wpAny (model prog w) A (subscriptTail value slice (.ref l) (.int k u)) Q E s :=
  tail_any (News.isList N hm).typeIs slot_list_getitem.lookup (wpAny_getItem_list (News.isList N hm) h0 hhi (by simpa using hx) h) hs
theorem item_tri {value slice : PySem.Expr} {l : Addr} {a b c : UInt64} {ta tb tc : Tok} {k : Int} {u : Tok} {v : Value} {Q : Value → Shared → Prop} (N : News h₀ L s.heap news) (hm : (l, tupOf [.float a ta, .float b tb, .float c tc]) ∈ news) (hx : ([.float a ta, .float b tb, .float c tc] : List Value)[k.toNat]? = some v) (h0 : 0 ≤ k) (h3 : k < 3) (h : Q v s)
    (hs : subscripted slice false (.ref l) (.int k u) = operate [.ref l, .int k u] (getItem (.ref l) (.int k u)) := by with_unfolding_all rfl) : wpAny (model prog w) A (subscriptTail value slice (.ref l) (.int k u)) Q E s :=
  item_tupleT (l := [.float a ta, .float b tb, .float c tc]) (News.isTup N hm) (by omega) (by omega) (StrLaws.seqIndex_nonneg h0 h3) hx h hs
end
theorem ne_cell {g h : Heap} {L a c : Addr} {o oc : Obj} {v : Option Value} {news : List (Addr × Obj)} (N : News g L h news) (hm : (a, o) ∈ news) (hc : (c, oc) ∈ news) (hv : oc.data = .cell v) (ho : NoCell o) : NewOff [(a, o)] c := fun p hp e => by
  rw [List.mem_singleton.mp hp] at e
  have h1 := (N _ hm).1
  have e' : a = c := e
  rw [e', (N _ hc).1] at h1
  have e2 : oc = o := Option.some.inj h1
  exact ho v (e2 ▸ hv)
theorem noCell_list {vs : Array Value} {n : Nat} : NoCell (listOf vs n) := fun v e => by cases e
/-- the ledger of the block's second part: its cells, and the rest under one name -/
theorem blk_led {g h : Heap} {L c1 c2 c3 c4 Dc Dr Dl lc lp : Addr} {o1 o2 o3 o4 oc or ol ocs ops : Obj} {v3 v4 : Option Value} {news ls : List (Addr × Obj)} (N : News g L h news) (h1 : (c1, o1) ∈ news) (h2 : (c2, o2) ∈ news) (h3 : (c3, o3) ∈ news) (h4 : (c4, o4) ∈ news) (d3 : o3.data = .cell v3) (d4 : o4.data = .cell v4)
    (mc : (Dc, oc) ∈ news) (mr : (Dr, or) ∈ news) (ml : (Dl, ol) ∈ news) (m1 : (lc, ocs) ∈ news) (m2 : (lp, ops) ∈ news) (hl : ∀ p ∈ ls, p ∈ news) (nc : NoCell oc) (nr : NoCell or) (nl : NoCell ol) (n1 : NoCell ocs) (n2 : NoCell ops) (hno : ∀ p ∈ ls, NoCell p.2) :
    ∃ ST, News g L h ((c3, o3) :: (c4, o4) :: (c1, o1) :: (c2, o2) :: ST) ∧ (∀ p ∈ ST, p.1 ≠ c3) ∧ (∀ p ∈ ST, p.1 ≠ c4) ∧ (Dc, oc) ∈ ST ∧ (Dr, or) ∈ ST ∧ (Dl, ol) ∈ ST ∧ (lc, ocs) ∈ ST ∧ (lp, ops) ∈ ST ∧ ∀ p ∈ ls, p ∈ ST := by
  have hST : ∀ p ∈ (Dc, oc) :: (Dr, or) :: (Dl, ol) :: (lc, ocs) :: (lp, ops) :: ls, p ∈ news := List.forall_mem_cons.mpr ⟨mc, List.forall_mem_cons.mpr ⟨mr, List.forall_mem_cons.mpr ⟨ml, List.forall_mem_cons.mpr ⟨m1, List.forall_mem_cons.mpr ⟨m2, hl⟩⟩⟩⟩⟩
  have hNo : ∀ p ∈ (Dc, oc) :: (Dr, or) :: (Dl, ol) :: (lc, ocs) :: (lp, ops) :: ls, NoCell p.2 := List.forall_mem_cons.mpr ⟨nc, List.forall_mem_cons.mpr ⟨nr, List.forall_mem_cons.mpr ⟨nl, List.forall_mem_cons.mpr ⟨n1, List.forall_mem_cons.mpr ⟨n2, hno⟩⟩⟩⟩⟩
  refine ⟨_, fun p hp => N p ?_, fun p hp => ne_cell N (hST p hp) h3 d3 (hNo p hp) _ (.head _), fun p hp => ne_cell N (hST p hp) h4 d4 (hNo p hp) _ (.head _), .head _, .tail _ (.head _), .tail _ (.tail _ (.head _)), .tail _ (.tail _ (.tail _ (.head _))), .tail _ (.tail _ (.tail _ (.tail _ (.head _)))), fun p hp => .tail _ (.tail _ (.tail _ (.tail _ (.tail _ hp))))⟩
  simp only [List.mem_cons] at hp
  rcases hp with rfl | rfl | rfl | rfl | hp
  · exact h3
  · exact h4
  · exact h1
  · exact h2
  · exact hST p (by simpa only [List.mem_cons] using hp)
section
variable {prog : Program} {w : World} {A : Around} {E : Value → Shared → Prop} {s : Shared} {env : Env}
theorem blk_cut {g : Heap} {L c1 c2 c3 c4 Dc Dr Dl lc lp : Addr} {o1 o2 o3 o4 oc or ol ocs ops : Obj} {v3 v4 : Option Value} {m : Str → Option Value} {news ls : List (Addr × Obj)} {st : Stmt} {rest : List Stmt} {Q : Flow → Shared → Prop} (F : Fr g L s.heap m) (N : News g L s.heap news) (h1 : (c1, o1) ∈ news) (h2 : (c2, o2) ∈ news) (h3 : (c3, o3) ∈ news) (h4 : (c4, o4) ∈ news) (d3 : o3.data = .cell v3) (d4 : o4.data = .cell v4)
    (mc : (Dc, oc) ∈ news) (mr : (Dr, or) ∈ news) (ml : (Dl, ol) ∈ news) (m1 : (lc, ocs) ∈ news) (m2 : (lp, ops) ∈ news) (hl : ∀ p ∈ ls, p ∈ news) (nc : NoCell oc) (nr : NoCell or) (nl : NoCell ol) (n1 : NoCell ocs) (n2 : NoCell ops) (hno : ∀ p ∈ ls, NoCell p.2)
    (ha : ∀ ST (Q₁ : Flow → Shared → Prop), Fr g L s.heap m → News g L s.heap ((c3, o3) :: (c4, o4) :: (c1, o1) :: (c2, o2) :: ST) → (∀ p ∈ ST, p.1 ≠ c3) → (∀ p ∈ ST, p.1 ≠ c4) → (Dc, oc) ∈ ST → (Dr, or) ∈ ST → (Dl, ol) ∈ ST → (lc, ocs) ∈ ST → (lp, ops) ∈ ST → (∀ p ∈ ls, p ∈ ST) →
      (∀ h tk m', Fr g L h m' → News g L h [(c1, o1), (c2, o2), (Dc, oc), (lc, ocs), (lp, ops)] → Q₁ .next { s with heap := h, toks := tk }) → wpAny (model prog w) A (exec st env) Q₁ E s)
    (hb : ∀ h tk m', Fr g L h m' → News g L h [(c1, o1), (c2, o2), (Dc, oc), (lc, ocs), (lp, ops)] → wpAny (model prog w) A (execs rest env) Q E { s with heap := h, toks := tk }) : wpAny (model prog w) A (execs (st :: rest) env) Q E s := by
  obtain ⟨ST, N6, x3, x4, a1, a2, a3, a4, a5, a6⟩ := blk_led N h1 h2 h3 h4 d3 d4 mc mr ml m1 m2 hl nc nr nl n1 n2 hno
  refine cutIf (fun s' => ∃ h tk m', s' = { s with heap := h, toks := tk } ∧ Fr g L h m' ∧ News g L h [(c1, o1), (c2, o2), (Dc, oc), (lc, ocs), (lp, ops)]) (fun Q₁ hP => ha ST Q₁ F N6 x3 x4 a1 a2 a3 a4 a5 a6 fun h tk m' F' N' => hP _ ⟨h, tk, m', rfl, F', N'⟩) ?_
  rintro s' ⟨h, tk, m', rfl, F', N'⟩
  exact hb h tk m' F' N'
end
theorem lst_no_it {ys : List Value} : (LCg.lst ys).cls ≠ .type "list_iterator" := fun e => by injection e with e; exact absurd e (by decide)
theorem last_led {g h : Heap} {L c1 c2 Dc lc lp : Addr} {o1 o2 oc ocs ops : Obj} {news : List (Addr × Obj)} (N : News g L h news) (a : (c1, o1) ∈ news) (b : (c2, o2) ∈ news) (c : (Dc, oc) ∈ news) (d : (lc, ocs) ∈ news) (e : (lp, ops) ∈ news) : News g L h [(c1, o1), (c2, o2), (Dc, oc), (lc, ocs), (lp, ops)] :=
  fun p hp => N p (List.forall_mem_cons.mpr ⟨a, List.forall_mem_cons.mpr ⟨b, List.forall_mem_cons.mpr ⟨c, List.forall_mem_cons.mpr ⟨d, List.forall_mem_cons.mpr ⟨e, List.forall_mem_nil _⟩⟩⟩⟩⟩ p hp)
theorem mix_end {σ : Type} {Led : σ → List (Addr × Obj)} {ps : σ → List (Str × Value)} {Facts : Nat → σ → Prop} {stored : List Str} {m₀ m' : Str → Option Value} {i tk : Nat} {g h' : Heap} {L I D c1 c2 c3 c4 ax : Addr} {oI oD o1 o2 o3 o4 lo : Obj} {ST nw : List (Addr × Obj)} {s₁ : Shared} (F : Fr g L h' m') (N : News g L h' nw) (hIn : (I, oI) ∈ nw) (hcI : oI.cls = .type "list_iterator") (hD : oD.cls ≠ .type "list_iterator")
    (l3 : @LT.lt Nat _ c3 I) (l4 : @LT.lt Nat _ c4 I) (l1 : @LT.lt Nat _ c1 I) (l2 : @LT.lt Nat _ c2 I) (lS : ∀ p ∈ ST, @LT.lt Nat _ p.1 I) (mD : (D, oD) ∈ nw) (m3 : (c3, o3) ∈ nw) (m4 : (c4, o4) ∈ nw) (m1 : (c1, o1) ∈ nw) (m2 : (c2, o2) ∈ nw) (mS : ∀ p ∈ ST, p ∈ nw) (mx : (ax, lo) ∈ ST)
    (hJ : JSt Led ps Facts stored m₀ i m' ((D, oD) :: (c3, o3) :: (c4, o4) :: (c1, o1) :: (c2, o2) :: ST)) : UnrEndW g L s₁ [(I, oI)] (fun m' n' => SubL [(ax, lo)] n' ∧ JSt Led ps Facts stored m₀ i m' n') { s₁ with heap := h', toks := tk } := by
  have hA : ∀ p ∈ (D, oD) :: (c3, o3) :: (c4, o4) :: (c1, o1) :: (c2, o2) :: ST, p ∈ nw := List.forall_mem_cons.mpr ⟨mD, List.forall_mem_cons.mpr ⟨m3, List.forall_mem_cons.mpr ⟨m4, List.forall_mem_cons.mpr ⟨m1, List.forall_mem_cons.mpr ⟨m2, mS⟩⟩⟩⟩⟩
  have hl : ∀ p ∈ (c3, o3) :: (c4, o4) :: (c1, o1) :: (c2, o2) :: ST, @LT.lt Nat _ p.1 I := List.forall_mem_cons.mpr ⟨l3, List.forall_mem_cons.mpr ⟨l4, List.forall_mem_cons.mpr ⟨l1, List.forall_mem_cons.mpr ⟨l2, lS⟩⟩⟩⟩
  refine ⟨h', tk, m', (D, oD) :: (c3, o3) :: (c4, o4) :: (c1, o1) :: (c2, o2) :: ST, rfl, F, fun p hp => ?_, fun p hp q hq e => ?_, ⟨.tail _ (.tail _ (.tail _ (.tail _ (.tail _ mx)))), trivial⟩, hJ⟩
  · rcases List.mem_cons.mp hp with rfl | hp
    · exact N _ hIn
    · exact N p (hA p hp)
  · obtain rfl := List.mem_singleton.mp hq
    have e' : p.1 = I := e
    rcases List.mem_cons.mp hp with rfl | hp
    · have h1 := (N _ mD).1
      have e2 : D = I := e'
      rw [e2, (N _ hIn).1] at h1
      have e3 : oI = oD := Option.some.inj h1
      exact hD (e3 ▸ hcI)
    · exact Nat.ne_of_lt (hl p hp) e'
structure JOk (j z : Nat) : Prop where
  lt : j < z
  z2 : z ≤ 5
theorem JOk.a {j z : Nat} (_ : JOk j z) : (0 : Int) ≤ 1 + (j : Int) := by omega
theorem JOk.b {j z : Nat} {f : Nat → Int} (h : JOk j z) : (1 : Int) + (j : Int) < (((List.range (z + 1)).map f).length : Int) := by have := h.lt; rw [List.length_map, List.length_range]; omega
theorem JOk.c {j z : Nat} (h : JOk j z) : (1 : Int) + (j : Int) < 2 ^ 63 := by have := h.lt; have := h.z2; omega
theorem JOk.a' {j z : Nat} (_ : JOk j z) : (0 : Int) ≤ 1 + (j : Int) - 1 := by omega
theorem JOk.b' {j z : Nat} {f : Nat → Int} (h : JOk j z) : (1 : Int) + (j : Int) - 1 < (((List.range (z + 1)).map f).length : Int) := by have := h.lt; rw [List.length_map, List.length_range]; omega
theorem JOk.c' {j z : Nat} (h : JOk j z) : (1 : Int) + (j : Int) - 1 < 2 ^ 63 := by have := h.lt; have := h.z2; omega
theorem rng0 {z : Nat} (z1 : 2 ≤ z) (z2 : z ≤ 5) : Builtin.Range.small 0 (z : Int) 1 = true ∧ 0 ≤ Builtin.Range.rangeSize 0 (z : Int) 1 ∧ Builtin.Range.rangeSize 0 (z : Int) 1 ≤ 1000 := by
  have : z = 2 ∨ z = 3 ∨ z = 4 ∨ z = 5 := by omega
  rcases this with rfl | rfl | rfl | rfl <;> decide +kernel
theorem take_at {ps : List Value} {k i : Nat} {v v' : Value} (hv : (ps.take k).toArray[i]? = some v) (h : ps[i]? = some v') : v = v' := by
  have e : (ps.take k)[i]? = some v := by simpa using hv
  rw [List.getElem?_take] at e
  split at e
  · rw [h] at e; exact (Option.some.inj e).symm
  · cases e
theorem arr_at {ps : List Value} {i : Nat} {v v' : Value} (hv : ps.toArray[i]? = some v) (h : ps[i]? = some v') : v = v' := by
  have e : ps[i]? = some v := by simpa using hv
  rw [h] at e; exact (Option.some.inj e).symm
theorem getD_mem8 {ns : List Int} {i : Nat} (h : i < ns.length) : ns.getD i 0 ∈ ns := by
  rw [List.getD_eq_getElem?_getD, List.getElem?_eq_getElem h]
  exact List.getElem_mem h
theorem off1_at {D a : Addr} {o : Obj} {l : List (Addr × Obj)} (h : LCg.Off1 D l) (hm : (a, o) ∈ l) : a ≠ D := off1_mem h _ hm
theorem newoff_at {r a : Addr} {o : Obj} {l : List (Addr × Obj)} (h : NewOff l r) (hm : (a, o) ∈ l) : a ≠ r := h _ hm
theorem block : ∀ {w : World} {mean : ExcName → Option Value} {mg mb : Str → Option Value} {A₀ : Around} {dp un : Nat} {gd : Option (List Code)} {env : Env} {outer : List Env} {base h₀ : Heap} {L : Addr} {m : Str → Option Value} {s : Shared} {R : Result → Shared → Prop} {lc lp : Addr} {cs ps : List Value} {ns : List Int} {nc np z : Nat} {tz : Tok} {tl : List (Addr × Obj)}
  (B : Below A₀ base outer h₀) (F : Fr h₀ L s.heap m) (X : (hd.heap_39 w.params).In h₀) (N : News h₀ L s.heap [(lc, listOf cs.toArray nc), (lp, listOf ps.toArray np)]) (T : Top hd.view_39 (looseW hd.view_39 [Str.ofString "insort_left", Str.ofString "bisect_left", Str.ofString "_twin_re_1", Str.ofString "_twin_re_2", Str.ofString "Whitespace"]) mean mg mb h₀)
  (hf : env.frame = some L) (hke : env.scope.kind = .function)
  (hI : IntsAre cs ns) (hn : ns.length = z) (z1 : 2 ≤ z) (z2 : z ≤ 5) (hr : ∀ y ∈ ns, 1 ≤ y ∧ y ≤ 6) (hpl : ps.length = 6) (NT : News h₀ L s.heap tl) (hdis : ∀ p ∈ tl, ∀ q ∈ [(lc, listOf cs.toArray nc), (lp, listOf ps.toArray np)], p.1 ≠ q.1) (PG : PagesT w tl ps ns z) (hd1 : dp ≤ 540) (hu : un ≤ 170)
  (hret : ∀ h' tk', (∀ b o, s.heap.get? b = some o → h'.get? b = some o) → R (.ok (.ret (.bool (blockF ns z)))) { s with heap := h', toks := tk' }),
  codeAny (model rw_sc0082_01.row.prog w) ⟨none, dp, some (env :: outer), gd, un⟩ (.call (.ref 179) ⟨[.ref lc, .ref lp, .int z tz], []⟩) R s := by
  k_with_none
  w_top off
  (k_with "k_all" => with_reducible assumption)
  (k_with "k_ne" => ((try dsimp only); first
  | exact off1_at (by with_reducible assumption) (by k_mem)
  | exact Ne.symm (off1_at (by with_reducible assumption) (by k_mem))
  | exact newoff_at (by with_reducible assumption) (by k_mem)
  | exact Ne.symm (newoff_at (by with_reducible assumption) (by k_mem))))
  (k_with "storeName" => (k_here; k_dflt (first | (refine storeX_i (by k_asm) (by k_asm) ?_ (by rfl) (by rfl); k_whole; intro wh' wtk' wt' wm' wF' wN') | (refine storeX_s (by k_asm) (by k_asm) ?_ (by rfl) (by rfl); k_whole; intro wh' wtk' wt' wm' wF' wN') | (refine storeX_f (by k_asm) (by k_asm) ?_ (by rfl) (by rfl); k_whole; intro wh' wtk' wt' wm' wF' wN') | (refine storeX_v (by k_asm) (by k_asm) ?_ (by rfl) (by rfl); k_whole; intro wh' wtk' wm' wF' wN')); (try k_sweep)))
  (k_with "exec Assign cons ListComp" => (k_here; k_dflt (refine LCg.Assign_ListComp_U (F₀ := by k_asm) (by rfl) (by with_unfolding_all rfl) (by with_unfolding_all rfl) (by decide) (by rfl) (by decide) (by rfl) (by rfl) (by rfl) ?_)))
  (k_with "exec Assign cons ListComp" => (k_here; k_dflt (refine wpAny_Assign_Name ?_ (hs := by with_unfolding_all rfl))))
  (k_with "eval ListComp" => (k_here; k_dflt (refine LCg.ListComp_U (F₀ := by k_asm) (by with_unfolding_all rfl) (by decide) (by rfl) (by decide) (by rfl) ?_)))
  (k_with "eval ListComp" => ((with_reducible show wpAny _ _ (eval (Expr.ListComp _ [⟨Expr.Tuple _ _ _, _, _, _⟩] _ _) _) _ _ _); refine of_stop ?_))
  (k_with "CompRest" => (k_here; refine of_stop ?_))
  (k_with "CompEnd" => (refine of_stop ?_))
  (k_with "CompSrc" => (k_here; k_dflt (refine LCg.CompSrc.base (by rfl) (by k_asm) (by k_asm) (by assumption) (by rw [List.size_toArray, sizeLine_eq]; omega) ?_); intro wg'))
  (k_with "CompSrc" => (k_here; k_dflt (refine LCg.CompSrc.ledger (by rfl) (by k_asm) (by k_asm) (by k_mem) (by rw [List.size_toArray, sizeLine_eq]; (try simp only [List.length_take, List.length_cons, List.length_nil]); omega) ?_); intro wg'))
  (k_with "CompSrc" => (k_here; (rename ZOk _ => whZ); k_dflt (refine LCg.CompSrc.range (by rfl) (by k_asm) (by k_asm) (by with_reducible assumption) (rng1 whZ.z1 whZ.z2).1 (rng1 whZ.z1 whZ.z2).2 (by rw [sizeLine_eq]; omega) ?_); intro wg'))
  (k_with "CompSrc" => (k_here; k_dflt (refine LCg.CompSrc.range (n := 3) (by rfl) (by k_asm) (by k_asm) (by with_reducible assumption) (by decide) (by decide) (by rw [sizeLine_eq]; omega) ?_); intro wg'))
  (k_with "subscriptTail Name Slice ref ref" => (k_here; (with_reducible show wpAny _ _ (subscriptTail _ (PySem.Expr.Slice none (some _) none _) (Value.ref _) (Value.ref _)) _ _ _); k_dflt (refine kms_slice_lit (by k_asm) (by k_asm) (News.isList (by k_asm) (by k_mem)) IsPart.none (IsPart.int _ _) (kms_upto _ (by omega)) ?_ (by with_unfolding_all rfl) (by intro _; with_unfolding_all rfl) (by rw [List.size_toArray, sizeLine_eq]; omega)); intro wD' wh' wF' wN' wl1; (try k_lt wl1)))
  (k_with "subscriptTail" => ((with_reducible show wpAny _ _ (subscriptTail _ _ (Value.ref _) (Value.int _ _)) _ _ _); k_dflt (refine ksa_sub (by k_asm) (by repeat (first | with_reducible assumption | exact List.mem_cons_self | refine List.mem_cons_of_mem _ ?_)) (by with_reducible assumption) (by omega) (by (try simp only [List.length_map, List.length_range]); omega) (by omega) (fun wt9 => ?_))))
  (k_with "FinE" => ((unfold LCg.FinE); intro wD' wh' wtk' wF' wN' wo1'; (try simp only [List.nil_append, List.cons_append] at wN'); (try dsimp only)))
  (k_with "FinA" => ((unfold LCg.FinA); intro wD' wh' wtk' wF' wN' wo1'; (try simp only [List.nil_append, List.cons_append] at wN'); (try dsimp only)))
  (k_with "exec For Name Name cons nil" => (k_here; (rename Fr _ _ _ _ => wlF'); (with_unfolding_all refine' For_turns wlF' ?_); k_whole))
  (k_with "subscriptTail Name Name ref int" => ((with_reducible show wpAny _ _ (subscriptTail _ _ (Value.ref _) (Value.int (0 + _) _)) _ _ _); k_dflt (first | refine item_lst (by k_asm) (by repeat (first | with_reducible assumption | exact List.mem_cons_self | refine List.mem_cons_of_mem _ ?_)) (by with_reducible assumption) (by omega) (by omega) ?_ | refine item_tri (by k_asm) (by repeat (first | with_reducible assumption | exact List.mem_cons_self | refine List.mem_cons_of_mem _ ?_)) (by with_reducible assumption) (by omega) (by omega) ?_)))
  (k_with "execs cons" => ((with_reducible show wpAny _ _ (execs [Stmt.If _ _ _ _, Stmt.Return _ _] _) _ _ _); refine of_stop ?_))
  (k_with "subscriptTail Name Name ref int" => ((with_reducible show wpAny _ _ (subscriptTail _ _ (Value.ref _) (Value.int (1 + _) _)) _ _ _); (rename JOk _ _ => whJ); k_dflt (refine ksa_sub (by k_asm) (by repeat (first | with_reducible assumption | exact List.mem_cons_self | refine List.mem_cons_of_mem _ ?_)) (by with_reducible assumption) whJ.a whJ.b whJ.c (fun wt9 => ?_))))
  (k_with "subscriptTail Name BinOp ref int" => ((with_reducible show wpAny _ _ (subscriptTail _ _ (Value.ref _) (Value.int (1 + _ - 1) _)) _ _ _); (rename JOk _ _ => whJ); k_dflt (refine ksa_sub (by k_asm) (by repeat (first | with_reducible assumption | exact List.mem_cons_self | refine List.mem_cons_of_mem _ ?_)) (by with_reducible assumption) whJ.a' whJ.b' whJ.c' (fun wt9 => ?_))))
  (k_with "subscriptTail Name Constant ref int" => ((with_reducible show wpAny _ _ (subscriptTail _ _ (Value.ref _) (Value.int _ _)) _ _ _); k_dflt (refine ksa_sub (by k_asm) (by repeat (first | with_reducible assumption | exact List.mem_cons_self | refine List.mem_cons_of_mem _ ?_)) (by with_reducible assumption) (by decide) (by simp only [List.length_map, List.length_range, List.length_cons, List.length_nil]; omega) (by decide) (fun wt9 => ?_))))
  (k_with "getMethod ref" => ((with_reducible show wpAny _ _ (getMethod (Value.ref _) (Str.ofString "indent_level") _) _ _ _); k_dflt (refine ws_method (by k_asm) (by k_asm) (by assumption) (by assumption) ?_)))
  (k_with "call builtin:sorted" => ((with_reducible show wpAny _ _ (call (Value.builtin _) [Value.ref _]) _ _ _); k_dflt (refine sorted_N (by k_asm) (by k_asm) (News.isList (by k_asm) (by repeat (first | with_reducible assumption | exact List.mem_cons_self | refine List.mem_cons_of_mem _ ?_))) (by with_reducible assumption) (by omega) ?_); intro wh9 wvs9 wns9 we9 wF9 wN9 whI9 whP9 whS9; (try dsimp only)))
  (k_with "call type:list" => ((with_reducible show wpAny _ _ (call (Value.type _) [Value.ref _]) _ _ _); (rename ZOk _ => whZ); (rename Fr _ _ _ _ => wlF); (rename News _ _ _ _ => wlN); k_dflt (refine list_rng (by rfl) wlF wlN (by with_reducible assumption) (rng0 whZ.z1 whZ.z2).1 (rng0 whZ.z1 whZ.z2).2.1 (rng0 whZ.z1 whZ.z2).2.2 ?_); clear wlF wlN; intro wD9 wus9 wcc9 wh9 wtk9 wF9 wN9 wl9 whI9; (try k_lt wl9); (try dsimp only)))
  (k_with "compareOp Eq ref ref" => k_dflt (refine eq_intsK (by is_list) (by with_reducible assumption) (by is_list) (by with_reducible assumption) (by units_room) ?_))
  (k_with "call type:int" => ((with_reducible show wpAny _ _ (call _ [Value.float (Float64.add _ _) _]) _ _ _); (rename EightOk _ => whH); k_dflt (refine int_fl rfl whH.nan whH.inf (fun wt9 wk9 => ?_))))
  (k_with "call ref" => ((with_reducible show wpAny _ _ (call (Value.ref 63) [Value.int _ _, _, _]) _ _ _); (rename EOk _ _ _ => whH); (rename Fr _ _ _ _ => wlF); (rename News _ _ _ _ => wlN); k_dflt (refine wcall (rgbi (by k_asm) wlF (by k_asm) News.nil (by k_asm) rfl rfl whH.a0 whH.a1 whH.b0 whH.b1 whH.c0 whH.c1 (by (try dsimp only); omega) (by (try dsimp only); omega) (fun wr9 wa9 wb9 wc9 wta wtb wtc wh9 wtk9 wk9 whn9 whr9 whl9 => ?_))); (have wF9 := wlF.keeps wk9); k_dflt (have wN9 := news_new wlF wlN wk9 whn9 whr9); k_dflt (have wl9 := new_off wlN whn9); clear wlF wlN wk9 whr9 whn9; subst whl9; (try dsimp only)))
  (k_with "binaryOp Mult float int" => k_dflt (refine mulz (by assumption) (fun wt9 wk9 => ?_)))
  (k_with "call type:int" => ((with_reducible show wpAny _ _ (call _ [Value.float (Float64.mul (hueF _ _ _) _) _]) _ _ _); (rename BackOk _ _ _ _ _ => whH); k_dflt (refine int_fl rfl whH.nan whH.inf (fun wt9 wk9 => ?_))))
  (k_with "call ref" => ((with_reducible show wpAny _ _ (call (Value.ref 63) [Value.float _ _, _, _]) _ _ _); (rename BackOk _ _ _ _ _ => whH); (rename Fr _ _ _ _ => wlF); (rename News _ _ _ _ => wlN); k_dflt (refine wcall (rgbf (by k_asm) wlF (by k_asm) News.nil (by k_asm) rfl rfl whH.ne whH.z1 whH.z2 (by (try dsimp only); omega) (by (try dsimp only); omega) (fun wr9 wa9 wb9 wc9 wta wtb wtc wh9 wtk9 wk9 whn9 whr9 whl9 => ?_))); (have wF9 := wlF.keeps wk9); k_dflt (have wN9 := news_new wlF wlN wk9 whn9 whr9); k_dflt (have wl9 := new_off wlN whn9); clear wlF wlN wk9 whr9 whn9; subst whl9; (try dsimp only)))
  (k_with "binaryOp Div int int" => k_dflt (refine div_hue rfl (by omega) (by omega) (by assumption) (fun wt9 wk9 => ?_)))
  (k_with "call ref" => ((with_reducible show wpAny _ _ (call (Value.ref 70) _) _ _ _); (rename HueOk _ _ => whH); (rename Fr _ _ _ _ => wlF); (rename News _ _ _ _ => wlN); k_dflt (refine wcall (hsv (by k_asm) wlF (by k_asm) News.nil (by k_asm) rfl rfl whH.nan whH.inf whH.t0 whH.t1 (by (try dsimp only); omega) (by (try dsimp only); omega) (fun wr9 wa9 wb9 wc9 wta wtb wtc wh9 wtk9 wk9 whn9 whr9 whl9 => ?_))); (have wF9 := wlF.keeps wk9); k_dflt (have wN9 := news_new wlF wlN wk9 whn9 whr9); k_dflt (have wl9 := new_off wlN whn9); clear wlF wlN wk9 whr9 whn9; (try dsimp only)))
  (k_with "call ref" => ((with_reducible show wpAny _ _ (call (Value.ref 125) [Value.ref _, Value.int _ _]) _ _ _); (rename Fr _ _ _ _ => wlF); (rename News _ _ _ _ => wlN); (rename WsC _ _ _ _ _ _ _ _ _ _ _ _ _ => whW); k_dflt (refine ws_call whW.B whW.X whW.T whW.hf whW.B' whW.st wlF rfl rfl whW.G (by assumption) (by (try dsimp only); omega) (by (try dsimp only); omega) (by assumption) (by assumption) (by (try dsimp only); omega) (by (try dsimp only); omega) (fun wt9 wh9 wtk9 wk9 => ?_)); (have wF9 := wlF.keeps wk9); (have wN9 := wlN.grown wk9); clear wlF wlN wk9; (try dsimp only)))
  k_fill
  intro w mean mg mb A₀ dp un gd env outer base h₀ L m s R lc lp cs ps ns nc np z tz tl B F X N T hf hke hI hn z1 z2 hr hpl NT hdis PG hd1 hu hret
  refine entC B F X N T rfl hf hke (by k_is) (by k_is) (by dsimp only; unfold recursionLimit; omega) (BindsTo.of_eq rfl) rfl (by decide +kernel) ?_ rfl rfl rfl
  intro g L' h' tk' cells' hg e₁ A₁ m₁ F' N' Y' B' X' T' l1
  (try k_lt l1); k_cells Y'; (try simp only [List.cons_append, List.nil_append] at N'); (try dsimp only)
  have st : ∀ b o, h₀.get? b = some o → g.get? b = some o := fun b o e => hg ▸ hideAll_get _ (F.keep b o e) (fun hm => by
    obtain ⟨p, hp, rfl⟩ := List.mem_map.mp hm
    rw [(N p hp).2.2] at e; cases e)
  have G : TlIn h₀ g L tl := hg ▸ tlIn_of NT hdis
  have hW : WsC w mean mg mb A₀ _ env outer base h₀ g L tl := ⟨B, X, T, hf, B', st, G⟩
  have hcl := hI.length
  k_steps
  unfold Stop
  refine compRest_ind (MapI _ (colF ns z)) MapI.zero ?_ ?_
  · intro i ys nw hi hINV v I oI C oC D m₂ h9 tk9 E9 Q1c hv hC hx F9 N9 off ne hQ1c e1c
    obtain ⟨rfl, hys⟩ := hINV
    have hi6 : i < 6 := by simp at hi; omega
    obtain ⟨pk, wk, nk, hp, hm, hwl, hws⟩ := PG i hi6
    obtain rfl := take_at hv hp
    have hlp : g.IsList pk wk.toArray := ⟨_, (G _ hm).1, rfl, nk, rfl⟩
    clear hp hm hv
    k_steps
    unfold Stop
    refine compRest_ind (MapI _ (fun j => indF z ((ns.getD j 0).toNat + i))) MapI.zero ?_ ?_
    · intro j us nw hj hINV2 v I2 oI2 C2 oC2 D2 m2 h8 tk8 E8 Q2c hv hC2 hx2 F8 N8 off2 ne2 hQ2c e2c
      obtain ⟨rfl, hus⟩ := hINV2
      have hj' : j < z := by simp at hj; omega
      obtain ⟨x, hx9, hwt⟩ := hws j hj'
      obtain rfl := arr_at hv hx9
      have hy := hr _ (getD_mem8 (ns := ns) (i := j) (by omega))
      have hn1 : 1 ≤ (ns.getD j 0).toNat + i := by omega
      have hn2 : (ns.getD j 0).toNat + i ≤ 11 := by omega
      clear hv hx9
      k_steps
      refine hQ2c _ _ ?_
      (rename Fr g L' _ _ => F7); (rename News g L' _ _ => N7)
      refine LCg.CompEnd.intro F7 N7 _ ?sub2 off2 ?hS2 ?r2
      case r2 => exact MapI.succ hus rfl
      case sub2 => lcg_sub
      case hS2 => exact .inl hlp
    · intro us nw hINV2
      obtain ⟨rfl, hus⟩ := hINV2
      have hsz : wk.toArray.size = z := by rw [List.size_toArray, hwl]
      rw [hsz] at hus
      k_steps
      refine hQ1c _ _ ?_
      (rename Fr g L' _ _ => F7); (rename News g L' _ _ => N7)
      refine LCg.CompEnd.intro F7 N7 _ ?sub off ?hS ?r
      case r => exact MapI.succ hys rfl
      case sub => lcg_sub
      case hS => exact .inr ⟨_, by k_mem, rfl, _, rfl⟩
  · intro ys nw hINV
    obtain ⟨rfl, hys⟩ := hINV
    have hsz : (List.take ((z : Int) + 1).toNat ps.toArray.toList).toArray.size = z + 1 := by simp; omega
    rw [hsz] at hys
    k_steps
    unfold Stop
    refine compRest_ind (MapI _ (fun j => (ns.getD j 0).fmod (z : Int))) MapI.zero ?_ ?_
    · intro j us nw hj hINV2 v I2 oI2 C2 oC2 D2 m2 h8 tk8 E8 Q3c hv hC2 hx2 F8 N8 off2 ne2 hQ3c e3c
      obtain ⟨rfl, hus⟩ := hINV2
      obtain ⟨y, t, rfl, hny⟩ := intAt hI hv
      have hyd : ns.getD j 0 = y := by rw [List.getD_eq_getElem?_getD, hny]; rfl
      k_steps
      refine hQ3c _ _ ?_
      (rename Fr g L' _ _ => F7); (rename News g L' _ _ => N7)
      refine LCg.CompEnd.intro F7 N7 _ ?sub3 off2 ?hS3 ?r3
      case r3 => exact MapI.succ hus (by rw [hyd])
      case sub3 => lcg_sub
      case hS3 => exact .inr ⟨_, by k_mem, rfl, _, rfl⟩
    · intro us nw hINV2
      obtain ⟨rfl, hus⟩ := hINV2
      rw [List.size_toArray, hcl, hn] at hus
      have hcol0 := col0_ok hn z1 hr
      k_steps
      all_goals first | (exfalso; exact absurd hcol0 (by assumption)) | skip
      unfold Stop
      refine compRest_ind (LightI _ ns z) LightI.zero ?_ ?_
      · intro j vs nw hj hINV3 v I3 oI3 C3 oC3 D3 m3 h6 tk6 E6 Q4c hv hC3 hx3 F6 N6 off3 ne3 hQ4c e4c
        obtain ⟨ls, rfl, hls, hno⟩ := hINV3
        simp only [List.cons_append, List.nil_append] at N6 off3
        obtain ⟨y, t, rfl, hny⟩ := intAt hI hv
        have hyd : ns.getD j 0 = y := by rw [List.getD_eq_getElem?_getD, hny]; rfl
        have hy := hr _ (List.mem_of_getElem? hny)
        have hH := hueOk_of hy.1 hy.2 z1 z2
        k_steps
        refine hQ4c _ _ ?_
        (rename Fr g L' _ _ => F5); (rename News g L' _ _ => N5); (rename lightF _ = _ => hl5); (rename NewOff _ _ => l5)
        exact lights_end F5 N5 off3 l5 (.inr ⟨_, by k_mem, rfl, _, rfl⟩) hls hno (by rw [hyd]; exact hl5)
      · intro vs nw hINV3
        obtain ⟨ls, rfl, hls, hno⟩ := hINV3
        rw [List.size_toArray, hcl, hn] at hls
        have hul := hus.length.trans (by simp : _ = z)
        simp only [List.cons_append, List.nil_append]
        k_steps
        unfold Stop
        (rename Fr g L' _ _ => F5); (rename News g L' _ _ => N5)
        refine tri_comp (its := vs) (fun i v => ∃ t, v = .int ((ns.getD i 0).fmod (z : Int)) t) rfl F5 N5 (by k_mem) (by rw [hls.1]; omega) (by with_unfolding_all rfl) (by decide) (by rfl) (by decide) (by rfl) (by rfl) (by rfl) (by decide) (by decide) (by decide) ?hit4 ?turn4 ?fin4
        case hit4 =>
          intro Q' hQ
          k_steps
          exact hQ
        case turn4 =>
          intro i v hv
          have hi : i < z := by have := (List.getElem?_eq_some_iff.mp hv).1; rw [hls.1] at this; exact this
          obtain ⟨r, a, b, c, ta, tb, tc, h1, h2, h3, _⟩ := hls.2 i hi
          have hv' : v = .ref r := by rw [h1] at hv; exact (Option.some.inj hv).symm
          subst hv'
          refine ⟨r, .float a ta, .float b tb, .float c tc, 0, rfl, by repeat (first | exact h2 | refine List.mem_cons_of_mem _ ?_), ?_⟩
          intro ys8 I8 oI8 C8 oC8 D8 m8 h8 tk8 E8 Q16c hC8 hx8 hy8 hq8 F8 N8 off8 ne8 hQ16c e16c
          have hy := hr _ (getD_mem8 (ns := ns) (i := i) (by omega))
          have hB := backOk_of (hueOk_of hy.1 hy.2 z1 z2) h3
          clear h1 h2 hv
          k_steps
          refine hQ16c _ _ ?_
          (rename Fr g L' _ _ => F7); (rename News g L' _ _ => N7); (rename BackOk _ _ _ _ _ => hB7)
          exact LCg.CompEnd.intro F7 N7 _ (fun p hp => List.mem_cons_of_mem _ hp) off8 trivial ⟨rfl, _, congrArg (fun k => Value.int k _) hB7.back⟩
        case fin4 =>
          intro D9 ys9 h8 tk8 F8 N8 o8 hlen hrel
          have hI9 : IntsAre ys9 ((List.range z).map fun j => (ns.getD j 0).fmod (z : Int)) := ints_of_rel (hlen.trans hls.1) hrel
          clear F5 N5
          have hZ : ZOk z := ⟨z1, z2⟩
          k_steps
          unfold Stop
          (rename Fr g L' _ _ => F5); (rename News g L' _ _ => N5)
          refine blk_cut (c1 := L' + 1) (c2 := L' + 1 + 1) (c3 := L' + 1 + 1 + 1) (c4 := L' + 1 + 1 + 1 + 1) (oc := LCg.lst ys) (or := LCg.lst us) (ol := LCg.lst vs) (lc := lc) (lp := lp) (ls := ls) F5 N5 (by k_mem) (by k_mem) (by k_mem) (by k_mem) (by assumption) (by assumption) (by k_mem) (by k_mem) (by k_mem) (by k_mem) (by k_mem) (fun p hp => by repeat (first | exact hp | refine List.mem_cons_of_mem _ ?_)) noCell_list noCell_list noCell_list noCell_list noCell_list hno ?mix ?last
          case mix =>
            clear F5 N5
            intro ST Q6 F6 N6 x3 x4 mc mr ml mcs mps mls hEnd
            dsimp only at F6 N6 hEnd ⊢
            by_cases hz : z < 4
            · have hG := grey_any (ns := ns) (z := z) (by omega) (fun j hj => hr _ (getD_mem8 (by omega)))
              k_steps
              (rename Fr g L' _ _ => F5); (rename News g L' _ _ => N5)
              refine list_J (lo := LCg.lst vs) (vs := vs) (nn := vs.length) (fun c : MixS => (c.l, listOf c.vs.toArray c.nn) :: (L' + 1 + 1 + 1, c.om) :: (L' + 1 + 1 + 1 + 1, c.ol) :: (L' + 1, _) :: (L' + 1 + 1, _) :: ST) (fun _ => []) (MixFacts ns z) [] ⟨_, [.int 0 _, .int 0 _, .int 0 _], _, _, _⟩ (by rfl) F5 N5 (by repeat (first | with_reducible assumption | exact List.mem_cons_self | refine List.mem_cons_of_mem _ ?_)) rfl rfl ⟨by k_mem, by k_mem, by k_mem, by k_mem, by k_mem, SubL.of (fun p hp => by repeat (first | exact hp | refine List.mem_cons_of_mem _ ?_))⟩ ⟨by assumption, ⟨_, by assumption⟩, mixV0⟩ (fun _ h => nomatch h) ?_ ?_
              · intro i ⟨l, ms, nn, om, ol⟩ v u o I h9 tk9 Q₁ hv hIlt hF ho m₂ F9 N9 hQ₁
                have lS : ∀ p ∈ ST, @LT.lt Nat _ p.1 I := fun p hp => hIlt p (by repeat (first | exact hp | refine List.mem_cons_of_mem _ ?_))
                k_lt hIlt
                clear F5 N5
                obtain ⟨hom, ⟨v0, hol⟩, hMV⟩ := hF
                dsimp only at hom hol hMV F9 N9
                have hi : i < z := by have := (List.getElem?_eq_some_iff.mp hv).1; rw [hls.1] at this; exact this
                obtain ⟨r, a, b, c, ta, tb, tc, h1, h2, h3, _⟩ := hls.2 i hi
                have hv' : v = .ref r := by rw [h1] at hv; exact (Option.some.inj hv).symm
                have hrm := mls _ h2
                subst hv'
                have zD3 : NewOff [(_, LCg.lst vs)] (L' + 1 + 1 + 1) := fun p hp => by rw [List.mem_singleton.mp hp]; exact x3 _ ml
                have zD4 : NewOff [(_, LCg.lst vs)] (L' + 1 + 1 + 1 + 1) := fun p hp => by rw [List.mem_singleton.mp hp]; exact x4 _ ml
                have zl3 := ne_cell N9 (a := l) (c := L' + 1 + 1 + 1) (by k_mem) (by k_mem) hom noCell_list
                have zl4 := ne_cell N9 (a := l) (c := L' + 1 + 1 + 1 + 1) (by k_mem) (by k_mem) hol noCell_list
                clear hv h1 h2
                k_steps
                unfold Stop
                refine compRest_ind (MapG _ (mixF ns z (i + 1))) MapG.zero ?_ ?_
                · intro k us7 nw7 hk hINV7 v7 I7 oI7 C7 oC7 D7 m7 h7 tk7 E7 Q7c hv7 hC7 hx7 F7 N7 off7 ne7 hQ7c e7c
                  obtain ⟨rfl, hul7, hus7⟩ := hINV7
                  obtain ⟨t7, rfl⟩ := hv7
                  have hkk : ((0 : Int) + (k : Int)).toNat = k := by omega
                  obtain ⟨t8, hl6⟩ := light_at (ta := ta) (tb := tb) (tc := tc) h3 hk
                  have hl8 : ([.float a ta, .float b tb, .float c tc] : List Value)[((0 : Int) + (k : Int)).toNat]? = some (.float (lit3 (ns.getD i 0) z k) t8) := by rw [hkk]; exact hl6
                  clear hl6
                  by_cases hi0 : i = 0
                  · obtain ⟨t6, hm6⟩ := mixV_at0 hMV hi0 hk
                    have hm8 : ms[((0 : Int) + (k : Int)).toNat]? = some (.int 0 t6) := by rw [hkk]; exact hm6
                    clear hm6
                    k_steps
                    refine hQ7c _ _ ?_
                    (rename Fr g L' _ _ => F6); (rename News g L' _ _ => N6)
                    exact LCg.CompEnd.intro F6 N6 _ (fun p hp => hp) off7 trivial (MapG.succ hul7 hus7 (mix_add0 hi0))
                  · obtain ⟨t6, hm6⟩ := mixV_at hMV hi0 hk
                    have hm8 : ms[((0 : Int) + (k : Int)).toNat]? = some (.float (mixF ns z i k) t6) := by rw [hkk]; exact hm6
                    clear hm6
                    k_steps
                    refine hQ7c _ _ ?_
                    (rename Fr g L' _ _ => F6); (rename News g L' _ _ => N6)
                    exact LCg.CompEnd.intro F6 N6 _ (fun p hp => hp) off7 trivial (MapG.succ hul7 hus7 (mixF_succ ns z i k).symm)
                · intro us7 nw7 hINV7
                  obtain ⟨rfl, hul7, hus7⟩ := hINV7
                  k_steps
                  refine hQ₁ _ _ ?_
                  (try dsimp only)
                  (rename Fr g L' _ _ => F6); (rename News g L' _ _ => N6)
                  exact mix_end F6 N6 (by repeat (first | with_reducible assumption | exact List.mem_cons_self | refine List.mem_cons_of_mem _ ?_)) ho lst_no_it (by omega) (by omega) (by omega) (by omega) lS (List.mem_cons_self ..) (by repeat (first | with_reducible assumption | exact List.mem_cons_self | refine List.mem_cons_of_mem _ ?_)) (by repeat (first | with_reducible assumption | exact List.mem_cons_self | refine List.mem_cons_of_mem _ ?_)) (by repeat (first | with_reducible assumption | exact List.mem_cons_self | refine List.mem_cons_of_mem _ ?_)) (by repeat (first | with_reducible assumption | exact List.mem_cons_self | refine List.mem_cons_of_mem _ ?_)) (fun p hp => by repeat (first | exact hp | refine List.mem_cons_of_mem _ ?_)) ml ⟨⟨_, us7, _, _, _⟩, SubL.of (fun p hp => hp), ⟨by assumption, ⟨_, by assumption⟩, mixV_succ hul7 hus7⟩, (fun _ h => nomatch h), Offs.out [] rfl (by repeat (first | exact Offs.kst rfl | refine Offs.set ?_ (by decide)))⟩
              · intro ⟨l, ms, nn, om, ol⟩ u h9 tk9 hF m₂ F9 N9
                clear F5 N5
                obtain ⟨hom, ⟨v0, hol⟩, hMV⟩ := hF
                dsimp only at hom hol hMV F9 N9
                rw [hls.1] at hMV
                have hK : ∀ k, k < 3 → ∃ t, ms[k]? = some (.float (mixF ns z z k) t) := fun k hk => mixV_at hMV (by omega) hk
                have hm3 : ms.length ≤ 3 := Nat.le_of_eq hMV.1
                k_steps
                unfold Stop
                refine compRest_ind (MapI _ (fun i => eightF (mixF ns z z i))) MapI.zero ?_ ?_
                · intro i7 us7 nw7 hi7 hINV7 v I7 oI7 C7 oC7 D7 m7 h7 tk7 E7 Q8c hv hC7 hx7 F7 N7 off7 ne7 hQ8c e8c
                  obtain ⟨rfl, hus7⟩ := hINV7
                  have hi3 : i7 < 3 := by simpa [hMV.1] using hi7
                  obtain ⟨t7, hv7⟩ := hK i7 hi3
                  obtain rfl := arr_at hv hv7
                  have hE7 := hG.eight i7 hi3
                  k_steps
                  refine hQ8c _ _ ?_
                  (rename Fr g L' _ _ => F6); (rename News g L' _ _ => N6)
                  exact LCg.CompEnd.intro F6 N6 _ (fun p hp => hp) off7 (.inr ⟨_, by k_mem, rfl, _, rfl⟩) (MapI.succ hus7 rfl)
                · intro us7 nw7 hINV7
                  obtain ⟨rfl, hus7⟩ := hINV7
                  rw [List.size_toArray, hMV.1] at hus7
                  replace hus7 : IntsAre us7 [eightF (mixF ns z z 0), eightF (mixF ns z z 1), eightF (mixF ns z z 2)] := hus7
                  have hEOk := hG.e
                  k_steps
                  · exfalso
                    (rename List.Perm _ _ => hP); (rename List.Pairwise _ _ => hS); (rename (_ != _) = true => hb)
                    exact bne_no (hG.law _ hP hS) hb
                  · (try dsimp only)
                    (rename Fr g L' _ _ => F6); (rename News g L' _ _ => N6)
                    exact hEnd _ _ _ F6 (last_led N6 (by repeat (first | with_reducible assumption | exact List.mem_cons_self | refine List.mem_cons_of_mem _ ?_)) (by repeat (first | with_reducible assumption | exact List.mem_cons_self | refine List.mem_cons_of_mem _ ?_)) (by repeat (first | with_reducible assumption | exact List.mem_cons_self | refine List.mem_cons_of_mem _ ?_)) (by repeat (first | with_reducible assumption | exact List.mem_cons_self | refine List.mem_cons_of_mem _ ?_)) (by repeat (first | with_reducible assumption | exact List.mem_cons_self | refine List.mem_cons_of_mem _ ?_)))
            · k_steps
              (try dsimp only)
              exact hEnd _ _ _ F6 (last_led N6 (by repeat (first | with_reducible assumption | exact List.mem_cons_self | refine List.mem_cons_of_mem _ ?_)) (by repeat (first | with_reducible assumption | exact List.mem_cons_self | refine List.mem_cons_of_mem _ ?_)) (by repeat (first | with_reducible assumption | exact List.mem_cons_self | refine List.mem_cons_of_mem _ ?_)) (by repeat (first | with_reducible assumption | exact List.mem_cons_self | refine List.mem_cons_of_mem _ ?_)) (by repeat (first | with_reducible assumption | exact List.mem_cons_self | refine List.mem_cons_of_mem _ ?_)))
          case last =>
            intro h9 tk9 m9 F9 N9
            (try dsimp only)
            k_steps
            unfold Stop
            refine compRest_ind (MapI _ (fun i => colF ns z (i + 1) - colF ns z i)) MapI.zero ?_ ?_
            · intro j us7 nw7 hj hINV7 v I7 oI7 C7 oC7 D7 m7 h7 tk7 E7 Q17c hv hC7 hx7 F7 N7 off7 ne7 hQ17c e17c
              obtain ⟨rfl, hus7⟩ := hINV7
              obtain ⟨t7, rfl⟩ := hv
              have hJ : JOk j z := ⟨hj, z2⟩
              k_steps
              refine hQ17c _ _ ?_
              (rename Fr g L' _ _ => F6); (rename News g L' _ _ => N6)
              exact LCg.CompEnd.intro F6 N6 _ (fun p hp => hp) off7 trivial (MapI.succ hus7 (col_at hj))
            · intro us7 nw7 hINV7
              obtain ⟨rfl, hus7⟩ := hINV7
              k_steps
              (try dsimp only)
              (rename Fr g L' _ _ => F6); (rename News g L' _ _ => N6)
              refine fin_bool hret (block_eq _ _) (keeps_of hg N F6 N6 (fun p hp => by simp only [List.mem_cons, List.not_mem_nil, or_false] at hp; rcases hp with rfl | rfl <;> k_mem))
end Mine
end
section
open PySem PySem.W PyProof.Rows PySem.Challenge PySem.Calls PySem.Spec PyProof.V
namespace Mine
theorem ints_some : ∀ {us : List Value}, (∀ v ∈ us, ∃ n t, v = Value.int n t) → ∃ ms, IntsAre us ms
  | [], _ => ⟨[], .nil⟩
  | v :: us, h => by
    obtain ⟨ms, hm⟩ := ints_some fun x hx => h x (.tail _ hx)
    obtain ⟨n, t, rfl⟩ := h v (.head _)
    exact ⟨n :: ms, .cons n t hm⟩
theorem pick_ints {vs : List Value} {ns : List Int} (hI : IntsAre vs ns) (lo hi st : Option Int) : ∃ ms, IntsAre (slicePick vs.toArray lo hi st).toList ms := by
  refine ints_some fun v hv => ?_
  unfold slicePick at hv
  rw [List.toList_toArray] at hv
  obtain ⟨i, _, hi⟩ := List.mem_filterMap.mp hv
  obtain ⟨y, t, e, _⟩ := intAt hI (by simpa using hi)
  exact ⟨y, t, e⟩
section
variable {prog : Program} {w : World} {A : Around} {E : Value → Shared → Prop} {s : Shared} {h₀ : Heap} {L l : Addr} {m : Str → Option Value} {news : List (Addr × Obj)} {value slice : PySem.Expr} {vs : List Value} {ns : List Int} {vl vu vk : Value} {lo hi st : Option Int} {ops : List Value} {Q : Value → Shared → Prop}
theorem slice_step (F : Fr h₀ L s.heap m) (N : News h₀ L s.heap news) (hl : s.heap.IsList l vs.toArray) (hI : IntsAre vs ns) (pl : IsPart vl lo) (pu : IsPart vu hi) (pk : IsPart vk st) (h0 : st ≠ some 0) (hz : vs.length ≤ 1000)
    (h : ∀ D us ms h', Fr h₀ L h' m → News h₀ L h' ((D, listOf (List.toArray us) 0) :: news) → (∀ p ∈ news, p.1 < D) → IntsAre us ms → Q (.ref D) { s with heap := h' })
    (hs : subscripted slice false (.ref l) (.ref s.heap.objs.size) = operate ops (getItem (.ref l) (.ref s.heap.objs.size))) (ht : ∀ r, letTemporaryGo value (.ref l) r = pure ()) :
    wpAny (model prog w) A (subscriptTail value slice (.ref l) (.ref s.heap.objs.size)) Q E { s with heap := s.heap.push { cls := .type "slice", data := .fields #[vl, vu, vk] } } := by
  obtain ⟨ms, hm⟩ := pick_ints hI lo hi st
  exact kmk_slice3_lit F N hl pl pu pk h0 rfl (fun D h' F' N' l1 => h D _ ms h' F' N' l1 hm) hs ht (by rw [List.size_toArray, sizeLine_eq]; omega)
end
end Mine
end
section
open PySem PySem.W PyProof.Rows PySem.Challenge PySem.Calls PySem.Spec PyProof.V
namespace Mine
noncomputable def rowOk (r : List Int) : Bool := decide (r.length = 6) && r.all (fun y => decide (1 ≤ y ∧ y ≤ 6))
/-- the rows before two cards are changed -/
noncomputable def g32 : List (List Int) := [[1, 2, 3, 4, 5, 6], [2, 1, 3, 4, 5, 6], [2, 3, 1, 4, 5, 6], [2, 3, 4, 1, 5, 6], [2, 3, 4, 5, 1, 6], [2, 3, 4, 5, 6, 1], [3, 2, 1, 4, 5, 6], [3, 4, 2, 1, 5, 6], [3, 2, 4, 1, 5, 6], [3, 4, 5, 2, 1, 6], [3, 4, 2, 5, 1, 6], [3, 2, 4, 5, 1, 6], [3, 4, 5, 6, 2, 1], [3, 4, 5, 2, 6, 1], [3, 4, 2, 5, 6, 1], [3, 2, 4, 5, 6, 1], [4, 3, 2, 1, 5, 6], [4, 5, 3, 2, 1, 6], [4, 3, 5, 2, 1, 6], [4, 5, 6, 3, 2, 1], [4, 3, 2, 5, 1, 6], [4, 5, 3, 6, 2, 1], [4, 3, 5, 6, 2, 1], [4, 5, 3, 2, 6, 1], [4, 3, 5, 2, 6, 1], [4, 3, 2, 5, 6, 1], [5, 4, 3, 2, 1, 6], [5, 6, 4, 3, 2, 1], [5, 4, 6, 3, 2, 1], [5, 4, 3, 6, 2, 1], [5, 4, 3, 2, 6, 1], [6, 5, 4, 3, 2, 1]]
noncomputable def blocksF (row : List Int) : List Bool := [blockF (row.take 2) 2, blockF ((row.drop 2).take 2) 2, blockF ((row.drop 4).take 2) 2, blockF (row.take 3) 3, blockF ((row.drop 3).take 3) 3, blockF (row.take 4) 4, blockF (row.take 5) 5]
noncomputable def frontsF (row : List Int) : List Bool := [blockF (row.take 2) 2, blockF (row.take 3) 3, blockF (row.take 4) 4, blockF (row.take 5) 5]
noncomputable def lawB (row : List Int) : Bool := rowOk row && (endsF row == some (riffF row)) && ((blocksF row).all id == riffF row) && ((frontsF row).all id == riffF row)
theorem row_tbl : ∀ c : Fin 7, ∀ f : Fin 64, g32.contains (rowSt (c.1 : Int) (f.1 : Int) 6).2.2 = true := by decide +kernel
/-- the places that change cards, the lower first -/
noncomputable def p16 : List (Nat × Nat) := [(0, 0), (0, 1), (0, 2), (0, 3), (0, 4), (0, 5), (1, 2), (1, 3), (1, 4), (1, 5), (2, 3), (2, 4), (2, 5), (3, 4), (3, 5), (4, 5)]
noncomputable def nrm (t : Nat) : Nat × Nat := if t / 6 = t % 6 then (0, 0) else (min (t / 6) (t % 6), max (t / 6) (t % 6))
theorem nrm_mem : ∀ t : Fin 36, nrm t.1 ∈ p16 := by decide +kernel
theorem swap_nrm (a b c d e f : Int) {t : Nat} (ht : t < 36) : swapF [a, b, c, d, e, f] (t / 6) (t % 6) = swapF [a, b, c, d, e, f] (nrm t).1 (nrm t).2 := by
  have key : ∀ t ∈ [0, 1, 2, 3, 4, 5, 6, 7, 8, 9, 10, 11, 12, 13, 14, 15, 16, 17, 18, 19, 20, 21, 22, 23, 24, 25, 26, 27, 28, 29, 30, 31, 32, 33, 34, 35], swapF [a, b, c, d, e, f] (t / 6) (t % 6) = swapF [a, b, c, d, e, f] (nrm t).1 (nrm t).2 :=
    List.forall_mem_cons.mpr ⟨rfl, List.forall_mem_cons.mpr ⟨rfl, List.forall_mem_cons.mpr ⟨rfl, List.forall_mem_cons.mpr ⟨rfl, List.forall_mem_cons.mpr ⟨rfl, List.forall_mem_cons.mpr ⟨rfl, List.forall_mem_cons.mpr ⟨rfl, List.forall_mem_cons.mpr ⟨rfl, List.forall_mem_cons.mpr ⟨rfl, List.forall_mem_cons.mpr ⟨rfl, List.forall_mem_cons.mpr ⟨rfl, List.forall_mem_cons.mpr ⟨rfl, List.forall_mem_cons.mpr ⟨rfl, List.forall_mem_cons.mpr ⟨rfl, List.forall_mem_cons.mpr ⟨rfl, List.forall_mem_cons.mpr ⟨rfl, List.forall_mem_cons.mpr ⟨rfl, List.forall_mem_cons.mpr ⟨rfl, List.forall_mem_cons.mpr ⟨rfl, List.forall_mem_cons.mpr ⟨rfl, List.forall_mem_cons.mpr ⟨rfl, List.forall_mem_cons.mpr ⟨rfl, List.forall_mem_cons.mpr ⟨rfl, List.forall_mem_cons.mpr ⟨rfl, List.forall_mem_cons.mpr ⟨rfl, List.forall_mem_cons.mpr ⟨rfl, List.forall_mem_cons.mpr ⟨rfl, List.forall_mem_cons.mpr ⟨rfl, List.forall_mem_cons.mpr ⟨rfl, List.forall_mem_cons.mpr ⟨rfl, List.forall_mem_cons.mpr ⟨rfl, List.forall_mem_cons.mpr ⟨rfl, List.forall_mem_cons.mpr ⟨rfl, List.forall_mem_cons.mpr ⟨rfl, List.forall_mem_cons.mpr ⟨rfl, List.forall_mem_cons.mpr ⟨rfl, List.forall_mem_nil _⟩⟩⟩⟩⟩⟩⟩⟩⟩⟩⟩⟩⟩⟩⟩⟩⟩⟩⟩⟩⟩⟩⟩⟩⟩⟩⟩⟩⟩⟩⟩⟩⟩⟩⟩⟩
  exact key t (List.mem_range.mpr ht)
theorem six_of : ∀ r ∈ g32, r.length = 6 := by decide
/-- the same, each part reckoned once (for the tables) -/
noncomputable def lawC (row : List Int) : Bool := rowOk row && (bif riffF row then (endsF row == some true) && (blocksF row).all id else (endsF row == some false) && !((frontsF row).all id))
theorem lawB_of {row : List Int} (h : lawC row = true) : lawB row = true := by
  unfold lawC at h
  unfold lawB
  have hf : (blocksF row).all id = true → (frontsF row).all id = true := by
    unfold blocksF frontsF
    simp only [List.all_cons, List.all_nil, Bool.and_true, Bool.and_eq_true, id]
    exact fun q => ⟨q.1, q.2.2.2.1, q.2.2.2.2.2.1, q.2.2.2.2.2.2⟩
  cases hr : riffF row with
  | true =>
    rw [hr] at h
    simp only [cond_true, Bool.and_eq_true] at h
    rw [h.1, h.2.1, h.2.2, hf h.2.2]
    rfl
  | false =>
    rw [hr] at h
    simp only [cond_false, Bool.and_eq_true, Bool.not_eq_true'] at h
    have hb : (blocksF row).all id = false := by
      cases q : (blocksF row).all id with
      | true => rw [hf q] at h; cases h.2.2
      | false => rfl
    rw [h.1, h.2.1, h.2.2, hb]
    rfl
theorem tbl_a : ∀ r ∈ (g32.drop 0).take 4, ∀ p ∈ p16, lawC (swapF r p.1 p.2) = true := by decide +kernel
theorem tbl_b : ∀ r ∈ (g32.drop 4).take 4, ∀ p ∈ p16, lawC (swapF r p.1 p.2) = true := by decide +kernel
theorem tbl_c : ∀ r ∈ (g32.drop 8).take 4, ∀ p ∈ p16, lawC (swapF r p.1 p.2) = true := by decide +kernel
theorem tbl_d : ∀ r ∈ (g32.drop 12).take 4, ∀ p ∈ p16, lawC (swapF r p.1 p.2) = true := by decide +kernel
theorem tbl_e : ∀ r ∈ (g32.drop 16).take 4, ∀ p ∈ p16, lawC (swapF r p.1 p.2) = true := by decide +kernel
theorem tbl_f : ∀ r ∈ (g32.drop 20).take 4, ∀ p ∈ p16, lawC (swapF r p.1 p.2) = true := by decide +kernel
theorem tbl_g : ∀ r ∈ (g32.drop 24).take 4, ∀ p ∈ p16, lawC (swapF r p.1 p.2) = true := by decide +kernel
theorem tbl_h : ∀ r ∈ (g32.drop 28).take 4, ∀ p ∈ p16, lawC (swapF r p.1 p.2) = true := by decide +kernel
theorem g32_parts : g32 = (g32.drop 0).take 4 ++ ((g32.drop 4).take 4 ++ ((g32.drop 8).take 4 ++ ((g32.drop 12).take 4 ++ ((g32.drop 16).take 4 ++ ((g32.drop 20).take 4 ++ ((g32.drop 24).take 4 ++ ((g32.drop 28).take 4))))))) := by decide
theorem law_tbl0 : ∀ r ∈ g32, ∀ p ∈ p16, lawB (swapF r p.1 p.2) = true := by
  intro r hr p hp
  rw [g32_parts] at hr
  simp only [List.mem_append] at hr
  rcases hr with h | h | h | h | h | h | h | h
  · exact lawB_of (tbl_a r h p hp)
  · exact lawB_of (tbl_b r h p hp)
  · exact lawB_of (tbl_c r h p hp)
  · exact lawB_of (tbl_d r h p hp)
  · exact lawB_of (tbl_e r h p hp)
  · exact lawB_of (tbl_f r h p hp)
  · exact lawB_of (tbl_g r h p hp)
  · exact lawB_of (tbl_h r h p hp)
theorem law_tbl {r : List Int} (hr : r ∈ g32) (t : Fin 36) : lawB (swapF r (t.1 / 6) (t.1 % 6)) = true := by
  have h := law_tbl0 r hr _ (nrm_mem t)
  have hl := six_of r hr
  match r, hl with
  | [a, b, c, d, e, f], _ =>
    rw [swap_nrm a b c d e f t.2]
    exact h
theorem lawB_ok {cut falls trade : Int} (c0 : 0 ≤ cut) (c1 : cut < 7) (f0 : 0 ≤ falls) (f1 : falls < 64) (t0 : 0 ≤ trade) (t1 : trade < 36) : lawB (rowF cut falls trade) = true := by
  have h := row_tbl ⟨cut.toNat, by omega⟩ ⟨falls.toNat, by omega⟩
  dsimp only at h
  rw [show ((cut.toNat : Nat) : Int) = cut by omega, show ((falls.toNat : Nat) : Int) = falls by omega] at h
  have h2 := law_tbl (List.contains_iff_mem.mp h) ⟨trade.toNat, by omega⟩
  dsimp only at h2
  unfold rowF
  rw [show (trade.fdiv 6).toNat = trade.toNat / 6 by rw [Int.fdiv_eq_ediv_of_nonneg _ (by decide)]; omega, show (trade.fmod 6).toNat = trade.toNat % 6 by rw [Int.fmod_eq_emod_of_nonneg _ (by decide)]; omega]
  exact h2
end Mine
end
section
open PySem PySem.W PyProof.Rows PySem.Challenge PySem.Calls PySem.Spec PyProof.V
namespace Mine
open PySem.StrLaws Builtin.Str
/-- dots as blanks -/
noncomputable def blk (c : Nat) : Nat := if c = 46 then 32 else c
theorem blk_free : ∀ l : List Nat, 46 ∉ l → l.map blk = l
  | [], _ => rfl
  | c :: l, h => by
    rw [List.map_cons, blk_free l fun m => h (.tail _ m)]
    have hc : c ≠ 46 := fun e => h (e ▸ List.mem_cons_self ..)
    unfold blk
    rw [if_neg hc]
theorem blk_join : ∀ parts : List Str, (∀ p ∈ parts, 46 ∉ p.cps.toList) → (Str.join ⟨#[46]⟩ parts).cps.toList.map blk = (Str.join ⟨#[32]⟩ parts).cps.toList
  | [], _ => rfl
  | [p], h => blk_free _ (h p (List.mem_singleton.mpr rfl))
  | p :: q :: r, h => by
    have ih := blk_join (q :: r) fun a ha => h a (List.mem_cons_of_mem _ ha)
    show (p ++ ⟨#[46]⟩ ++ Str.join ⟨#[46]⟩ (q :: r)).cps.toList.map blk = (p ++ ⟨#[32]⟩ ++ Str.join ⟨#[32]⟩ (q :: r)).cps.toList
    simp only [Str.cps_append, Array.toList_append, List.map_append]
    rw [ih, blk_free _ (h p (.head _))]
    rfl
theorem repl_blk (x : Str) : Txt.replace x ⟨#[46]⟩ ⟨#[32]⟩ = mkS (x.cps.toList.map blk) := by
  refine str_of_list ?_
  rw [replace_one, ← blk_join _ (split_free x 46), join_split]
noncomputable def lineB (ns : List Int) (k j : Nat) : List Nat := List.replicate ((ns.getD j 0).toNat + k) 32 ++ [9, 96 + (ns.getD j 0).toNat]
noncomputable def linesB (ns : List Int) (k : Nat) : List (List Nat) := (List.range 6).map (lineB ns k)
theorem typed_blk : ∀ ls : List (Nat × Nat × List Nat), (∀ q ∈ ls, q.2.1 ≠ 46 ∧ q.2.2 = [13, 10]) → (typedL ls).map blk = bodyL (ls.map fun q => List.replicate q.1 32 ++ [9, q.2.1]) [120]
  | [], _ => rfl
  | (n, c, e) :: r, h => by
    have ih := typed_blk r fun q hq => h q (.tail _ hq)
    obtain ⟨hc, he⟩ := h _ (.head _)
    have he' : e = [13, 10] := he
    have hc' : c ≠ 46 := hc
    subst he'
    show (lineL n c [13, 10] ++ typedL r).map blk = (List.replicate n 32 ++ [9, c]) ++ 13 :: 10 :: bodyL _ [120]
    rw [List.map_append, ih]
    unfold lineL
    rw [List.map_append, List.map_replicate]
    have hb : blk c = c := by unfold blk; rw [if_neg hc']
    simp [hb, show blk 46 = 32 from rfl, show blk 9 = 9 from rfl, show blk 13 = 13 from rfl, show blk 10 = 10 from rfl]
theorem repl_mail {ns : List Int} {k : Nat} : Txt.replace (mailS ns k) ⟨#[46]⟩ ⟨#[32]⟩ = mkS (bodyL (linesB ns k) [120]) := by
  rw [repl_blk]
  show mkS ((typedL _).map blk) = _
  rw [typed_blk]
  · unfold linesB
    rw [List.map_map]
    rfl
  · intro q hq
    obtain ⟨j, _, rfl⟩ := List.mem_map.mp hq
    refine ⟨?_, rfl⟩
    show 96 + _ ≠ 46
    omega
theorem body_len (L : List (List Nat)) (last : List Nat) : last.length + 2 * L.length ≤ (bodyL L last).length := by
  induction L with
  | nil => exact Nat.le_refl _
  | cons l L ih =>
    show _ ≤ (l ++ 13 :: 10 :: bodyL L last).length
    simp only [List.length_append, List.length_cons]
    omega
theorem split_mail {ns : List Int} {k : Nat} : Txt.split (mkS (bodyL (linesB ns k) [120])) (mkS [13, 10]) = (linesB ns k).map mkS ++ [mkS [120]] := by
  refine split_lines (fun l hl => ?_) (by decide) ?_
  · obtain ⟨j, _, rfl⟩ := List.mem_map.mp hl
    unfold lineB
    intro hm
    rcases List.mem_append.mp hm with hm | hm
    · exact absurd (List.mem_replicate.mp hm).2 (by decide)
    · simp at hm
      omega
  · show 2 ≤ (List.toArray _).size
    rw [List.size_toArray]
    have := body_len (linesB ns k) [120]
    have e : (linesB ns k).length = 6 := by simp [linesB]
    omega
theorem lit_blank : Str.ofString " " = ⟨#[32]⟩ := by decide +kernel
theorem lit_dot1 : Str.ofString "." = ⟨#[46]⟩ := by decide +kernel
theorem cat_flat : ∀ ls : List (Nat × Nat × List Nat), flatL (ls.map fun q => mkS (lineL q.1 q.2.1 q.2.2)) = catL ls
  | [] => rfl
  | (n, c, e) :: r => by
    have ih := cat_flat r
    rw [List.map_cons, flat_cons, ih]
    rfl
/-- one line as the comprehension builds it -/
noncomputable def lineS (ns : List Int) (k j : Nat) : Str := ⟨(List.replicate ((ns.getD j 0).toNat + k) 46 ++ [9] ++ [96 + (ns.getD j 0).toNat] ++ [13, 10]).toArray⟩
theorem join_mail {ns : List Int} {k : Nat} : (⟨((Txt.join ⟨#[]⟩ ((List.range 6).map (lineS ns k))).cps.toList ++ [120]).toArray⟩ : Str) = mailS ns k := by
  rw [join_flat]
  unfold mailS mailT
  rw [typed_cat, ← cat_flat, List.map_map]
  congr 4
  refine List.map_congr_left fun j _ => ?_
  unfold lineS mkS lineL
  simp
end Mine
end
section
open PySem PySem.W PyProof.Rows PySem.Challenge PySem.Calls PySem.Spec PyProof.V
namespace Mine
/-- all that the law asks of a row -/
structure RowOk (ns : List Int) : Prop where
  len : ns.length = 6
  r : ∀ y ∈ ns, 1 ≤ y ∧ y ≤ 6
  ends : endsF ns = some (riffF ns)
  bl : (blocksF ns).all id = riffF ns
  fr : (frontsF ns).all id = riffF ns
theorem rowOk_of {ns : List Int} (h : lawB ns = true) : RowOk ns := by
  unfold lawB rowOk at h
  simp only [Bool.and_eq_true, decide_eq_true_eq, List.all_eq_true, beq_iff_eq] at h
  exact ⟨h.1.1.1.1, h.1.1.1.2, h.1.1.2, h.1.2, h.2⟩
theorem row_law {cut falls trade : Int} {vs : List Value} (c0 : 0 ≤ cut) (c1 : cut < 7) (f0 : 0 ≤ falls) (f1 : falls < 64) (t0 : 0 ≤ trade) (t1 : trade < 36) (h : IntsAre vs (rowF cut falls trade)) : ∃ ns, IntsAre vs ns ∧ RowOk ns := ⟨_, h, rowOk_of (lawB_ok c0 c1 f0 f1 t0 t1)⟩
/-- the tail's objects lie at none of these addresses; none is a range's iterator -/
structure Apart (as : List Addr) (ls : List (Addr × Obj)) : Prop where
  h : ∀ p ∈ ls, ∀ a ∈ as, p.1 ≠ a
  c : ∀ p ∈ ls, p.2.cls ≠ .type "range_iterator"
theorem Apart.nil {as : List Addr} : Apart as [] := ⟨fun _ h => (nomatch h), fun _ h => (nomatch h)⟩
theorem Apart.all {as : List Addr} {ls : List (Addr × Obj)} {a : Addr} (h : Apart as ls) (ha : a ∈ as) : ∀ p ∈ ls, p.1 ≠ a := fun p hp => h.h p hp a ha
theorem Apart.app {as : List Addr} {ls ls' : List (Addr × Obj)} (h : Apart as ls) (h' : Apart as ls') : Apart as (ls ++ ls') := ⟨fun p hp => (List.mem_append.mp hp).elim (h.h p) (h'.h p), fun p hp => (List.mem_append.mp hp).elim (h.c p) (h'.c p)⟩
theorem Apart.cons {as : List Addr} {ls : List (Addr × Obj)} {a : Addr} {o : Obj} (h : Apart as ls) (ha : ∀ b ∈ as, a ≠ b) (hc : o.cls ≠ .type "range_iterator") : Apart as ((a, o) :: ls) := ⟨fun p hp b hb => by
  rcases List.mem_cons.mp hp with rfl | hp
  · exact ha b hb
  · exact h.h p hp b hb, fun p hp => by
  rcases List.mem_cons.mp hp with rfl | hp
  · exact hc
  · exact h.c p hp⟩
theorem Apart.sub {as as' : List Addr} {ls : List (Addr × Obj)} (h : Apart as ls) (hs : ∀ a ∈ as', a ∈ as) : Apart as' ls := ⟨fun p hp a ha => h.h p hp a (hs a ha), h.c⟩
theorem list_no_it {vs : Array Value} {n : Nat} : (listOf vs n).cls ≠ .type "range_iterator" := fun e => by
  have e' : Value.type "list" = Value.type "range_iterator" := e
  injection e' with e'
  exact absurd e' (by decide)
/-- a page: a list of six Whitespaces -/
noncomputable def PageT (w : World) (tl : List (Addr × Obj)) (ns : List Int) (v : Value) (k : Nat) : Prop := ∃ (pk : Addr) (wk : List Value) (nk : Nat), v = .ref pk ∧ (pk, listOf wk.toArray nk) ∈ tl ∧ wk.length = 6 ∧ ∀ j, j < 6 → ∃ x, wk[j]? = some (.ref x) ∧ WsT w tl x ((ns.getD j 0).toNat + k)
theorem PageT.mono {w : World} {tl tl' : List (Addr × Obj)} {ns : List Int} {v : Value} {k : Nat} (h : PageT w tl ns v k) (s : ∀ p ∈ tl, p ∈ tl') : PageT w tl' ns v k := by
  obtain ⟨pk, wk, nk, h1, h2, h3, h4⟩ := h
  refine ⟨pk, wk, nk, h1, s _ h2, h3, fun j hj => ?_⟩
  obtain ⟨x, e, W⟩ := h4 j hj
  exact ⟨x, e, W.mono s⟩
structure Pg (w : World) (ns : List Int) (as : List Addr) (vs : List Value) (ls : List (Addr × Obj)) (i : Nat) : Prop where
  len : vs.length = i
  pg : ∀ k, k < i → ∃ v, vs[k]? = some v ∧ PageT w ls ns v k
  ap : Apart as ls
theorem Pg.zero {w : World} {ns : List Int} {as : List Addr} : Pg w ns as [] [] 0 := ⟨rfl, fun k h => absurd h (Nat.not_lt_zero k), .nil⟩
theorem Pg.succ {w : World} {ns : List Int} {as : List Addr} {vs : List Value} {ls ls' : List (Addr × Obj)} {i : Nat} {v : Value} (h : Pg w ns as vs ls i) (hs : ∀ p ∈ ls, p ∈ ls') (hv : PageT w ls' ns v i) (ap : Apart as ls') : Pg w ns as (vs ++ [v]) ls' (i + 1) := by
  refine ⟨by rw [List.length_append, h.len]; rfl, fun k hk => ?_, ap⟩
  rcases Nat.lt_succ_iff_lt_or_eq.mp hk with hk | rfl
  · obtain ⟨v', e, hp⟩ := h.pg k hk
    exact ⟨v', by rw [List.getElem?_append_left (by rw [h.len]; exact hk)]; exact e, hp.mono hs⟩
  · exact ⟨v, by rw [List.getElem?_append_right (by rw [h.len]; exact Nat.le_refl _), h.len, Nat.sub_self]; rfl, hv⟩
theorem off3_of {I C D : Addr} : ∀ {l : List (Addr × Obj)}, (∀ p ∈ l, p.1 ≠ I ∧ p.1 ≠ C ∧ p.1 ≠ D) → LCg.Off3 I C D l
  | [], _ => trivial
  | p :: l, h => ⟨h p (.head _), off3_of fun q hq => h q (.tail _ hq)⟩
/-- the lines read so far, each a Whitespace -/
noncomputable def WsI (w : World) (ns : List Int) (k : Nat) (as : List Addr) (N : List (Addr × Obj)) (j : Nat) (ys : List Value) (nw : List (Addr × Obj)) : Prop := ∃ new, nw = N ++ new ∧ Apart as new ∧ ys.length = j ∧ ∀ t, t < j → ∃ x, ys[t]? = some (.ref x) ∧ WsT w new x ((ns.getD t 0).toNat + k)
theorem WsI.zero {w : World} {ns : List Int} {k : Nat} {as : List Addr} {N : List (Addr × Obj)} : WsI w ns k as N 0 [] N := ⟨[], (List.append_nil N).symm, .nil, rfl, fun j h => absurd h (Nat.not_lt_zero j)⟩
theorem WsI.start {w : World} {ns : List Int} {k : Nat} {as : List Addr} {vs : List Value} {ls N : List (Addr × Obj)} (_ : Pg w ns as vs ls k) : WsI w ns k as N 0 [] N := WsI.zero
theorem new_at {g h h' : Heap} {L r : Addr} {o : Obj} {m : Str → Option Value} (F : Fr g L h m) (hn : h.get? r = none) (hr : h'.get? r = some o) : h'.get? r = some o ∧ r ≠ L ∧ g.get? r = none := by
  refine ⟨hr, fun e => ?_, ?_⟩
  · obtain ⟨oL, _, _, hL, _⟩ := F.ns
    rw [e, hL] at hn; cases hn
  · cases q : g.get? r with
    | none => rfl
    | some o' => have := F.keep _ _ q; rw [hn] at this; cases this
theorem ws_end {w : World} {g h h' : Heap} {L I C D : Addr} {m : Str → Option Value} {oI oC : Obj} {s : Shared} {vs : List Value} {S : List (Addr × Obj) → Prop} {N new : List (Addr × Obj)} {ns : List Int} {k j tk : Nat} {v : Value} {as : List Addr}
    (F : Fr g L h m) (Nw : News g L h ((I, oI) :: (C, oC) :: (D, LCg.lst vs) :: (N ++ new))) (off : LCg.Off3 I C D (N ++ new)) (hA : ∀ a ∈ as, ∃ o, (a, o) ∈ N)
    (ap : Apart as new) (hl : vs.length = j) (hws : ∀ t, t < j → ∃ x, vs[t]? = some (.ref x) ∧ WsT w new x ((ns.getD t 0).toNat + k))
    (hS : ∀ nw, (∀ p ∈ N, p ∈ nw) → S nw) (kk : ∀ b o, h.get? b = some o → h'.get? b = some o) (hW : WsAt w h h' v ((ns.getD j 0).toNat + k)) :
    LCg.CompEnd g L m s I oI C oC D (LCg.lst vs) S (fun y nw' => WsI w ns k as N (j + 1) (vs ++ [y]) nw') v { s with heap := h', toks := tk } := by
  obtain ⟨x, dx, dn, dc, v1, v2, v5, k1, k2, k3, k4, k5, t3, tb, us, rfl, q1, q2, q3, q4, hI, z1, z2, z3, z4⟩ := hW
  have key : ∃ fr : List (Addr × Obj), fr = [(x, instObj 156 dx), (dx, wsDict w v1 v2 (.int 1 t3) (.ref dn) v5 k1 k2 k3 k4 k5), (dn, tupOf [.ref dc, .int 0 tb]), (dc, tupOf us)] ∧ ∀ p ∈ fr, h.get? p.1 = none ∧ h'.get? p.1 = some p.2 := by
    refine ⟨_, rfl, ?_⟩
    intro p hp
    simp only [List.mem_cons, List.not_mem_nil, or_false] at hp
    rcases hp with rfl | rfl | rfl | rfl
    · exact ⟨z1, q1⟩
    · exact ⟨z2, q2⟩
    · exact ⟨z3, q3⟩
    · exact ⟨z4, q4⟩
  obtain ⟨fr, hfr, hfn⟩ := key
  have old : ∀ p ∈ (I, oI) :: (C, oC) :: (D, LCg.lst vs) :: (N ++ new), ∀ q ∈ fr, q.1 ≠ p.1 := fun p hp q hq e => by
    have a := (Nw p hp).1
    rw [← e, (hfn q hq).1] at a; cases a
  have F' : Fr g L h' m := F.keeps kk
  have N' : News g L h' ((I, oI) :: (C, oC) :: (D, LCg.lst vs) :: (N ++ (fr ++ new))) := by
    intro p hp
    have hp' : p ∈ (I, oI) :: (C, oC) :: (D, LCg.lst vs) :: (N ++ new) ∨ p ∈ fr := by
      simp only [List.mem_cons, List.mem_append] at hp ⊢
      rcases hp with hp | hp | hp | hp | hp | hp <;> simp [hp]
    rcases hp' with hp | hp
    · exact ⟨kk _ _ (Nw p hp).1, (Nw p hp).2⟩
    · exact new_at F (hfn p hp).1 (hfn p hp).2
  refine LCg.CompEnd.intro F' N' (N ++ (fr ++ new)) (fun p hp => hp) (off3_of fun p hp => ?_) (hS _ fun p hp => List.mem_append_left _ hp) ⟨fr ++ new, rfl, Apart.app ⟨fun p hp a ha => ?_, fun p hp e => ?_⟩ ap, by rw [List.length_append, hl]; rfl, fun t ht => ?_⟩
  · have hp' : p ∈ N ++ new ∨ p ∈ fr := by
      simp only [List.mem_append] at hp ⊢
      rcases hp with hp | hp | hp <;> simp [hp]
    rcases hp' with hp | hp
    · exact off.mem p hp
    · exact ⟨old (I, oI) (by simp) p hp, old (C, oC) (by simp) p hp, old (D, LCg.lst vs) (by simp) p hp⟩
  · obtain ⟨o, ho⟩ := hA a ha
    exact old (a, o) (by simp [ho]) p hp
  · rw [hfr] at hp
    simp only [List.mem_cons, List.not_mem_nil, or_false] at hp
    rcases hp with rfl | rfl | rfl | rfl
    · have e' : Value.ref 156 = Value.type "range_iterator" := e
      cases e'
    · have e' : Value.type "dict" = Value.type "range_iterator" := e
      injection e' with e'
      exact absurd e' (by decide)
    · have e' : Value.type "tuple" = Value.type "range_iterator" := e
      injection e' with e'
      exact absurd e' (by decide)
    · have e' : Value.type "tuple" = Value.type "range_iterator" := e
      injection e' with e'
      exact absurd e' (by decide)
  · rcases Nat.lt_succ_iff_lt_or_eq.mp ht with ht | rfl
    · obtain ⟨x', e, W⟩ := hws t ht
      exact ⟨x', by rw [List.getElem?_append_left (by rw [hl]; exact ht)]; exact e, W.mono fun p hp => List.mem_append_right _ hp⟩
    · refine ⟨x, by rw [List.getElem?_append_right (by rw [hl]; exact Nat.le_refl _), hl, Nat.sub_self]; rfl, ?_⟩
      exact ⟨dx, dn, dc, v1, v2, v5, k1, k2, k3, k4, k5, t3, tb, us, by simp [hfr], by simp [hfr], by simp [hfr], by simp [hfr], hI⟩
/-- the first loop's state: its cell, the pages, what they reach -/
structure PgS where
  o : Obj
  vs : Array Value
  nn : Nat
  ls : List (Addr × Obj)
section
variable {prog : Program} {w : World} {A : Around} {E : Value → Shared → Prop} {s : Shared} {env : Env} {h₀ : Heap} {body : List Stmt} {Q : Flow → Shared → Prop}
noncomputable def Pg1 (w : World) (ns : List Int) (as : List Addr) (i : Nat) (c : PgS) : Prop := (∃ v, c.o.data = .cell v) ∧ Pg w ns as c.vs.toList c.ls i
/-- six addresses, each another -/
structure Six (lp lm lr c1 c2 c3 : Addr) : Prop where
  pm : lp ≠ lm
  pr : lp ≠ lr
  p1 : lp ≠ c1
  p2 : lp ≠ c2
  p3 : lp ≠ c3
  m1 : lm ≠ c1
  m2 : lm ≠ c2
  m3 : lm ≠ c3
  r1 : lr ≠ c1
  r2 : lr ≠ c2
  r3 : lr ≠ c3
  a12 : c1 ≠ c2
  a13 : c1 ≠ c3
  a23 : c2 ≠ c3
theorem kst_off {m : Str → Option Value} {ps : List (Str × Value)} : ∀ z, (∀ p ∈ ps, z ≠ p.1) → kstB m ps z = m z := fun z hz => by
  induction ps with
  | nil => rfl
  | cons p r ih =>
    show (if z = p.1 then some p.2 else kstB m r z) = m z
    rw [if_neg (hz p (.head _))]
    exact ih fun q hq => hz q (.tail _ hq)
theorem loop1 {x : Str} {pos : Pos} {r : Addr} {t₀ u₀ v₀ : Tok} {m₀ : Str → Option Value} {news : List (Addr × Obj)} {L lp lm lr c1 c2 c3 : Addr} {o1 o2 o3 : Obj} {n nm nr : Nat} {vm vr : List Value} {ns : List Int}
    (hh : A.handled = none) (hr : IsRange s.heap r 0 6 1 t₀ u₀ v₀) (F : Fr h₀ L s.heap m₀) (N : News h₀ L s.heap news) (eL : env.locals = L)
    (k1 : m₀ (Str.ofString "pages") = some (.ref lp)) (k2 : m₀ (Str.ofString "mails") = some (.ref lm)) (k3 : m₀ (Str.ofString "row") = some (.ref lr))
    (hRow : RowOk ns) (hIs : IntsAre vr ns) (hSt : StrsAre vm ((List.range 6).map (mailS ns))) (e1 : c1 = L + 1) (e2 : c2 = L + 1 + 1) (e3 : c3 = L + 1 + 1 + 1)
    (hL : SubL [(lp, listOf #[] n), (lm, listOf vm.toArray nm), (lr, listOf vr.toArray nr), (c1, o1), (c2, o2), (c3, o3)] news) (d : Six lp lm lr c1 c2 c3) (h1 : ∃ v, o1.data = .cell v) (h2 : ∃ v, o2.data = .cell v) (h3 : ∃ v, o3.data = .cell v)
    (turn : ∀ (Q' : Flow → Shared → Prop) (E' : Value → Shared → Prop) lp lm lr ns (vm vr : List Value) nm nr m₁ i o vs nn ls t (oI : Obj) I h tk, RowOk ns → IntsAre vr ns → StrsAre vm ((List.range 6).map (mailS ns)) → i < 6 → oI.cls = .type "range_iterator" → Six lp lm lr c1 c2 c3 → (@LT.lt Nat _ lp I ∧ @LT.lt Nat _ lm I ∧ @LT.lt Nat _ lr I ∧ @LT.lt Nat _ c1 I ∧ @LT.lt Nat _ c2 I ∧ @LT.lt Nat _ c3 I) → (∃ v, o.data = .cell v) → Pg w ns [lp, lm, lr, c1, c2, c3] vs.toList ls i →
      let m₂ : Str → Option Value := kstB m₁ [(Str.ofString "pages", .ref lp), (Str.ofString "mails", .ref lm), (Str.ofString "row", .ref lr)]; Fr h₀ L h m₂ → News h₀ L h ((I, oI) :: (lp, listOf vs nn) :: (lm, listOf vm.toArray nm) :: (lr, listOf vr.toArray nr) :: (c1, o) :: (c2, o2) :: (c3, o3) :: ls) →
      (∀ s', UnrEndW h₀ L { s with heap := h, toks := tk } [(I, oI)] (fun m' n' => SubL [] n' ∧ JSt (fun c : PgS => (lp, listOf c.vs c.nn) :: (lm, listOf vm.toArray nm) :: (lr, listOf vr.toArray nr) :: (c1, c.o) :: (c2, o2) :: (c3, o3) :: c.ls) (fun _ => [(Str.ofString "pages", .ref lp), (Str.ofString "mails", .ref lm), (Str.ofString "row", .ref lr)]) (Pg1 w ns [lp, lm, lr, c1, c2, c3]) [] m₁ (i + 1) m' n') s' → Q' .next s') →
      wpAny (model prog w) A (assign (.Name x pos) env (.int (i : Int) t)) (fun _ s₂ => wpAny (model prog w) A (execs body env) Q' E' s₂) E' { s with heap := h, toks := tk })
    (done : ∀ lp lm lr ns (vm vr : List Value) nm nr m₁ o vs nn ls h tk, RowOk ns → IntsAre vr ns → Six lp lm lr c1 c2 c3 → (∃ v, o.data = .cell v) → (∃ v, o2.data = .cell v) → (∃ v, o3.data = .cell v) → Pg w ns [lp, lm, lr, c1, c2, c3] vs.toList ls 6 →
      let m₂ : Str → Option Value := kstB m₁ [(Str.ofString "pages", .ref lp), (Str.ofString "mails", .ref lm), (Str.ofString "row", .ref lr)]; Fr h₀ L h m₂ → News h₀ L h ((lp, listOf vs nn) :: (lm, listOf vm.toArray nm) :: (lr, listOf vr.toArray nr) :: (c1, o) :: (c2, o2) :: (c3, o3) :: ls) → Q .next { s with heap := h, toks := tk }) :
    wpAny (model prog w) A (pyIter (.ref r)) (fun it s₂ => TurnsAt prog w A h₀ env (.Name x pos) body Q E it s₂) E s := by
  subst eL
  refine rng_J (n := 6) (fun c : PgS => (lp, listOf c.vs c.nn) :: (lm, listOf vm.toArray nm) :: (lr, listOf vr.toArray nr) :: (c1, c.o) :: (c2, o2) :: (c3, o3) :: c.ls) (fun _ => [(Str.ofString "pages", .ref lp), (Str.ofString "mails", .ref lm), (Str.ofString "row", .ref lr)]) (Pg1 w ns [lp, lm, lr, c1, c2, c3]) [] ⟨o1, #[], n, []⟩
    hh hr (by decide) (by decide) F N hL ⟨h1, .zero⟩ (List.forall_mem_cons.mpr ⟨k1, List.forall_mem_cons.mpr ⟨k2, List.forall_mem_cons.mpr ⟨k3, List.forall_mem_nil _⟩⟩⟩) ?_ ?_
  · intro i ⟨o, vs, nn, ls⟩ t u oI I h tk Q₁ hi hI hF ho m₂ F9 N9 hQ
    have hm := fun p hp => hI p (hL.mem p hp)
    have e : (0 : Int) + (i : Int) * 1 = (i : Int) := by omega
    rw [e]
    exact turn Q₁ E lp lm lr ns vm vr nm nr m₀ i o vs nn ls t oI I h tk hRow hIs hSt hi ho d ⟨hm _ (.head _), hm _ (.tail _ (.head _)), hm _ (.tail _ (.tail _ (.head _))), hm _ (.tail _ (.tail _ (.tail _ (.head _)))), hm _ (.tail _ (.tail _ (.tail _ (.tail _ (.head _))))), hm _ (.tail _ (.tail _ (.tail _ (.tail _ (.tail _ (.head _))))))⟩ hF.1 hF.2 F9 N9 (fun s' q => hQ .next s' q)
  · intro ⟨o, vs, nn, ls⟩ u h tk hF m₂ F9 N9
    exact done lp lm lr ns vm vr nm nr m₀ o vs nn ls h tk hRow hIs d hF.1 h2 h3 hF.2 F9 N9
theorem turn1_end {ns : List Int} {lp lm lr c1 c2 c3 D L I : Addr} {h' : Heap} {tk : Nat} {o' om or o2 o3 oI : Obj} {vs : Array Value} {nn' nk i : Nat} {ls new nw r : List (Addr × Obj)} {us : List Value} {m₁ m' : Str → Option Value} {s₁ : Shared}
    (F : Fr h₀ L h' m') (N : News h₀ L h' nw) (hIn : (I, oI) ∈ nw) (hcI : oI.cls = .type "range_iterator") (hlt : @LT.lt Nat _ lp I ∧ @LT.lt Nat _ lm I ∧ @LT.lt Nat _ lr I ∧ @LT.lt Nat _ c1 I ∧ @LT.lt Nat _ c2 I ∧ @LT.lt Nat _ c3 I)
    (hP : Pg w ns [lp, lm, lr, c1, c2, c3] vs.toList ls i) (ho : ∃ v, o'.data = .cell v) (hap : Apart [lp, lm, lr, c1, c2, c3] new) (hl : us.length = 6) (hws : ∀ t, t < 6 → ∃ x, us[t]? = some (.ref x) ∧ WsT w new x ((ns.getD t 0).toNat + i))
    (hO : LCg.Off1 D r) (hr : ∀ a ∈ [lp, lm, lr, c1, c2, c3], ∃ o, (a, o) ∈ r) (hn : ∀ p ∈ (D, listOf us.toArray nk) :: (ls ++ new), p ∈ nw)
    (hL : SubL [(lp, listOf (vs.push (.ref D)) nn'), (lm, om), (lr, or), (c1, o'), (c2, o2), (c3, o3)] nw)
    (hp : ∀ p ∈ [(Str.ofString "pages", Value.ref lp), (Str.ofString "mails", .ref lm), (Str.ofString "row", .ref lr)], m' p.1 = some p.2) (hm : ∀ z, (∀ p ∈ [(Str.ofString "pages", Value.ref lp), (Str.ofString "mails", .ref lm), (Str.ofString "row", .ref lr)], z ≠ p.1) → m' z = m₁ z) :
    UnrEndW h₀ L s₁ [(I, oI)] (fun m' n' => SubL [] n' ∧ JSt (fun c : PgS => (lp, listOf c.vs c.nn) :: (lm, om) :: (lr, or) :: (c1, c.o) :: (c2, o2) :: (c3, o3) :: c.ls) (fun _ => [(Str.ofString "pages", .ref lp), (Str.ofString "mails", .ref lm), (Str.ofString "row", .ref lr)]) (Pg1 w ns [lp, lm, lr, c1, c2, c3]) [] m₁ (i + 1) m' n') { s₁ with heap := h', toks := tk } := by
  have hAp : Apart [lp, lm, lr, c1, c2, c3] ((D, listOf us.toArray nk) :: (ls ++ new)) := Apart.cons (hP.ap.app hap) (fun a ha e => by
    obtain ⟨o, ho⟩ := hr a ha
    exact off1_mem hO _ ho e.symm) list_no_it
  refine ⟨h', tk, m', (lp, listOf (vs.push (.ref D)) nn') :: (lm, om) :: (lr, or) :: (c1, o') :: (c2, o2) :: (c3, o3) :: (D, listOf us.toArray nk) :: (ls ++ new), rfl, F, fun p hp => ?_, fun p hp q hq e => ?_, trivial, ⟨o', vs.push (.ref D), nn', (D, listOf us.toArray nk) :: (ls ++ new)⟩, SubL.of fun p hp => hp, ⟨ho, ?_⟩, hp, fun z hz _ => hm z hz⟩
  · rcases List.mem_cons.mp hp with rfl | hp
    · exact N _ hIn
    · have := hL.mem
      replace hp : p ∈ (lp, listOf (vs.push (.ref D)) nn') :: (lm, om) :: (lr, or) :: (c1, o') :: (c2, o2) :: (c3, o3) :: (D, listOf us.toArray nk) :: (ls ++ new) := hp
      simp only [List.mem_cons] at hp
      rcases hp with rfl | rfl | rfl | rfl | rfl | rfl | hp
      · exact N _ (this _ (by simp))
      · exact N _ (this _ (by simp))
      · exact N _ (this _ (by simp))
      · exact N _ (this _ (by simp))
      · exact N _ (this _ (by simp))
      · exact N _ (this _ (by simp))
      · exact N _ (hn p (List.mem_cons.mpr hp))
  · obtain rfl := List.mem_singleton.mp hq
    obtain ⟨g1, g2, g3, g4, g5, g6⟩ := hlt
    have e' : p.1 = I := e
    simp only [List.mem_cons] at hp
    rcases hp with rfl | rfl | rfl | rfl | rfl | rfl | hp
    · exact Nat.ne_of_lt g1 e'
    · exact Nat.ne_of_lt g2 e'
    · exact Nat.ne_of_lt g3 e'
    · exact Nat.ne_of_lt g4 e'
    · exact Nat.ne_of_lt g5 e'
    · exact Nat.ne_of_lt g6 e'
    · have hp' := List.mem_cons.mpr hp
      have h1 := (N p (hn p hp')).1
      rw [e', (N _ hIn).1] at h1
      exact hAp.c p hp' ((congrArg Obj.cls (Option.some.inj h1)).symm.trans hcI)
  · show Pg w ns _ (vs.push (.ref D)).toList _ (i + 1)
    rw [Array.toList_push]
    refine hP.succ (fun p hp => List.mem_cons_of_mem _ (List.mem_append_left _ hp)) ⟨D, us, nk, rfl, .head _, hl, fun j hj => ?_⟩ hAp
    obtain ⟨x, e, W⟩ := hws j hj
    exact ⟨x, e, W.mono fun p hp => List.mem_cons_of_mem _ (List.mem_append_right _ hp)⟩
end
end Mine
end
section
open PySem PySem.W PyProof.Rows PySem.Challenge PySem.Calls PySem.Spec PyProof.V
namespace Mine
theorem strs_snoc9 {us : List Value} {ws : List Str} {x : Str} {t : Tok} (h : StrsAre us ws) : StrsAre (us ++ [.str x t]) (ws ++ [x]) := by
  induction h with
  | nil => exact .cons x t .nil
  | cons y t' _ ih => exact .cons y t' ih
theorem strs_take : ∀ {us : List Value} {ws : List Str} (n : Nat), StrsAre us ws → StrsAre (us.take n) (ws.take n)
  | _, _, 0, _ => by simpa using StrsAre.nil
  | _, _, _ + 1, .nil => by simpa using StrsAre.nil
  | _, _, n + 1, .cons y t h => by
    rw [List.take_succ_cons, List.take_succ_cons]
    exact .cons y t (strs_take n h)
theorem strAt {vs : List Value} {xs : List Str} {i : Nat} {v : Value} (h : StrsAre vs xs) (hv : vs.toArray[i]? = some v) : ∃ x t, v = .str x t ∧ xs[i]? = some x := by
  have hv' : vs[i]? = some v := by simpa using hv
  have hl : i < vs.length := (List.getElem?_eq_some_iff.mp hv').1
  have hl' : i < xs.length := h.length ▸ hl
  obtain ⟨t, hx⟩ := h.get i xs[i] (by simp [hl'])
  rw [hv'] at hx
  exact ⟨_, t, Option.some.inj hx, by simp [hl']⟩
/-- the texts of the first comprehension -/
noncomputable def StrI (N : List (Addr × Obj)) (f : Nat → Str) (i : Nat) (ys : List Value) (nw : List (Addr × Obj)) : Prop := nw = N ∧ StrsAre ys ((List.range i).map f)
theorem StrI.zero {N : List (Addr × Obj)} {f : Nat → Str} : StrI N f 0 [] N := ⟨rfl, .nil⟩
theorem StrI.succ {N : List (Addr × Obj)} {f : Nat → Str} {i : Nat} {ys : List Value} {x : Str} {t : Tok} (h : StrsAre ys ((List.range i).map f)) (e : x = f i) : StrI N f (i + 1) (ys ++ [.str x t]) N := by
  refine ⟨rfl, ?_⟩
  rw [List.range_succ, List.map_append, e]
  exact strs_snoc9 h
theorem lineS_len {ns : List Int} (hn : ns.length = 6) (hr : ∀ y ∈ ns, 1 ≤ y ∧ y ≤ 6) {k j : Nat} (hk : k ≤ 6) (hj : j < 6) : (lineS ns k j).length ≤ 16 := by
  have := hr _ (getD_mem9 (ns := ns) (i := j) (by omega))
  show (List.toArray _).size ≤ _
  rw [List.size_toArray]
  simp only [List.length_append, List.length_replicate, List.length_cons, List.length_nil]
  omega
theorem sum_leN {n : Nat} : ∀ l : List Nat, (∀ x ∈ l, x ≤ n) → l.sum ≤ l.length * n
  | [], _ => by simp
  | x :: l, h => by
    have ih := sum_leN l fun y hy => h y (.tail _ hy)
    have := h x (.head _)
    rw [List.sum_cons, List.length_cons, Nat.add_mul]
    omega
theorem bne_self9 {x : Str} (h : (x != x) = true) : False := by simp at h
theorem line_at {ns : List Int} {i j : Nat} {x : Str} (h : ((linesB ns i).map mkS)[j]? = some x) : j < 6 ∧ x = ⟨(List.replicate ((ns.getD j 0).toNat + i) 32 ++ [9, 96 + (ns.getD j 0).toNat]).toArray⟩ := by
  have hj : j < 6 := by have := (List.getElem?_eq_some_iff.mp h).1; simpa [linesB] using this
  refine ⟨hj, ?_⟩
  have e : ((linesB ns i).map mkS)[j]? = some (mkS (lineB ns i j)) := by simp [linesB, hj]
  rw [e] at h
  exact (Option.some.inj h).symm
section
variable {prog : Program} {w : World} {A : Around} {E : Value → Shared → Prop} {s : Shared} {Q : Value → Shared → Prop} {value slice : Expr} {h₀ : Heap} {L D : Addr} {m : Str → Option Value} {news : List (Addr × Obj)} {t u v : Tok} {ns : List Int} {i : Nat} {vs ys us : List Value} {n : Nat}
theorem mail_item (N : News h₀ L s.heap news) (hm : (D, listOf vs.toArray n) ∈ news) (hS : StrsAre vs ((List.range 6).map (mailS ns))) (hi : i < 6) (h : ∀ t, Q (.str (mailS ns i) t) s)
    (hs : subscripted slice false (.ref D) (.int (i : Int) u) = operate [.ref D, .int (i : Int) u] (getItem (.ref D) (.int (i : Int) u)) := by with_unfolding_all rfl) :
    wpAny (model prog w) A (subscriptTail value slice (.ref D) (.int (i : Int) u)) Q E s := by
  refine KTb.item_list (N.isList hm) hS (by omega) (by simp; omega) (by omega) (fun t' _ => ?_) hs
  have e : ((List.range 6).map (mailS ns)).getD (i : Int).toNat PySem.Str.empty = mailS ns i := by simp [List.getD_eq_getElem?_getD, hi]
  rw [e]
  exact h t'
theorem join_call (N : News h₀ L s.heap news) (hm : (D, listOf ys.toArray n) ∈ news) (hS : StrsAre ys ((List.range 6).map (lineS ns i))) (hn : ns.length = 6) (hr : ∀ y ∈ ns, 1 ≤ y ∧ y ≤ 6) (hi : i < 6)
    (h : ∀ l t' k, (⟨(l ++ [120]).toArray⟩ : Str) = mailS ns i → l.length ≤ 200 → 1 ≤ l.length → Q (.str ⟨l.toArray⟩ t') { s with toks := k }) : wpAny (model prog w) A (call (.builtin "str.join") [.str (Str.ofString "") t, .ref D]) Q E s := by
  refine join_list (ys := (List.range 6).map (lineS ns i)) (N.isList hm) hS ?_ (fun t' k => ?_)
  · have hb := sum_leN (n := 16) (((List.range 6).map (lineS ns i)).map (·.length)) (fun x hx => by
      obtain ⟨y, hy, rfl⟩ := List.mem_map.mp hx
      obtain ⟨j, hj, rfl⟩ := List.mem_map.mp hy
      exact lineS_len hn hr (by omega) (List.mem_range.mp hj))
    have e0 : (Str.ofString "").length = 0 := by decide +kernel
    rw [e0]
    have e1 : (((List.range 6).map (lineS ns i)).map (·.length)).length = 6 := by simp
    rw [e1] at hb
    omega
  · have e := join_mail (ns := ns) (k := i)
    have e2 : Txt.join (Str.ofString "") ((List.range 6).map (lineS ns i)) = ⟨((Txt.join ⟨#[]⟩ ((List.range 6).map (lineS ns i))).cps.toList).toArray⟩ := by
      rw [lit_empty]
    rw [e2]
    refine h _ t' k e ?_ ?low
    case low =>
      rw [join_flat]
      have e3 : flatL ((List.range 6).map (lineS ns i)) = (lineS ns i 0).cps.toList ++ flatL ((List.range 5).map fun j => lineS ns i (j + 1)) := rfl
      rw [e3, List.length_append]
      have : 1 ≤ (lineS ns i 0).cps.toList.length := by simp [lineS]
      omega
    have hl := mail_len hn hr (k := i) (by omega)
    rw [← e] at hl
    have hl' : (List.toArray _).size ≤ 200 := hl
    rw [List.size_toArray, List.length_append] at hl'
    omega
theorem op_addx {l : List Nat} (hz : l.length ≤ 200) (h1 : 1 ≤ l.length) (h : ∀ t' k, @Ne Nat k 0 → Q (.str ⟨(l ++ [120]).toArray⟩ t') { s with toks := k }) : wpAny (model prog w) A (binaryOp .Add (.str ⟨l.toArray⟩ t) (.str (Str.ofString "x") u)) Q E s := by
  refine PySem.P.add_str ?_
  rw [lit_x]
  have e1 : ((⟨l.toArray⟩ : Str).length == 0) = false := by
    have : (⟨l.toArray⟩ : Str).length = l.length := rfl
    rw [this, beq_eq_false_iff_ne]; omega
  rw [if_neg (by rw [e1]; exact Bool.false_ne_true), if_neg (by decide)]
  have e : ((⟨l.toArray⟩ : Str) ++ (⟨[120].toArray⟩ : Str)) = ⟨(l ++ [120]).toArray⟩ := by
    show (⟨l.toArray ++ [120].toArray⟩ : Str) = _
    rw [List.append_toArray]
  rw [e]
  refine ⟨?_, h _ _ (Nat.succ_ne_zero _)⟩
  rw [sizeLine_eq]
  show (List.toArray _).size ≤ _
  rw [List.size_toArray, List.length_append]
  show l.length + 1 ≤ _
  omega
theorem repl_call (hn : ns.length = 6) (hr : ∀ y ∈ ns, 1 ≤ y ∧ y ≤ 6) (hi : i < 6) (hu : @Ne Nat u 0) (hv : @Ne Nat v 0) (huv : @Ne Nat u v)
    (h : ∀ t' k, Q (.str (mkS (bodyL (linesB ns i) [120])) t') { s with toks := k }) : wpAny (model prog w) A (call (.builtin "str.replace") [.str (mailS ns i) t, .str (Str.ofString ".") u, .str (Str.ofString " ") v]) Q E s := by
  have hl := mail_len hn hr (k := i) (by omega)
  refine SC.replace hu hv huv (by decide +kernel) ?_ (fun t' k => ?_)
  · have e1 : (Str.ofString " ").length = 1 := by decide +kernel
    rw [e1]
    show (mailS ns i).cps.size + _ ≤ _
    have : (mailS ns i).length = (mailS ns i).cps.size := rfl
    omega
  · rw [lit_dot1, lit_blank, repl_mail]
    exact h t' k
theorem body_size (hn : ns.length = 6) (hr : ∀ y ∈ ns, 1 ≤ y ∧ y ≤ 6) (hi : i < 6) : (mkS (bodyL (linesB ns i) [120])).length ≤ 200 := by
  have hl := mail_len hn hr (k := i) (by omega)
  rw [← repl_mail, repl_blk]
  show (List.toArray _).size ≤ _
  rw [List.size_toArray, List.length_map]
  simpa using hl
theorem split_call (F : Fr h₀ L s.heap m) (N : News h₀ L s.heap news) (hn : ns.length = 6) (hr : ∀ y ∈ ns, 1 ≤ y ∧ y ≤ 6) (hi : i < 6)
    (h : ∀ D us h' k, StrsAre us ((linesB ns i).map mkS ++ [mkS [120]]) → us.length = 7 → Fr h₀ L h' m → News h₀ L h' ((D, listOf (List.toArray us) 0) :: news) → (∀ p ∈ news, p.1 < D) → Q (.ref D) { s with heap := h', toks := k }) :
    wpAny (model prog w) A (call (.builtin "str.split") [.str (mkS (bodyL (linesB ns i) [120])) t, .str (Str.ofString "\r\n") u]) Q E s := by
  refine KSpl.split1 F N (by decide +kernel) (fun D l h' k e hS F' N' l1 => ?_) (by have := body_size hn hr hi; rw [sizeLine_eq]; omega)
  have e2 : Txt.split (mkS (bodyL (linesB ns i) [120])) (Str.ofString "\r\n") = (linesB ns i).map mkS ++ [mkS [120]] := by
    rw [lit_crlf]; exact split_mail
  rw [e, e2] at hS
  refine h D _ h' k hS ?_ F' N' l1
  rw [hS.length]
  simp [linesB]
theorem take6 (hS : StrsAre us ((linesB ns i).map mkS ++ [mkS [120]])) : StrsAre (us.take 6) ((linesB ns i).map mkS) := by
  have h := strs_take 6 hS
  have e : ((linesB ns i).map mkS ++ [mkS [120]]).take 6 = (linesB ns i).map mkS := by
    rw [List.take_append_of_le_length (by simp [linesB]), List.take_of_length_le (by simp [linesB])]
  rwa [e] at h
theorem slice6_call {q : Tok} (F : Fr h₀ L s.heap m) (N : News h₀ L s.heap news) (hm : (D, listOf us.toArray n) ∈ news) (hS : StrsAre us ((linesB ns i).map mkS ++ [mkS [120]])) (hl : us.length = 7)
    (h : ∀ D' xs h', StrsAre xs ((linesB ns i).map mkS) → xs.length = 6 → Fr h₀ L h' m → News h₀ L h' ((D', listOf (List.toArray xs) 0) :: news) → (∀ p ∈ news, p.1 < D') → Q (.ref D') { s with heap := h' })
    (hs : subscripted slice false (.ref D) (.ref s.heap.objs.size) = operate [.ref s.heap.objs.size, .ref D] (getItem (.ref D) (.ref s.heap.objs.size))) (ht : ∀ r, letTemporaryGo value (.ref D) r = pure ()) :
    wpAny (model prog w) A (subscriptTail value slice (.ref D) (.ref s.heap.objs.size)) Q E { s with heap := s.heap.push { cls := .type "slice", data := .fields #[.none, .int 6 q, .none] } } := by
  refine kms_slice_lit F N (N.isList hm) IsPart.none (IsPart.int _ _) (kms_upto _ (by decide)) (fun D' h' F' N' l1 => h D' _ h' (take6 hS) (by simp [hl]) F' N' l1) hs ht (by rw [List.size_toArray, sizeLine_eq]; omega)
end
end Mine
end
section
open PySem PySem.W PyProof.Rows PySem.Challenge PySem.Calls PySem.Spec PyProof.V
namespace Mine
noncomputable def blkIn (ns : List Int) (z j : Nat) : List Bool := (List.range j).map fun b => blockF ((ns.drop (b * z)).take z) z
noncomputable def frIn (ns : List Int) (z j : Nat) : List Bool := if j = 0 then [] else [blockF (ns.take z) z]
noncomputable def blkTo (ns : List Int) : Nat → List Bool
  | 0 => []
  | i + 1 => blkTo ns i ++ blkIn ns (i + 2) (6 / (i + 2))
noncomputable def frTo (ns : List Int) : Nat → List Bool
  | 0 => []
  | i + 1 => frTo ns i ++ [blockF (ns.take (i + 2)) (i + 2)]
theorem blkTo4 (ns : List Int) : blkTo ns 4 = blocksF ns := by
  simp [blkTo, blkIn, blocksF, List.range_succ]
theorem frTo4 (ns : List Int) : frTo ns 4 = frontsF ns := by
  simp [frTo, frontsF]
theorem blkIn_succ (ns : List Int) (z j : Nat) : blkIn ns z (j + 1) = blkIn ns z j ++ [blockF ((ns.drop (j * z)).take z) z] := by
  unfold blkIn
  rw [List.range_succ, List.map_append]
  rfl
structure BlS where
  os : Obj
  ox : Obj
  ab : Array Value
  af : Array Value
  nb : Nat
  nf : Nat
noncomputable def Bl2 (ns : List Int) (i : Nat) (c : BlS) : Prop := (∃ v, c.os.data = .cell v) ∧ (∃ v, c.ox.data = .cell v) ∧ c.ab.toList = (blkTo ns i).map Value.bool ∧ c.af.toList = (frTo ns i).map Value.bool ∧ c.ab.size ≤ 3 * i ∧ c.af.size ≤ 3 * i
noncomputable def Bl3 (ns : List Int) (i z j : Nat) (c : BlS) : Prop := (∃ v, c.ox.data = .cell v) ∧ c.ab.toList = (blkTo ns i ++ blkIn ns z j).map Value.bool ∧ c.af.toList = (frTo ns i ++ frIn ns z j).map Value.bool ∧ c.ab.size ≤ 3 * i + j ∧ c.af.size ≤ 3 * i + j
structure Dis6 (y1 y2 y3 y4 y5 y6 : Addr) : Prop where
  ab : y1 ≠ y2
  ac : y1 ≠ y3
  ad : y1 ≠ y4
  ae : y1 ≠ y5
  af : y1 ≠ y6
  bc : y2 ≠ y3
  bd : y2 ≠ y4
  be : y2 ≠ y5
  bf : y2 ≠ y6
  cd : y3 ≠ y4
  ce : y3 ≠ y5
  cf : y3 ≠ y6
  de : y4 ≠ y5
  df : y4 ≠ y6
  ef : y5 ≠ y6
theorem allLt_ne {d : Addr} {l : List (Addr × Obj)} : AllLt d l → ∀ p ∈ l, p.1 ≠ d := by
  induction l with
  | nil => intro _ p hp; cases hp
  | cons q l ih =>
    intro h p hp
    obtain ⟨h1, h2⟩ : @LT.lt Nat _ q.1 d ∧ AllLt d l := h
    rcases List.mem_cons.mp hp with rfl | hp
    · exact Nat.ne_of_lt h1
    · exact ih h2 p hp
theorem apart_more {a : Addr} {as : List Addr} {ls : List (Addr × Obj)} (h : AllLt a ls) (hr : Apart as ls) : Apart (a :: as) ls := ⟨fun p hp b hb => by
  rcases List.mem_cons.mp hb with rfl | hb
  · exact allLt_ne h p hp
  · exact hr.h p hp b hb, hr.c⟩
theorem rng_in {z : Nat} (z1 : 2 ≤ z) (z2 : z ≤ 5) : Builtin.Range.small 0 (7 - (z : Int)) (z : Int) = true ∧ Builtin.Range.rangeSize 0 (7 - (z : Int)) (z : Int) = ((6 / z : Nat) : Int) := by
  have : z = 2 ∨ z = 3 ∨ z = 4 ∨ z = 5 := by omega
  rcases this with rfl | rfl | rfl | rfl <;> decide +kernel
theorem in_le {z j : Nat} (z1 : 2 ≤ z) (z2 : z ≤ 5) (h : j < 6 / z) : j * z + z ≤ 6 ∧ j < 3 := by
  have : z = 2 ∨ z = 3 ∨ z = 4 ∨ z = 5 := by omega
  rcases this with rfl | rfl | rfl | rfl <;> omega
section
variable {prog : Program} {w : World} {A : Around} {E : Value → Shared → Prop} {s : Shared} {env : Env} {h₀ : Heap} {body : List Stmt} {Q : Flow → Shared → Prop}
theorem end_led {σ : Type} {Led : σ → List (Addr × Obj)} {ps : σ → List (Str × Value)} {Facts : Nat → σ → Prop} {stored : List Str} {m₀ m' : Str → Option Value} {i tk : Nat} {L I : Addr} {oI : Obj} {h' : Heap} {nw A6 ls : List (Addr × Obj)} {s₁ : Shared}
    (F : Fr h₀ L h' m') (N : News h₀ L h' nw) (hIn : (I, oI) ∈ nw) (hcI : oI.cls = .type "range_iterator") (hlt : ∀ p ∈ A6, @LT.lt Nat _ p.1 I) (hA : ∀ p ∈ A6, p ∈ nw) (hls : ∀ p ∈ ls, p ∈ nw) (hc : ∀ p ∈ ls, p.2.cls ≠ .type "range_iterator")
    (hJ : JSt Led ps Facts stored m₀ i m' (A6 ++ ls)) : UnrEndW h₀ L s₁ [(I, oI)] (fun m' n' => SubL [] n' ∧ JSt Led ps Facts stored m₀ i m' n') { s₁ with heap := h', toks := tk } := by
  refine ⟨h', tk, m', A6 ++ ls, rfl, F, fun p hp => ?_, fun p hp q hq e => ?_, trivial, hJ⟩
  · rcases List.mem_cons.mp hp with rfl | hp
    · exact N _ hIn
    · replace hp : p ∈ A6 ++ ls := hp
      rcases List.mem_append.mp hp with hp | hp
      · exact N p (hA p hp)
      · exact N p (hls p hp)
  · obtain rfl := List.mem_singleton.mp hq
    have e' : p.1 = I := e
    rcases List.mem_append.mp hp with hp | hp
    · exact Nat.ne_of_lt (hlt p hp) e'
    · have h1 := (N p (hls p hp)).1
      rw [e', (N _ hIn).1] at h1
      exact hc p hp ((congrArg Obj.cls (Option.some.inj h1)).symm.trans hcI)
theorem loop2 {x : Str} {pos : Pos} {r : Addr} {t₀ u₀ v₀ : Tok} {m₀ : Str → Option Value} {news ls : List (Addr × Obj)} {L lb lf lp lr c2 c3 : Addr} {o2 o3 : Obj} {nb nf np nr : Nat} {vp : Array Value} {vr : List Value} {ns : List Int} {as : List Addr}
    (hh : A.handled = none) (hr : IsRange s.heap r 2 6 1 t₀ u₀ v₀) (F : Fr h₀ L s.heap m₀) (N : News h₀ L s.heap news) (eL : env.locals = L)
    (k1 : m₀ (Str.ofString "pages") = some (.ref lp)) (k2 : m₀ (Str.ofString "row") = some (.ref lr)) (k3 : m₀ (Str.ofString "blocks") = some (.ref lb)) (k4 : m₀ (Str.ofString "fronts") = some (.ref lf))
    (hRow : RowOk ns) (hIs : IntsAre vr ns) (hPg : Pg w ns as vp.toList ls 6) (e2 : c2 = L + 1 + 1) (e3 : c3 = L + 1 + 1 + 1)
    (hL : SubL [(lb, listOf #[] nb), (lf, listOf #[] nf), (lp, listOf vp np), (lr, listOf vr.toArray nr), (c2, o2), (c3, o3)] news) (hls : ∀ p ∈ ls, p ∈ news) (d : Dis6 lb lf lp lr c2 c3) (hap : Apart [lb, lf, lp, lr, c2, c3] ls) (h2 : ∃ v, o2.data = .cell v) (h3 : ∃ v, o3.data = .cell v)
    (turn : ∀ (Q' : Flow → Shared → Prop) lb lf lp lr (ns : List Int) (vp : Array Value) (vr : List Value) np nr (ls : List (Addr × Obj)) as (u m₁ : Str → Option Value) (i z : Nat) os ox ab af nb nf t (oI : Obj) I h tk, RowOk ns → IntsAre vr ns → Pg w ns as vp.toList ls 6 → oI.cls = .type "range_iterator" → i < 4 → z = i + 2 → 2 ≤ z → z ≤ 5 → Dis6 lb lf lp lr c2 c3 → Apart [lb, lf, lp, lr, c2, c3] ls →
      (@LT.lt Nat _ lb I ∧ @LT.lt Nat _ lf I ∧ @LT.lt Nat _ lp I ∧ @LT.lt Nat _ lr I ∧ @LT.lt Nat _ c2 I ∧ @LT.lt Nat _ c3 I) → (∃ v, os.data = .cell v) → (∃ v, ox.data = .cell v) → ab.toList = (blkTo ns i).map Value.bool → af.toList = (frTo ns i).map Value.bool → ab.size ≤ 3 * i → af.size ≤ 3 * i →
      let m₂ : Str → Option Value := kstB (fun q => if List.contains [Str.ofString "single"] q then u q else m₁ q) [(Str.ofString "pages", Value.ref lp), (Str.ofString "row", Value.ref lr), (Str.ofString "blocks", Value.ref lb), (Str.ofString "fronts", Value.ref lf)]; Fr h₀ L h m₂ → News h₀ L h ((I, oI) :: (lb, listOf ab nb) :: (lf, listOf af nf) :: (lp, listOf vp np) :: (lr, listOf vr.toArray nr) :: (c2, os) :: (c3, ox) :: ls) →
      (∀ s', UnrEndW h₀ L { s with heap := h, toks := tk } [(I, oI)] (fun m' n' => SubL [] n' ∧ JSt (fun c : BlS => (lb, listOf c.ab c.nb) :: (lf, listOf c.af c.nf) :: (lp, listOf vp np) :: (lr, listOf vr.toArray nr) :: (c2, c.os) :: (c3, c.ox) :: ls) (fun _ => [(Str.ofString "pages", Value.ref lp), (Str.ofString "row", Value.ref lr), (Str.ofString "blocks", Value.ref lb), (Str.ofString "fronts", Value.ref lf)]) (Bl2 ns) [Str.ofString "single"] m₁ (i + 1) m' n') s' → Q' .next s') →
      wpAny (model prog w) A (assign (.Name x pos) env (.int (z : Int) t)) (fun _ s₂ => wpAny (model prog w) A (execs body env) Q' E s₂) E { s with heap := h, toks := tk })
    (done : ∀ lb lf lp lr (ns : List Int) (vp : Array Value) (vr : List Value) np nr (ls : List (Addr × Obj)) m₁ os ox ab af nb nf h tk, RowOk ns → IntsAre vr ns → ab.toList = (blocksF ns).map Value.bool → af.toList = (frontsF ns).map Value.bool → ab.size ≤ 12 → af.size ≤ 12 →
      let m₂ : Str → Option Value := kstB m₁ [(Str.ofString "pages", Value.ref lp), (Str.ofString "row", Value.ref lr), (Str.ofString "blocks", Value.ref lb), (Str.ofString "fronts", Value.ref lf)]; Fr h₀ L h m₂ → News h₀ L h ((lb, listOf ab nb) :: (lf, listOf af nf) :: (lp, listOf vp np) :: (lr, listOf vr.toArray nr) :: (c2, os) :: (c3, ox) :: ls) → Q .next { s with heap := h, toks := tk }) :
    wpAny (model prog w) A (pyIter (.ref r)) (fun it s₂ => TurnsAt prog w A h₀ env (.Name x pos) body Q E it s₂) E s := by
  subst eL
  refine rng_J (n := 4) (fun c : BlS => (lb, listOf c.ab c.nb) :: (lf, listOf c.af c.nf) :: (lp, listOf vp np) :: (lr, listOf vr.toArray nr) :: (c2, c.os) :: (c3, c.ox) :: ls) (fun _ => [(Str.ofString "pages", Value.ref lp), (Str.ofString "row", Value.ref lr), (Str.ofString "blocks", Value.ref lb), (Str.ofString "fronts", Value.ref lf)]) (Bl2 ns) [Str.ofString "single"] ⟨o2, o3, #[], #[], nb, nf⟩
    hh hr (by decide) (by decide) F N ⟨hL.1, hL.2.1, hL.2.2.1, hL.2.2.2.1, hL.2.2.2.2.1, hL.2.2.2.2.2.1, SubL.of hls⟩ ⟨h2, h3, rfl, rfl, Nat.zero_le _, Nat.zero_le _⟩ (List.forall_mem_cons.mpr ⟨k1, List.forall_mem_cons.mpr ⟨k2, List.forall_mem_cons.mpr ⟨k3, List.forall_mem_cons.mpr ⟨k4, List.forall_mem_nil _⟩⟩⟩⟩) ?_ ?_
  · intro i ⟨os, ox, ab, af, nb, nf⟩ t u oI I h tk Q₁ hi hI hF ho m₂ F9 N9 hQ
    have hm := fun p hp => hI p (hL.mem p hp)
    have e : (2 : Int) + (i : Int) * 1 = ((i + 2 : Nat) : Int) := by omega
    rw [e]
    obtain ⟨f1, f2, f3, f4, f5, f6⟩ := hF
    exact turn Q₁ lb lf lp lr ns vp vr np nr ls as u m₀ i (i + 2) os ox ab af nb nf t oI I h tk hRow hIs hPg ho hi rfl (by omega) (by omega) d hap ⟨hm _ (.head _), hm _ (.tail _ (.head _)), hm _ (.tail _ (.tail _ (.head _))), hm _ (.tail _ (.tail _ (.tail _ (.head _)))), hm _ (.tail _ (.tail _ (.tail _ (.tail _ (.head _))))), hm _ (.tail _ (.tail _ (.tail _ (.tail _ (.tail _ (.head _))))))⟩ f1 f2 f3 f4 f5 f6 F9 N9 (fun s' q => hQ .next s' q)
  · intro ⟨os, ox, ab, af, nb, nf⟩ u h tk hF m₂ F9 N9
    obtain ⟨f1, f2, f3, f4, f5, f6⟩ := hF
    exact done lb lf lp lr ns vp vr np nr ls _ os ox ab af nb nf h tk hRow hIs f3 f4 f5 f6 F9 N9
theorem loop3 {x : Str} {pos : Pos} {r : Addr} {t₀ u₀ v₀ : Tok} {m₀ : Str → Option Value} {news ls : List (Addr × Obj)} {L lb lf lp lr c2 c3 I2 : Addr} {os ox oI2 : Obj} {nb nf np nr i z : Nat} {ab af : Array Value} {vp : Array Value} {vr : List Value} {ns : List Int}
    (hh : A.handled = none) (hr : IsRange s.heap r 0 (7 - (z : Int)) (z : Int) t₀ u₀ v₀) (F : Fr h₀ L s.heap m₀) (N : News h₀ L s.heap news) (eL : env.locals = L)
    (k1 : m₀ (Str.ofString "pages") = some (.ref lp)) (k2 : m₀ (Str.ofString "row") = some (.ref lr)) (k3 : m₀ (Str.ofString "blocks") = some (.ref lb)) (k4 : m₀ (Str.ofString "fronts") = some (.ref lf))
    (z1 : 2 ≤ z) (z2 : z ≤ 5) (_ : Apart [lb, lf, lp, lr, c2, c3] ls) (_ : (@LT.lt Nat _ lb I2 ∧ @LT.lt Nat _ lf I2 ∧ @LT.lt Nat _ lp I2 ∧ @LT.lt Nat _ lr I2 ∧ @LT.lt Nat _ c2 I2 ∧ @LT.lt Nat _ c3 I2))
    (hL : SubL [(lb, listOf ab nb), (lf, listOf af nf), (lp, listOf vp np), (lr, listOf vr.toArray nr), (c2, os), (c3, ox), (I2, oI2)] news) (hls : ∀ p ∈ ls, p ∈ news) (h3 : ∃ v, ox.data = .cell v)
    (hab : ab.toList = (blkTo ns i).map Value.bool) (haf : af.toList = (frTo ns i).map Value.bool) (hs1 : ab.size ≤ 3 * i) (hs2 : af.size ≤ 3 * i)
    (turn : ∀ (Q' : Flow → Shared → Prop) (E' : Value → Shared → Prop) (u m₁ : Str → Option Value) j f ox ab af nb nf t (oI : Obj) I h tk, oI.cls = .type "range_iterator" → j < 3 → f = j * z → f + z ≤ 6 → (@LT.lt Nat _ lb I ∧ @LT.lt Nat _ lf I ∧ @LT.lt Nat _ lp I ∧ @LT.lt Nat _ lr I ∧ @LT.lt Nat _ c2 I ∧ @LT.lt Nat _ c3 I ∧ @LT.lt Nat _ I2 I) → (∃ v, ox.data = .cell v) → ab.toList = (blkTo ns i ++ blkIn ns z j).map Value.bool → af.toList = (frTo ns i ++ frIn ns z j).map Value.bool → ab.size ≤ 3 * i + j → af.size ≤ 3 * i + j →
      let m₂ : Str → Option Value := kstB (fun q => if List.contains [Str.ofString "single"] q then u q else m₁ q) [(Str.ofString "pages", Value.ref lp), (Str.ofString "row", Value.ref lr), (Str.ofString "blocks", Value.ref lb), (Str.ofString "fronts", Value.ref lf)]; Fr h₀ L h m₂ → News h₀ L h ((I, oI) :: (lb, listOf ab nb) :: (lf, listOf af nf) :: (lp, listOf vp np) :: (lr, listOf vr.toArray nr) :: (c2, os) :: (c3, ox) :: (I2, oI2) :: ls) →
      (∀ s', UnrEndW h₀ L { s with heap := h, toks := tk } [(I, oI)] (fun m' n' => SubL [] n' ∧ JSt (fun c : BlS => (lb, listOf c.ab c.nb) :: (lf, listOf c.af c.nf) :: (lp, listOf vp np) :: (lr, listOf vr.toArray nr) :: (c2, os) :: (c3, c.ox) :: (I2, oI2) :: ls) (fun _ => [(Str.ofString "pages", Value.ref lp), (Str.ofString "row", Value.ref lr), (Str.ofString "blocks", Value.ref lb), (Str.ofString "fronts", Value.ref lf)]) (Bl3 ns i z) [Str.ofString "single"] m₁ (j + 1) m' n') s' → Q' .next s') →
      wpAny (model prog w) A (assign (.Name x pos) env (.int (f : Int) t)) (fun _ s₂ => wpAny (model prog w) A (execs body env) Q' E' s₂) E' { s with heap := h, toks := tk })
    (done : ∀ (u : Str → Option Value) ox ab af nb nf h tk, (∃ v, ox.data = .cell v) → ab.toList = (blkTo ns i ++ blkIn ns z (6 / z)).map Value.bool → af.toList = (frTo ns i ++ [blockF (ns.take z) z]).map Value.bool → ab.size ≤ 3 * i + 3 → af.size ≤ 3 * i + 3 →
      let m₂ : Str → Option Value := kstB (fun q => if List.contains [Str.ofString "single"] q then u q else m₀ q) [(Str.ofString "pages", Value.ref lp), (Str.ofString "row", Value.ref lr), (Str.ofString "blocks", Value.ref lb), (Str.ofString "fronts", Value.ref lf)]; Fr h₀ L h m₂ → News h₀ L h ((lb, listOf ab nb) :: (lf, listOf af nf) :: (lp, listOf vp np) :: (lr, listOf vr.toArray nr) :: (c2, os) :: (c3, ox) :: (I2, oI2) :: ls) → Q .next { s with heap := h, toks := tk }) :
    wpAny (model prog w) A (pyIter (.ref r)) (fun it s₂ => TurnsAt prog w A h₀ env (.Name x pos) body Q E it s₂) E s := by
  subst eL
  have hn := rng_in z1 z2
  refine rng_J (n := 6 / z) (fun c : BlS => (lb, listOf c.ab c.nb) :: (lf, listOf c.af c.nf) :: (lp, listOf vp np) :: (lr, listOf vr.toArray nr) :: (c2, os) :: (c3, c.ox) :: (I2, oI2) :: ls) (fun _ => [(Str.ofString "pages", Value.ref lp), (Str.ofString "row", Value.ref lr), (Str.ofString "blocks", Value.ref lb), (Str.ofString "fronts", Value.ref lf)]) (Bl3 ns i z) [Str.ofString "single"] ⟨os, ox, ab, af, nb, nf⟩
    hh hr hn.1 hn.2 F N ⟨hL.1, hL.2.1, hL.2.2.1, hL.2.2.2.1, hL.2.2.2.2.1, hL.2.2.2.2.2.1, hL.2.2.2.2.2.2.1, SubL.of hls⟩ ⟨h3, by rw [hab]; simp [blkIn], by rw [haf]; simp [frIn], hs1, hs2⟩ (List.forall_mem_cons.mpr ⟨k1, List.forall_mem_cons.mpr ⟨k2, List.forall_mem_cons.mpr ⟨k3, List.forall_mem_cons.mpr ⟨k4, List.forall_mem_nil _⟩⟩⟩⟩) ?_ ?_
  · intro j ⟨_, ox, ab, af, nb, nf⟩ t u oI I h tk Q₁ hi hI hF ho m₂ F9 N9 hQ
    have hm := fun p hp => hI p (hL.mem p hp)
    have e : (0 : Int) + (j : Int) * (z : Int) = ((j * z : Nat) : Int) := by rw [Int.zero_add, Int.natCast_mul]
    rw [e]
    obtain ⟨f1, f2, f3, f4, f5⟩ := hF
    have hq := in_le z1 z2 hi
    exact turn Q₁ E u m₀ j (j * z) ox ab af nb nf t oI I h tk ho hq.2 rfl hq.1 ⟨hm _ (.head _), hm _ (.tail _ (.head _)), hm _ (.tail _ (.tail _ (.head _))), hm _ (.tail _ (.tail _ (.tail _ (.head _)))), hm _ (.tail _ (.tail _ (.tail _ (.tail _ (.head _))))), hm _ (.tail _ (.tail _ (.tail _ (.tail _ (.tail _ (.head _)))))), hm _ (.tail _ (.tail _ (.tail _ (.tail _ (.tail _ (.tail _ (.head _)))))))⟩ f1 f2 f3 f4 f5 F9 N9 (fun s' q => hQ .next s' q)
  · intro ⟨_, ox, ab, af, nb, nf⟩ u h tk hF m₂ F9 N9
    obtain ⟨f1, f2, f3, f4, f5⟩ := hF
    have hz : z = 2 ∨ z = 3 ∨ z = 4 ∨ z = 5 := by omega
    have hq : 6 / z ≠ 0 ∧ 6 / z ≤ 3 := by rcases hz with rfl | rfl | rfl | rfl <;> decide
    refine done u ox ab af nb nf h tk f1 f2 ?_ (Nat.le_trans f4 (Nat.add_le_add_left hq.2 _)) (Nat.le_trans f5 (Nat.add_le_add_left hq.2 _)) F9 N9
    have f3' : af.toList = (frTo ns i ++ frIn ns z (6 / z)).map Value.bool := f3
    rw [f3', frIn, if_neg hq.1]
theorem turn2_end {ns : List Int} {lb lf lp lr c2 c3 L I : Addr} {h' : Heap} {tk np nr nb nf i z : Nat} {os ox oI : Obj} {vp ab af : Array Value} {vr : List Value} {ls nw : List (Addr × Obj)} {m₁ m' : Str → Option Value} {s₁ : Shared}
    (F : Fr h₀ L h' m') (N : News h₀ L h' nw) (hIn : (I, oI) ∈ nw) (hcI : oI.cls = .type "range_iterator") (hlt : (@LT.lt Nat _ lb I ∧ @LT.lt Nat _ lf I ∧ @LT.lt Nat _ lp I ∧ @LT.lt Nat _ lr I ∧ @LT.lt Nat _ c2 I ∧ @LT.lt Nat _ c3 I)) (hz : z = i + 2) (h2 : ∃ v, os.data = .cell v) (h3 : ∃ v, ox.data = .cell v)
    (hL : SubL [(lb, listOf ab nb), (lf, listOf af nf), (lp, listOf vp np), (lr, listOf vr.toArray nr), (c2, os), (c3, ox)] nw) (hls : ∀ p ∈ ls, p ∈ nw) (hc : ∀ p ∈ ls, p.2.cls ≠ .type "range_iterator")
    (hab : ab.toList = (blkTo ns i ++ blkIn ns z (6 / z)).map Value.bool) (haf : af.toList = (frTo ns i ++ [blockF (ns.take z) z]).map Value.bool) (hs1 : ab.size ≤ 3 * i + 3) (hs2 : af.size ≤ 3 * i + 3)
    (hp : ∀ p ∈ [(Str.ofString "pages", Value.ref lp), (Str.ofString "row", Value.ref lr), (Str.ofString "blocks", Value.ref lb), (Str.ofString "fronts", Value.ref lf)], m' p.1 = some p.2) (hm : ∀ q, (∀ p ∈ [(Str.ofString "pages", Value.ref lp), (Str.ofString "row", Value.ref lr), (Str.ofString "blocks", Value.ref lb), (Str.ofString "fronts", Value.ref lf)], q ≠ p.1) → List.contains [Str.ofString "single"] q = false → m' q = m₁ q) :
    UnrEndW h₀ L s₁ [(I, oI)] (fun m' n' => SubL [] n' ∧ JSt (fun c : BlS => (lb, listOf c.ab c.nb) :: (lf, listOf c.af c.nf) :: (lp, listOf vp np) :: (lr, listOf vr.toArray nr) :: (c2, c.os) :: (c3, c.ox) :: ls) (fun _ => [(Str.ofString "pages", Value.ref lp), (Str.ofString "row", Value.ref lr), (Str.ofString "blocks", Value.ref lb), (Str.ofString "fronts", Value.ref lf)]) (Bl2 ns) [Str.ofString "single"] m₁ (i + 1) m' n') { s₁ with heap := h', toks := tk } := by
  obtain ⟨g0, g1, g2, g3, g4, g5⟩ := hlt
  refine end_led (A6 := [(lb, listOf ab nb), (lf, listOf af nf), (lp, listOf vp np), (lr, listOf vr.toArray nr), (c2, os), (c3, ox)]) (ls := ls) F N hIn hcI (fun p hp => ?_) hL.mem hls hc ⟨⟨os, ox, ab, af, nb, nf⟩, SubL.of fun p hp => hp, ⟨h2, h3, ?_, ?_, by dsimp only; omega, by dsimp only; omega⟩, hp, hm⟩
  · simp only [List.mem_cons, List.not_mem_nil, or_false] at hp
    rcases hp with rfl | rfl | rfl | rfl | rfl | rfl <;> assumption
  · subst hz; exact hab
  · subst hz; exact haf
theorem turn3_end {ns : List Int} {lb lf lp lr c2 c3 L I I2 : Addr} {h' : Heap} {tk np nr nb' nf' i z j f : Nat} {os ox oI oI2 : Obj} {vp ab af af' : Array Value} {vr : List Value} {ls nw : List (Addr × Obj)} {m₁ m' : Str → Option Value} {s₁ : Shared}
    (F : Fr h₀ L h' m') (N : News h₀ L h' nw) (hIn : (I, oI) ∈ nw) (hcI : oI.cls = .type "range_iterator") (hlt : (@LT.lt Nat _ lb I ∧ @LT.lt Nat _ lf I ∧ @LT.lt Nat _ lp I ∧ @LT.lt Nat _ lr I ∧ @LT.lt Nat _ c2 I ∧ @LT.lt Nat _ c3 I ∧ @LT.lt Nat _ I2 I)) (hfj : f = j * z) (z1 : 2 ≤ z) (h3 : ∃ v, ox.data = .cell v)
    (hL : SubL [(lb, listOf (ab.push (.bool (blockF ((ns.drop f).take z) z))) nb'), (lf, listOf af' nf'), (lp, listOf vp np), (lr, listOf vr.toArray nr), (c2, os), (c3, ox), (I2, oI2)] nw) (hls : ∀ p ∈ ls, p ∈ nw) (hc : ∀ p ∈ ls, p.2.cls ≠ .type "range_iterator")
    (hab : ab.toList = (blkTo ns i ++ blkIn ns z j).map Value.bool) (haf : af.toList = (frTo ns i ++ frIn ns z j).map Value.bool) (hs1 : ab.size ≤ 3 * i + j) (hs2 : af.size ≤ 3 * i + j)
    (hf' : (f = 0 ∧ af' = af.push (.bool (blockF ((ns.drop f).take z) z))) ∨ (f ≠ 0 ∧ af' = af))
    (hp : ∀ p ∈ [(Str.ofString "pages", Value.ref lp), (Str.ofString "row", Value.ref lr), (Str.ofString "blocks", Value.ref lb), (Str.ofString "fronts", Value.ref lf)], m' p.1 = some p.2) (hm : ∀ q, (∀ p ∈ [(Str.ofString "pages", Value.ref lp), (Str.ofString "row", Value.ref lr), (Str.ofString "blocks", Value.ref lb), (Str.ofString "fronts", Value.ref lf)], q ≠ p.1) → List.contains [Str.ofString "single"] q = false → m' q = m₁ q) :
    UnrEndW h₀ L s₁ [(I, oI)] (fun m' n' => SubL [] n' ∧ JSt (fun c : BlS => (lb, listOf c.ab c.nb) :: (lf, listOf c.af c.nf) :: (lp, listOf vp np) :: (lr, listOf vr.toArray nr) :: (c2, os) :: (c3, c.ox) :: (I2, oI2) :: ls) (fun _ => [(Str.ofString "pages", Value.ref lp), (Str.ofString "row", Value.ref lr), (Str.ofString "blocks", Value.ref lb), (Str.ofString "fronts", Value.ref lf)]) (Bl3 ns i z) [Str.ofString "single"] m₁ (j + 1) m' n') { s₁ with heap := h', toks := tk } := by
  obtain ⟨g0, g1, g2, g3, g4, g5, g6⟩ := hlt
  refine end_led (A6 := [(lb, listOf (ab.push (.bool (blockF ((ns.drop f).take z) z))) nb'), (lf, listOf af' nf'), (lp, listOf vp np), (lr, listOf vr.toArray nr), (c2, os), (c3, ox), (I2, oI2)]) (ls := ls) F N hIn hcI (fun p hp => ?_) hL.mem hls hc ⟨⟨os, ox, ab.push (.bool (blockF ((ns.drop f).take z) z)), af', nb', nf'⟩, SubL.of fun p hp => hp, ⟨h3, ?_, ?_, ?_, ?_⟩, hp, hm⟩
  · simp only [List.mem_cons, List.not_mem_nil, or_false] at hp
    rcases hp with rfl | rfl | rfl | rfl | rfl | rfl | rfl <;> assumption
  · show (ab.push _).toList = _
    rw [Array.toList_push, hab, blkIn_succ, hfj, ← List.append_assoc, List.map_append (l₂ := [_])]
    rfl
  · show af'.toList = _
    have hj : f = 0 ↔ j = 0 := by
      rw [hfj]
      constructor
      · intro e
        rcases Nat.mul_eq_zero.mp e with e | e
        · exact e
        · omega
      · rintro rfl; exact Nat.zero_mul _
    rcases hf' with ⟨h0, rfl⟩ | ⟨h0, rfl⟩
    · have hj0 := hj.mp h0
      rw [Array.toList_push, haf, hj0, h0]
      simp [frIn]
    · have hj0 : j ≠ 0 := fun e => h0 (hj.mpr e)
      rw [haf, frIn, if_neg hj0, frIn, if_neg (Nat.succ_ne_zero j)]
  · show (ab.push _).size ≤ _
    rw [Array.size_push]
    omega
  · show af'.size ≤ _
    rcases hf' with ⟨h0, rfl⟩ | ⟨h0, rfl⟩
    · rw [Array.size_push]; omega
    · omega
end
/-- the pages' slices made so far -/
noncomputable def SlI (w : World) (ls : List (Addr × Obj)) (ns : List Int) (z : Nat) (as : List Addr) (N : List (Addr × Obj)) (j : Nat) (ys : List Value) (nw : List (Addr × Obj)) : Prop := ∃ new, nw = N ++ new ∧ Apart as new ∧ ys.length = j ∧ ∀ k, k < j → ∃ (pk : Addr) (wk : List Value) (nk : Nat), ys[k]? = some (.ref pk) ∧ (pk, listOf wk.toArray nk) ∈ new ∧ wk.length = z ∧ ∀ q, q < z → ∃ x, wk[q]? = some (.ref x) ∧ WsT w ls x ((ns.getD q 0).toNat + k)
theorem SlI.start {w : World} {ls N : List (Addr × Obj)} {ns ns0 : List Int} {z k0 : Nat} {as as0 : List Addr} {vs0 : List Value} (_ : Pg w ns0 as0 vs0 ls k0) (_ : Apart as ls) : SlI w ls ns z as N 0 [] N := ⟨[], (List.append_nil N).symm, .nil, rfl, fun j h => absurd h (Nat.not_lt_zero j)⟩
theorem pages_of {w : World} {ls new : List (Addr × Obj)} {ns : List Int} {z : Nat} {ys : List Value} (h : ∀ k, k < 6 → ∃ (pk : Addr) (wk : List Value) (nk : Nat), ys[k]? = some (.ref pk) ∧ (pk, listOf wk.toArray nk) ∈ new ∧ wk.length = z ∧ ∀ q, q < z → ∃ x, wk[q]? = some (.ref x) ∧ WsT w ls x ((ns.getD q 0).toNat + k)) : PagesT w (ls ++ new) ys ns z := fun k hk => by
  obtain ⟨pk, wk, nk, h1, h2, h3, h4⟩ := h k hk
  refine ⟨pk, wk, nk, h1, List.mem_append_right _ h2, h3, fun q hq => ?_⟩
  obtain ⟨x, e, W⟩ := h4 q hq
  exact ⟨x, e, W.mono fun p hp => List.mem_append_left _ hp⟩
theorem slice_end {w : World} {g h' : Heap} {L I C D D9 : Addr} {m : Str → Option Value} {oI oC : Obj} {s : Shared} {vs us : List Value} {S : List (Addr × Obj) → Prop} {N ls new : List (Addr × Obj)} {ns : List Int} {z j tk : Nat} {as : List Addr}
    (F : Fr g L h' m) (Nw : News g L h' ((D9, listOf us.toArray 0) :: (I, oI) :: (C, oC) :: (D, LCg.lst vs) :: (N ++ new))) (l9 : AllLt D9 ((I, oI) :: (C, oC) :: (D, LCg.lst vs) :: (N ++ new))) (off : LCg.Off3 I C D (N ++ new)) (hA : ∀ a ∈ as, ∃ o, (a, o) ∈ N)
    (ap : Apart as new) (hl : vs.length = j) (hws : ∀ k, k < j → ∃ (pk : Addr) (wk : List Value) (nk : Nat), vs[k]? = some (.ref pk) ∧ (pk, listOf wk.toArray nk) ∈ new ∧ wk.length = z ∧ ∀ q, q < z → ∃ x, wk[q]? = some (.ref x) ∧ WsT w ls x ((ns.getD q 0).toNat + k))
    (hS : ∀ nw, (∀ p ∈ N, p ∈ nw) → S nw) (hu : us.length = z) (hx : ∀ q, q < z → ∃ x, us[q]? = some (.ref x) ∧ WsT w ls x ((ns.getD q 0).toNat + j)) :
    LCg.CompEnd g L m s I oI C oC D (LCg.lst vs) S (fun y nw' => SlI w ls ns z as N (j + 1) (vs ++ [y]) nw') (.ref D9) { s with heap := h', toks := tk } := by
  have no := allLt_ne l9
  refine LCg.CompEnd.intro F Nw (N ++ ((D9, listOf us.toArray 0) :: new)) (fun p hp => ?_) (off3_of fun p hp => ?_) (hS _ fun p hp => List.mem_append_left _ hp) ⟨(D9, listOf us.toArray 0) :: new, rfl, Apart.cons ap (fun a ha e => ?_) list_no_it, by rw [List.length_append, hl]; rfl, fun k hk => ?_⟩
  · simp only [List.mem_cons, List.mem_append] at hp ⊢
    rcases hp with hp | hp | hp | hp | hp | hp <;> simp [hp]
  · rcases List.mem_append.mp hp with hp | hp
    · exact off.mem p (List.mem_append_left _ hp)
    · rcases List.mem_cons.mp hp with rfl | hp
      · exact ⟨fun e => no (I, oI) (by simp) e.symm, fun e => no (C, oC) (by simp) e.symm, fun e => no (D, LCg.lst vs) (by simp) e.symm⟩
      · exact off.mem p (List.mem_append_right _ hp)
  · obtain ⟨o, ho⟩ := hA a ha
    exact no (a, o) (by simp [ho]) e.symm
  · rcases Nat.lt_succ_iff_lt_or_eq.mp hk with hk | rfl
    · obtain ⟨pk, wk, nk, h1, h2, h3⟩ := hws k hk
      exact ⟨pk, wk, nk, by rw [List.getElem?_append_left (by rw [hl]; exact hk)]; exact h1, List.mem_cons_of_mem _ h2, h3⟩
    · exact ⟨D9, us, 0, by rw [List.getElem?_append_right (by rw [hl]; exact Nat.le_refl _), hl, Nat.sub_self]; rfl, .head _, hu, hx⟩
theorem pick_fz (vs : List Value) (f z : Nat) : kms_pick vs (some (f : Int)) (some ((f : Int) + (z : Int))) = (vs.drop f).take z := by
  unfold kms_pick kms_lo kms_hi
  simp only [if_neg (show ¬ (f : Int) < 0 by omega), if_neg (show ¬ ((f : Int) + (z : Int)) < 0 by omega)]
  have e1 : ((f : Int) + (z : Int)).toNat = f + z := by omega
  have e2 : (f : Int).toNat = f := by omega
  rw [e1, e2]
  apply List.ext_getElem?
  intro i
  simp only [List.getElem?_take, List.getElem?_drop]
  by_cases h1 : f ≤ vs.length
  · rw [Nat.min_eq_left h1]
    by_cases h2 : i < z
    · rw [if_pos h2]
      by_cases h3 : f + z ≤ vs.length
      · rw [Nat.min_eq_left h3, if_pos (by omega)]
      · rw [Nat.min_eq_right (by omega)]
        by_cases h4 : i < vs.length - f
        · rw [if_pos h4]
        · rw [if_neg h4, List.getElem?_eq_none (by omega)]
    · rw [if_neg h2, if_neg (by omega)]
  · rw [if_neg (by omega)]
    by_cases h2 : i < z
    · rw [if_pos h2, List.getElem?_eq_none (by omega)]
    · rw [if_neg h2]
theorem ints_take : ∀ {us : List Value} {ns : List Int} (n : Nat), IntsAre us ns → IntsAre (us.take n) (ns.take n)
  | _, _, 0, _ => by simpa using IntsAre.nil
  | _, _, _ + 1, .nil => by simpa using IntsAre.nil
  | _, _, n + 1, .cons y t h => by
    rw [List.take_succ_cons, List.take_succ_cons]
    exact .cons y t (ints_take n h)
theorem ints_drop : ∀ {us : List Value} {ns : List Int} (n : Nat), IntsAre us ns → IntsAre (us.drop n) (ns.drop n)
  | _, _, 0, h => by simpa using h
  | _, _, _ + 1, .nil => by simpa using IntsAre.nil
  | _, _, n + 1, .cons y t h => by
    rw [List.drop_succ_cons, List.drop_succ_cons]
    exact ints_drop n h
theorem slice_fz {prog : Program} {w : World} {A : Around} {E : Value → Shared → Prop} {s : Shared} {Q : Value → Shared → Prop} {value slice : Expr} {h₀ : Heap} {L l : Addr} {m : Str → Option Value} {news : List (Addr × Obj)} {vs : List Value} {n f z : Nat} {t t' : Tok}
    (F : Fr h₀ L s.heap m) (N : News h₀ L s.heap news) (hm : (l, listOf vs.toArray n) ∈ news) (hz : vs.length = 6)
    (h : ∀ D h', Fr h₀ L h' m → News h₀ L h' ((D, listOf (List.toArray ((vs.drop f).take z)) 0) :: news) → (∀ p ∈ news, p.1 < D) → Q (.ref D) { s with heap := h' })
    (hs : subscripted slice false (.ref l) (.ref s.heap.objs.size) = operate [.ref s.heap.objs.size, .ref l] (getItem (.ref l) (.ref s.heap.objs.size))) (ht : ∀ r, letTemporaryGo value (.ref l) r = pure ()) :
    wpAny (model prog w) A (subscriptTail value slice (.ref l) (.ref s.heap.objs.size)) Q E { s with heap := s.heap.push { cls := .type "slice", data := .fields #[.int (f : Int) t, .int ((f : Int) + (z : Int)) t', .none] } } :=
  kms_slice_lit F N (N.isList hm) (IsPart.int _ _) (IsPart.int _ _) (pick_fz _ _ _) h hs ht (by rw [List.size_toArray, sizeLine_eq]; omega)
theorem page_slice {w : World} {ls : List (Addr × Obj)} {ns : List Int} {wk : List Value} {f z j : Nat} (hl : wk.length = 6) (hw : ∀ q, q < 6 → ∃ x, wk[q]? = some (.ref x) ∧ WsT w ls x ((ns.getD q 0).toNat + j)) (hf : f + z ≤ 6) :
    ((wk.drop f).take z).length = z ∧ ∀ q, q < z → ∃ x, ((wk.drop f).take z)[q]? = some (.ref x) ∧ WsT w ls x ((((ns.drop f).take z).getD q 0).toNat + j) := by
  refine ⟨by rw [List.length_take, List.length_drop, hl]; omega, fun q hq => ?_⟩
  obtain ⟨x, e, W⟩ := hw (f + q) (by omega)
  refine ⟨x, ?_, ?_⟩
  · rw [List.getElem?_take, if_pos hq, List.getElem?_drop]; exact e
  · have e2 : ((ns.drop f).take z).getD q 0 = ns.getD (f + q) 0 := by
      rw [List.getD_eq_getElem?_getD, List.getElem?_take, if_pos hq, List.getElem?_drop, List.getD_eq_getElem?_getD]
    rw [e2]; exact W
theorem pg_at {w : World} {ns : List Int} {as : List Addr} {vp : Array Value} {ls : List (Addr × Obj)} {k : Nat} {v : Value} (h : Pg w ns as vp.toList ls 6) (hv : vp[k]? = some v) : k < 6 ∧ ∃ (pk : Addr) (wk : List Value) (nk : Nat), v = .ref pk ∧ (pk, listOf wk.toArray nk) ∈ ls ∧ wk.length = 6 ∧ ∀ j, j < 6 → ∃ x, wk[j]? = some (.ref x) ∧ WsT w ls x ((ns.getD j 0).toNat + k) := by
  have hv' : vp.toList[k]? = some v := by simpa using hv
  have hk : k < 6 := by have := (List.getElem?_eq_some_iff.mp hv').1; rw [h.len] at this; exact this
  obtain ⟨v', e, hp⟩ := h.pg k hk
  rw [hv'] at e
  cases e
  exact ⟨hk, hp⟩
theorem dis_of {lc D : Addr} {as : List Addr} {tl r : List (Addr × Obj)} {oc od : Obj} (h1 : Apart (lc :: as) tl) (h2 : LCg.Off1 D r) (h3 : ∀ p ∈ tl, p ∈ r) : ∀ p ∈ tl, ∀ q ∈ [(lc, oc), (D, od)], p.1 ≠ q.1 := fun p hp q hq => by
  simp only [List.mem_cons, List.not_mem_nil, or_false] at hq
  rcases hq with rfl | rfl
  · exact h1.h p hp lc (.head _)
  · exact off1_mem h2 p (h3 p hp)
theorem two_mem {h₀ h : Heap} {L : Addr} {news : List (Addr × Obj)} {p q : Addr × Obj} (N : News h₀ L h news) (hp : p ∈ news) (hq : q ∈ news) : News h₀ L h [p, q] := fun r hr => by
  simp only [List.mem_cons, List.not_mem_nil, or_false] at hr
  rcases hr with rfl | rfl
  · exact N _ hp
  · exact N _ hq
theorem take_mem {ns : List Int} {f z : Nat} {P : Int → Prop} (h : ∀ y ∈ ns, P y) : ∀ y ∈ (ns.drop f).take z, P y := fun y hy => h y (List.mem_of_mem_drop (List.mem_of_mem_take hy))
theorem take_len {ns : List Int} {f z : Nat} (hn : ns.length = 6) (h : f + z ≤ 6) : ((ns.drop f).take z).length = z := by rw [List.length_take, List.length_drop, hn]; omega
theorem reads_bools {h : Heap} : ∀ bs : List Bool, ReadsAll h (bs.map Value.bool) (bs.map PyData.bool) []
  | [] => .nil
  | b :: bs => .cons (Reads.bool b) (reads_bools bs)
theorem lay_bools : ∀ bs : List Bool, PyData.canLayAll0 (bs.map PyData.bool) = true ∧ PyData.depthAll (bs.map PyData.bool) = 0
  | [] => ⟨rfl, rfl⟩
  | b :: bs => by
    have ih := lay_bools bs
    rw [List.map_cons]
    refine ⟨?_, ?_⟩
    · show (PyData.canLay0 (.bool b) && PyData.canLayAll0 (bs.map PyData.bool)) = true
      rw [ih.1]; rfl
    · show max (PyData.depth (.bool b)) (PyData.depthAll (bs.map PyData.bool)) = 0
      rw [ih.2]; rfl
theorem any_bools : ∀ bs : List Bool, ((bs.map PyData.bool).any fun y => PyData.eqv y (.bool false)) = !(bs.all id)
  | [] => rfl
  | b :: bs => by
    rw [List.map_cons, List.any_cons, any_bools bs, List.all_cons]
    cases b <;> simp [PyData.eqv]
section
variable {prog : Program} {w : World} {A : Around} {E : Value → Shared → Prop} {s : Shared} {Q : Value → Shared → Prop} {h₀ : Heap} {L a c : Addr} {m : Str → Option Value} {news : List (Addr × Obj)}
theorem notin_bools {ab : Array Value} {n : Nat} {bs : List Bool} {r : Bool} (N : News h₀ L s.heap news) (hm : (a, listOf ab n) ∈ news) (hab : ab.toList = bs.map Value.bool) (hr : bs.all id = r) (hu : A.units + 64 < cLine) (h : Q (.bool r) s) : wpAny (model prog w) A (compareOp .NotIn (.bool false) (.ref a)) Q E s := by
  have hl := lay_bools bs
  refine SeqAt.notIn_list_reads (reads_list_at (N _ hm).1 rfl rfl (hab ▸ reads_bools bs)) (Reads.bool false) hl.1 rfl ?_ ?_
  · rw [hl.2]; omega
  · rw [any_bools, Bool.not_not, hr]; exact h
theorem eq_bools3 {na nc : Nat} {b : Bool} (N : News h₀ L s.heap news) (ha : (a, listOf (List.toArray [.bool b, .bool b, .bool b]) na) ∈ news) (hc : (c, listOf (List.toArray [.bool b, .bool b, .bool b]) nc) ∈ news) (hu : A.units + 64 < cLine) (h : Q (.bool true) s) : wpAny (model prog w) A (compareOp .Eq (.ref a) (.ref c)) Q E s := by
  refine eq_dataH (reads_list_at (N _ ha).1 rfl rfl (reads_bools [b, b, b])) (reads_list_at (N _ hc).1 rfl rfl (reads_bools [b, b, b])) ?_ ?_ hu ?_
  · cases b <;> decide
  · cases b <;> decide
  · have e : PyData.eqv (.list ([b, b, b].map PyData.bool)) (.list ([b, b, b].map PyData.bool)) = true := by cases b <;> decide
    rw [e]; exact h
end
end Mine
end
section
open PySem PySem.W PyProof.Rows PySem.Challenge PySem.Calls PySem.Spec PyProof.V
namespace Mine
theorem fmod_nn (a b : Int) (h : 0 < b) : 0 ≤ a.fmod b := Int.fmod_nonneg_of_pos a h
theorem fmod_lt (a b : Int) (h : 0 < b) : a.fmod b < b := Int.fmod_lt_of_pos a h
theorem t0 : PySem.Challenge.rw_sc0082_01.Holds := hd (by
  k_with_none
  w_top off
  (k_with "k_ne" => ((try dsimp only); first
  | exact off1_at (by with_reducible assumption) (by k_mem)
  | exact Ne.symm (off1_at (by with_reducible assumption) (by k_mem))
  | exact newoff_at (by with_reducible assumption) (by k_mem)
  | exact Ne.symm (newoff_at (by with_reducible assumption) (by k_mem))))
  (k_with "k_ne" => ((try dsimp only); (rename Six _ _ _ _ _ _ => whSix); first
  | exact whSix.pm | exact whSix.pr | exact whSix.p1 | exact whSix.p2 | exact whSix.p3 | exact whSix.m1 | exact whSix.m2 | exact whSix.m3 | exact whSix.r1 | exact whSix.r2 | exact whSix.r3 | exact whSix.a12 | exact whSix.a13 | exact whSix.a23
  | exact whSix.pm.symm | exact whSix.pr.symm | exact whSix.p1.symm | exact whSix.p2.symm | exact whSix.p3.symm | exact whSix.m1.symm | exact whSix.m2.symm | exact whSix.m3.symm | exact whSix.r1.symm | exact whSix.r2.symm | exact whSix.r3.symm | exact whSix.a12.symm | exact whSix.a13.symm | exact whSix.a23.symm))
  (k_with "k_all" => exact Apart.all (by with_reducible assumption) (by k_mem))
  (k_with "k_ne" => ((try dsimp only); (rename Dis6 _ _ _ _ _ _ => whDis6); first
  | exact whDis6.ab | exact whDis6.ac | exact whDis6.ad | exact whDis6.ae | exact whDis6.af | exact whDis6.bc | exact whDis6.bd | exact whDis6.be | exact whDis6.bf | exact whDis6.cd | exact whDis6.ce | exact whDis6.cf | exact whDis6.de | exact whDis6.df | exact whDis6.ef
  | exact whDis6.ab.symm | exact whDis6.ac.symm | exact whDis6.ad.symm | exact whDis6.ae.symm | exact whDis6.af.symm | exact whDis6.bc.symm | exact whDis6.bd.symm | exact whDis6.be.symm | exact whDis6.bf.symm | exact whDis6.cd.symm | exact whDis6.ce.symm | exact whDis6.cf.symm | exact whDis6.de.symm | exact whDis6.df.symm | exact whDis6.ef.symm))
  (k_with "storeName" => (k_here; k_dflt (first | (refine storeX_i (by k_asm) (by k_asm) ?_ (by rfl) (by rfl); k_whole; intro wh' wtk' wt' wm' wF' wN') | (refine storeX_s (by k_asm) (by k_asm) ?_ (by rfl) (by rfl); k_whole; intro wh' wtk' wt' wm' wF' wN') | (refine storeX_f (by k_asm) (by k_asm) ?_ (by rfl) (by rfl); k_whole; intro wh' wtk' wt' wm' wF' wN') | (refine storeX_v (by k_asm) (by k_asm) ?_ (by rfl) (by rfl); k_whole; intro wh' wtk' wm' wF' wN')); (try k_sweep)))
  (k_with "subscriptTail Name Slice ref ref" => ((with_reducible show wpAny _ _ (subscriptTail _ (PySem.Expr.Slice (some _) none (some _) _) (Value.ref _) (Value.ref _)) _ _ _); k_dflt (refine slice_step (by k_asm) (by k_asm) (News.isList (by k_asm) (by k_mem)) (by with_reducible assumption) (IsPart.int _ _) IsPart.none (IsPart.int _ _) (by decide) (by (try simp only [List.length_map, List.length_take] at *); omega) ?_ (by with_unfolding_all rfl) (by intro _; with_unfolding_all rfl)); intro wD9 wus9 wms9 wh9 wF9 wN9 wl9 whI9; (try k_lt wl9)))
  (k_with "call ref" => ((with_reducible show wpAny _ _ (call (Value.ref 174) _) _ _ _); (rename Fr _ _ _ _ => wlF); (rename News _ _ _ _ => wlN); (rename RowOk _ => whRow); k_dflt (refine wcall (mails (by k_asm) wlF (by k_asm) (one_mem wlN (by k_mem)) (by k_asm) rfl rfl (by assumption) whRow.len whRow.r (fmod_nn _ _ (by decide)) (fmod_lt _ _ (by decide)) (by decide) (by decide) (fun wr9 wvs9 wn9 wh9 wtk9 wk9 whn9 whr9 whS9 => ?_))); (have wF9 := wlF.keeps wk9); k_dflt (have wN9 := news_new wlF wlN wk9 whn9 whr9); k_dflt (have wl9 := new_off wlN whn9); clear wlF wlN wk9 whr9 whn9; (try dsimp only)))
  (k_with "call ref" => ((with_reducible show wpAny _ _ (call (Value.ref 167) _) _ _ _); (rename Fr _ _ _ _ => wlF); (rename News _ _ _ _ => wlN); k_dflt (refine wcall (rowx (by k_asm) wlF (by k_asm) News.nil (by k_asm) rfl rfl (fmod_nn _ _ (by decide)) (fmod_lt _ _ (by decide)) (fmod_nn _ _ (by decide)) (fmod_lt _ _ (by decide)) (fmod_nn _ _ (by decide)) (fmod_lt _ _ (by decide)) (by decide) (by decide) (fun wr9 wvs9 wn9 wh9 wtk9 wk9 whn9 whr9 whI9 => ?_))); (obtain ⟨wns9, whI9, whR9⟩ := row_law (fmod_nn _ _ (by decide)) (fmod_lt _ _ (by decide)) (fmod_nn _ _ (by decide)) (fmod_lt _ _ (by decide)) (fmod_nn _ _ (by decide)) (fmod_lt _ _ (by decide)) whI9); (have wF9 := wlF.keeps wk9); k_dflt (have wN9 := news_new wlF wlN wk9 whn9 whr9); k_dflt (have wl9 := new_off wlN whn9); clear wlF wlN wk9 whr9 whn9; (try dsimp only)))
  (k_with "binaryOp Mult str int" => ((with_reducible show wpAny _ _ (binaryOp _ (Value.str _ _) (Value.int _ _)) _ _ _); k_dflt (refine op_mul (by omega) (by omega) (fun wt9 wk9 => ?_))))
  (k_with "binaryOp Add str str" => ((with_reducible show wpAny _ _ (binaryOp _ (Value.str _ _) (Value.str _ _)) _ _ _); k_dflt (refine op_add (by first | exact rfl | assumption) (by first | exact lit_tab | exact lit_crlf | exact rfl) (by (try simp only [List.length_append, List.length_replicate, List.length_cons, List.length_nil]); first | omega | exact Nat.le_trans (Nat.add_le_add_left (eolL_len _) _) (by omega)) (fun wt9 wk9 => ?_))))
  (k_with "subscriptTail" => ((with_reducible show wpAny _ _ (subscriptTail _ _ (Value.str _ _) (Value.int (_ - _) _)) _ _ _); k_dflt (refine op_letter (by omega) (by omega) (fun wt9 wk9 => ?_))))
  (k_with "eval ListComp" => (k_here; k_dflt (refine LCg.ListComp_U (F₀ := by k_asm) (by with_unfolding_all rfl) (by decide) (by rfl) (by decide) (by rfl) ?_)))
  (k_with "eval ListComp" => ((with_reducible show wpAny _ _ (eval (Expr.ListComp _ [⟨Expr.Tuple _ _ _, _, _, _⟩] _ _) _) _ _ _); refine of_stop ?_))
  (k_with "CompRest" => (k_here; refine of_stop ?_))
  (k_with "CompEnd" => ((have whRG := (by assumption : RowOk _)); clear whRG; refine of_stop ?_))
  (k_with "CompSrc" => (k_here; k_dflt (refine LCg.CompSrc.base (by rfl) (by k_asm) (by k_asm) (by assumption) (by rw [List.size_toArray, sizeLine_eq]; omega) ?_); intro wg'))
  (k_with "CompSrc" => (k_here; k_dflt (refine LCg.CompSrc.ledger (by rfl) (by k_asm) (by k_asm) (by k_mem) (by rw [List.size_toArray, sizeLine_eq]; (try simp only [List.length_take, List.length_cons, List.length_nil]); omega) ?_); intro wg'))
  (k_with "FinE" => ((unfold LCg.FinE); intro wD' wh' wtk' wF' wN' wo1'; (try simp only [List.nil_append, List.cons_append] at wN'); (try dsimp only)))
  (k_with "subscriptTail Name Name ref int" => ((with_reducible show wpAny _ _ (subscriptTail _ _ (Value.ref _) (Value.int (Nat.cast _) _)) _ _ _); k_dflt (refine mail_item (by k_asm) (by k_mem) (by with_reducible assumption) (by assumption) (fun wt9 => ?_))))
  (k_with "call builtin:str.join" => ((rename RowOk _ => whRw); k_dflt (refine join_call (by k_asm) (by k_mem) (by with_reducible assumption) whRw.len whRw.r (by assumption) ?_); intro wl9 wt9 wk9 we9 wz9 wy9))
  (k_with "binaryOp Add str str" => ((rename (_ = mailS _ _) => whE); k_dflt (refine op_addx (by assumption) (by assumption) (fun wt9 wk9 whk9 => ?_)); (rw [whE]); clear whE))
  (k_with "call builtin:str.replace" => ((rename RowOk _ => whRw); k_dflt (refine repl_call whRw.len whRw.r (by assumption) (by first | assumption | exact Nat.succ_ne_zero _) (by first | assumption | exact Nat.succ_ne_zero _) (by exact Nat.ne_of_lt (Nat.lt_succ_self _)) (fun wt9 wk9 => ?_))))
  (k_with "call builtin:str.split" => ((rename RowOk _ => whRw); k_dflt (refine split_call (by k_asm) (by k_asm) whRw.len whRw.r (by assumption) ?_); intro wD9 wus9 wh9 wk9 whS9 whl9 wF9 wN9 wl9; (try k_lt wl9)))
  (k_with "subscriptTail Call Attribute cons nil Slice ref ref" => (k_dflt (refine kba_turn (value' := PySem.Expr.Name (PySem.Str.ofString "_") ⟨0, 0, 0, 0⟩) (fun _ => rfl) ?_); k_dflt (refine slice6_call (by k_asm) (by k_asm) (by k_mem) (by with_reducible assumption) (by with_reducible assumption) ?_ (by with_unfolding_all rfl) (fun _ => rfl)); intro wD9 wxs9 wh9 whS9 whl9 wF9 wN9 wl9; (try k_lt wl9)))
  (k_with "call builtin:list.append" => ((with_reducible show wpAny _ _ (call (Value.builtin _) [Value.ref _, _]) _ _ _); k_dflt (refine' append_K ?k1 ?k2 ?k3 ?_ ?z; (case k1 => k_asm); (case k2 => k_asm); (case k3 => k_upd); (case z => rw [sizeLine_eq]; omega); k_whole); intro wh9 wF9 wN9))
  (k_with "call ref" => ((with_reducible show wpAny _ _ (call (Value.ref 156) [Value.str ⟨_⟩ _]) _ _ _); (rename Fr _ _ _ _ => wlF); (rename News _ _ _ _ => wlN); k_dflt (refine wcall (wsp (by k_asm) wlF (by k_asm) News.nil (by k_asm) rfl rfl (by assumption) (by assumption) (by assumption) (by assumption) (by decide) (by decide) (fun wv9 wh9 wtk9 wk9 whW9 => ?_))); (try dsimp only); refine of_stop ?_))
  (k_with "subscriptTail Name Slice ref ref" => ((with_reducible show wpAny _ _ (subscriptTail _ (PySem.Expr.Slice (some _) (some _) none _) (Value.ref _) (Value.ref _)) _ _ _); k_dflt (refine slice_fz (by k_asm) (by k_asm) (by first | k_mem | (repeat (first | exact List.mem_append_left _ (by assumption) | refine List.mem_cons_of_mem _ ?_))) (by assumption) ?_ (by with_unfolding_all rfl) (by intro _; with_unfolding_all rfl)); intro wD9 wh9 wF9 wN9 wl9; (try k_lt wl9)))
  (k_with "CompSrc" => (k_here; k_dflt (refine LCg.CompSrc.ledger (by rfl) (by k_asm) (by k_asm) (by k_mem) (by rw [sizeLine_eq]; omega) ?_); intro wg'))
  (k_with "call ref" => ((with_reducible show wpAny _ _ (call (Value.ref 179) _) _ _ _); refine of_stop ?_))
  (k_with "call ref" => ((with_reducible show wpAny _ _ (call (Value.ref 191) _) _ _ _); (rename Fr _ _ _ _ => wlF); (rename News _ _ _ _ => wlN); k_dflt (refine wcall (riff (by with_reducible assumption) (by assumption) (by k_asm) wlF (by k_asm) (one_mem wlN (by k_mem)) (by k_asm) rfl rfl (by decide) (by decide) (fun wh9 wtk9 wk9 => ?_))); (have wF9 := wlF.keeps wk9); k_dflt (have wN9 := wlN.grown wk9); clear wlF wlN wk9; (try dsimp only)))
  (k_with "call ref" => ((with_reducible show wpAny _ _ (call (Value.ref 186) _) _ _ _); (rename Fr _ _ _ _ => wlF); (rename News _ _ _ _ => wlN); (rename RowOk _ => whRw); k_dflt (refine wcall (ends (by k_asm) wlF (by k_asm) (one_mem wlN (by k_mem)) (by k_asm) rfl rfl (by with_reducible assumption) (by assumption) (by decide) (by decide) (fun wh9 wtk9 wk9 => ?_))); (have wF9 := wlF.keeps wk9); k_dflt (have wN9 := wlN.grown wk9); clear wlF wlN wk9; (rw [whRw.ends]); (try dsimp only [optV])))
  (k_with "compareOp NotIn" => ((try dsimp only); (rename RowOk _ => whRw); k_dflt (first
  | refine notin_bools (by k_asm) (by k_mem) (by assumption) whRw.bl (by ke_room) ?_
  | refine notin_bools (by k_asm) (by k_mem) (by assumption) whRw.fr (by ke_room) ?_)))
  (k_with "compareOp Eq ref ref" => k_dflt (refine eq_bools3 (by k_asm) (by k_mem) (by k_mem) (by ke_room) ?_))
  k_go0
  (k_with "exec For Name Call cons nil" => (k_here; (rename Fr _ _ _ _ => lF'); (with_unfolding_all refine' For_turns lF' ?_); k_whole))
  k_steps
  (rename RowOk _ => hRow); (rename IsRange _ _ _ _ _ _ _ _ => lR'); (rename Fr _ _ _ _ => lF'); (rename News _ _ _ _ => lN')
  (rename StrsAre _ _ => hS); (rename IntsAre _ _ => hI)
  refine loop1 (by rfl) lR' lF' lN' rfl rfl rfl rfl hRow hI hS rfl rfl rfl ⟨by k_mem, by k_mem, by k_mem, by k_mem, by k_mem, by k_mem, trivial⟩ (by constructor <;> first | k_ne | fail "six") ⟨_, by assumption⟩ ⟨_, by assumption⟩ ⟨_, by assumption⟩ ?turn1 ?done1
  all_goals (repeat ((rename _ ∧ _ => q9); clear q9))
  all_goals (repeat ((rename NewOff _ _ => q9); clear q9))
  all_goals (repeat ((rename IntsAre _ _ => q9); clear q9))
  all_goals clear hRow hS
  all_goals clear lF' lN' lR'
  case turn1 =>
    intro Q7 E7 lp lm lr ns vm vr nm nr m₁ i o vs nn ls t oI I h9 tk9 hRow hI hS hi hcI hSix hIlt ⟨v0, hv0⟩ hPg m₂ F9 N9 hQ7
    have hvs : vs.size ≤ 6 := by have := hPg.len; rw [Array.length_toList] at this; omega
    have hap := hPg.ap
    have hvr := hI.length.trans hRow.len
    k_steps
    unfold Stop
    refine compRest_ind (StrI _ (lineS ns i)) StrI.zero ?_ ?_
    · intro j ys nw hj hINV v I8 oI8 C8 oC8 D8 m8 h8 tk8 E8 Q8c hv hC8 hx8 F8 N8 off8 ne8 hQ8c e8c
      obtain ⟨rfl, hys⟩ := hINV
      obtain ⟨y, t8, rfl, hny⟩ := intAt hI hv
      have hyd : ns.getD j 0 = y := by rw [List.getD_eq_getElem?_getD, hny]; rfl
      have hy := hRow.r _ (List.mem_of_getElem? hny)
      k_steps
      refine hQ8c _ _ ?_
      (rename Fr _ _ _ _ => F7); (rename News _ _ _ _ => N7)
      exact LCg.CompEnd.intro F7 N7 _ (fun p hp => hp) off8 (.inr ⟨_, by k_mem, rfl, _, rfl⟩) (StrI.succ hys (by unfold lineS; rw [hyd, show (y + (i : Int)).toNat = y.toNat + i by omega]))
    · intro ys nw hINV
      obtain ⟨rfl, hys⟩ := hINV
      have hsz : vr.toArray.size = 6 := by rw [List.size_toArray, hI.length, hRow.len]
      rw [hsz] at hys
      k_steps
      all_goals first | (exfalso; (rename (_ != _) = true => hb); exact bne_self9 hb) | skip
      unfold Stop
      (rename StrsAre _ (List.map mkS _) => hX); (rename RowOk _ => hRow)
      refine compRest_ind (WsI _ _ i _ _) (WsI.start hPg) ?_ ?_
      · intro j ys nw hj hINV v I8 oI8 C8 oC8 D8 m8 h8 tk8 E8 Q8c hv hC8 hx8 F8 N8 off8 ne8 hQ8c e8c
        obtain ⟨new, rfl, hap8, hyl, hws⟩ := hINV
        obtain ⟨x, t8, rfl, hx⟩ := strAt hX hv
        obtain ⟨hj6, rfl⟩ := line_at hx
        have hy := hRow.r _ (getD_mem9 (ns := ns) (i := j) (by rw [hRow.len]; exact hj6))
        have q1 : 1 ≤ (ns.getD j 0).toNat + i := by omega
        have q2 : (ns.getD j 0).toNat + i ≤ 11 := by omega
        have q3 : 97 ≤ 96 + (ns.getD j 0).toNat := by omega
        have q4 : 96 + (ns.getD j 0).toNat ≤ 102 := by omega
        clear hv hx
        k_steps
        unfold Stop
        refine hQ8c _ _ ?_
        (rename WsAt _ _ _ _ _ => hW9); (rename Fr _ _ _ _ => F8); (rename News _ _ _ _ => N8)
        exact ws_end F8 N8 off8 (List.forall_mem_cons.mpr ⟨⟨_, by k_mem⟩, List.forall_mem_cons.mpr ⟨⟨_, by k_mem⟩, List.forall_mem_cons.mpr ⟨⟨_, by k_mem⟩, List.forall_mem_cons.mpr ⟨⟨_, by k_mem⟩, List.forall_mem_cons.mpr ⟨⟨_, by k_mem⟩, List.forall_mem_cons.mpr ⟨⟨_, by k_mem⟩, List.forall_mem_nil _⟩⟩⟩⟩⟩⟩) hap8 hyl hws (fun nw hs => .inr ⟨_, hs _ (by k_mem), rfl, _, rfl⟩) (by assumption) hW9
      · intro ys nw hINV
        obtain ⟨new, rfl, hap8, hyl, hws⟩ := hINV
        (rename _ = 6 => h6)
        rw [List.size_toArray, h6] at hyl hws
        have hap2 := hap.app hap8
        k_steps
        refine hQ7 _ ?_
        (rename LCg.Off1 _ _ => hO)
        simp only [List.cons_append] at hO
        (rename Fr _ _ _ _ => F7); (rename News _ _ _ _ => N7)
        exact turn1_end F7 N7 (by k_mem) hcI hIlt hPg ⟨_, by assumption⟩ hap8 hyl hws hO (List.forall_mem_cons.mpr ⟨⟨_, by k_mem⟩, List.forall_mem_cons.mpr ⟨⟨_, by k_mem⟩, List.forall_mem_cons.mpr ⟨⟨_, by k_mem⟩, List.forall_mem_cons.mpr ⟨⟨_, by k_mem⟩, List.forall_mem_cons.mpr ⟨⟨_, by k_mem⟩, List.forall_mem_cons.mpr ⟨⟨_, by k_mem⟩, List.forall_mem_nil _⟩⟩⟩⟩⟩⟩) (List.forall_mem_cons.mpr ⟨by k_mem, fun p hp => by repeat (first | exact hp | refine List.mem_cons_of_mem _ ?_)⟩) ⟨by k_mem, by k_mem, by k_mem, by k_mem, by k_mem, by k_mem, trivial⟩ (List.forall_mem_cons.mpr ⟨rfl, List.forall_mem_cons.mpr ⟨rfl, List.forall_mem_cons.mpr ⟨rfl, List.forall_mem_nil _⟩⟩⟩) kst_off
  case done1 =>
    intro lp lm lr ns vm vr nm nr m₁ o vp np ls h9 tk9 hRow hI hSix ⟨v1, hv1⟩ hc2 hc3 hPg m₂ F9 N9
    (try dsimp only)
    k_steps
    (rename IsRange _ _ _ _ _ _ _ _ => lR'); (rename Fr _ _ _ _ => lF'); (rename News _ _ _ _ => lN')
    (rename (_ ∧ _ ∧ _ ∧ _ ∧ _ ∧ _ ∧ AllLt _ _) => hlB); (rename (_ ∧ _ ∧ _ ∧ _ ∧ _ ∧ _ ∧ _ ∧ AllLt _ _) => hlC)
    have hap := apart_more hlB.2.2.2.2.2.2 (apart_more hlC.2.2.2.2.2.2.2 (hPg.ap.sub (as' := [lp, lr, _, _]) (List.forall_mem_cons.mpr ⟨by k_mem, List.forall_mem_cons.mpr ⟨by k_mem, List.forall_mem_cons.mpr ⟨.tail _ (.tail _ (.tail _ (.tail _ (.head _)))), List.forall_mem_cons.mpr ⟨.tail _ (.tail _ (.tail _ (.tail _ (.tail _ (.head _))))), List.forall_mem_nil _⟩⟩⟩⟩)))
    refine loop2 (by rfl) lR' lF' lN' rfl rfl rfl rfl rfl hRow hI hPg rfl rfl ⟨by k_mem, by k_mem, by k_mem, by k_mem, by k_mem, by k_mem, trivial⟩ (fun p hp => (by repeat (first | exact hp | refine List.mem_cons_of_mem _ ?_))) (by constructor <;> first | k_ne | fail "dis") hap hc2 hc3 ?turn2 ?done2
    all_goals (clear hap hlB hlC hSix)
    all_goals clear lF' lN' lR' hPg hI hRow
    case turn2 =>
      intro Q7 lb lf lp lr ns vp vr np nr ls as u m₁ i z os ox ab af nb nf t oI I h9 tk9 hRow hI hPg hcI hi hz z1 z2 hDis hap hIlt ⟨v2, hv2⟩ ⟨v3, hv3⟩ hab haf hs1 hs2 m₂ F9 N9 hQ7
      k_steps
      (rename IsRange _ _ _ _ _ _ _ _ => lR'); (rename Fr _ _ _ _ => lF'); (rename News _ _ _ _ => lN')
      refine loop3 (by rfl) lR' lF' lN' rfl rfl rfl rfl rfl z1 z2 hap hIlt ⟨by k_mem, by k_mem, by k_mem, by k_mem, by k_mem, by k_mem, by k_mem, trivial⟩ (fun p hp => (by repeat (first | exact hp | refine List.mem_cons_of_mem _ ?_))) ⟨_, hv3⟩ hab haf hs1 hs2 ?turn3 ?done3
      all_goals clear lF' lN' lR'
      case turn3 =>
        intro Q8 E7 u3 m3 j f ox3 ab3 af3 nb3 nf3 t3 oI3 I3 h8 tk8 hcI3 hj hfj hfz hI3lt ⟨v4, hv4⟩ hab3 haf3 hs31 hs32 m₄ F8 N8 hQ8
        have hvr := hI.length.trans hRow.len
        have hvp : vp.size = 6 := by have := hPg.len; rw [Array.length_toList] at this; exact this
        k_steps
        unfold Stop
        (rename (_ ∧ _ ∧ _ ∧ _ ∧ _ ∧ _ ∧ _ ∧ _ ∧ AllLt _ _) => hlc)
        have hapc := apart_more hlc.2.2.2.2.2.2.2.2 hap
        refine compRest_ind (SlI _ ls ((ns.drop f).take z) z _ _) (SlI.start hPg hapc) ?_ ?_
        · intro k ys nw hk hINV v I8 oI8 C8 oC8 D8 m8 h7 tk7 E8 Q8c hv hC8 hx8 F7 N7 off8 ne8 hQ8c e8c
          obtain ⟨new, rfl, hap8, hyl, hws⟩ := hINV
          simp only [List.cons_append] at N7
          obtain ⟨hk6, pk, wk, nk, rfl, hpk, hwl, hwk⟩ := pg_at hPg hv
          have hps := page_slice hwl hwk hfz
          clear hv
          k_steps
          refine hQ8c _ _ ?_
          (rename Fr _ _ _ _ => F6); (rename News _ _ _ _ => N6)
          (rename (_ ∧ _ ∧ _ ∧ _ ∧ _ ∧ _ ∧ _ ∧ _ ∧ _ ∧ _ ∧ _ ∧ _ ∧ AllLt _ _) => hl9)
          exact slice_end F6 N6 hl9 off8 (List.forall_mem_cons.mpr ⟨⟨_, by k_mem⟩, List.forall_mem_cons.mpr ⟨⟨_, by k_mem⟩, List.forall_mem_cons.mpr ⟨⟨_, by k_mem⟩, List.forall_mem_cons.mpr ⟨⟨_, by k_mem⟩, List.forall_mem_cons.mpr ⟨⟨_, by k_mem⟩, List.forall_mem_cons.mpr ⟨⟨_, by k_mem⟩, List.forall_mem_cons.mpr ⟨⟨_, by k_mem⟩, List.forall_mem_nil _⟩⟩⟩⟩⟩⟩⟩) hap8 hyl hws (fun nw hs => .inr ⟨_, hs _ (by k_mem), rfl, _, rfl⟩) hps.1 hps.2
        · intro ys nw hINV
          obtain ⟨new, rfl, hap8, hyl, hws⟩ := hINV
          rw [hvp] at hyl hws
          have hPT := pages_of hws
          have hapT := hapc.app hap8
          k_steps
          unfold Stop
          (rename LCg.Off1 _ _ => hO); (rename Fr _ _ _ _ => F7); (rename News _ _ _ _ => N7)
          simp only [List.cons_append] at hO
          refine wcall (block (by k_asm) F7 (by k_asm) (two_mem N7 (by k_mem) (by k_mem)) (by k_asm) rfl rfl (ints_take _ (ints_drop _ hI)) (take_len hRow.len hfz) z1 z2 (take_mem hRow.r) hyl (fun p hp => N7 p (by repeat (first | exact hp | refine List.mem_cons_of_mem _ ?_))) (dis_of hapT hO (fun p hp => (by repeat (first | exact hp | refine List.mem_cons_of_mem _ ?_)))) hPT (by decide) (by decide) (fun h7 tk7 k7 => ?_))
          have F6 := F7.keeps k7
          have N6 := N7.grown k7
          clear F7 N7 k7
          (try dsimp only)
          k_steps
          all_goals refine hQ8 _ ?_
          all_goals ((rename Fr _ _ _ _ => F5); (rename News _ _ _ _ => N5))
          · exact turn3_end F5 N5 (by k_mem) hcI3 hI3lt hfj z1 ⟨_, by assumption⟩ ⟨by k_mem, by k_mem, by k_mem, by k_mem, by k_mem, by k_mem, by k_mem, trivial⟩ (fun p hp => (by repeat (first | exact List.mem_append_left _ hp | refine List.mem_cons_of_mem _ ?_))) hap.c hab3 haf3 hs31 hs32 (.inl ⟨by omega, rfl⟩) (List.forall_mem_cons.mpr ⟨rfl, List.forall_mem_cons.mpr ⟨rfl, List.forall_mem_cons.mpr ⟨rfl, List.forall_mem_cons.mpr ⟨rfl, List.forall_mem_nil _⟩⟩⟩⟩) (Offs.out [Str.ofString "pages", Str.ofString "row", Str.ofString "blocks", Str.ofString "fronts", Str.ofString "single"] rfl (by repeat (first | exact Offs.kst rfl | refine Offs.set ?_ (by decide))))
          · exact turn3_end F5 N5 (by k_mem) hcI3 hI3lt hfj z1 ⟨_, by assumption⟩ ⟨by k_mem, by k_mem, by k_mem, by k_mem, by k_mem, by k_mem, by k_mem, trivial⟩ (fun p hp => (by repeat (first | exact List.mem_append_left _ hp | refine List.mem_cons_of_mem _ ?_))) hap.c hab3 haf3 hs31 hs32 (.inr ⟨by omega, rfl⟩) (List.forall_mem_cons.mpr ⟨rfl, List.forall_mem_cons.mpr ⟨rfl, List.forall_mem_cons.mpr ⟨rfl, List.forall_mem_cons.mpr ⟨rfl, List.forall_mem_nil _⟩⟩⟩⟩) (Offs.out [Str.ofString "pages", Str.ofString "row", Str.ofString "blocks", Str.ofString "fronts", Str.ofString "single"] rfl (by repeat (first | exact Offs.kst rfl | refine Offs.set ?_ (by decide))))
      case done3 =>
        intro u3 ox3 ab3 af3 nb3 nf3 h8 tk8 ⟨v4, hv4⟩ hab3 haf3 hs31 hs32 m₄ F8 N8
        (try dsimp only)
        k_steps
        refine hQ7 _ ?_
        exact turn2_end F8 N8 (by k_mem) hcI hIlt hz ⟨some (.int (z : Int) t), by assumption⟩ ⟨_, hv4⟩ ⟨by k_mem, by k_mem, by k_mem, by k_mem, by k_mem, by k_mem, trivial⟩ (fun p hp => (by repeat (first | exact hp | refine List.mem_cons_of_mem _ ?_))) hap.c hab3 haf3 hs31 hs32 (List.forall_mem_cons.mpr ⟨rfl, List.forall_mem_cons.mpr ⟨rfl, List.forall_mem_cons.mpr ⟨rfl, List.forall_mem_cons.mpr ⟨rfl, List.forall_mem_nil _⟩⟩⟩⟩) (Offs.out [Str.ofString "pages", Str.ofString "row", Str.ofString "blocks", Str.ofString "fronts", Str.ofString "single"] rfl (by repeat (first | exact Offs.kst rfl | refine Offs.kst2 rfl ?_ | refine Offs.set ?_ (by decide))))
    case done2 =>
      intro lb lf lp lr ns vp vr np nr ls m₁ os ox ab af nb nf h9 tk9 hRow hI hab haf hs1 hs2 m₂ F9 N9
      have hn6 : ns.length ≤ 6 := Nat.le_of_eq hRow.len
      (try dsimp only)
      k_steps
)
end Mine
end
theorem PySem.Challenge.cw_sc0082_01_holds : PySem.Challenge.rw_sc0082_01.Holds := by
  exact Mine.t0
