import PyProof.Rows.All
import Wide.All
import OpenK.AllK
import Wide.FinOn
import PySem.Challenge.RW_re0062_01
open PySem PySem.W PyProof.Rows PySem.Calls
set_option Elab.async false
set_option maxRecDepth 100000
namespace Mine
set_option maxRecDepth 100000 in
set_option maxHeartbeats 8000000 in
open_top hd for PySem.Challenge.rw_re0062_01
end Mine
namespace Mine
/-- a place that a call is made from: its frame, the frames below, the text's own objects; room for n more frames -/
def Cx (w : World) (n : Nat) (A : Around) (s : Shared) : Prop :=
  ∃ (A₀ : Around) (base : Heap) (outer : List Env) (h₀ : Heap) (L : Addr) (m : Str → Option Value) (env : Env) (p : Program) (loose : List Str) (mean : ExcName → Option Value) (mg mb : Str → Option Value),
    Below A₀ base outer h₀ ∧ Fr h₀ L s.heap m ∧ (hd.heap_39 w.params).In h₀ ∧ Top p loose mean mg mb h₀ ∧ A.frames = some (env :: outer) ∧ env.frame = some L ∧ env.scope.kind = .function ∧
    A.handled = none ∧ A.depth + n < recursionLimit ∧ A.units + 8 * n < cLine
theorem Cx.mk {w : World} {n : Nat} {A A₀ : Around} {s : Shared} {base h₀ : Heap} {outer : List Env} {L : Addr} {m : Str → Option Value} {env : Env} {p : Program} {loose : List Str} {mean : ExcName → Option Value} {mg mb : Str → Option Value}
    (B : Below A₀ base outer h₀) (F : Fr h₀ L s.heap m) (X : (hd.heap_39 w.params).In h₀) (T : Top p loose mean mg mb h₀) (hA : A.frames = some (env :: outer)) (hf : env.frame = some L) (hk : env.scope.kind = .function)
    (hh : A.handled = none) (hd : A.depth + n < recursionLimit) (hu : A.units + 8 * n < cLine) : Cx w n A s := ⟨_, _, _, _, _, _, _, _, _, _, _, _, B, F, X, T, hA, hf, hk, hh, hd, hu⟩

theorem frStays {h₀ h h' : Heap} {L : Addr} {m : Str → Option Value} (F : Fr h₀ L h m) (k : h.StaysIn h') : Fr h₀ L h' m :=
  let ⟨oL, es, ep, hL, r⟩ := F.ns; ⟨⟨oL, es, ep, k _ _ hL, r⟩, fun b o e => k b o (F.keep b o e), F.above⟩
theorem newsStays {h₀ h h' : Heap} {L : Addr} {news : List (Addr × Obj)} (N : News h₀ L h news) (k : h.StaysIn h') : News h₀ L h' news :=
  fun p hp => ⟨k _ _ (N p hp).1, (N p hp).2⟩
theorem staysTrans {h h' h'' : Heap} (k : h.StaysIn h') (k' : h'.StaysIn h'') : h.StaysIn h'' := fun b o e => k' b o (k b o e)

/-- entering a def: all that stood is kept -/
theorem enterP {prog : Program} {w : World} {n : Nat} {A : Around} {s : Shared} {Q E : Value → Shared → Prop} {name qual : Str} {params : Arguments} {body : List Stmt} {scope : Scope} {dV kV doc pm cdv ct oc : Value} {an od : Option Addr} {osl : Array (Option Value)}
    {f : Addr} {vs : List Value} {kw : List (Str × Value)} {binds : List (Str × Value)} (C : Cx w (n + 1) A s)
    (ho : (hd.heap_39 w.params).lookup f = some ⟨oc, od, .func (fnOf name qual params body scope dV kV doc pm an cdv ct), osl⟩) (hcd : codeIn (hd.heap_39 w.params) cdv qual = true)
    (hbind : (hd.heap_39 w.params).In s.heap → BindsTo s (fnOf name qual params body scope dV kV doc pm an cdv ct) ⟨vs, kw⟩ binds) (hloc : ∀ y ∈ binds, scope.names.lookup y.1 = some .local)
    (h : ∀ (dp un : Nat) (gd : Option (List Code)) (base : Heap) (outer : List Env) (env : Env) (p : Program) (loose : List Str) (mean : ExcName → Option Value) (mg mb : Str → Option Value) (L' : Addr) (h₁ : Heap), dp + n < recursionLimit → un + 8 * n + 5 < cLine →
      Below A base (env :: outer) s.heap → Fr s.heap L' h₁ (fun y => binds.reverse.lookup y) → News s.heap L' h₁ [] → (hd.heap_39 w.params).In s.heap → Top p loose mean mg mb s.heap →
      wpAny (model prog w) { handled := none, depth := dp, frames := some (envX qual scope L' f cdv [] :: env :: outer), guards := gd, units := un } (execs body (envOf qual scope L' f cdv))
        (fun fl s' => Q (match fl with | .ret v => v | _ => .none) s') (fun _ _ => False) { s with heap := h₁, toks := s.toks + binds.length })
    (hco : scope.isCoroutine = false) (hgen : scope.isGenerator = false) (hk : scope.kind = .function) (hcell : ∀ x ∈ scope.names, x.2 ≠ .cell) :
    wpAny (model prog w) A (call (.ref f) vs kw) Q E s := by
  obtain ⟨A₀, base, outer, h₀, L, m, env, p, loose, mean, mg, mb, B, F, X, T, hA, hf, hke, hh, hd, hu⟩ := C
  have X' := X.keeps F.keep
  have T' := T.keeps F.keep
  have B₁ := pushX B F hf hke
  have BG : Below A base (env :: outer) s.heap := ⟨hA, B₁.stays, B₁.frames⟩
  refine wpAny_call ?_
  refine codeAny_call_def (fd := fnOf name qual params body scope dV kV doc pm an cdv ct) (body := body) (binds := binds) (by omega) (X' _ _ ho) rfl (T.nolimit.keeps F.keep) (codeRec_of X' hcd) rfl (hbind X') hcell hloc (fun h₁ hns hk₁ => ?_) hco hgen hk
  have key := h (A.depth + 1) (A.units + 3) (A.deeper (envX qual scope s.heap.objs.size f cdv [])).guards base outer env p loose mean mg mb s.heap.objs.size h₁ (by omega) (by omega) BG ⟨hns, hk₁, Nat.le_refl _⟩ News.nil X' T'
  have hAe : (A.deeper (envX qual scope s.heap.objs.size f cdv [])) = { handled := none, depth := A.depth + 1, frames := some (envX qual scope s.heap.objs.size f cdv [] :: env :: outer), guards := (A.deeper (envX qual scope s.heap.objs.size f cdv [])).guards, units := A.units + 3 } := by
    have e1 : (A.deeper (envX qual scope s.heap.objs.size f cdv [])).frames = some (envX qual scope s.heap.objs.size f cdv [] :: env :: outer) := Around.frames_deeper hA
    have e2 : (A.deeper (envX qual scope s.heap.objs.size f cdv [])).handled = none := hh
    rw [← e1, ← e2]
    rfl
  rw [← hAe] at key
  refine wpAny_mono key (fun fl s' x => ?_) (fun _ _ x => x.elim)
  exact x
end Mine
namespace Mine
section
local macro_rules | `(tactic| walk_at "zz0") => `(tactic| fail)
local macro_rules | `(tactic| walk_at "zz1") => `(tactic| fail)
local macro_rules | `(tactic| walk_at "zz2") => `(tactic| fail)
theorem rst1 : True := by
  w_top off
  first | walk1 | trivial
end
end Mine
namespace Mine

variable {w : World} {n : Nat} {A : Around} {s : Shared} {Q E : Value → Shared → Prop}
theorem strsAt {vs : List Value} {ws : List Str} (h : StrsAre vs ws) : ∀ {i : Nat} {v : Str}, ws[i]? = some v → ∃ t, vs[i]? = some (.str v t) := by
  induction h with
  | nil => intro i v e; simp at e
  | cons y t _ ih =>
    intro i v e
    cases i with
    | zero => simp at e; subst e; exact ⟨t, rfl⟩
    | succ i => simpa using ih (by simpa using e)
theorem strsLen {vs : List Value} {ws : List Str} (h : StrsAre vs ws) : vs.length = ws.length := by
  induction h with
  | nil => rfl
  | cons y t _ ih => simp [ih]
theorem retInt {x y : Int} {t : Tok} {h' : Heap} {tk : Nat} (h : ∀ h' tk t, s.heap.StaysIn h' → Q (.int x t) { s with heap := h', toks := tk }) (e : y = x) (k : s.heap.StaysIn h') : Q (.int y t) { s with heap := h', toks := tk } := by
  subst e; exact h _ _ _ k
theorem binds_kw {K : Frag} {fd : FuncData} {args : Args} {binds : List (Str × Value)} {T D : Addr} {o : Obj} {items : Array Value} {nn : Nat} {key : Str} {v : Value} {β γ : Type}
    {k : Option (Array Value) → Sem (List (Str × Value))} {k0 : Option Value → Sem β} {k1 : β → Sem γ} {k2 : γ → Sem (List (Str × Value))} (X : K.In s.heap) (hd : fd.defaults = .ref T) (ho : K.lookup T = some o) (hs : o.data = .seq items nn)
    (h₁ : bindArgs fd args = seqItems? fd.defaults >>= k) (h₂ : k (some items) = ((nsGet D key >>= k0) >>= k1) >>= k2) (e : nsIn K D key = some (some v)) (h₃ : ((k0 (some v) >>= k1) >>= k2) = pure binds) : BindsTo s fd args binds := by
  intro M A E Q hq
  rw [h₁, hd]
  refine wpAny_bind (wpAny_seqItems (X _ _ ho) hs ?_)
  rw [h₂]
  rw [bind_assoc, bind_assoc]
  refine wpAny_bind ((looks_nsIn X e).at ?_)
  rw [← bind_assoc, h₃]
  exact wpAny_pure hq
theorem fd2 (a : Int) : a.fdiv 2 = a / 2 := Int.fdiv_eq_ediv_of_nonneg a (by decide)
theorem bl1 {lo hi r n : Int} {p : Prop} (h1 : 0 ≤ lo) (h3 : r ≤ hi) (h4 : hi ≤ n) (_h5 : lo < hi) (hv : p ↔ (lo + hi).fdiv 2 < r) (hp : p) : 0 ≤ (lo + hi).fdiv 2 + 1 ∧ (lo + hi).fdiv 2 + 1 ≤ r ∧ r ≤ hi ∧ hi ≤ n := by
  have := hv.mp hp
  rw [fd2] at *
  omega
theorem bl2 {lo hi r n : Int} {p : Prop} (h1 : 0 ≤ lo) (h2 : lo ≤ r) (h4 : hi ≤ n) (h5 : lo < hi) (hv : p ↔ (lo + hi).fdiv 2 < r) (hp : ¬ p) : 0 ≤ lo ∧ lo ≤ r ∧ r ≤ (lo + hi).fdiv 2 ∧ (lo + hi).fdiv 2 ≤ n := by
  have : ¬ ((lo + hi).fdiv 2 < r) := fun x => hp (hv.mpr x)
  rw [fd2] at *
  omega
theorem br1 {lo hi r n : Int} {p : Prop} (h1 : 0 ≤ lo) (h3 : r ≤ hi) (h4 : hi ≤ n) (_h5 : lo < hi) (hv : p ↔ ¬ (lo + hi).fdiv 2 < r) (hp : ¬ p) : 0 ≤ (lo + hi).fdiv 2 + 1 ∧ (lo + hi).fdiv 2 + 1 ≤ r ∧ r ≤ hi ∧ hi ≤ n :=
  bl1 (p := ¬ p) h1 h3 h4 _h5 (by rw [hv]; exact Decidable.not_not) hp
theorem br2 {lo hi r n : Int} {p : Prop} (h1 : 0 ≤ lo) (h2 : lo ≤ r) (h4 : hi ≤ n) (h5 : lo < hi) (hv : p ↔ ¬ (lo + hi).fdiv 2 < r) (hp : p) : 0 ≤ lo ∧ lo ≤ r ∧ r ≤ (lo + hi).fdiv 2 ∧ (lo + hi).fdiv 2 ≤ n :=
  bl2 (p := ¬ p) h1 h2 h4 h5 (by rw [hv]; exact Decidable.not_not) (not_not_intro hp)
theorem bm1 {lo hi : Int} (h5 : lo < hi) : (hi - ((lo + hi).fdiv 2 + 1)).toNat < (hi - lo).toNat := by
  rw [fd2]; omega
theorem bm2 {lo hi : Int} (h5 : lo < hi) : ((lo + hi).fdiv 2 - lo).toNat < (hi - lo).toNat := by
  rw [fd2]; omega
theorem item_bisL {value slice : PySem.Expr} {h₀ : Heap} {L l : Addr} {m : Str → Option Value} {vs : List Value} {ws : List Str} {x : Str} {r : Nat} {k : Int} {u : Tok} {prog : Program} (F : Fr h₀ L s.heap m) (hl : h₀.IsList l vs.toArray) (hw : StrsAre vs ws)
    (hs : ∀ i v, ws[i]? = some v → (v.cps.toList < x.cps.toList ↔ i < r)) (hn : ws.length ≤ 100) (h0 : 0 ≤ k) (hk : k < (ws.length : Int)) (h : ∀ v t, (v.cps.toList < x.cps.toList ↔ k < (r : Int)) → Q (.str v t) s)
    (hsb : subscripted slice false (.ref l) (.int k u) = operate [.ref l, .int k u] (getItem (.ref l) (.int k u))) (hg : ∀ r, letTemporaryGo value (.ref l) r = pure ()) :
    wpAny (model prog w) A (subscriptTail value slice (.ref l) (.int k u)) Q E s := by
  have hkl : k.toNat < ws.length := by omega
  obtain ⟨t, ht⟩ := strsAt hw (List.getElem?_eq_getElem hkl)
  refine item_list (x := .str ws[k.toNat] t) (hl.at fun o e => F.keep _ o e) h0 (by omega) (by simpa using ht) (h _ _ ?_) hsb hg
  have := hs _ _ (List.getElem?_eq_getElem hkl)
  rw [this]; omega
local macro_rules | `(tactic| walk_at "subscriptTail Name Name ref int") => `(tactic| (k_here; k_dflt (refine' item_bisL ?F ?l ?w ?s ?n ?a ?b ?_ ?hs ?hg; (case hs => with_unfolding_all rfl); (case hg => intro _; with_unfolding_all rfl); (case F => k_asm); (case l => assumption); (case w => assumption); (case s => assumption); (case n => assumption); (case a => first | omega | l_fact); (case b => first | omega | l_fact)); intro v t hv))
set_option maxHeartbeats 4000000 in
theorem bisL0 {l : Addr} {vs : List Value} {ws : List Str} {x : Str} {tx : Tok} {r : Nat} (C : Cx w (n + 1) A s) (hl : s.heap.IsList l vs.toArray) (hw : StrsAre vs ws) (hr : r ≤ ws.length) (hn : ws.length ≤ 100)
    (hs : ∀ i v, ws[i]? = some v → (v.cps.toList < x.cps.toList ↔ i < r))
    (h : ∀ h' tk t, s.heap.StaysIn h' → Q (.int r t) { s with heap := h', toks := tk }) :
    wpAny (model PySem.Challenge.rw_re0062_01.row.prog w) A (call (.ref 53) [.ref l, .str x tx]) Q E s := by
  w_on
  have hX : (hd.heap_39 w.params) = (hd.heap_39 w.params) := rfl
  revert hX
  k_fill
  intro _
  refine' enterP (n := n) (binds := [(Str.ofString "a", .ref l), (Str.ofString "x", .str x tx), (Str.ofString "lo", .int 0 231), (Str.ofString "hi", .none), (Str.ofString "key", .none)]) C ?o ?c ?b ?l ?_ ?c2 ?c3 ?c4 ?c5
  case o => k_dflt k_is
  case c => k_dflt k_is
  case l => exact locs rfl
  case c2 => exact rfl
  case c3 => exact rfl
  case c4 => exact rfl
  case c5 => decide
  case b =>
    intro X
    refine' binds_kw (D := 46) (key := Str.ofString "key") X ?e1 ?e2 ?e3 ?e4 ?e5 ?e6 ?e7
    case e1 => exact rfl
    case e2 => k_dflt k_is
    case e3 => exact rfl
    case e4 => exact rfl
    case e5 => exact rfl
    case e6 => k_dflt k_is
    case e7 => exact rfl
  intro dp un gd base outer env p loose mean mg mb L' h₁ hd hu B F N X T
  k_with "exec While Compare cons nil" => k_while (fun _ lo hi => 0 ≤ lo ∧ lo ≤ (r : Int) ∧ (r : Int) ≤ hi ∧ hi ≤ (ws.length : Int)) (fun _ lo hi => (hi - lo).toNat) "lo" "hi"
  k_with "state" => first | exact bl1 (by assumption) (by assumption) (by assumption) (by assumption) (by assumption) (by assumption) | exact bl2 (by assumption) (by assumption) (by assumption) (by assumption) (by assumption) (by assumption)
  k_with "measure" => first | exact bm1 (by assumption) | exact bm2 (by assumption)
  have hlen := strsLen hw
  k_steps
  all_goals (dsimp only)
  exact retInt h (by omega) (Fr.keep (by assumption))
theorem item_bisR {value slice : PySem.Expr} {h₀ : Heap} {L l : Addr} {m : Str → Option Value} {vs : List Value} {ws : List Str} {x : Str} {r : Nat} {k : Int} {u : Tok} {prog : Program} (F : Fr h₀ L s.heap m) (hl : h₀.IsList l vs.toArray) (hw : StrsAre vs ws)
    (hs : ∀ i v, ws[i]? = some v → (x.cps.toList < v.cps.toList ↔ ¬ i < r)) (hn : ws.length ≤ 100) (h0 : 0 ≤ k) (hk : k < (ws.length : Int)) (h : ∀ v t, (x.cps.toList < v.cps.toList ↔ ¬ k < (r : Int)) → Q (.str v t) s)
    (hsb : subscripted slice false (.ref l) (.int k u) = operate [.ref l, .int k u] (getItem (.ref l) (.int k u))) (hg : ∀ r, letTemporaryGo value (.ref l) r = pure ()) :
    wpAny (model prog w) A (subscriptTail value slice (.ref l) (.int k u)) Q E s := by
  have hkl : k.toNat < ws.length := by omega
  obtain ⟨t, ht⟩ := strsAt hw (List.getElem?_eq_getElem hkl)
  refine item_list (x := .str ws[k.toNat] t) (hl.at fun o e => F.keep _ o e) h0 (by omega) (by simpa using ht) (h _ _ ?_) hsb hg
  have := hs _ _ (List.getElem?_eq_getElem hkl)
  rw [this]; omega
local macro_rules | `(tactic| walk_at "subscriptTail Name Name ref int") => `(tactic| (k_here; k_dflt (refine' item_bisR ?F ?l ?w ?s ?n ?a ?b ?_ ?hs ?hg; (case hs => with_unfolding_all rfl); (case hg => intro _; with_unfolding_all rfl); (case F => k_asm); (case l => assumption); (case w => assumption); (case s => assumption); (case n => assumption); (case a => first | omega | l_fact); (case b => first | omega | l_fact)); intro v t hv))
set_option maxHeartbeats 4000000 in
theorem bisR0 {l : Addr} {vs : List Value} {ws : List Str} {x : Str} {tx : Tok} {r : Nat} (C : Cx w (n + 1) A s) (hl : s.heap.IsList l vs.toArray) (hw : StrsAre vs ws) (hr : r ≤ ws.length) (hn : ws.length ≤ 100)
    (hs : ∀ i v, ws[i]? = some v → (x.cps.toList < v.cps.toList ↔ ¬ i < r))
    (h : ∀ h' tk t, s.heap.StaysIn h' → Q (.int r t) { s with heap := h', toks := tk }) :
    wpAny (model PySem.Challenge.rw_re0062_01.row.prog w) A (call (.ref 44) [.ref l, .str x tx]) Q E s := by
  w_on
  have hX : (hd.heap_39 w.params) = (hd.heap_39 w.params) := rfl
  revert hX
  k_fill
  intro _
  refine' enterP (n := n) (binds := [(Str.ofString "a", .ref l), (Str.ofString "x", .str x tx), (Str.ofString "lo", .int 0 217), (Str.ofString "hi", .none), (Str.ofString "key", .none)]) C ?o ?c ?b ?l ?_ ?c2 ?c3 ?c4 ?c5
  case o => k_dflt k_is
  case c => k_dflt k_is
  case l => exact locs rfl
  case c2 => exact rfl
  case c3 => exact rfl
  case c4 => exact rfl
  case c5 => decide
  case b =>
    intro X
    refine' binds_kw (D := 37) (key := Str.ofString "key") X ?e1 ?e2 ?e3 ?e4 ?e5 ?e6 ?e7
    case e1 => exact rfl
    case e2 => k_dflt k_is
    case e3 => exact rfl
    case e4 => exact rfl
    case e5 => exact rfl
    case e6 => k_dflt k_is
    case e7 => exact rfl
  intro dp un gd base outer env p loose mean mg mb L' h₁ hd hu B F N X T
  k_with "exec While Compare cons nil" => k_while (fun _ lo hi => 0 ≤ lo ∧ lo ≤ (r : Int) ∧ (r : Int) ≤ hi ∧ hi ≤ (ws.length : Int)) (fun _ lo hi => (hi - lo).toNat) "lo" "hi"
  k_with "state" => first | exact br1 (by assumption) (by assumption) (by assumption) (by assumption) (by assumption) (by assumption) | exact br2 (by assumption) (by assumption) (by assumption) (by assumption) (by assumption) (by assumption)
  k_with "measure" => first | exact bm1 (by assumption) | exact bm2 (by assumption)
  have hlen := strsLen hw
  k_steps
  all_goals (dsimp only)
  exact retInt h (by omega) (Fr.keep (by assumption))
end Mine
namespace Mine
section
local macro_rules | `(tactic| walk_at "zz0") => `(tactic| fail)
local macro_rules | `(tactic| walk_at "zz1") => `(tactic| fail)
local macro_rules | `(tactic| walk_at "zz2") => `(tactic| fail)
local macro_rules | `(tactic| walk_at "zz3") => `(tactic| fail)
local macro_rules | `(tactic| walk_at "zz4") => `(tactic| fail)
local macro_rules | `(tactic| walk_at "zz5") => `(tactic| fail)
theorem rst2 : True := by
  w_top off
  first | walk1 | trivial
end
end Mine
namespace Mine
variable {w : World} {n : Nat} {A : Around} {s : Shared} {Q E : Value → Shared → Prop}
theorem fnStays {h₀ h : Heap} {f L : Addr} {m : Str → Option Value} (x : FnAt f h₀) (F : Fr h₀ L h m) : FnAt f h := let ⟨oc, od, fd, sl, e⟩ := x; ⟨oc, od, fd, sl, F.keep _ _ e⟩
theorem itemK {value slice : PySem.Expr} {h₀ : Heap} {L l : Addr} {m : Str → Option Value} {vs : List Value} {ws : List Str} {k : Int} {u : Tok} {prog : Program} (F : Fr h₀ L s.heap m) (hl : h₀.IsList l vs.toArray) (hw : StrsAre vs ws)
    (hn : ws.length ≤ 100) (h0 : 0 ≤ k) (hk : k < (ws.length : Int)) (h : ∀ v t i, k = (i : Nat) → ws[i]? = some v → Q (.str v t) s)
    (hsb : subscripted slice false (.ref l) (.int k u) = operate [.ref l, .int k u] (getItem (.ref l) (.int k u))) (hg : ∀ r, letTemporaryGo value (.ref l) r = pure ()) :
    wpAny (model prog w) A (subscriptTail value slice (.ref l) (.int k u)) Q E s := by
  have hkl : k.toNat < ws.length := by omega
  obtain ⟨t, ht⟩ := strsAt hw (List.getElem?_eq_getElem hkl)
  exact item_list (x := .str ws[k.toNat] t) (hl.at fun o e => F.keep _ o e) h0 (by omega) (by simpa using ht) (h _ _ k.toNat (by omega) (List.getElem?_eq_getElem hkl)) hsb hg
/-- a key's call tells a value of each item -/
abbrev KeyCall (w : World) (n : Nat) (h₀ : Heap) (f : Addr) (ws : List Str) (KV : Nat → Value → Prop) : Prop :=
  ∀ (A' : Around) (s' : Shared) (i : Nat) (v : Str) (t : Tok) (Q' E' : Value → Shared → Prop), Cx w n A' s' → h₀.StaysIn s'.heap → ws[i]? = some v →
      (∀ h' tk kv, s'.heap.StaysIn h' → KV i kv → Q' kv { s' with heap := h', toks := tk }) → wpAny (model PySem.Challenge.rw_re0062_01.row.prog w) A' (call (.ref f) [.str v t]) Q' E' s'
/-- its comparison with what is sought tells its side -/
abbrev KeyLess (w : World) (ws : List Str) (KV : Nat → Value → Prop) (xv : Value) (r : Nat) : Prop :=
  ∀ (A' : Around) (s' : Shared) (i : Nat) (v : Str) (kv : Value) (Q' E' : Value → Shared → Prop), ws[i]? = some v → KV i kv → Q' (.bool (decide (i < r))) s' → wpAny (model PySem.Challenge.rw_re0062_01.row.prog w) A' (compareOp .Lt kv xv) Q' E' s'
abbrev KeyMore (w : World) (ws : List Str) (KV : Nat → Value → Prop) (xv : Value) (r : Nat) : Prop :=
  ∀ (A' : Around) (s' : Shared) (i : Nat) (v : Str) (kv : Value) (Q' E' : Value → Shared → Prop), ws[i]? = some v → KV i kv → Q' (.bool (decide (¬ i < r))) s' → wpAny (model PySem.Challenge.rw_re0062_01.row.prog w) A' (compareOp .Lt xv kv) Q' E' s'
theorem keyCall {h₀ : Heap} {f : Addr} {ws : List Str} {KV : Nat → Value → Prop} {i : Nat} {v : Str} {t : Tok} (hk : KeyCall w n h₀ f ws KV) (C : Cx w n A s) (st : h₀.StaysIn s.heap) (hv : ws[i]? = some v)
    (h : ∀ h' tk kv, s.heap.StaysIn h' → KV i kv → Q kv { s with heap := h', toks := tk }) : wpAny (model PySem.Challenge.rw_re0062_01.row.prog w) A (call (.ref f) [.str v t]) Q E s := hk _ _ _ _ _ _ _ C st hv h
theorem keyLess {ws : List Str} {KV : Nat → Value → Prop} {xv kv : Value} {r i : Nat} {v : Str} (hk : KeyLess w ws KV xv r) (hv : ws[i]? = some v) (hkv : KV i kv) (h : Q (.bool (decide (i < r))) s) : wpAny (model PySem.Challenge.rw_re0062_01.row.prog w) A (compareOp .Lt kv xv) Q E s := hk _ _ _ _ _ _ _ hv hkv h
theorem keyMore {ws : List Str} {KV : Nat → Value → Prop} {xv kv : Value} {r i : Nat} {v : Str} (hk : KeyMore w ws KV xv r) (hv : ws[i]? = some v) (hkv : KV i kv) (h : Q (.bool (decide (¬ i < r))) s) : wpAny (model PySem.Challenge.rw_re0062_01.row.prog w) A (compareOp .Lt xv kv) Q E s := hk _ _ _ _ _ _ _ hv hkv h
theorem kl1 {lo hi n : Int} {r i : Nat} (h1 : 0 ≤ lo) (h3 : (r : Int) ≤ hi) (h4 : hi ≤ n) (h5 : lo < hi) (hi' : (lo + hi).fdiv 2 = (i : Int)) (hp : i < r) : 0 ≤ (lo + hi).fdiv 2 + 1 ∧ (lo + hi).fdiv 2 + 1 ≤ (r : Int) ∧ (r : Int) ≤ hi ∧ hi ≤ n :=
  bl1 (p := i < r) h1 h3 h4 h5 (by rw [hi']; omega) hp
theorem kl2 {lo hi n : Int} {r i : Nat} (h1 : 0 ≤ lo) (h2 : lo ≤ (r : Int)) (h4 : hi ≤ n) (h5 : lo < hi) (hi' : (lo + hi).fdiv 2 = (i : Int)) (hp : ¬ i < r) : 0 ≤ lo ∧ lo ≤ (r : Int) ∧ (r : Int) ≤ (lo + hi).fdiv 2 ∧ (lo + hi).fdiv 2 ≤ n :=
  bl2 (p := i < r) h1 h2 h4 h5 (by rw [hi']; omega) hp
local macro_rules | `(tactic| walk_at "subscriptTail Name Name ref int") => `(tactic| (k_here; k_dflt (refine' itemK ?F ?l ?w ?n ?a ?b ?_ ?hs ?hg; (case hs => with_unfolding_all rfl); (case hg => intro _; with_unfolding_all rfl); (case F => k_asm); (case l => assumption); (case w => assumption); (case n => assumption); (case a => first | omega | l_fact); (case b => first | omega | l_fact)); intro v t i hi hv))
local macro_rules | `(tactic| walk_at "callWith ref") => `(tactic| (k_here; k_dflt (refine' callWith_F ?k1 ?_; (case k1 => exact fnStays (by assumption) (by k_asm)))))
local macro_rules | `(tactic| walk_at "And") => `(tactic| ((with_reducible show FnAt _ _ ∧ _); refine ⟨fnStays (by assumption) (by k_asm), ?_⟩; try dsimp only [List.nil_append, List.cons_append]))
local macro_rules | `(tactic| walk_at "call ref") => `(tactic| (k_here; k_dflt (refine' keyCall ?k ?c ?st ?v ?_; (case k => assumption); (case c => exact Cx.mk (by k_asm) (by k_asm) (by k_asm) (by k_asm) rfl rfl rfl rfl (by first | assumption | omega) (by first | assumption | (dsimp only; omega))); (case st => exact Fr.keep (by k_asm)); (case v => assumption)); intro h' tk' kv' st' hkv'; (have F' := frStays (by k_asm) st'); (have N' := newsStays (by k_asm) st'); (try k_sweep)))
local macro_rules | `(tactic| walk_at "compareOp Lt") => `(tactic| (k_here; k_dflt (first | (refine' keyLess ?k ?v ?kv ?_; (case k => assumption); (case v => assumption); (case kv => assumption)) | (refine' keyMore ?k ?v ?kv ?_; (case k => assumption); (case v => assumption); (case kv => assumption)))))
set_option maxHeartbeats 4000000 in
theorem bisLk {l f : Addr} {vs : List Value} {ws : List Str} {xv : Value} {r : Nat} {KV : Nat → Value → Prop} (C : Cx w (n + 1) A s) (hl : s.heap.IsList l vs.toArray) (hw : StrsAre vs ws) (hr : r ≤ ws.length) (hn : ws.length ≤ 100)
    (hfn : FnAt f s.heap) (hkc : KeyCall w n s.heap f ws KV) (hkl : KeyLess w ws KV xv r)
    (h : ∀ h' tk t, s.heap.StaysIn h' → Q (.int r t) { s with heap := h', toks := tk }) :
    wpAny (model PySem.Challenge.rw_re0062_01.row.prog w) A (call (.ref 53) [.ref l, xv] [(Str.ofString "key", .ref f)]) Q E s := by
  w_on
  have hX : (hd.heap_39 w.params) = (hd.heap_39 w.params) := rfl
  revert hX
  k_fill
  intro _
  refine' enterP (n := n) (binds := [(Str.ofString "a", .ref l), (Str.ofString "x", xv), (Str.ofString "lo", .int 0 231), (Str.ofString "hi", .none), (Str.ofString "key", .ref f)]) C ?o ?c ?b ?l ?_ ?c2 ?c3 ?c4 ?c5
  case o => k_dflt k_is
  case c => k_dflt k_is
  case l => exact locs rfl
  case c2 => exact rfl
  case c3 => exact rfl
  case c4 => exact rfl
  case c5 => decide
  case b =>
    intro X
    refine' binds_K X ?e1 ?e2 ?e3 ?e4 ?e5
    case e1 => exact rfl
    case e2 => k_dflt k_is
    case e3 => exact rfl
    case e4 => exact rfl
    case e5 => exact rfl
  intro dp un gd base outer env p loose mean mg mb L' h₁ hd hu B F N X T
  have hu' : un + 8 * n < cLine := by omega
  k_with "exec While Compare cons nil" => k_while (fun _ lo hi => 0 ≤ lo ∧ lo ≤ (r : Int) ∧ (r : Int) ≤ hi ∧ hi ≤ (ws.length : Int)) (fun _ lo hi => (hi - lo).toNat) "lo" "hi"
  k_with "state" => first | exact kl1 (by assumption) (by assumption) (by assumption) (by assumption) (by assumption) (by first | assumption | (simp_all; done) | omega) | exact kl2 (by assumption) (by assumption) (by assumption) (by assumption) (by assumption) (by first | assumption | omega)
  k_with "measure" => first | exact bm1 (by assumption) | exact bm2 (by assumption)
  have hlen := strsLen hw
  k_steps
  all_goals (try dsimp only)
  exact retInt h (by omega) (Fr.keep (by assumption))
set_option maxHeartbeats 4000000 in
theorem bisRk {l f : Addr} {vs : List Value} {ws : List Str} {xv : Value} {r : Nat} {KV : Nat → Value → Prop} (C : Cx w (n + 1) A s) (hl : s.heap.IsList l vs.toArray) (hw : StrsAre vs ws) (hr : r ≤ ws.length) (hn : ws.length ≤ 100)
    (hfn : FnAt f s.heap) (hkc : KeyCall w n s.heap f ws KV) (hkl : KeyMore w ws KV xv r)
    (h : ∀ h' tk t, s.heap.StaysIn h' → Q (.int r t) { s with heap := h', toks := tk }) :
    wpAny (model PySem.Challenge.rw_re0062_01.row.prog w) A (call (.ref 44) [.ref l, xv] [(Str.ofString "key", .ref f)]) Q E s := by
  w_on
  have hX : (hd.heap_39 w.params) = (hd.heap_39 w.params) := rfl
  revert hX
  k_fill
  intro _
  refine' enterP (n := n) (binds := [(Str.ofString "a", .ref l), (Str.ofString "x", xv), (Str.ofString "lo", .int 0 217), (Str.ofString "hi", .none), (Str.ofString "key", .ref f)]) C ?o ?c ?b ?l ?_ ?c2 ?c3 ?c4 ?c5
  case o => k_dflt k_is
  case c => k_dflt k_is
  case l => exact locs rfl
  case c2 => exact rfl
  case c3 => exact rfl
  case c4 => exact rfl
  case c5 => decide
  case b =>
    intro X
    refine' binds_K X ?e1 ?e2 ?e3 ?e4 ?e5
    case e1 => exact rfl
    case e2 => k_dflt k_is
    case e3 => exact rfl
    case e4 => exact rfl
    case e5 => exact rfl
  intro dp un gd base outer env p loose mean mg mb L' h₁ hd hu B F N X T
  have hu' : un + 8 * n < cLine := by omega
  k_with "exec While Compare cons nil" => k_while (fun _ lo hi => 0 ≤ lo ∧ lo ≤ (r : Int) ∧ (r : Int) ≤ hi ∧ hi ≤ (ws.length : Int)) (fun _ lo hi => (hi - lo).toNat) "lo" "hi"
  k_with "state" => first | exact kl1 (by assumption) (by assumption) (by assumption) (by assumption) (by assumption) (by first | assumption | (simp_all; done) | omega) | exact kl2 (by assumption) (by assumption) (by assumption) (by assumption) (by assumption) (by first | assumption | omega)
  k_with "measure" => first | exact bm1 (by assumption) | exact bm2 (by assumption)
  have hlen := strsLen hw
  k_steps
  all_goals (try dsimp only)
  exact retInt h (by omega) (Fr.keep (by assumption))
end Mine
namespace Mine
section
theorem rst3 : True := by
  w_top off
  trivial
end
end Mine
namespace Mine
variable {w : World} {n : Nat} {A : Around} {s : Shared} {Q E : Value → Shared → Prop}
set_option maxHeartbeats 4000000 in
theorem strcollC {a b : Str} {ta tb : Tok} (C : Cx w (n + 1) A s)
    (h : ∀ h' tk t, s.heap.StaysIn h' → Q (.int (b2i (decide (b.cps.toList < a.cps.toList)) - b2i (decide (a.cps.toList < b.cps.toList))) t) { s with heap := h', toks := tk }) :
    wpAny (model PySem.Challenge.rw_re0062_01.row.prog w) A (call (.ref 21) [.str a ta, .str b tb]) Q E s := by
  w_on
  have hX : (hd.heap_39 w.params) = (hd.heap_39 w.params) := rfl
  revert hX
  k_fill
  intro _
  refine' enterP (n := n) (binds := [(Str.ofString "a", .str a ta), (Str.ofString "b", .str b tb)]) C ?o ?c ?b ?l ?_ ?c2 ?c3 ?c4 ?c5
  case o => k_dflt k_is
  case c => k_dflt k_is
  case b => exact fun _ => BindsTo.of_eq rfl
  case l => exact locs rfl
  case c2 => exact rfl
  case c3 => exact rfl
  case c4 => exact rfl
  case c5 => decide
  intro dp un gd base outer env p loose mean mg mb L' h₁ hd hu B F N X T
  k_steps
  exact h _ _ _ (Fr.keep (by assumption))
set_option maxHeartbeats 4000000 in
theorem strxfrmC {v : Value} (C : Cx w (n + 1) A s) (h : ∀ h' tk, s.heap.StaysIn h' → Q v { s with heap := h', toks := tk }) :
    wpAny (model PySem.Challenge.rw_re0062_01.row.prog w) A (call (.ref 28) [v]) Q E s := by
  w_on
  have hX : (hd.heap_39 w.params) = (hd.heap_39 w.params) := rfl
  revert hX
  k_fill
  intro _
  refine' enterP (n := n) (binds := [(Str.ofString "s", v)]) C ?o ?c ?b ?l ?_ ?c2 ?c3 ?c4 ?c5
  case o => k_dflt k_is
  case c => k_dflt k_is
  case b => exact fun _ => BindsTo.of_eq rfl
  case l => exact locs rfl
  case c2 => exact rfl
  case c3 => exact rfl
  case c4 => exact rfl
  case c5 => decide
  intro dp un gd base outer env p loose mean mg mb L' h₁ hd hu B F N X T
  k_steps
  exact h _ _ (Fr.keep (by assumption))
end Mine
namespace Mine
section
local macro_rules | `(tactic| walk_at "zz0") => `(tactic| fail)
local macro_rules | `(tactic| walk_at "zz1") => `(tactic| fail)
theorem rst4 : True := by
  w_top off
  first | walk1 | trivial
end
end Mine
namespace Mine
variable {w : World} {n : Nat} {A : Around} {s : Shared} {Q E : Value → Shared → Prop}
/-- the word of a walk from q -/
def wordA (q : Int) : List Int → List Nat
  | [] => []
  | x :: r => (if (q + x) % 16 < q % 16 then 98 else 97) :: wordA (q + x) r
theorem wordA_snoc (q x : Int) (pre : List Int) : wordA q (pre ++ [x]) = wordA q pre ++ [if (q + pre.sum + x) % 16 < (q + pre.sum) % 16 then 98 else 97] := by
  induction pre generalizing q with
  | nil => simp [wordA]
  | cons y r ih => simp only [List.cons_append, wordA, ih, List.sum_cons]; simp only [Int.add_assoc]
theorem retStr {x : List Nat} {y : Str} {t : Tok} {h' : Heap} {tk : Nat} (h : ∀ h' tk t, s.heap.StaysIn h' → Q (.str ⟨x.toArray⟩ t) { s with heap := h', toks := tk }) (e : y.cps.toList = x) (k : s.heap.StaysIn h') : Q (.str y t) { s with heap := h', toks := tk } := by
  have : y = ⟨x.toArray⟩ := by rw [← e]
  subst this; exact h _ _ _ k
theorem stepOk {place q c x : Int} {sn : List Int} (h : place = (q + c) % 16) (hst : ∀ x ∈ sn, 1 ≤ x ∧ x ≤ 15) (hm : x ∈ sn) : 0 ≤ place + x ∧ place + x < 32 := by
  have := hst x hm; omega
theorem itemRead {value slice : PySem.Expr} {h₀ : Heap} {L l : Addr} {m : Str → Option Value} {vs : List Value} {ns : List Int} {k : Int} {u : Tok} {prog : Program} (F : Fr h₀ L s.heap m) (hl : h₀.IsList l vs.toArray) (hw : IntsAre vs ns)
    (hrn : ∀ i : Nat, i < 32 → ns[i]? = some ((i : Int) % 16)) (hk : 0 ≤ k ∧ k < 32) (h : ∀ t, Q (.int (k % 16) t) s)
    (hsb : subscripted slice false (.ref l) (.int k u) = operate [.ref l, .int k u] (getItem (.ref l) (.int k u))) (hg : ∀ r, letTemporaryGo value (.ref l) r = pure ()) :
    wpAny (model prog w) A (subscriptTail value slice (.ref l) (.int k u)) Q E s := by
  obtain ⟨t, ht⟩ := hw.get _ _ (hrn k.toNat (by omega))
  have e : ((k.toNat : Int) % 16) = k % 16 := by omega
  rw [e] at ht
  exact item_list (hl.at fun o e => F.keep _ o e) hk.1 (by omega) (by simpa using ht) (h _) hsb hg
theorem word1 {place q x : Int} {pre : List Int} {word : Str} (h1 : place = (q + pre.sum) % 16) (h2 : word.cps.toList = wordA q pre) (h3 : word.length = pre.length) (hc : (place + x) % 16 < place) :
    (place + x) % 16 = (q + (pre ++ [x]).sum) % 16 ∧ (word ++ Str.ofString "b").cps.toList = wordA q (pre ++ [x]) ∧ (word ++ Str.ofString "b").length = (pre ++ [x]).length := by
  refine ⟨by rw [List.sum_append]; simp; omega, ?_, ?_⟩
  · rw [wordA_snoc, if_pos (by omega), ← h2]; rw [Str.cps_append]; simp; rfl
  · rw [Str.length_append, h3]; simp; rfl
theorem word2 {place q x : Int} {pre : List Int} {word : Str} (h1 : place = (q + pre.sum) % 16) (h2 : word.cps.toList = wordA q pre) (h3 : word.length = pre.length) (hc : ¬ (place + x) % 16 < place) :
    (place + x) % 16 = (q + (pre ++ [x]).sum) % 16 ∧ (word ++ Str.ofString "a").cps.toList = wordA q (pre ++ [x]) ∧ (word ++ Str.ofString "a").length = (pre ++ [x]).length := by
  refine ⟨by rw [List.sum_append]; simp; omega, ?_, ?_⟩
  · rw [wordA_snoc, if_neg (by omega), ← h2]; rw [Str.cps_append]; simp; rfl
  · rw [Str.length_append, h3]; simp; rfl
local macro_rules | `(tactic| walk_at "subscriptTail Name BinOp") => `(tactic| (k_here; k_dflt (refine' itemRead ?F ?l ?w ?n ?a ?_ ?hs ?hg; (case hs => with_unfolding_all rfl); (case hg => intro _; with_unfolding_all rfl); (case F => k_asm); (case l => assumption); (case n => assumption); (case w => assumption); (case a => exact stepOk (by assumption) (by assumption) (by assumption))); intro t))
set_option maxHeartbeats 4000000 in
theorem wordC {lr ls : Addr} {rv sv : List Value} {rn sn : List Int} {q : Int} {tq : Tok} (C : Cx w (n + 1) A s) (hl : s.heap.IsList lr rv.toArray) (hrv : IntsAre rv rn) (hl2 : s.heap.IsList ls sv.toArray) (hsv : IntsAre sv sn)
    (hrn : ∀ i : Nat, i < 32 → rn[i]? = some ((i : Int) % 16)) (hrl : rn.length = 32) (hst : ∀ x ∈ sn, 1 ≤ x ∧ x ≤ 15) (hsl : sn.length ≤ 5) (hq : 0 ≤ q ∧ q < 16)
    (h : ∀ h' tk t, s.heap.StaysIn h' → Q (.str ⟨(wordA q sn).toArray⟩ t) { s with heap := h', toks := tk }) :
    wpAny (model PySem.Challenge.rw_re0062_01.row.prog w) A (call (.ref 81) [.ref lr, .int q tq, .ref ls]) Q E s := by
  w_on
  have hX : (hd.heap_39 w.params) = (hd.heap_39 w.params) := rfl
  revert hX
  k_fill
  intro _
  refine' enterP (n := n) (binds := [(Str.ofString "read", .ref lr), (Str.ofString "place", .int q tq), (Str.ofString "steps", .ref ls)]) C ?o ?c ?b ?l ?_ ?c2 ?c3 ?c4 ?c5
  case o => k_dflt k_is
  case c => k_dflt k_is
  case b => exact fun _ => BindsTo.of_eq rfl
  case l => exact locs rfl
  case c2 => exact rfl
  case c3 => exact rfl
  case c4 => exact rfl
  case c5 => decide
  intro dp un gd base outer env p loose mean mg mb L' h₁ hd hu B F N X T
  k_with "pyIter ref" => k_state (fun pre place word => place = (q + pre.sum) % 16 ∧ word.cps.toList = wordA q pre ∧ word.length = pre.length) "place" "word"
  k_with "state" => first | exact word1 (by assumption) (by assumption) (by assumption) (by assumption) | exact word2 (by assumption) (by assumption) (by assumption) (by assumption)
  k_steps
  dsimp only
  exact retStr h (by assumption) (Fr.keep (by assumption))
end Mine
namespace Mine
section
theorem rst5 : True := by
  w_top off
  trivial
end
end Mine
namespace Mine
variable {w : World} {n : Nat} {A : Around} {s : Shared} {Q E : Value → Shared → Prop}
def cutI (t S l h : Int) : Int := if h < (if l > 16 * (t + 1) - S then l else 16 * (t + 1) - S) then h else (if l > 16 * (t + 1) - S then l else 16 * (t + 1) - S)
/-- the stretch of hues behind k letters: low, high, turns -/
def bst (x : Str) (ss : List Int) : Nat → Int × Int × Int
  | 0 => (0, 16, 0)
  | k + 1 => if (Txt.item x (k : Int) == Str.ofString "b") = true then (cutI (bst x ss k).2.2 (ss.getD k 0) (bst x ss k).1 (bst x ss k).2.1, (bst x ss k).2.1, (bst x ss k).2.2 + 1)
    else ((bst x ss k).1, cutI (bst x ss k).2.2 (ss.getD k 0) (bst x ss k).1 (bst x ss k).2.1, (bst x ss k).2.2)
def btwR (x : Str) (ss : List Int) : Int × Int :=
  if x.length < ss.length then ((bst x ss x.length).1, (bst x ss x.length).1) else if ss.length < x.length then ((bst x ss ss.length).2.1, (bst x ss ss.length).2.1) else ((bst x ss ss.length).1, (bst x ss ss.length).2.1)
theorem btw1 {x : Str} {sn : List Int} {low high turns kN : Int} {pre : List Int} (hk : kN = 0 + (pre.length : Int)) (h1 : low = (bst x sn pre.length).1) (h2 : high = (bst x sn pre.length).2.1) (h3 : turns = (bst x sn pre.length).2.2) (h4 : 0 ≤ turns) (h5 : turns ≤ (pre.length : Int))
    (hc : (Txt.item x kN == Str.ofString "b") = true) :
    cutI turns (sn.getD kN.toNat 0) low high = (bst x sn (pre ++ [kN]).length).1 ∧ high = (bst x sn (pre ++ [kN]).length).2.1 ∧ turns + 1 = (bst x sn (pre ++ [kN]).length).2.2 ∧ 0 ≤ turns + 1 ∧ turns + 1 ≤ ((pre ++ [kN]).length : Int) := by
  have e : kN = (pre.length : Int) := by omega
  subst e
  have e2 : (pre ++ [(pre.length : Int)]).length = pre.length + 1 := by simp
  rw [e2, bst, if_pos hc, ← h1, ← h2, ← h3]
  simp only [Int.toNat_natCast]
  refine ⟨trivial, trivial, trivial, by omega, by omega⟩
theorem btw2 {x : Str} {sn : List Int} {low high turns kN : Int} {pre : List Int} (hk : kN = 0 + (pre.length : Int)) (h1 : low = (bst x sn pre.length).1) (h2 : high = (bst x sn pre.length).2.1) (h3 : turns = (bst x sn pre.length).2.2) (h4 : 0 ≤ turns) (h5 : turns ≤ (pre.length : Int))
    (hc : (Txt.item x kN == Str.ofString "b") = false) :
    low = (bst x sn (pre ++ [kN]).length).1 ∧ cutI turns (sn.getD kN.toNat 0) low high = (bst x sn (pre ++ [kN]).length).2.1 ∧ turns = (bst x sn (pre ++ [kN]).length).2.2 ∧ 0 ≤ turns ∧ turns ≤ ((pre ++ [kN]).length : Int) := by
  have e : kN = (pre.length : Int) := by omega
  subst e
  have e2 : (pre ++ [(pre.length : Int)]).length = pre.length + 1 := by simp
  rw [e2, bst, if_neg (by rw [hc]; decide), ← h1, ← h2, ← h3]
  simp only [Int.toNat_natCast]
  refine ⟨trivial, trivial, trivial, by omega, by omega⟩
theorem btwEnd (x : Str) (sn : List Int) : (rangeKs 0 ((if (sn.length : Int) < (x.length : Int) then (sn.length : Int) else (x.length : Int)) - 0).toNat).length = if sn.length < x.length then sn.length else x.length := by
  rw [rangeKs_length]
  split <;> split <;> omega
theorem btwA {x : Str} {sn : List Int} {low : Int} (h1 : low = (bst x sn (rangeKs 0 ((if (sn.length : Int) < (x.length : Int) then (sn.length : Int) else (x.length : Int)) - 0).toNat).length).1) (hc : (x.length : Int) < (sn.length : Int)) : low = (btwR x sn).1 ∧ low = (btwR x sn).2 := by
  rw [btwEnd, if_neg (by omega)] at h1
  rw [btwR, if_pos (by omega)]; exact ⟨h1, h1⟩
theorem btwB {x : Str} {sn : List Int} {high : Int} (h1 : high = (bst x sn (rangeKs 0 ((if (sn.length : Int) < (x.length : Int) then (sn.length : Int) else (x.length : Int)) - 0).toNat).length).2.1) (hc : (sn.length : Int) < (x.length : Int)) : high = (btwR x sn).1 ∧ high = (btwR x sn).2 := by
  rw [btwEnd, if_pos (by omega)] at h1
  rw [btwR, if_neg (by omega), if_pos (by omega)]; exact ⟨h1, h1⟩
theorem btwC {x : Str} {sn : List Int} {low high : Int} (h1 : low = (bst x sn (rangeKs 0 ((if (sn.length : Int) < (x.length : Int) then (sn.length : Int) else (x.length : Int)) - 0).toNat).length).1)
    (h2 : high = (bst x sn (rangeKs 0 ((if (sn.length : Int) < (x.length : Int) then (sn.length : Int) else (x.length : Int)) - 0).toNat).length).2.1) (hc : ¬ (sn.length : Int) < (x.length : Int)) (hc' : ¬ (x.length : Int) < (sn.length : Int)) : low = (btwR x sn).1 ∧ high = (btwR x sn).2 := by
  rw [btwEnd, if_neg (by omega)] at h1 h2
  have e : x.length = sn.length := by omega
  rw [btwR, if_neg (by omega), if_neg (by omega), ← e]; exact ⟨h1, h2⟩
theorem retTup {r1 r2 x y : Int} {t1 t2 : Tok} {h' : Heap} {tk : Nat} {L D : Addr} {news : List (Addr × Obj)} (h : ∀ h' tk a t1 t2, s.heap.StaysIn h' → h'.get? a = some { cls := .type "tuple", data := .seq #[.int r1 t1, .int r2 t2] } → s.heap.get? a = none → Q (.ref a) { s with heap := h', toks := tk })
    (N : News s.heap L h' ((D, { cls := .type "tuple", data := .seq [.int x t1, .int y t2].toArray }) :: news)) (e : x = r1 ∧ y = r2) (k : s.heap.StaysIn h') : Q (.ref D) { s with heap := h', toks := tk } := by
  obtain ⟨rfl, rfl⟩ := e
  exact h _ _ _ _ _ k (N _ (.head _)).1 (N _ (.head _)).2.2
set_option maxHeartbeats 4000000 in
theorem betweenC {x : Str} {tx : Tok} {ls : Addr} {sv : List Value} {sn : List Int} (C : Cx w (n + 1) A s) (hl2 : s.heap.IsList ls sv.toArray) (hsv : IntsAre sv sn) (hsl : sn.length ≤ 5) (hxl : x.length ≤ 6)
    (h : ∀ h' tk a t1 t2, s.heap.StaysIn h' → h'.get? a = some { cls := .type "tuple", data := .seq #[.int (btwR x sn).1 t1, .int (btwR x sn).2 t2] } → s.heap.get? a = none → Q (.ref a) { s with heap := h', toks := tk }) :
    wpAny (model PySem.Challenge.rw_re0062_01.row.prog w) A (call (.ref 88) [.str x tx, .ref ls]) Q E s := by
  w_on
  have hX : (hd.heap_39 w.params) = (hd.heap_39 w.params) := rfl
  revert hX
  k_fill
  intro _
  refine' enterP (n := n) (binds := [(Str.ofString "text", .str x tx), (Str.ofString "sums", .ref ls)]) C ?o ?c ?b ?l ?_ ?c2 ?c3 ?c4 ?c5
  case o => k_dflt k_is
  case c => k_dflt k_is
  case b => exact fun _ => BindsTo.of_eq rfl
  case l => exact locs rfl
  case c2 => exact rfl
  case c3 => exact rfl
  case c4 => exact rfl
  case c5 => decide
  intro dp un gd base outer env p loose mean mg mb L' h₁ hd hu B F N X T
  k_with "pyIter ref" => k_dflt (k_state (fun pre low high turns => low = (bst x sn pre.length).1 ∧ high = (bst x sn pre.length).2.1 ∧ turns = (bst x sn pre.length).2.2 ∧ 0 ≤ turns ∧ turns ≤ (pre.length : Int)) "low" "high" "turns")
  k_with "state" => first | exact btw1 (by assumption) (by assumption) (by assumption) (by assumption) (by assumption) (by assumption) (by assumption) | exact btw2 (by assumption) (by assumption) (by assumption) (by assumption) (by assumption) (by assumption) (by assumption)
  k_steps
  all_goals dsimp only
  · exact retTup h (by assumption) (btwA (by assumption) (by assumption)) (Fr.keep (by assumption))
  · exact retTup h (by assumption) (btwB (by assumption) (by assumption)) (Fr.keep (by assumption))
  · exact retTup h (by assumption) (btwC (by assumption) (by assumption) (by assumption) (by assumption)) (Fr.keep (by assumption))
end Mine
namespace Mine
variable {w : World} {n : Nat} {A : Around} {s : Shared} {Q E : Value → Shared → Prop}
/-- entering a lambda: all that stood is kept -/
theorem enterLam {prog : Program} {name qual : Str} {params : Arguments} {body : PySem.Expr} {scope : Scope} {cl : List (Str × Addr)} {pm ctv : Value} {c' f : Addr} {vs : List Value} {binds : List (Str × Value)} (C : Cx w (n + 1) A s)
    (ho : s.heap.get? f = some (kla_obj name qual params body scope cl pm c' ctv)) (hcd : s.heap.CodeRec (.ref c') qual)
    (hbind : bindArgs (kla_fn name qual params body scope cl pm (.ref c') ctv) ⟨vs, []⟩ = pure binds) (hloc : ∀ y ∈ binds, scope.names.lookup y.1 = some .local)
    (h : ∀ (dp un : Nat) (gd : Option (List Code)) (base : Heap) (outer : List Env) (env : Env) (p : Program) (loose : List Str) (mean : ExcName → Option Value) (mg mb : Str → Option Value) (L' : Addr) (h₁ : Heap), dp + n < recursionLimit → un + 8 * n < cLine →
      Below A base (env :: outer) s.heap → Fr s.heap L' h₁ (fun y => binds.reverse.lookup y) → News s.heap L' h₁ [] → (hd.heap_39 w.params).In s.heap → Top p loose mean mg mb s.heap →
      wpAny (model prog w) { handled := none, depth := dp, frames := some (envX qual scope L' f (.ref c') cl :: env :: outer), guards := gd, units := un } (eval body (envX qual scope L' f (.ref c') cl))
        Q (fun _ _ => False) { s with heap := h₁, toks := s.toks + binds.length })
    (hco : scope.isCoroutine = false) (hgen : scope.isGenerator = false) (hk : scope.kind = .function) (hcell : ∀ x ∈ scope.names, x.2 ≠ .cell) :
    wpAny (model prog w) A (call (.ref f) vs []) Q E s := by
  obtain ⟨A₀, base, outer, h₀, L, m, env, p, loose, mean, mg, mb, B, F, X, T, hA, hf, hke, hh, hd, hu⟩ := C
  have X' := X.keeps F.keep
  have T' := T.keeps F.keep
  have B₁ := pushX B F hf hke
  have BG : Below A base (env :: outer) s.heap := ⟨hA, B₁.stays, B₁.frames⟩
  refine wpAny_call ?_
  refine kla_callFunE (by omega) ho rfl hco hgen rfl hcd ?_
  rw [hbind]
  refine wpAny_pure (wpAny_newFunctionEnv hcell hloc (fun h₁ hns hsb => ⟨((T.nolimit).keeps F.keep).fresh _ hsb, ?_⟩) hk)
  have hk₁ : ∀ b o, s.heap.get? b = some o → h₁.get? b = some o := fun b o e => hsb.extBut b o (Nat.ne_of_lt (Heap.lt_size e)) (Heap.get?_push_of_some _ e)
  have key := h (A.depth + 1) (A.units + 3) (A.deeper (envX qual scope s.heap.objs.size f (.ref c') cl)).guards base outer env p loose mean mg mb s.heap.objs.size h₁ (by omega) (by omega) BG ⟨hns, hk₁, Nat.le_refl _⟩ News.nil X' T'
  have hAe : (A.deeper (envX qual scope s.heap.objs.size f (.ref c') cl)) = { handled := none, depth := A.depth + 1, frames := some (envX qual scope s.heap.objs.size f (.ref c') cl :: env :: outer), guards := (A.deeper (envX qual scope s.heap.objs.size f (.ref c') cl)).guards, units := A.units + 3 } := by
    have e1 : (A.deeper (envX qual scope s.heap.objs.size f (.ref c') cl)).frames = some (envX qual scope s.heap.objs.size f (.ref c') cl :: env :: outer) := Around.frames_deeper hA
    have e2 : (A.deeper (envX qual scope s.heap.objs.size f (.ref c') cl)).handled = none := hh
    rw [← e1, ← e2]
    rfl
  rw [← hAe] at key
  show codeAny _ _ (.expr body (envX qual scope s.heap.objs.size f (.ref c') cl)) _ _
  exact kla_codeExpr (wpAny_mono key (fun v s' x => x) (fun _ _ x => x.elim))
theorem Cx.deep {A₁ : Around} {base g : Heap} {outer : List Env} {L : Addr} {m : Str → Option Value} {env : Env} {p : Program} {loose : List Str} {mean : ExcName → Option Value} {mg mb : Str → Option Value}
    (B : Below A₁ base outer g) (F : Fr g L s.heap m) (X : (hd.heap_39 w.params).In g) (T : Top p loose mean mg mb g) (hf : env.frame = some L) (hk : env.scope.kind = .function)
    (hh : A₁.handled = none) (hd : A₁.depth + 1 + n < recursionLimit) (hu : A₁.units + 3 + 8 * n < cLine) : Cx w n (A₁.deeper env) s := Cx.mk B F X T (Around.frames_deeper B.stack) hf hk hh hd hu
theorem nameFree {M : Model} {h₀ : Heap} {L a c : Addr} {m : Str → Option Value} {cn : Str} {cs : Scope} {ccd v : Value} {cl : List (Str × Addr)} {x : Str} {pos : Pos} (F : Fr h₀ L s.heap m) (hc : cl.lookup x = some c) (hv : h₀.IsCell c (some v)) (h : Q v s)
    (hk : cs.kind = .function) (hx : (envX cn cs L a ccd cl).kindOf x = some .free) (hb : (x == ("__debug__" : Str)) = false) (hn : (x == ("__classdict__" : Str)) = false) :
    wpAny M A (eval (.Name x pos) (envX cn cs L a ccd cl)) Q E s :=
  let ⟨o, e, hd⟩ := hv
  wpAny_Name (wpAny_loadName_free hk hx hc ⟨o, F.keep _ _ e, hd⟩ h hn) hb
def KVx (ws : List Str) (i : Nat) (kv : Value) : Prop := ∃ v t, ws[i]? = some v ∧ kv = .str v t
theorem keyX {h₀ : Heap} {ws : List Str} : KeyCall w (n + 1) h₀ 28 ws (KVx ws) := fun _ _ i v t _ _ C _ hv h => strxfrmC C fun h' tk k => h h' tk _ k ⟨v, t, hv, rfl⟩
theorem keyXL {ws : List Str} {x : Str} {tx : Tok} {r : Nat} (hs : ∀ i v, ws[i]? = some v → (v.cps.toList < x.cps.toList ↔ i < r)) : KeyLess w ws (KVx ws) (.str x tx) r := by
  rintro A' s' i v kv Q' E' hv ⟨v', t, hv', rfl⟩ h
  refine PyProof.Rows.lt_str ?_
  rw [hv] at hv'; cases hv'
  have e : decide (v.cps.toList < x.cps.toList) = decide (i < r) := by simp only [hs i v hv]
  rw [e]; exact h
theorem keyXR {ws : List Str} {x : Str} {tx : Tok} {r : Nat} (hs : ∀ i v, ws[i]? = some v → (x.cps.toList < v.cps.toList ↔ ¬ i < r)) : KeyMore w ws (KVx ws) (.str x tx) r := by
  rintro A' s' i v kv Q' E' hv ⟨v', t, hv', rfl⟩ h
  refine PyProof.Rows.lt_str ?_
  rw [hv] at hv'; cases hv'
  have e : decide (x.cps.toList < v.cps.toList) = decide (¬ i < r) := by simp only [hs i v hv]
  rw [e]; exact h
def KVs (ws : List Str) (x : Str) (i : Nat) (kv : Value) : Prop := ∃ v t, ws[i]? = some v ∧ kv = .int (b2i (decide (x.cps.toList < v.cps.toList)) - b2i (decide (v.cps.toList < x.cps.toList))) t
theorem sign_lt (a b : List Nat) : (b2i (decide (a < b)) - b2i (decide (b < a)) < 0 ↔ b < a) ∧ (0 < b2i (decide (a < b)) - b2i (decide (b < a)) ↔ a < b) := by
  have h : a < b → ¬ b < a := List.lt_asymm
  by_cases h1 : a < b
  · have h2 := h h1
    rw [decide_eq_true h1, decide_eq_false h2]
    exact ⟨⟨fun q => absurd q (by decide), fun q => absurd q h2⟩, ⟨fun _ => h1, fun _ => by decide⟩⟩
  · rw [decide_eq_false h1]
    by_cases h2 : b < a
    · rw [decide_eq_true h2]
      exact ⟨⟨fun _ => h2, fun _ => by decide⟩, ⟨fun q => absurd q (by decide), fun q => absurd q h1⟩⟩
    · rw [decide_eq_false h2]
      exact ⟨⟨fun q => absurd q (by decide), fun q => absurd q h2⟩, ⟨fun q => absurd q (by decide), fun q => absurd q h1⟩⟩
theorem keySL {ws : List Str} {x : Str} {tx : Tok} {r : Nat} (hs : ∀ i v, ws[i]? = some v → (v.cps.toList < x.cps.toList ↔ i < r)) : KeyLess w ws (KVs ws x) (.int 0 tx) r := by
  rintro A' s' i v kv Q' E' hv ⟨v', t, hv', rfl⟩ h
  refine PyProof.Rows.lt_int ?_
  rw [hv] at hv'; cases hv'
  have e : decide (b2i (decide (x.cps.toList < v.cps.toList)) - b2i (decide (v.cps.toList < x.cps.toList)) < 0) = decide (i < r) := by rw [decide_eq_decide]; exact ((sign_lt _ _).1).trans (hs i v hv)
  rw [e]; exact h
theorem keySR {ws : List Str} {x : Str} {tx : Tok} {r : Nat} (hs : ∀ i v, ws[i]? = some v → (x.cps.toList < v.cps.toList ↔ ¬ i < r)) : KeyMore w ws (KVs ws x) (.int 0 tx) r := by
  rintro A' s' i v kv Q' E' hv ⟨v', t, hv', rfl⟩ h
  refine PyProof.Rows.lt_int ?_
  rw [hv] at hv'; cases hv'
  have e : decide (0 < b2i (decide (x.cps.toList < v.cps.toList)) - b2i (decide (v.cps.toList < x.cps.toList))) = decide (¬ i < r) := by rw [decide_eq_decide]; exact ((sign_lt _ _).2).trans (hs i v hv)
  rw [e]; exact h
theorem fn28 {h : Heap} (X : (hd.heap_39 w.params).In h) (hp : PySem.Challenge.rw_re0062_01.row.prog = PySem.Challenge.rw_re0062_01.row.prog) : FnAt 28 h := by
  revert X hp
  k_fill
  intro X hp
  have key : ∀ {oc : Value} {od : Option Addr} {fd : FuncData} {sl : Array (Option Value)}, (hd.heap_39 w.params).lookup 28 = some ⟨oc, od, .func fd, sl⟩ → FnAt 28 h := fun e => ⟨_, _, _, _, X _ _ e⟩
  refine' key ?e
  case e => k_dflt k_is
end Mine
namespace Mine
section
local macro_rules | `(tactic| k_all) => `(tactic| assumption)
local macro_rules | `(tactic| k_mem) => `(tactic| assumption)
local macro_rules | `(tactic| walk_at "call ref") => `(tactic| (k_here; k_dflt (refine' strxfrmC (n := 3) ?c ?_; (case c => exact Cx.deep (by k_asm) (by k_asm) (by k_asm) (by k_asm) rfl rfl (by assumption) (by omega) (by omega))); intro h' tk' st'; (have F' := frStays (by k_asm) st'); (have N' := newsStays (by k_asm) st'); (try k_sweep)))
local macro_rules | `(tactic| walk_at "call ref") => `(tactic| (k_here; k_dflt (refine' bisLk (n := 2) (f := 28) ?c ?l ?w ?r ?n ?f ?kc ?kl ?_; (case c => exact Cx.deep (by k_asm) (by k_asm) (by k_asm) (by k_asm) rfl rfl (by assumption) (by omega) (by omega)); (case l => exact News.isList (by k_asm) (by k_mem)); (case w => assumption); (case kl => exact keyXL (by assumption)); (case kc => exact keyX); (case r => assumption); (case n => assumption); (case f => exact fn28 (Frag.In.keeps (by k_asm) (Fr.keep (by k_asm))) rfl)); intro h' tk' t' st'; (have F' := frStays (by k_asm) st'); (have N' := newsStays (by k_asm) st'); (try k_sweep)))
local macro_rules | `(tactic| walk_at "call ref") => `(tactic| (k_here; k_dflt (refine' bisRk (n := 2) (f := 28) ?c ?l ?w ?r ?n ?f ?kc ?kl ?_; (case c => exact Cx.deep (by k_asm) (by k_asm) (by k_asm) (by k_asm) rfl rfl (by assumption) (by omega) (by omega)); (case l => exact News.isList (by k_asm) (by k_mem)); (case w => assumption); (case kl => exact keyXR (by assumption)); (case kc => exact keyX); (case r => assumption); (case n => assumption); (case f => exact fn28 (Frag.In.keeps (by k_asm) (Fr.keep (by k_asm))) rfl)); intro h' tk' t' st'; (have F' := frStays (by k_asm) st'); (have N' := newsStays (by k_asm) st'); (try k_sweep)))
local macro_rules | `(tactic| walk_at "call ref") => `(tactic| (k_here; k_dflt (refine' strcollC (n := 0) ?c ?_; (case c => exact Cx.mk (by k_asm) (by k_asm) (by k_asm) (by k_asm) rfl rfl rfl rfl (by first | assumption | (dsimp only; omega)) (by first | assumption | (dsimp only; omega)))); intro h' tk' t' st'; (have F' := frStays (by k_asm) st'); (have N' := newsStays (by k_asm) st'); (try k_sweep)))
local macro_rules | `(tactic| walk_at "eval Name") => `(tactic| (k_here; k_dflt (refine' nameFree ?F ?c ?v ?_ ?k ?x ?b ?n; (case F => k_asm); (case c => exact rfl); (case v => assumption); (case k => exact rfl); (case x => exact rfl); (case b => decide); (case n => decide))))
section
theorem rst6 : True := by
  w_top off
  trivial
end
section
variable {w : World} {n : Nat} {A : Around} {s : Shared} {Q E : Value → Shared → Prop}
def lamQual : Str := Str.ofString "_law_stand" ++ Str.ofString ".<locals>." ++ Str.ofString "<lambda>"
/-- the table of the two lambdas' codes, filled -/
def Tab2 (h₀ : Heap) (L : Addr) (h : Heap) : Prop := ∃ (k1 k2 : Addr) (oc1 oc2 : Obj) (vs1 vs2 : Array Value) (t1 t2 : Tok), News h₀ L h [(90, tabObj #[rawInt 135, rawInt 0, .ref k1, rawInt 136, rawInt 0, .ref k2]), (k1, oc1), (k2, oc2)] ∧
  oc1.data = .fields vs1 ∧ vs1[1]? = some (.str lamQual t1) ∧ oc2.data = .fields vs2 ∧ vs2[1]? = some (.str lamQual t2) ∧ k1 ≠ 90 ∧ k2 ≠ 90
def TabOk (h₀ : Heap) (L : Addr) (h : Heap) : Prop := News h₀ L h [(90, tabObj #[])] ∨ Tab2 h₀ L h
theorem news_sub {h₀ h : Heap} {L : Addr} {l l' : List (Addr × Obj)} (N : News h₀ L h l) (hs : ∀ p ∈ l', p ∈ l) : News h₀ L h l' := fun p hp => N p (hs p hp)
theorem news_app {h₀ h : Heap} {L : Addr} {l l' : List (Addr × Obj)} (N : News h₀ L h l) (N' : News h₀ L h l') : News h₀ L h (l ++ l') := fun p hp => (List.mem_append.mp hp).elim (N p) (N' p)
theorem news3 {h₀ h : Heap} {L : Addr} {x y z : Addr × Obj} (h1 : h.get? x.1 = some x.2 ∧ x.1 ≠ L ∧ h₀.get? x.1 = none) (h2 : h.get? y.1 = some y.2 ∧ y.1 ≠ L ∧ h₀.get? y.1 = none) (h3 : h.get? z.1 = some z.2 ∧ z.1 ≠ L ∧ h₀.get? z.1 = none) : News h₀ L h [x, y, z] := by
  intro q hq
  simp only [List.mem_cons, List.not_mem_nil, or_false] at hq
  rcases hq with rfl | rfl | rfl
  · exact h1
  · exact h2
  · exact h3
/-- what a call of _law_stand hands back -/
def StandRet (s : Shared) (Q : Value → Shared → Prop) (h₀ : Heap) (L : Addr) (m : Str → Option Value) (rest : List (Addr × Obj)) (rl rr : Nat) : Prop :=
  ∀ (h' : Heap) (tk : Nat) (a b c : Addr) (t1 t2 t3 t4 : Tok), Fr h₀ L h' m → News h₀ L h' rest → Tab2 h₀ L h' → News h₀ L h' [(a, { cls := .type "tuple", data := .seq #[.ref b, .ref c] }), (b, { cls := .type "tuple", data := .seq #[.int rl t1, .int rr t2] }), (c, { cls := .type "tuple", data := .seq #[.int rl t3, .int rr t4] })] → Q (.ref a) { s with heap := h', toks := tk }
theorem standEnd {h₀ h' : Heap} {L a b c k1 k2 f1 f2 cl : Addr} {m : Str → Option Value} {rest : List (Addr × Obj)} {rl rr tk : Nat} {t1 t2 t3 t4 u1 u2 : Tok} {o1 o2 oc1 oc2 ocl : Obj} {vs1 vs2 : Array Value} (hret : StandRet s Q h₀ L m rest rl rr) (F : Fr h₀ L h' m)
    (N : News h₀ L h' ((a, { cls := .type "tuple", data := .seq #[.ref b, .ref c] }) :: (c, { cls := .type "tuple", data := .seq #[.int rl t3, .int rr t4] }) :: (f2, o2) :: (k2, oc2) :: (f1, o1) :: (k1, oc1) :: (b, { cls := .type "tuple", data := .seq #[.int rl t1, .int rr t2] }) :: (cl, ocl) ::
      (90, tabObj (#[] ++ #[rawInt ((135 : Nat) : Int), rawInt ((0 : Nat) : Int), .ref k1] ++ #[rawInt ((136 : Nat) : Int), rawInt ((0 : Nat) : Int), .ref k2])) :: rest))
    (h1 : oc1.data = .fields vs1) (h2 : vs1[1]? = some (.str lamQual u1)) (h3 : oc2.data = .fields vs2) (h4 : vs2[1]? = some (.str lamQual u2)) (h5 : @LT.lt Nat _ 90 k1) (h6 : @LT.lt Nat _ 90 k2) : Q (.ref a) { s with heap := h', toks := tk } := by
  refine hret h' tk a b c t1 t2 t3 t4 F (news_sub N fun p hp => ?_) ⟨k1, k2, oc1, oc2, vs1, vs2, u1, u2, fun p hp => N p ?_, h1, h2, h3, h4, Nat.ne_of_gt h5, Nat.ne_of_gt h6⟩ (news3 (N _ (.head _)) (N _ (.tail _ (.tail _ (.tail _ (.tail _ (.tail _ (.tail _ (.head _)))))))) (N _ (.tail _ (.head _))))
  · repeat (first | exact hp | refine List.mem_cons_of_mem _ ?_)
  · simp only [List.mem_cons, List.not_mem_nil, or_false] at hp
    rcases hp with rfl | rfl | rfl
    · iterate 8 refine List.mem_cons_of_mem _ ?_
      exact .head _
    · iterate 5 refine List.mem_cons_of_mem _ ?_
      exact .head _
    · iterate 3 refine List.mem_cons_of_mem _ ?_
      exact .head _
set_option maxHeartbeats 4000000 in
theorem standA {A₀ : Around} {base h₀ : Heap} {outer : List Env} {L lw : Addr} {m mg mb : Str → Option Value} {env : Env} {p : Program} {loose : List Str} {mean : ExcName → Option Value} {rest : List (Addr × Obj)} {vs : List Value} {ws : List Str} {x : Str} {tx : Tok} {en rl rr : Nat}
    (B : Below A₀ base outer h₀) (F : Fr h₀ L s.heap m) (X : (hd.heap_39 w.params).In h₀) (N0 : News h₀ L s.heap rest) (NT : News h₀ L s.heap [(90, tabObj #[])]) (T : Top p loose mean mg mb h₀) (hA : A.frames = some (env :: outer)) (hf : env.frame = some L) (hke : env.scope.kind = .function)
    (hh : A.handled = none) (hroom : A.depth + 6 < recursionLimit) (hunits : A.units + 100 < cLine) (CH : CodeHd base 94 90) (hr0 : ∀ p ∈ rest, p.1 ≠ 90)
    (hl : (lw, { cls := .type "list", data := .seq vs.toArray en }) ∈ rest) (hw : StrsAre vs ws) (hn : ws.length ≤ 100) (hrl : rl ≤ ws.length) (hrr : rr ≤ ws.length)
    (hsl : ∀ i v, ws[i]? = some v → (v.cps.toList < x.cps.toList ↔ i < rl)) (hsr : ∀ i v, ws[i]? = some v → (x.cps.toList < v.cps.toList ↔ ¬ i < rr)) (hret : StandRet s Q h₀ L m rest rl rr) :
    wpAny (model PySem.Challenge.rw_re0062_01.row.prog w) A (call (.ref 95) [.ref lw, .str x tx]) Q E s := by
  w_on
  revert X
  k_fill
  intro X
  have hr : ∀ p ∈ rest, p.1 ≠ 90 := hr0
  have N : News h₀ L s.heap ((90, tabObj #[]) :: rest) := news_app NT N0
  refine wpAny_call ?_
  refine' code_defC (binds := [(Str.ofString "words", .ref lw), (Str.ofString "text", .str x tx)]) B F X N T hA hf hke ?k6 ?k7 ?k8 ?k9 ?kB ?kD ?_ ?c2 ?c3 ?c4
  case k6 => k_dflt k_is
  case k7 => k_dflt k_is
  case k8 => omega
  case k9 => exact BindsTo.of_eq rfl
  case kB => exact rfl
  case kD => decide +kernel
  case c2 => exact rfl
  case c3 => exact rfl
  case c4 => exact rfl
  intro g' L' h' tk' cells' FG' F' N' Y' B' X' T' l1
  have l90 : @LT.lt Nat _ 90 L' := l1 _ (.head _)
  clear N N0 NT
  k_cells Y'
  simp only [List.cons_append, List.nil_append] at N'
  repeat' ((fail_if_success (with_reducible show wpAny _ _ (call (Value.ref 53) [_, Value.int _ _] _) _ _ _)); first | (k_unfold; (try dsimp only)) | (k_end; wrow_close) | walk1 | (dsimp only; walk1))
  k_dflt (refine' bisLk (n := 2) (KV := KVs ws x) ?c ?l hw ?r hn ?f ?kc ?kl ?_)
  (case c => exact Cx.deep (by k_asm) (by k_asm) (by k_asm) (by k_asm) rfl rfl (by assumption) (by omega) (by omega))
  (case l => exact News.isList (by k_asm) (by k_mem))
  (case kl => exact keySL (by assumption))
  (case r => assumption)
  (case f => exact FnAt.of (by k_asm) (by k_mem))
  (case kc =>
    intro A2 s2 i2 v2 t2 Q2 E2 C2 st2 hv2 hq2
    refine' enterLam (n := 1) (binds := [(Str.ofString "word", .str v2 t2)]) C2 ?ho ?hcd ?hb ?hl ?_ ?c2 ?c3 ?c4 ?c5
    (case ho => exact st2 _ _ (News.get (by k_asm) (by k_mem)))
    (case hcd => exact Heap.CodeRec.keeps (codeRec_news (by k_asm) (by k_mem) (by assumption) (by assumption)) st2)
    (case hb => exact rfl)
    (case hl => exact locs rfl)
    (case c2 => exact rfl)
    (case c3 => exact rfl)
    (case c4 => exact rfl)
    (case c5 => decide)
    have hcell : s2.heap.IsCell (L' + 1) (some (.str x tx)) := ⟨_, st2 _ _ (News.get (by k_asm) (by k_mem)), by assumption⟩
    rename News _ _ _ _ => Nout
    clear Nout
    intro dp un gd base2 outer2 env2 p2 loose2 mean2 mg2 mb2 L2 h2 hd2 hu2 B2 F2 N2 X2 T2
    k_steps
    exact hq2 _ _ _ (Fr.keep (by assumption)) ⟨_, _, hv2, rfl⟩)
  intro h9 tk9 t9 st9
  have F9 := frStays (by k_asm) st9
  have N9 := newsStays (by k_asm) st9
  k_sweep
  repeat' ((fail_if_success (with_reducible show wpAny _ _ (call (Value.ref 44) [_, Value.int _ _] _) _ _ _)); first | (k_unfold; (try dsimp only)) | (k_end; wrow_close) | walk1 | (dsimp only; walk1))
  k_dflt (refine' bisRk (n := 2) (KV := KVs ws x) ?c ?l hw ?r hn ?f ?kc ?kl ?_)
  (case c => exact Cx.deep (by k_asm) (by k_asm) (by k_asm) (by k_asm) rfl rfl (by assumption) (by omega) (by omega))
  (case l => exact News.isList (by k_asm) (by k_mem))
  (case kl => exact keySR (by assumption))
  (case r => assumption)
  (case f => exact FnAt.of (by k_asm) (by k_mem))
  (case kc =>
    intro A2 s2 i2 v2 t2 Q2 E2 C2 st2 hv2 hq2
    refine' enterLam (n := 1) (binds := [(Str.ofString "word", .str v2 t2)]) C2 ?ho ?hcd ?hb ?hl ?_ ?c2 ?c3 ?c4 ?c5
    (case ho => exact st2 _ _ (News.get (by k_asm) (by k_mem)))
    (case hcd => exact Heap.CodeRec.keeps (codeRec_news (by k_asm) (by k_mem) (by assumption) (by assumption)) st2)
    (case hb => exact rfl)
    (case hl => exact locs rfl)
    (case c2 => exact rfl)
    (case c3 => exact rfl)
    (case c4 => exact rfl)
    (case c5 => decide)
    have hcell : s2.heap.IsCell (L' + 1) (some (.str x tx)) := ⟨_, st2 _ _ (News.get (by k_asm) (by k_mem)), by assumption⟩
    rename News _ _ _ _ => Nout
    clear Nout
    intro dp un gd base2 outer2 env2 p2 loose2 mean2 mg2 mb2 L2 h2 hd2 hu2 B2 F2 N2 X2 T2
    k_steps
    exact hq2 _ _ _ (Fr.keep (by assumption)) ⟨_, _, hv2, rfl⟩)
  intro h9 tk9 t9 st9
  have F9 := frStays (by k_asm) st9
  have N9 := newsStays (by k_asm) st9
  k_sweep
  k_steps
  rename News h₀ L _ _ => NE
  rename Fr h₀ L _ _ => FE
  exact standEnd hret FE NE (by assumption) (by assumption) (by assumption) (by assumption) (by omega) (by omega)
end
section
local macro_rules | `(tactic| walk_at "zz0") => `(tactic| fail)
theorem rst7 : True := by
  w_top off
  first | walk1 | trivial
end
section
variable {w : World} {n : Nat} {A : Around} {s : Shared} {Q E : Value → Shared → Prop}
theorem standEndB {h₀ h' : Heap} {L a b c k1 k2 f1 f2 cl : Addr} {m : Str → Option Value} {rest : List (Addr × Obj)} {rl rr tk : Nat} {t1 t2 t3 t4 u1 u2 : Tok} {o1 o2 oc1 oc2 ocl : Obj} {vs1 vs2 : Array Value} (hret : StandRet s Q h₀ L m rest rl rr) (F : Fr h₀ L h' m)
    (N : News h₀ L h' ((a, { cls := .type "tuple", data := .seq #[.ref b, .ref c] }) :: (c, { cls := .type "tuple", data := .seq #[.int rl t3, .int rr t4] }) :: (f2, o2) :: (f1, o1) :: (b, { cls := .type "tuple", data := .seq #[.int rl t1, .int rr t2] }) :: (cl, ocl) ::
      (90, tabObj #[rawInt 135, rawInt 0, .ref k1, rawInt 136, rawInt 0, .ref k2]) :: (k1, oc1) :: (k2, oc2) :: rest))
    (h1 : oc1.data = .fields vs1) (h2 : vs1[1]? = some (.str lamQual u1)) (h3 : oc2.data = .fields vs2) (h4 : vs2[1]? = some (.str lamQual u2)) (h5 : k1 ≠ 90) (h6 : k2 ≠ 90) : Q (.ref a) { s with heap := h', toks := tk } := by
  refine hret h' tk a b c t1 t2 t3 t4 F (news_sub N fun p hp => ?_) ⟨k1, k2, oc1, oc2, vs1, vs2, u1, u2, fun p hp => N p ?_, h1, h2, h3, h4, h5, h6⟩ (news3 (N _ (.head _)) (N _ (.tail _ (.tail _ (.tail _ (.tail _ (.head _)))))) (N _ (.tail _ (.head _))))
  · repeat (first | exact hp | refine List.mem_cons_of_mem _ ?_)
  · simp only [List.mem_cons, List.not_mem_nil, or_false] at hp
    rcases hp with rfl | rfl | rfl
    · iterate 6 refine List.mem_cons_of_mem _ ?_
      exact .head _
    · iterate 7 refine List.mem_cons_of_mem _ ?_
      exact .head _
    · iterate 8 refine List.mem_cons_of_mem _ ?_
      exact .head _
set_option maxHeartbeats 4000000 in
theorem standB {A₀ : Around} {base h₀ : Heap} {outer : List Env} {L lw : Addr} {m mg mb : Str → Option Value} {env : Env} {p : Program} {loose : List Str} {mean : ExcName → Option Value} {rest : List (Addr × Obj)} {vs : List Value} {ws : List Str} {x : Str} {tx : Tok} {en rl rr : Nat}
    (B : Below A₀ base outer h₀) (F : Fr h₀ L s.heap m) (X : (hd.heap_39 w.params).In h₀) (N0 : News h₀ L s.heap rest) (NT : Tab2 h₀ L s.heap) (T : Top p loose mean mg mb h₀) (hA : A.frames = some (env :: outer)) (hf : env.frame = some L) (hke : env.scope.kind = .function)
    (hh : A.handled = none) (hroom : A.depth + 6 < recursionLimit) (hunits : A.units + 100 < cLine) (CH : CodeHd base 94 90) (hr0 : ∀ p ∈ rest, p.1 ≠ 90)
    (hl : (lw, { cls := .type "list", data := .seq vs.toArray en }) ∈ rest) (hw : StrsAre vs ws) (hn : ws.length ≤ 100) (hrl : rl ≤ ws.length) (hrr : rr ≤ ws.length)
    (hsl : ∀ i v, ws[i]? = some v → (v.cps.toList < x.cps.toList ↔ i < rl)) (hsr : ∀ i v, ws[i]? = some v → (x.cps.toList < v.cps.toList ↔ ¬ i < rr)) (hret : StandRet s Q h₀ L m rest rl rr) :
    wpAny (model PySem.Challenge.rw_re0062_01.row.prog w) A (call (.ref 95) [.ref lw, .str x tx]) Q E s := by
  w_on
  revert X
  k_fill
  intro X
  obtain ⟨k1, k2, oc1, oc2, vs1, vs2, u1, u2, NT2, q1, q2, q3, q4, q5, q6⟩ := NT
  have hr : ∀ p ∈ (k1, oc1) :: (k2, oc2) :: rest, p.1 ≠ 90 := List.forall_mem_cons.mpr ⟨q5, List.forall_mem_cons.mpr ⟨q6, hr0⟩⟩
  have N : News h₀ L s.heap ((90, tabObj #[rawInt 135, rawInt 0, .ref k1, rawInt 136, rawInt 0, .ref k2]) :: (k1, oc1) :: (k2, oc2) :: rest) := news_app NT2 N0
  refine wpAny_call ?_
  refine' code_defC (binds := [(Str.ofString "words", .ref lw), (Str.ofString "text", .str x tx)]) B F X N T hA hf hke ?k6 ?k7 ?k8 ?k9 ?kB ?kD ?_ ?c2 ?c3 ?c4
  case k6 => k_dflt k_is
  case k7 => k_dflt k_is
  case k8 => omega
  case k9 => exact BindsTo.of_eq rfl
  case kB => exact rfl
  case kD => decide +kernel
  case c2 => exact rfl
  case c3 => exact rfl
  case c4 => exact rfl
  intro g' L' h' tk' cells' FG' F' N' Y' B' X' T' l1
  have l90 : @LT.lt Nat _ 90 L' := l1 _ (.head _)
  clear N N0 NT2
  k_cells Y'
  simp only [List.cons_append, List.nil_append] at N'
  repeat' ((fail_if_success (with_reducible show wpAny _ _ (call (Value.ref 53) [_, Value.int _ _] _) _ _ _)); first | (k_unfold; (try dsimp only)) | (k_end; wrow_close) | walk1 | (dsimp only; walk1))
  k_dflt (refine' bisLk (n := 2) (KV := KVs ws x) ?c ?l hw ?r hn ?f ?kc ?kl ?_)
  (case c => exact Cx.deep (by k_asm) (by k_asm) (by k_asm) (by k_asm) rfl rfl (by assumption) (by omega) (by omega))
  (case l => exact News.isList (by k_asm) (by k_mem))
  (case kl => exact keySL (by assumption))
  (case r => assumption)
  (case f => exact FnAt.of (by k_asm) (by k_mem))
  (case kc =>
    intro A2 s2 i2 v2 t2 Q2 E2 C2 st2 hv2 hq2
    refine' enterLam (n := 1) (binds := [(Str.ofString "word", .str v2 t2)]) C2 ?ho ?hcd ?hb ?hl ?_ ?c2 ?c3 ?c4 ?c5
    (case ho => exact st2 _ _ (News.get (by k_asm) (by k_mem)))
    (case hcd => exact Heap.CodeRec.keeps (codeRec_news (by k_asm) (by k_mem) (by assumption) (by assumption)) st2)
    (case hb => exact rfl)
    (case hl => exact locs rfl)
    (case c2 => exact rfl)
    (case c3 => exact rfl)
    (case c4 => exact rfl)
    (case c5 => decide)
    have hcell : s2.heap.IsCell (L' + 1) (some (.str x tx)) := ⟨_, st2 _ _ (News.get (by k_asm) (by k_mem)), by assumption⟩
    rename News _ _ _ _ => Nout
    clear Nout
    intro dp un gd base2 outer2 env2 p2 loose2 mean2 mg2 mb2 L2 h2 hd2 hu2 B2 F2 N2 X2 T2
    k_steps
    exact hq2 _ _ _ (Fr.keep (by assumption)) ⟨_, _, hv2, rfl⟩)
  intro h9 tk9 t9 st9
  have F9 := frStays (by k_asm) st9
  have N9 := newsStays (by k_asm) st9
  k_sweep
  repeat' ((fail_if_success (with_reducible show wpAny _ _ (call (Value.ref 44) [_, Value.int _ _] _) _ _ _)); first | (k_unfold; (try dsimp only)) | (k_end; wrow_close) | walk1 | (dsimp only; walk1))
  k_dflt (refine' bisRk (n := 2) (KV := KVs ws x) ?c ?l hw ?r hn ?f ?kc ?kl ?_)
  (case c => exact Cx.deep (by k_asm) (by k_asm) (by k_asm) (by k_asm) rfl rfl (by assumption) (by omega) (by omega))
  (case l => exact News.isList (by k_asm) (by k_mem))
  (case kl => exact keySR (by assumption))
  (case r => assumption)
  (case f => exact FnAt.of (by k_asm) (by k_mem))
  (case kc =>
    intro A2 s2 i2 v2 t2 Q2 E2 C2 st2 hv2 hq2
    refine' enterLam (n := 1) (binds := [(Str.ofString "word", .str v2 t2)]) C2 ?ho ?hcd ?hb ?hl ?_ ?c2 ?c3 ?c4 ?c5
    (case ho => exact st2 _ _ (News.get (by k_asm) (by k_mem)))
    (case hcd => exact Heap.CodeRec.keeps (codeRec_news (by k_asm) (by k_mem) (by assumption) (by assumption)) st2)
    (case hb => exact rfl)
    (case hl => exact locs rfl)
    (case c2 => exact rfl)
    (case c3 => exact rfl)
    (case c4 => exact rfl)
    (case c5 => decide)
    have hcell : s2.heap.IsCell (L' + 1) (some (.str x tx)) := ⟨_, st2 _ _ (News.get (by k_asm) (by k_mem)), by assumption⟩
    rename News _ _ _ _ => Nout
    clear Nout
    intro dp un gd base2 outer2 env2 p2 loose2 mean2 mg2 mb2 L2 h2 hd2 hu2 B2 F2 N2 X2 T2
    k_steps
    exact hq2 _ _ _ (Fr.keep (by assumption)) ⟨_, _, hv2, rfl⟩)
  intro h9 tk9 t9 st9
  have F9 := frStays (by k_asm) st9
  have N9 := newsStays (by k_asm) st9
  k_sweep
  k_steps
  rename News h₀ L _ _ => NE
  rename Fr h₀ L _ _ => FE
  exact standEndB hret FE NE q1 q2 q3 q4 q5 q6
theorem standC {A₀ : Around} {base h₀ : Heap} {outer : List Env} {L lw : Addr} {m mg mb : Str → Option Value} {env : Env} {p : Program} {loose : List Str} {mean : ExcName → Option Value} {rest : List (Addr × Obj)} {vs : List Value} {ws : List Str} {x : Str} {tx : Tok} {en rl rr : Nat}
    (B : Below A₀ base outer h₀) (F : Fr h₀ L s.heap m) (X : (hd.heap_39 w.params).In h₀) (N0 : News h₀ L s.heap rest) (NT : TabOk h₀ L s.heap) (T : Top p loose mean mg mb h₀) (hA : A.frames = some (env :: outer)) (hf : env.frame = some L) (hke : env.scope.kind = .function)
    (hh : A.handled = none) (hroom : A.depth + 6 < recursionLimit) (hunits : A.units + 100 < cLine) (CH : CodeHd base 94 90) (hr0 : ∀ p ∈ rest, p.1 ≠ 90)
    (hl : (lw, { cls := .type "list", data := .seq vs.toArray en }) ∈ rest) (hw : StrsAre vs ws) (hn : ws.length ≤ 100) (hrl : rl ≤ ws.length) (hrr : rr ≤ ws.length)
    (hsl : ∀ i v, ws[i]? = some v → (v.cps.toList < x.cps.toList ↔ i < rl)) (hsr : ∀ i v, ws[i]? = some v → (x.cps.toList < v.cps.toList ↔ ¬ i < rr)) (hret : StandRet s Q h₀ L m rest rl rr) :
    wpAny (model PySem.Challenge.rw_re0062_01.row.prog w) A (call (.ref 95) [.ref lw, .str x tx]) Q E s :=
  NT.elim (fun NT => standA B F X N0 NT T hA hf hke hh hroom hunits CH hr0 hl hw hn hrl hrr hsl hsr hret) fun NT => standB B F X N0 NT T hA hf hke hh hroom hunits CH hr0 hl hw hn hrl hrr hsl hsr hret
end
end
end Mine
namespace Mine
variable {prog : Program} {w : World} {n : Nat} {A : Around} {s : Shared} {Q E : Value → Shared → Prop}
/-- the greater one of two, the first one where neither is -/
def mxF (x y : UInt64) : UInt64 := if (Float64.cmp x y == some .lt) = true then y else x
def mnF (x y : UInt64) : UInt64 := if (Float64.cmp y x == some .lt) = true then y else x
theorem max3 {x y z : UInt64} {t u v : Tok} (hh : A.handled = none) (h : ∀ h' tk t', (t ≠ 0 → u ≠ 0 → v ≠ 0 → t' ≠ 0) → s.heap.StaysIn h' → Q (.float (mxF (mxF x y) z) t') { s with heap := h', toks := tk }) :
    wpAny (model prog w) A (call (.builtin "max") [.float x t, .float y u, .float z v]) Q E s := by
  have hT : (s.heap.push { cls := .type "tuple", data := .seq #[.float x t, .float y u, .float z v] }).IsTuple s.heap.objs.size #[.float x t, .float y u, .float z v] := ⟨_, Heap.get?_push_size _ rfl, rfl, 0, rfl⟩
  refine call_max_three (wpAny_pyIter_tuple hT ?_)
  have hsz : (s.heap.push { cls := .type "tuple", data := .seq #[.float x t, .float y u, .float z v] }).objs.size = s.heap.objs.size + 1 := Heap.size_push ..
  refine ⟨_, [_, s.heap.objs.size], [_], _, _, _, _, rfl, Walks.tuple (A := A.in1) hh _ s.heap.objs.size (by rw [hsz]; exact Nat.ne_of_lt (Nat.lt_succ_self _)) #[.float x t, .float y u, .float z v],
    ⟨⟨_, Heap.get?_push_size _ rfl, rfl, rfl⟩, hT.push _⟩, fun c hc => ?_, by simp, PySem.Flt.cmpOf_gt #[.float x t, .float y u, .float z v] (by simp; exact ⟨.float x t, .float y u, .float z v⟩), fun q h' tk hP hk => ?_⟩
  · show c < ((s.heap.push _).push _).objs.size
    rw [Heap.size_push, hsz]
    simp only [List.mem_cons, List.not_mem_nil, or_false] at hc
    rcases hc with rfl | rfl
    · rw [hsz]; exact Nat.lt_succ_self _
    · exact Nat.lt_succ_of_lt (Nat.lt_succ_self _)
  · have hold : s.heap.StaysIn h' := fun c o e => by
      refine hk c o (fun hm => ?_) (Heap.get?_push_of_some _ (Heap.get?_push_of_some _ e))
      have e1 := List.mem_singleton.mp hm
      have := Heap.lt_size e; rw [e1, hsz] at this; exact Nat.lt_irrefl _ (Nat.lt_of_succ_lt this)
    obtain ⟨t', e, nt⟩ : ∃ t', q = .float (mxF (mxF x y) z) t' ∧ (t ≠ 0 → u ≠ 0 → v ≠ 0 → t' ≠ 0) := by
      unfold mxF
      cases h1 : (Float64.cmp x y == some .lt) with
      | true =>
        cases h2 : (Float64.cmp y z == some .lt) with
        | true => exact ⟨v, by simp [argBest, PySem.Flt.ltV, h1, h2] at hP; simp [h2, hP], fun a b c => c⟩
        | false => exact ⟨u, by simp [argBest, PySem.Flt.ltV, h1, h2] at hP; simp [h2, hP], fun a b c => b⟩
      | false =>
        cases h2 : (Float64.cmp x z == some .lt) with
        | true => exact ⟨v, by simp [argBest, PySem.Flt.ltV, h1, h2] at hP; simp [h2, hP], fun a b c => c⟩
        | false => exact ⟨t, by simp [argBest, PySem.Flt.ltV, h1, h2] at hP; simp [h2, hP], fun a b c => a⟩
    rw [e]; exact h _ _ _ nt hold
theorem min3 {x y z : UInt64} {t u v : Tok} (hh : A.handled = none) (h : ∀ h' tk t', s.heap.StaysIn h' → Q (.float (mnF (mnF x y) z) t') { s with heap := h', toks := tk }) :
    wpAny (model prog w) A (call (.builtin "min") [.float x t, .float y u, .float z v]) Q E s := by
  have hT : (s.heap.push { cls := .type "tuple", data := .seq #[.float x t, .float y u, .float z v] }).IsTuple s.heap.objs.size #[.float x t, .float y u, .float z v] := ⟨_, Heap.get?_push_size _ rfl, rfl, 0, rfl⟩
  refine call_min_three (wpAny_pyIter_tuple hT ?_)
  have hsz : (s.heap.push { cls := .type "tuple", data := .seq #[.float x t, .float y u, .float z v] }).objs.size = s.heap.objs.size + 1 := Heap.size_push ..
  refine ⟨_, [_, s.heap.objs.size], [_], _, _, _, _, rfl, Walks.tuple (A := A.in1) hh _ s.heap.objs.size (by rw [hsz]; exact Nat.ne_of_lt (Nat.lt_succ_self _)) #[.float x t, .float y u, .float z v],
    ⟨⟨_, Heap.get?_push_size _ rfl, rfl, rfl⟩, hT.push _⟩, fun c hc => ?_, by simp, PySem.Flt.cmpOf_lt #[.float x t, .float y u, .float z v] (by simp; exact ⟨.float x t, .float y u, .float z v⟩), fun q h' tk hP hk => ?_⟩
  · show c < ((s.heap.push _).push _).objs.size
    rw [Heap.size_push, hsz]
    simp only [List.mem_cons, List.not_mem_nil, or_false] at hc
    rcases hc with rfl | rfl
    · rw [hsz]; exact Nat.lt_succ_self _
    · exact Nat.lt_succ_of_lt (Nat.lt_succ_self _)
  · have hold : s.heap.StaysIn h' := fun c o e => by
      refine hk c o (fun hm => ?_) (Heap.get?_push_of_some _ (Heap.get?_push_of_some _ e))
      have e1 := List.mem_singleton.mp hm
      have := Heap.lt_size e; rw [e1, hsz] at this; exact Nat.lt_irrefl _ (Nat.lt_of_succ_lt this)
    obtain ⟨t', e⟩ : ∃ t', q = .float (mnF (mnF x y) z) t' := by
      unfold mnF
      cases h1 : (Float64.cmp y x == some .lt) with
      | true =>
        cases h2 : (Float64.cmp z y == some .lt) with
        | true => exact ⟨v, by simp [argBest, PySem.Flt.ltV, h1, h2] at hP; simp [h2, hP]⟩
        | false => exact ⟨u, by simp [argBest, PySem.Flt.ltV, h1, h2] at hP; simp [h2, hP]⟩
      | false =>
        cases h2 : (Float64.cmp z x == some .lt) with
        | true => exact ⟨v, by simp [argBest, PySem.Flt.ltV, h1, h2] at hP; simp [h2, hP]⟩
        | false => exact ⟨t, by simp [argBest, PySem.Flt.ltV, h1, h2] at hP; simp [h2, hP]⟩
    rw [e]; exact h _ _ _ hold
end Mine
namespace Mine
section
theorem rst8 : True := by
  w_top off
  trivial
end
end Mine
namespace Mine
variable {w : World} {n : Nat} {A : Around} {s : Shared} {Q E : Value → Shared → Prop}
theorem retTup3 {r1 r2 r3 x y z : UInt64} {t1 t2 t3 : Tok} {h' : Heap} {tk : Nat} {L D : Addr} {news : List (Addr × Obj)} (h : ∀ h' tk a t1 t2 t3, (t1 ≠ 0 ∧ t2 ≠ 0 ∧ t3 ≠ 0) → s.heap.StaysIn h' → h'.get? a = some { cls := .type "tuple", data := .seq #[.float r1 t1, .float r2 t2, .float r3 t3] } → s.heap.get? a = none → Q (.ref a) { s with heap := h', toks := tk })
    (N : News s.heap L h' ((D, { cls := .type "tuple", data := .seq [.float x t1, .float y t2, .float z t3].toArray }) :: news)) (e : r1 = x ∧ r2 = y ∧ r3 = z) (k : s.heap.StaysIn h') (nz : t1 ≠ 0 ∧ t2 ≠ 0 ∧ t3 ≠ 0) : Q (.ref D) { s with heap := h', toks := tk } := by
  obtain ⟨rfl, rfl, rfl⟩ := e
  exact h _ _ _ _ _ _ nz k (N _ (.head _)).1 (N _ (.head _)).2.2
def mx3 (r g b : UInt64) : UInt64 := mxF (mxF r g) b
def mn3 (r g b : UInt64) : UInt64 := mnF (mnF r g) b
def rngF (r g b : UInt64) : UInt64 := Float64.sub (mxF (mxF r g) b) (mnF (mnF r g) b)
def ccF (x r g b : UInt64) : UInt64 := Float64.div (Float64.sub (mxF (mxF r g) b) x) (rngF r g b)
def hueF (r g b : UInt64) : UInt64 := if (Float64.cmp r (mxF (mxF r g) b) == some Ordering.eq) = true then Float64.sub (ccF b r g b) (ccF g r g b) else if (Float64.cmp g (mxF (mxF r g) b) == some Ordering.eq) = true then Float64.sub (Float64.add 4611686018427387904 (ccF r r g b)) (ccF b r g b) else Float64.sub (Float64.add 4616189618054758400 (ccF g r g b)) (ccF r r g b)
def rgbH (r g b : UInt64) : UInt64 := (Float64.divmod (Float64.div (hueF r g b) 4618441417868443648) 4607182418800017408).snd
def rgbS (r g b : UInt64) : UInt64 := Float64.div (rngF r g b) (mxF (mxF r g) b)
theorem rgbH1 {r g b : UInt64} (h : (Float64.cmp r (mxF (mxF r g) b) == some Ordering.eq) = true) : rgbH r g b = (Float64.divmod (Float64.div (Float64.sub (ccF b r g b) (ccF g r g b)) 4618441417868443648) 4607182418800017408).snd := by
  unfold rgbH hueF; rw [if_pos h]
theorem rgbH2 {r g b : UInt64} (h : (Float64.cmp r (mxF (mxF r g) b) == some Ordering.eq) = false) (h' : (Float64.cmp g (mxF (mxF r g) b) == some Ordering.eq) = true) : rgbH r g b = (Float64.divmod (Float64.div (Float64.sub (Float64.add 4611686018427387904 (ccF r r g b)) (ccF b r g b)) 4618441417868443648) 4607182418800017408).snd := by
  unfold rgbH hueF; rw [if_neg (by rw [h]; decide), if_pos h']
theorem rgbH3 {r g b : UInt64} (h : (Float64.cmp r (mxF (mxF r g) b) == some Ordering.eq) = false) (h' : (Float64.cmp g (mxF (mxF r g) b) == some Ordering.eq) = false) : rgbH r g b = (Float64.divmod (Float64.div (Float64.sub (Float64.add 4616189618054758400 (ccF g r g b)) (ccF r r g b)) 4618441417868443648) 4607182418800017408).snd := by
  unfold rgbH hueF; rw [if_neg (by rw [h]; decide), if_neg (by rw [h']; decide)]
local macro_rules | `(tactic| walk_at "call builtin:max") => `(tactic| (k_here; k_dflt (refine' max3 ?c ?_; (case c => exact rfl)); intro h' tk' t' nt' st'; (replace nt' := nt' (by assumption) (by assumption) (by assumption)); (have F' := frStays (by k_asm) st'); (have N' := newsStays (by k_asm) st'); (try k_sweep)))
local macro_rules | `(tactic| walk_at "call builtin:min") => `(tactic| (k_here; k_dflt (refine' min3 ?c ?_; (case c => exact rfl)); intro h' tk' t' st'; (have F' := frStays (by k_asm) st'); (have N' := newsStays (by k_asm) st'); (try k_sweep)))
local macro_rules | `(tactic| walk_at "execs cons") => `(tactic| (k_here; (with_reducible refine wpAny_execs_cons ?_); (try dsimp only)))
local macro_rules | `(tactic| walk_at "execs nil") => `(tactic| (k_here; (with_reducible refine wpAny_execs_nil ?_); (try dsimp only)))
set_option maxHeartbeats 4000000 in
theorem rgbC {r g b : UInt64} {tr tg tb : Tok} (C : Cx w (n + 1) A s) (hz1 : tr ≠ 0) (hz2 : tg ≠ 0) (hz3 : tb ≠ 0) (ok1 : (Float64.cmp (mnF (mnF r g) b) (mxF (mxF r g) b) == some Ordering.eq) = false) (ok2 : Float64.isZero (mxF (mxF r g) b) = false) (ok3 : Float64.isZero (Float64.sub (mxF (mxF r g) b) (mnF (mnF r g) b)) = false)
    (h : ∀ h' tk a t1 t2 t3, (t1 ≠ 0 ∧ t2 ≠ 0 ∧ t3 ≠ 0) → s.heap.StaysIn h' → h'.get? a = some { cls := .type "tuple", data := .seq #[.float (rgbH r g b) t1, .float (rgbS r g b) t2, .float (mxF (mxF r g) b) t3] } → s.heap.get? a = none → Q (.ref a) { s with heap := h', toks := tk }) :
    wpAny (model PySem.Challenge.rw_re0062_01.row.prog w) A (call (.ref 60) [.float r tr, .float g tg, .float b tb]) Q E s := by
  w_on
  have hX : (hd.heap_39 w.params) = (hd.heap_39 w.params) := rfl
  revert hX
  k_fill
  intro _
  refine' enterP (n := n) (binds := [(Str.ofString "r", .float r tr), (Str.ofString "g", .float g tg), (Str.ofString "b", .float b tb)]) C ?o ?c ?b ?l ?_ ?c2 ?c3 ?c4 ?c5
  case o => k_dflt k_is
  case c => k_dflt k_is
  case b => exact fun _ => BindsTo.of_eq rfl
  case l => exact locs rfl
  case c2 => exact rfl
  case c3 => exact rfl
  case c4 => exact rfl
  case c5 => decide
  intro dp un gd base outer env p loose mean mg mb L' h₁ hd hu B F N X T
  k_steps
  all_goals (try dsimp only)
  all_goals first
    | exact retTup3 h (by assumption) ⟨rgbH1 (by assumption), rfl, rfl⟩ (Fr.keep (by assumption)) ⟨by (first | assumption | exact Nat.succ_ne_zero _), by (first | assumption | exact Nat.succ_ne_zero _), by (first | assumption | exact Nat.succ_ne_zero _)⟩
    | exact retTup3 h (by assumption) ⟨rgbH2 (by assumption) (by assumption), rfl, rfl⟩ (Fr.keep (by assumption)) ⟨by (first | assumption | exact Nat.succ_ne_zero _), by (first | assumption | exact Nat.succ_ne_zero _), by (first | assumption | exact Nat.succ_ne_zero _)⟩
    | exact retTup3 h (by assumption) ⟨rgbH3 (by assumption) (by assumption), rfl, rfl⟩ (Fr.keep (by assumption)) ⟨by (first | assumption | exact Nat.succ_ne_zero _), by (first | assumption | exact Nat.succ_ne_zero _), by (first | assumption | exact Nat.succ_ne_zero _)⟩
    | (exfalso; rename (_ = true) => q9; rw [ok1] at q9; exact Bool.false_ne_true q9)
    | (exfalso; rename (_ = true) => q9; rw [ok2] at q9; exact Bool.false_ne_true q9)
    | (exfalso; rename (_ = true) => q9; rw [ok3] at q9; exact Bool.false_ne_true q9)
end Mine
namespace Mine
section
theorem rst9 : True := by
  w_top off
  trivial
end
end Mine
namespace Mine
variable {w : World} {n : Nat} {A : Around} {s : Shared} {Q E : Value → Shared → Prop}
def sixI (h : UInt64) : Int := Flt.toInt Float64.truncOf (Float64.mul h 4618441417868443648)
def fracF (h : UInt64) : UInt64 := Float64.sub (Float64.mul h 4618441417868443648) (Float64.ofInt (sixI h))
def hsvP (s v : UInt64) : UInt64 := Float64.mul v (Float64.sub 4607182418800017408 s)
def hsvQ (h s v : UInt64) : UInt64 := Float64.mul v (Float64.sub 4607182418800017408 (Float64.mul s (fracF h)))
def hsvT (h s v : UInt64) : UInt64 := Float64.mul v (Float64.sub 4607182418800017408 (Float64.mul s (Float64.sub 4607182418800017408 (fracF h))))
def hsvR (h s v : UInt64) : UInt64 := if (sixI h).fmod 6 = 0 then v else if (sixI h).fmod 6 = 1 then hsvQ h s v else if (sixI h).fmod 6 = 2 then hsvP s v else if (sixI h).fmod 6 = 3 then hsvP s v else if (sixI h).fmod 6 = 4 then hsvT h s v else v
def hsvG (h s v : UInt64) : UInt64 := if (sixI h).fmod 6 = 0 then hsvT h s v else if (sixI h).fmod 6 = 1 then v else if (sixI h).fmod 6 = 2 then v else if (sixI h).fmod 6 = 3 then hsvQ h s v else if (sixI h).fmod 6 = 4 then hsvP s v else hsvP s v
def hsvB (h s v : UInt64) : UInt64 := if (sixI h).fmod 6 = 0 then hsvP s v else if (sixI h).fmod 6 = 1 then hsvP s v else if (sixI h).fmod 6 = 2 then hsvT h s v else if (sixI h).fmod 6 = 3 then v else if (sixI h).fmod 6 = 4 then v else hsvQ h s v
theorem hsv0 {h s v : UInt64} (e : (sixI h).fmod 6 = 0) : hsvR h s v = v ∧ hsvG h s v = hsvT h s v ∧ hsvB h s v = hsvP s v := by unfold hsvR hsvG hsvB; rw [e]; exact ⟨rfl, rfl, rfl⟩
theorem hsv1 {h s v : UInt64} (e : (sixI h).fmod 6 = 1) : hsvR h s v = hsvQ h s v ∧ hsvG h s v = v ∧ hsvB h s v = hsvP s v := by unfold hsvR hsvG hsvB; rw [e]; exact ⟨rfl, rfl, rfl⟩
theorem hsv2 {h s v : UInt64} (e : (sixI h).fmod 6 = 2) : hsvR h s v = hsvP s v ∧ hsvG h s v = v ∧ hsvB h s v = hsvT h s v := by unfold hsvR hsvG hsvB; rw [e]; exact ⟨rfl, rfl, rfl⟩
theorem hsv3 {h s v : UInt64} (e : (sixI h).fmod 6 = 3) : hsvR h s v = hsvP s v ∧ hsvG h s v = hsvQ h s v ∧ hsvB h s v = v := by unfold hsvR hsvG hsvB; rw [e]; exact ⟨rfl, rfl, rfl⟩
theorem hsv4 {h s v : UInt64} (e : (sixI h).fmod 6 = 4) : hsvR h s v = hsvT h s v ∧ hsvG h s v = hsvP s v ∧ hsvB h s v = v := by unfold hsvR hsvG hsvB; rw [e]; exact ⟨rfl, rfl, rfl⟩
theorem hsv5 {h s v : UInt64} (e : (sixI h).fmod 6 = 5) : hsvR h s v = v ∧ hsvG h s v = hsvP s v ∧ hsvB h s v = hsvQ h s v := by unfold hsvR hsvG hsvB; rw [e]; exact ⟨rfl, rfl, rfl⟩
theorem hsv9 {x : Int} (h0 : ¬ x.fmod 6 = 0) (h1 : ¬ x.fmod 6 = 1) (h2 : ¬ x.fmod 6 = 2) (h3 : ¬ x.fmod 6 = 3) (h4 : ¬ x.fmod 6 = 4) (h5 : ¬ x.fmod 6 = 5) : False := by
  have e : x.fmod 6 = x % 6 := Int.fmod_eq_emod_of_nonneg x (by decide)
  rw [e] at h0 h1 h2 h3 h4 h5; omega
theorem hsvBig {x : Int} (h : 2 ^ 1024 - 2 ^ 970 ≤ x.natAbs) (hs : 0 ≤ x ∧ x < 100) : False := by
  have : (100 : Nat) ≤ 2 ^ 1024 - 2 ^ 970 := by decide +kernel
  omega
set_option maxHeartbeats 4000000 in
theorem hsvC {h sa v : UInt64} {th ts tv : Tok} (C : Cx w (n + 1) A s) (hz3 : tv ≠ 0) (ok1 : (Float64.cmp sa 0 == some Ordering.eq) = false) (ok2 : Float64.isNaN (Float64.mul h 4618441417868443648) = false) (ok3 : Float64.isInf (Float64.mul h 4618441417868443648) = false) (ok4 : 0 ≤ sixI h ∧ sixI h < 100)
    (hq : ∀ h' tk a t1 t2 t3, (t1 ≠ 0 ∧ t2 ≠ 0 ∧ t3 ≠ 0) → s.heap.StaysIn h' → h'.get? a = some { cls := .type "tuple", data := .seq #[.float (hsvR h sa v) t1, .float (hsvG h sa v) t2, .float (hsvB h sa v) t3] } → s.heap.get? a = none → Q (.ref a) { s with heap := h', toks := tk }) :
    wpAny (model PySem.Challenge.rw_re0062_01.row.prog w) A (call (.ref 67) [.float h th, .float sa ts, .float v tv]) Q E s := by
  w_on
  have hX : (hd.heap_39 w.params) = (hd.heap_39 w.params) := rfl
  revert hX
  k_fill
  intro _
  refine' enterP (n := n) (binds := [(Str.ofString "h", .float h th), (Str.ofString "s", .float sa ts), (Str.ofString "v", .float v tv)]) C ?o ?c ?b ?l ?_ ?c2 ?c3 ?c4 ?c5
  case o => k_dflt k_is
  case c => k_dflt k_is
  case b => exact fun _ => BindsTo.of_eq rfl
  case l => exact locs rfl
  case c2 => exact rfl
  case c3 => exact rfl
  case c4 => exact rfl
  case c5 => decide
  intro dp un gd base outer env p loose mean mg mb L' h₁ hd hu B F N X T
  k_steps
  all_goals (try dsimp only)
  all_goals first
    | exact retTup3 hq (by assumption) (hsv0 (by assumption)) (Fr.keep (by assumption)) ⟨by (first | assumption | exact Nat.succ_ne_zero _), by (first | assumption | exact Nat.succ_ne_zero _), by (first | assumption | exact Nat.succ_ne_zero _)⟩
    | exact retTup3 hq (by assumption) (hsv1 (by assumption)) (Fr.keep (by assumption)) ⟨by (first | assumption | exact Nat.succ_ne_zero _), by (first | assumption | exact Nat.succ_ne_zero _), by (first | assumption | exact Nat.succ_ne_zero _)⟩
    | exact retTup3 hq (by assumption) (hsv2 (by assumption)) (Fr.keep (by assumption)) ⟨by (first | assumption | exact Nat.succ_ne_zero _), by (first | assumption | exact Nat.succ_ne_zero _), by (first | assumption | exact Nat.succ_ne_zero _)⟩
    | exact retTup3 hq (by assumption) (hsv3 (by assumption)) (Fr.keep (by assumption)) ⟨by (first | assumption | exact Nat.succ_ne_zero _), by (first | assumption | exact Nat.succ_ne_zero _), by (first | assumption | exact Nat.succ_ne_zero _)⟩
    | exact retTup3 hq (by assumption) (hsv4 (by assumption)) (Fr.keep (by assumption)) ⟨by (first | assumption | exact Nat.succ_ne_zero _), by (first | assumption | exact Nat.succ_ne_zero _), by (first | assumption | exact Nat.succ_ne_zero _)⟩
    | exact retTup3 hq (by assumption) (hsv5 (by assumption)) (Fr.keep (by assumption)) ⟨by (first | assumption | exact Nat.succ_ne_zero _), by (first | assumption | exact Nat.succ_ne_zero _), by (first | assumption | exact Nat.succ_ne_zero _)⟩
    | (exfalso; exact hsv9 (by assumption) (by assumption) (by assumption) (by assumption) (by assumption) (by assumption))
    | (exfalso; exact hsvBig (by assumption) ok4)
    | (exfalso; rename (_ = true) => q9; rw [ok1] at q9; exact Bool.false_ne_true q9)
    | (exfalso; rename (_ = true) => q9; rw [ok2] at q9; exact Bool.false_ne_true q9)
    | (exfalso; rename (_ = true) => q9; rw [ok3] at q9; exact Bool.false_ne_true q9)
end Mine
namespace Mine
def qF (x d : Int) : UInt64 := Float64.ofFrac (decide (x < 0) != decide (d < 0)) x.natAbs d.natAbs
structure Paint (k x y : Int) : Prop where
  h1 : (Float64.cmp (qF x 4) 0 == some Ordering.eq) = false
  h2 : Float64.isNaN (Float64.mul (qF k 16) 4618441417868443648) = false
  h3 : Float64.isInf (Float64.mul (qF k 16) 4618441417868443648) = false
  h4 : 0 ≤ sixI (qF k 16) ∧ sixI (qF k 16) < 100
  more : ∀ R G B, R = hsvR (qF k 16) (qF x 4) (qF y 4) → G = hsvG (qF k 16) (qF x 4) (qF y 4) → B = hsvB (qF k 16) (qF x 4) (qF y 4) → 
    (Float64.cmp (mnF (mnF R G) B) (mxF (mxF R G) B) == some Ordering.eq) = false ∧ Float64.isZero (mxF (mxF R G) B) = false ∧ Float64.isZero (Float64.sub (mxF (mxF R G) B) (mnF (mnF R G) B)) = false ∧
    (Float64.cmp (rgbH R G B) (qF (k.fmod 16) 16) == some Ordering.eq) = true ∧ (Float64.cmp (rgbS R G B) (qF x 4) == some Ordering.eq) = true ∧ (Float64.cmp (mxF (mxF R G) B) (qF y 4) == some Ordering.eq) = true ∧
    Float64.isNaN (Float64.mul (rgbH R G B) (Float64.ofInt 16)) = false ∧ Float64.isInf (Float64.mul (rgbH R G B) (Float64.ofInt 16)) = false ∧ Flt.toInt Float64.truncOf (Float64.mul (rgbH R G B) (Float64.ofInt 16)) = k.fmod 16
/-- what is asked of one colour that is read back -/
def paintC (k x y : Int) (R G B : UInt64) : Bool :=
  !(Float64.cmp (mnF (mnF R G) B) (mxF (mxF R G) B) == some Ordering.eq) && (!Float64.isZero (mxF (mxF R G) B) && (!Float64.isZero (Float64.sub (mxF (mxF R G) B) (mnF (mnF R G) B)) &&
    ((Float64.cmp (rgbH R G B) (qF (k.fmod 16) 16) == some Ordering.eq) && ((Float64.cmp (rgbS R G B) (qF x 4) == some Ordering.eq) && ((Float64.cmp (mxF (mxF R G) B) (qF y 4) == some Ordering.eq) &&
    (!Float64.isNaN (Float64.mul (rgbH R G B) (Float64.ofInt 16)) && (!Float64.isInf (Float64.mul (rgbH R G B) (Float64.ofInt 16)) && decide (Flt.toInt Float64.truncOf (Float64.mul (rgbH R G B) (Float64.ofInt 16)) = k.fmod 16))))))))
/-- a float's bits forced ahead of what is done with them -/
def frc (u : UInt64) (f : UInt64 → Bool) : Bool := match u.toNat with
  | 0 => f 0
  | n + 1 => f (UInt64.ofNat (n + 1))
theorem frc_eq (u : UInt64) (f : UInt64 → Bool) : frc u f = f u := by
  unfold frc
  split
  · rename_i h; rw [show u = 0 from UInt64.toNat_inj.mp h]
  · rename_i n h
    have e : n + 1 = u.toNat := h.symm
    rw [e, UInt64.ofNat_toNat]
/-- the sixth and what is left, of the hue n / 16 -/
def tabI (n : Nat) : Nat := 3 * n / 8
def tabF (n : Nat) : UInt64 := qF ((3 * n % 8 : Nat) : Int) 8
def gR (i : Nat) (f s v : UInt64) : UInt64 := match i with
  | 0 => v
  | 1 => Float64.mul v (Float64.sub 4607182418800017408 (Float64.mul s f))
  | 2 => Float64.mul v (Float64.sub 4607182418800017408 s)
  | 3 => Float64.mul v (Float64.sub 4607182418800017408 s)
  | 4 => Float64.mul v (Float64.sub 4607182418800017408 (Float64.mul s (Float64.sub 4607182418800017408 f)))
  | _ => v
def gG (i : Nat) (f s v : UInt64) : UInt64 := match i with
  | 0 => Float64.mul v (Float64.sub 4607182418800017408 (Float64.mul s (Float64.sub 4607182418800017408 f)))
  | 1 => v
  | 2 => v
  | 3 => Float64.mul v (Float64.sub 4607182418800017408 (Float64.mul s f))
  | 4 => Float64.mul v (Float64.sub 4607182418800017408 s)
  | _ => Float64.mul v (Float64.sub 4607182418800017408 s)
def gB (i : Nat) (f s v : UInt64) : UInt64 := match i with
  | 0 => Float64.mul v (Float64.sub 4607182418800017408 s)
  | 1 => Float64.mul v (Float64.sub 4607182418800017408 s)
  | 2 => Float64.mul v (Float64.sub 4607182418800017408 (Float64.mul s (Float64.sub 4607182418800017408 f)))
  | 3 => v
  | 4 => v
  | _ => Float64.mul v (Float64.sub 4607182418800017408 (Float64.mul s f))
theorem gHsv {h s v f : UInt64} {i : Nat} (hi : i < 6) (e : (sixI h).fmod 6 = (i : Int)) (ef : fracF h = f) : hsvR h s v = gR i f s v ∧ hsvG h s v = gG i f s v ∧ hsvB h s v = gB i f s v := by
  subst ef
  have c : i = 0 ∨ i = 1 ∨ i = 2 ∨ i = 3 ∨ i = 4 ∨ i = 5 := by omega
  rcases c with rfl | rfl | rfl | rfl | rfl | rfl
  · exact hsv0 e
  · exact hsv1 e
  · exact hsv2 e
  · exact hsv3 e
  · exact hsv4 e
  · exact hsv5 e
/-- what is asked of the hue alone -/
def hueB (k : Nat) : Bool := frc (qF (k : Int) 16) fun h =>
  !Float64.isNaN (Float64.mul h 4618441417868443648) && (!Float64.isInf (Float64.mul h 4618441417868443648) && (decide (0 ≤ sixI h ∧ sixI h < 100) && (decide ((sixI h).fmod 6 = ((tabI (k % 16) : Nat) : Int)) && (fracF h == tabF (k % 16)))))
theorem hueAll : (List.range 32).all hueB = true := by decide +kernel
/-- what is asked of one colour that is read back, each number once -/
def colB (n : Nat) (x y : Int) : Bool :=
  frc (qF x 4) fun X => frc (qF y 4) fun Y => frc (tabF n) fun F => frc (gR (tabI n) F X Y) fun R => frc (gG (tabI n) F X Y) fun G => frc (gB (tabI n) F X Y) fun B =>
  frc (mxF (mxF R G) B) fun Mx => frc (mnF (mnF R G) B) fun Mn => frc (Float64.sub Mx Mn) fun D =>
  frc (Float64.div (Float64.sub Mx R) D) fun rc => frc (Float64.div (Float64.sub Mx G) D) fun gc => frc (Float64.div (Float64.sub Mx B) D) fun bc =>
  frc (if (Float64.cmp R Mx == some Ordering.eq) = true then Float64.sub bc gc else if (Float64.cmp G Mx == some Ordering.eq) = true then Float64.sub (Float64.add 4611686018427387904 rc) bc else Float64.sub (Float64.add 4616189618054758400 gc) rc) fun hu =>
  frc (Float64.div hu 4618441417868443648) fun h6 => frc (Float64.divmod h6 4607182418800017408).snd fun h => frc (Float64.div D Mx) fun S => frc (Float64.mul h (Float64.ofInt 16)) fun h16 =>
  !(Float64.cmp X 0 == some Ordering.eq) && (!(Float64.cmp Mn Mx == some Ordering.eq) && (!Float64.isZero Mx && (!Float64.isZero D &&
    ((Float64.cmp h (qF (n : Int) 16) == some Ordering.eq) && ((Float64.cmp S X == some Ordering.eq) && ((Float64.cmp Mx Y == some Ordering.eq) &&
    (!Float64.isNaN h16 && (!Float64.isInf h16 && decide (Flt.toInt Float64.truncOf h16 = (n : Int))))))))))
theorem colOf {n : Nat} {x y k : Int} (hk : k.fmod 16 = (n : Int)) (h : colB n x y = true) :
    (Float64.cmp (qF x 4) 0 == some Ordering.eq) = false ∧ paintC k x y (gR (tabI n) (tabF n) (qF x 4) (qF y 4)) (gG (tabI n) (tabF n) (qF x 4) (qF y 4)) (gB (tabI n) (tabF n) (qF x 4) (qF y 4)) = true := by
  simp only [colB, frc_eq] at h
  rw [Bool.and_eq_true] at h
  refine ⟨by simpa only [Bool.not_eq_true'] using h.1, ?_⟩
  unfold paintC
  rw [hk]
  exact h.2
theorem paintOf {n : Nat} {k x y : Int} (h0 : hueB k.toNat = true) (hk0 : 0 ≤ k) (hn : n < 16) (hk : k.fmod 16 = (n : Int)) (h : colB n x y = true) : Paint k x y := by
  have em : k.toNat % 16 = n := by
    rw [Int.fmod_eq_emod_of_nonneg k (by decide)] at hk; omega
  obtain ⟨h1, h5⟩ := colOf hk h
  simp only [hueB, frc_eq, Int.toNat_of_nonneg hk0, em, Bool.and_eq_true, Bool.not_eq_true', decide_eq_true_eq, beq_iff_eq] at h0
  obtain ⟨h2, h3, h4, e1, e2⟩ := h0
  obtain ⟨a, b, c⟩ := gHsv (s := qF x 4) (v := qF y 4) (show tabI n < 6 by unfold tabI; omega) e1 e2
  refine ⟨h1, h2, h3, h4, ?_⟩
  rintro R G B rfl rfl rfl
  rw [a, b, c]
  simp only [paintC, Bool.and_eq_true, Bool.not_eq_true', decide_eq_true_eq] at h5
  exact h5
theorem paint11 : (List.range 16).all (fun n => colB n 1 1) = true := by decide +kernel
theorem paint12 : (List.range 16).all (fun n => colB n 1 2) = true := by decide +kernel
theorem paint13 : (List.range 16).all (fun n => colB n 1 3) = true := by decide +kernel
theorem paint14 : (List.range 16).all (fun n => colB n 1 4) = true := by decide +kernel
theorem paint21 : (List.range 16).all (fun n => colB n 2 1) = true := by decide +kernel
theorem paint22 : (List.range 16).all (fun n => colB n 2 2) = true := by decide +kernel
theorem paint23 : (List.range 16).all (fun n => colB n 2 3) = true := by decide +kernel
theorem paint24 : (List.range 16).all (fun n => colB n 2 4) = true := by decide +kernel
theorem paint31 : (List.range 16).all (fun n => colB n 3 1) = true := by decide +kernel
theorem paint32 : (List.range 16).all (fun n => colB n 3 2) = true := by decide +kernel
theorem paint33 : (List.range 16).all (fun n => colB n 3 3) = true := by decide +kernel
theorem paint34 : (List.range 16).all (fun n => colB n 3 4) = true := by decide +kernel
theorem paint41 : (List.range 16).all (fun n => colB n 4 1) = true := by decide +kernel
theorem paint42 : (List.range 16).all (fun n => colB n 4 2) = true := by decide +kernel
theorem paint43 : (List.range 16).all (fun n => colB n 4 3) = true := by decide +kernel
theorem paint44 : (List.range 16).all (fun n => colB n 4 4) = true := by decide +kernel
theorem paintOk {k : Int} (hk : 0 ≤ k ∧ k < 32) (d e : Int) : Paint k (1 + d.fmod 4) (1 + e.fmod 4) := by
  have e1 : d.fmod 4 = d % 4 := Int.fmod_eq_emod_of_nonneg d (by decide)
  have e2 : e.fmod 4 = e % 4 := Int.fmod_eq_emod_of_nonneg e (by decide)
  have e3 : k.fmod 16 = k % 16 := Int.fmod_eq_emod_of_nonneg k (by decide)
  have hn : (k % 16).toNat ∈ List.range 16 := List.mem_range.mpr (by omega)
  refine paintOf (n := (k % 16).toNat) (List.all_eq_true.mp hueAll k.toNat (List.mem_range.mpr (by omega))) hk.1 (by omega) (by omega) ?_
  rw [e1, e2]
  have hx : d % 4 = 0 ∨ d % 4 = 1 ∨ d % 4 = 2 ∨ d % 4 = 3 := by omega
  have hy : e % 4 = 0 ∨ e % 4 = 1 ∨ e % 4 = 2 ∨ e % 4 = 3 := by omega
  rcases hx with x | x | x | x <;> rcases hy with y | y | y | y <;> rw [x, y]
  · exact List.all_eq_true.mp paint11 _ hn
  · exact List.all_eq_true.mp paint12 _ hn
  · exact List.all_eq_true.mp paint13 _ hn
  · exact List.all_eq_true.mp paint14 _ hn
  · exact List.all_eq_true.mp paint21 _ hn
  · exact List.all_eq_true.mp paint22 _ hn
  · exact List.all_eq_true.mp paint23 _ hn
  · exact List.all_eq_true.mp paint24 _ hn
  · exact List.all_eq_true.mp paint31 _ hn
  · exact List.all_eq_true.mp paint32 _ hn
  · exact List.all_eq_true.mp paint33 _ hn
  · exact List.all_eq_true.mp paint34 _ hn
  · exact List.all_eq_true.mp paint41 _ hn
  · exact List.all_eq_true.mp paint42 _ hn
  · exact List.all_eq_true.mp paint43 _ hn
  · exact List.all_eq_true.mp paint44 _ hn
end Mine
namespace Mine
variable {prog : Program} {w : World} {A : Around} {s : Shared} {E : Value → Shared → Prop}
theorem noTold (w : World) : nsIn (hd.heap_39 w.params) cStatics sharingNotToldKey = some none := by
  kernel_rfl!
theorem toldF {t : Tok} {Q : Bool → Shared → Prop} {w' : World} (X : (hd.heap_39 w'.params).In s.heap) (h : Q false s) : wpAny (model prog w) A (sharingNotTold t) Q E s := by
  unfold sharingNotTold
  exact wpAny_bind ((looks_nsIn X (noTold w')).here (wpAny_pure h))
theorem isSameF {p q : UInt64} {t u : Tok} {Q : Bool → Shared → Prop} {w' : World} (X : (hd.heap_39 w'.params).In s.heap) (ht : t ≠ 0) (hu : u ≠ 0) (h : ∀ b, Q b s) : wpAny (model prog w) A (isSame (.float p t) (.float q u)) Q E s := by
  show wpAny _ A (isSame.created (p == q && !Float64.isNaN p) t u) Q E s
  unfold isSame.created
  have h0 : (t == 0 || u == 0) = false := by simp [ht, hu]
  refine wpAny_ite ?_
  split
  · rename_i h; rw [h0] at h; exact absurd h Bool.false_ne_true
  refine wpAny_ite ?_
  split
  · exact wpAny_pure (h _)
  refine wpAny_ite ?_
  split
  · exact wpAny_pure (h _)
  refine wpAny_bind (toldF X ?_)
  first | rw [if_neg Bool.false_ne_true] | simp only [Bool.false_eq_true, if_false]
  refine wpAny_bind (toldF X ?_)
  first | rw [if_neg Bool.false_ne_true] | simp only [Bool.false_eq_true, if_false]
  exact wpAny_bind (wpAny_rule (wpAny_bind (wpAny_askSetting (wpAny_pure (h _)))))
theorem eqBoolF {p q : UInt64} {t u : Tok} {Q : Bool → Shared → Prop} {w' : World} (X : (hd.heap_39 w'.params).In s.heap) (ht : t ≠ 0) (hu : u ≠ 0) (he : (Float64.cmp p q == some Ordering.eq) = true) (h : Q true s) :
    wpAny (model prog w) A (eqBool (.float p t) (.float q u)) Q E s := by
  unfold eqBool
  refine wpAny_holding ?_
  refine wpAny_ite_split (fun hab => ?_) (fun hab => ?_)
  · exact wpAny_bind (wpAny_rule (wpAny_pure h))
  · refine wpAny_bind (isSameF X ht hu fun b => ?_)
    refine wpAny_ite_split (fun _ => wpAny_pure h) (fun _ => ?_)
    have key : wpAny (model prog w) A (compareOp .Eq (.float p t) (.float q u)) (fun v s' => v = .bool true ∧ s' = s) E s := AutoFloatOps.eq_0 (by rw [he]; exact ⟨rfl, rfl⟩)
    refine wpAny_bind (wpAny_mono key (fun v s' x => ?_) fun _ _ x => x)
    rw [x.1, x.2]
    exact wpAny_truthy_bool h
theorem neTupF {a b : Addr} {p1 p2 p3 q1 q2 q3 : UInt64} {t1 t2 t3 u1 u2 u3 : Tok} {Q : Value → Shared → Prop} {w' : World} {n n2 : Nat} (X : (hd.heap_39 w'.params).In s.heap)
    (ga : s.heap.get? a = some { cls := .type "tuple", data := .seq #[.float p1 t1, .float p2 t2, .float p3 t3] n }) (gb : s.heap.get? b = some { cls := .type "tuple", data := .seq #[.float q1 u1, .float q2 u2, .float q3 u3] n2 })
    (ht : (t1 ≠ 0 ∧ t2 ≠ 0 ∧ t3 ≠ 0) ∧ (u1 ≠ 0 ∧ u2 ≠ 0 ∧ u3 ≠ 0)) (e1 : (Float64.cmp p1 q1 == some Ordering.eq) = true) (e2 : (Float64.cmp p2 q2 == some Ordering.eq) = true) (e3 : (Float64.cmp p3 q3 == some Ordering.eq) = true) (hu : A.units < cLine)
    (h : Q (.bool false) s) : wpAny (model prog w) A (compareOp .NotEq (.ref a) (.ref b)) Q E s := by
  obtain ⟨⟨x1, x2, x3⟩, y1, y2, y3⟩ := ht
  refine SeqAt.RcNeAt.tuples (A := A) (s := s) (e := fun _ => true) (items := #[.float p1 t1, .float p2 t2, .float p3 t3]) (items2 := #[.float q1 u1, .float q2 u2, .float q3 u3]) ⟨_, ga, rfl, _, rfl⟩ ⟨_, gb, rfl, _, rfl⟩ hu (fun j h1 h2 => ?_) prog w E Q (by exact h)
  intro prog w E Q hq
  match j, h1 with
  | 0, _ => exact eqBoolF X x1 y1 e1 hq
  | 1, _ => exact eqBoolF X x2 y2 e2 hq
  | 2, _ => exact eqBoolF X x3 y3 e3 hq
end Mine
namespace Mine
def fnBody : Stmt → List Stmt
  | .FunctionDef _ _ b _ _ _ _ _ _ _ => b
  | _ => []
def fnScope : Stmt → Scope
  | .FunctionDef _ _ _ _ _ _ sc _ _ _ => sc
  | _ => default
noncomputable def lawDef : Stmt := PySem.Challenge.pw_re0062_01.main.body.getD 16 default
noncomputable def lawStmt (i : Nat) : Stmt := (fnBody lawDef).getD i default
noncomputable def lawScope : Scope := fnScope lawDef
noncomputable abbrev lawEnv (L fa : Addr) (cd : Value) : Env := envOfC (Str.ofString "law") lawScope L fa cd
end Mine
namespace Mine
section
variable {M : Model} {A : Around} {R : GenEnd} {Y : Protocol} {n : Nat} {s₀ : Shared} {c : Code} {fs : List Frame} {s : Shared}
/-- a step that yields nothing, ahead of the rest -/
theorem segBind {α β : Type} {m : Sem α} {f : α → Sem β} {K : β → Sem Fin} {H : Value → Sem Fin} {gd : Bool → Bool} {lv : List Value → List Value}
    (h : wpAny M (A.over c fs) m (fun a s' => Seg M A R Y n s₀ c ((f a).wrap K H gd lv) fs s') (fun _ _ => False) s) : Seg M A R Y n s₀ c ((m >>= f).wrap K H gd lv) fs s := by
  rw [Sem.bind_eq_wrap', Sem.wrap_wrap]
  exact seg_wrap (wpAny_mono h (fun _ _ x => x) fun _ _ x => x.elim)
theorem segLast {α : Type} {m : Sem α} {K : α → Sem Fin} {H : Value → Sem Fin} {gd : Bool → Bool} {lv : List Value → List Value}
    (h : wpAny M (A.over c fs) m (fun a s' => Seg M A R Y n s₀ c (K a) fs s') (fun _ _ => False) s) : Seg M A R Y n s₀ c (m.wrap K H gd lv) fs s :=
  seg_wrap (wpAny_mono h (fun _ _ x => x) fun _ _ x => x.elim)
theorem segIf {env : Env} {test : PySem.Expr} {body orelse : List Stmt} {pos : Pos} {K : Flow → Sem Fin} {H : Value → Sem Fin} {gd : Bool → Bool} {lv : List Value → List Value}
    (h : wpAny M (A.over c fs) (isTrue test env (eval test env)) (fun b s' => Seg M A R Y n s₀ c ((if b = true then execs body env else execs orelse env).wrap K H gd lv) fs s') (fun _ _ => False) s) :
    Seg M A R Y n s₀ c ((exec (.If test body orelse pos) env).wrap K H gd lv) fs s := by
  rw [exec_If]
  exact segBind (wpAny_standAt (segBind h))
theorem segFor {env : Env} {target iter : PySem.Expr} {body orelse : List Stmt} {pos : Pos} {K : Flow → Sem Fin} {H : Value → Sem Fin} {gd : Bool → Bool} {lv : List Value → List Value}
    (h : wpAny M (A.over c fs) (eval iter env) (fun x s₁ => wpAny M (A.over c fs) (pyIter x) (fun it s₂ => ∀ p, Seg M A R Y n s₀ (.forLoop target it body orelse env) (M.den (.forLoop target it body orelse env))
      (.ret (fun r => ((match r with | .ok f => (.pure f : Sem Flow) | .error e => .raise e).onRaise fun (x : Value) => do
        if (← field x 1) == Value.none then unsupported "frame.own-activation:exception-without-traceback"
        setFlight x env.frame).wrap K H gd lv) none (gd false) (lv []) c p [] :: fs) s₂) (fun _ _ => False) s₁) (fun _ _ => False) s)
    (hs : ∀ x, foldedSetIterable iter env x = pure x) :
    Seg M A R Y n s₀ c ((exec (.For target iter body orelse pos) env).wrap K H gd lv) fs s := by
  rw [exec_For]
  refine segBind (wpAny_standAt (segBind (wpAny_mono h (fun x s₁ h₁ => segBind (wpAny_of_eq (hs x) (segBind (wpAny_standAt (segBind (wpAny_holding (wpAny_mono h₁ (fun it s₂ h₂ => ?_) fun _ _ e => e))))))) fun _ _ e => e)))
  exact seg_call h₂
end
section
variable {prog : Program} {w : World} {A : Around} {R : GenEnd} {Y : Protocol} {n : Nat} {s₀ : Shared} {fs : List Frame} {s : Shared} {env : Env}
theorem segForLoop {x : Str} {px : Pos} {it : Value} {body orelse : List Stmt}
    (h : wpAny (model prog w) (A.over (.forLoop (.Name x px) it body orelse env) fs) (pyNext it) (fun r s' => match r with
      | none => Seg (model prog w) A R Y n s₀ (.forLoop (.Name x px) it body orelse env) (.pure (.again (.block orelse env))) fs s'
      | some v => wpAny (model prog w) (A.over (.forLoop (.Name x px) it body orelse env) fs) (storeName env x v) (fun _ s'' => Seg (model prog w) A R Y n s₀ (.forLoop (.Name x px) it body orelse env) ((execs body env).wrap (fun f => match f with
          | .next | .cont => .pure (.again (.forLoop (.Name x px) it body orelse env))
          | .brk => .pure (.done .next)
          | .ret v => .pure (.done (.ret v))) (fun e => (do noteFrame e env; theTreesLotGoes e : Sem Unit).wrap (fun _ => .raise e) .raise id id) id id) fs s'') (fun _ _ => False) s') (fun _ _ => False) s) :
    Seg (model prog w) A R Y n s₀ (.forLoop (.Name x px) it body orelse env) ((model prog w).den (.forLoop (.Name x px) it body orelse env)) fs s := by
  show Seg _ A R Y n s₀ _ ((forTurn (.Name x px) it body orelse env).onRaise (fun x => do noteFrame x env; theTreesLotGoes x)) fs s
  unfold forTurn
  rw [Sem.onRaise_eq_wrap]
  refine segBind (wpAny_standAt (segBind (wpAny_onRaise (wpAny_mono h (fun r s' h' => ?_) fun _ _ e => e.elim))))
  cases r with
  | none => exact h'
  | some v =>
    refine segBind (wpAny_of_eq (a := ()) rfl (segBind (wpAny_assign_Name (wpAny_mono h' (fun _ s'' h'' => ?_) fun _ _ e => e))))
    rw [Sem.bind_eq_wrap', Sem.wrap_wrap]
    rw [Sem.wrap_congr (execs body env) _ _ (K' := fun f => match f with
            | .next | .cont => .pure (.again (.forLoop (.Name x px) it body orelse env))
            | .brk => .pure (.done .next)
            | .ret v => .pure (.done (.ret v))) (H' := (fun e => (do noteFrame e env; theTreesLotGoes e : Sem Unit).wrap (fun _ => .raise e) .raise id id))
        (fun f => by cases f <;> rfl) (fun e => by show (do noteFrame e env; theTreesLotGoes e : Sem Unit).bind (fun _ => .raise e) = _; rw [Sem.bind_eq_wrap])]
    exact h''
end
section
variable {prog : Program} {w : World} {A : Around} {E : Value → Shared → Prop} {s : Shared}
/-- a generator function's next value: what it leaves is bare -/
theorem genNext {a : Addr} {g n : Nat} {gs : GenState} {P : Nat → Shared → Shared → Prop} {Y : Protocol} {Q : Option Value → Shared → Prop} (hh : A.handled = none)
    (hl : s.heap.NoLimit) (hroom : A.depth < recursionLimit) (hg : s.heap.IsGen a g) (hgs : s.gens[g]? = some gs)
    (hgo : gs.Goes (model prog w) A.in1 (fun n s₀ r s₁ => r = .ok (.ret .none) ∧ P n s₀ s₁) Y n (.send .none) (s.setGen g .running))
    (hY : ∀ v s₁ gs', gs'.bare = true → Y (n - 1) (s.setGen g .running) v s₁ (fun r' s'' => match n with
        | 0 => False
        | m + 1 => gs'.Goes (model prog w) A.in1 (fun n s₀ r s₁ => r = .ok (.ret .none) ∧ P n s₀ s₁) Y m r' s'') → Q (some v) (s₁.setGen g gs'))
    (hP : ∀ s₁, P n (s.setGen g .running) s₁ → ∀ h', s₁.heap.StaysIn h' → Q none { s₁.setGen g .finished with heap := h' }) :
    wpAny (model prog w) A (pyNext (.ref a)) Q E s := by
  unfold pyNext
  refine wpAny_bind (wpAny_attempt (wpAny_callSpecial?_slot (name := Str.ofString "__next__") hg.typeIs slot_gen_next (wpAny_call_entry slot_gen_next hg.typeIs entry_gen_next ?_ (args_gen_next _))))
  show wpAny _ A.in1 (Builtin.Generator.genWake (.ref a) (.send .none)) _ _ s
  unfold Builtin.Generator.genWake
  refine wpAny_bind (wpAny_holding (wpAny_genNumber hg (wpAny_bind (wpAny_genState hgs ?_))))
  cases gs with
  | running => exact hgo.elim
  | finished => exact hgo.elim
  | _ =>
    refine wpAny_bind (wpAny_roomToWake hl hroom ?_)
    show wpAny _ A.in1 (.resume g (.send .none) [] _) _ _ s
    refine wpAny_resumeQ hgs hgo (fun x s₁ hx => ?_) (fun v s₁ gs' hb hv => wpAny_pure ⟨v, rfl, wpAny_pure (hY v s₁ gs' hb hv)⟩)
    obtain ⟨rfl, hp⟩ := hx
    show wpAny _ A.in1 (newExc (.type "StopIteration") [] >>= _) _ _ _
    refine wpAny_bind ?_
    simp only [newExc, newTuple]
    refine wpAny_bind (wpAny_newObj_type ?_ (by size_fits))
    refine wpAny_bind (m := firstArgMember _ _) (wpAny_of_eq (a := Value.none) (by first | rfl | (simp only [firstArgMember]; rfl)) ?_)
    refine wpAny_newObj_type ?_ (by size_fits)
    simp only [raiseNew]
    refine wpAny_bind (wpAny_bind (wpAny_handled ?_))
    first | rw [show A.in1.handled = none from hh] | rw [hh]
    refine wpAny_throw (wpAny_bind (wpAny_isInstance (T := "StopIteration") (b := true) ⟨_, Heap.get?_push_size _ rfl, rfl⟩ isSubtype_stop ?_))
    exact wpAny_pure (hP s₁ hp _ fun b o hb => Heap.get?_push_of_some _ (Heap.get?_push_of_some _ hb))
end
end Mine
namespace Mine
section
local macro_rules | `(tactic| walk_at "zz0") => `(tactic| fail)
local macro_rules | `(tactic| walk_at "zz1") => `(tactic| fail)
theorem rst10 : True := by
  w_top off
  first | walk1 | trivial
end
end Mine
namespace Mine
noncomputable def giDef : Stmt := PySem.Challenge.pw_re0062_01.main.body.getD 4 default
noncomputable def giScope : Scope := fnScope giDef
noncomputable def giStmt (i : Nat) : Stmt := (fnBody giDef).getD i default
noncomputable abbrev giEnv (L : Addr) : Env := envOf (Str.ofString "_grouping_intervals") giScope L 35 (.ref 34)
def forBody : Stmt → List Stmt
  | .For _ _ b _ _ => b
  | _ => []
noncomputable def giLoop : List Stmt := forBody (giStmt 1)
noncomputable def giL (i : Nat) : Stmt := giLoop.getD i default
def forName : Stmt → Str × Pos
  | .For (.Name x p) _ _ _ _ => (x, p)
  | _ => (default, default)
example : (fnBody giDef) = [giStmt 0, giStmt 1] := rfl
example : giLoop = [giL 0, giL 1, giL 2, giL 3] := rfl
/-- which numbers a run over what is left of the row yields -/
def Good (fin : Bool) (val : Nat → Int) : List Int → Option Int → Nat → Prop
  | [], _, n => n = 0
  | x :: r, last, n => (x = 127 ∧ n = 0) ∨ (x = 0 ∧ fin = false ∧ n ≠ 0 ∧ ∃ y, last = some y ∧ ∀ k, k < n → val k = y) ∨
      (x ≠ 0 ∧ x ≠ 127 ∧ ∃ n', n = n' + 1 ∧ val n' = x ∧ ((n' ≠ 0 ∨ fin = true) → Good fin val r (some x) n'))
def lastV : Option Int → Tok → Value
  | none, _ => .none
  | some y, t => .int y t
/-- what is kept while the generator runs -/
def Since (Lg It : Addr) (s₀ s' : Shared) : Prop := ∃ h' tk, s' = { s₀ with heap := h', toks := tk } ∧ ∀ b o, b ≠ Lg → b ≠ It → s₀.heap.get? b = some o → h'.get? b = some o
def giY (hS : Heap) (fin : Bool) (val : Nat → Int) (Lg It : Addr) : Protocol := fun n s₀ v s' kap =>
  ∃ t oL oI, v = .int (val n) t ∧ Since Lg It s₀ s' ∧ s'.heap.get? Lg = some oL ∧ s'.heap.get? It = some oI ∧
    ((n ≠ 0 ∨ fin = true) → ∀ s'', hS.StaysIn s''.heap → s''.heap.get? Lg = some oL → s''.heap.get? It = some oI → kap (.send .none) s'')
def giR (Lg It : Addr) : GenEnd := fun n s₀ r s₁ => r = .ok (.ret .none) ∧ (n = 0 ∧ Since Lg It s₀ s₁)
variable {w : World} {A : Around} {s s₀ : Shared} {hS : Heap} {Lg It lr : Addr} {m mg mb : Str → Option Value} {p : Program} {loose : List Str} {mean : ExcName → Option Value} {fin : Bool} {val : Nat → Int}
theorem Since.refl (s : Shared) : Since Lg It s s := ⟨_, _, rfl, fun _ _ _ _ e => e⟩
theorem Since.step {h' : Heap} {tk : Nat} (a : Since Lg It s₀ s) (k : ∀ b o, b ≠ Lg → b ≠ It → s.heap.get? b = some o → h'.get? b = some o) : Since Lg It s₀ { s with heap := h', toks := tk } := by
  obtain ⟨h, t, rfl, q⟩ := a
  exact ⟨_, _, rfl, fun b o h1 h2 e => k b o h1 h2 (q b o h1 h2 e)⟩
def ifBody : Stmt → List Stmt
  | .If _ b _ _ => b
  | _ => []
def whTest : Stmt → PySem.Expr
  | .While t _ _ _ => t
  | _ => default
def whBody : Stmt → List Stmt
  | .While _ b _ _ => b
  | _ => []
noncomputable def giW : Stmt := (ifBody (giL 1)).getD 1 default
noncomputable abbrev giWC (Lg : Addr) : Code := .whileLoop (whTest giW) (whBody giW) [] (giEnv Lg)
noncomputable abbrev giFC (Lg It : Addr) : Code := .forLoop (.Name (forName (giStmt 1)).1 (forName (giStmt 1)).2) (.ref It) giLoop [] (giEnv Lg)
theorem frAt {h h' : Heap} {oL : Obj} (F : Fr hS Lg h m) (e : h.get? Lg = some oL) (e' : h'.get? Lg = some oL) (k : hS.StaysIn h') : Fr hS Lg h' m := by
  obtain ⟨o, es, ep, ho, r⟩ := F.ns
  rw [e] at ho; cases ho
  exact ⟨⟨oL, es, ep, e', r⟩, k, F.above⟩
theorem frGet {h : Heap} (F : Fr hS Lg h m) : ∃ oL, h.get? Lg = some oL := let ⟨o, _, _, ho, _⟩ := F.ns; ⟨o, ho⟩
local macro_rules | `(tactic| walk_at "eval Name") => `(tactic| (k_here; k_dflt (refine' nameX_L ?F ?v ?_ ?a ?b ?c; (case F => k_asm); (case v => assumption); (case a => rfl); (case b => rfl); (case c => decide); k_whole)))
set_option maxHeartbeats 4000000 in
theorem giWhile1 {y : Int} {ty : Tok} {oI : Obj} {fs : List Frame} (X : (hd.heap_39 w.params).In hS) (T : Top p loose mean mg mb hS) (hfs : splitAtGen fs = none) (hfg : fs.any Frame.guarded = false) (hfin : fin = false) (hl : m (Str.ofString "last_interval") = some (.int y ty))
    {n : Nat} (ih : n ≠ 0 → ∀ (s₀ s : Shared), Since Lg It s₀ s → Fr hS Lg s.heap m → s.heap.get? It = some oI →
      Seg (model PySem.Challenge.rw_re0062_01.row.prog w) A (giR Lg It) (giY hS fin val Lg It) n s₀ (giWC Lg) ((model PySem.Challenge.rw_re0062_01.row.prog w).den (giWC Lg)) fs s)
    (hS0 : Since Lg It s₀ s) (F : Fr hS Lg s.heap m) (hI : s.heap.get? It = some oI) (hv : val n = y) :
    Seg (model PySem.Challenge.rw_re0062_01.row.prog w) A (giR Lg It) (giY hS fin val Lg It) (n + 1) s₀ (giWC Lg) ((model PySem.Challenge.rw_re0062_01.row.prog w).den (giWC Lg)) fs s := by
  w_on
  revert X
  k_fill
  intro X
  have N : News hS Lg s.heap [] := News.nil
  refine seg_whileLoop ?_
  conv => enter [3, 1]; whnf
  conv => enter [3, 3, 1]; whnf
  refine wpAny_mono (Q := fun b s' => b = true ∧ s = s') (E := fun _ _ => False) ?_ ?_ (fun _ _ x => x.elim)
  · dsimp only [giEnv]
    k_steps
  · rintro b _ ⟨rfl, rfl⟩
    rw [if_pos rfl]
    conv => enter [8, 5, 1]; whnf
    refine seg_execs_cons (seg_Expr_Yield hfs rfl hfg ?_)
    refine wpAny_mono (Q := fun v s' => v = .int y ty ∧ s = s') (E := fun _ _ => False) ?_ ?_ (fun _ _ x => x.elim)
    · dsimp only [giEnv]
      k_steps
    · rintro v _ ⟨rfl, rfl⟩ kap hkap
      obtain ⟨oL, hL⟩ := frGet F
      refine ⟨ty, oL, oI, by rw [hv], hS0, hL, hI, fun hc s'' st e1 e2 => hkap .none s'' ?_⟩
      have hn : n ≠ 0 := hc.elim id fun e => absurd (hfin.symm.trans e) Bool.false_ne_true
      refine seg_execs_nil (seg_again rfl (ih hn s'' s'' (Since.refl _) (frAt F hL e1 st) e2))
theorem giWhile {y : Int} {ty : Tok} {oI : Obj} {fs : List Frame} (X : (hd.heap_39 w.params).In hS) (T : Top p loose mean mg mb hS) (hfs : splitAtGen fs = none) (hfg : fs.any Frame.guarded = false) (hfin : fin = false) (hl : m (Str.ofString "last_interval") = some (.int y ty)) :
    ∀ (n : Nat), (∀ k, k < n + 1 → val k = y) → ∀ (s₀ s : Shared), Since Lg It s₀ s → Fr hS Lg s.heap m → s.heap.get? It = some oI →
    Seg (model PySem.Challenge.rw_re0062_01.row.prog w) A (giR Lg It) (giY hS fin val Lg It) (n + 1) s₀ (giWC Lg) ((model PySem.Challenge.rw_re0062_01.row.prog w).den (giWC Lg)) fs s := by
  intro n
  induction n with
  | zero => exact fun hv s₀ s a F hI => giWhile1 X T hfs hfg hfin hl (fun h => absurd rfl h) a F hI (hv 0 (by omega))
  | succ n ih => exact fun hv s₀ s a F hI => giWhile1 X T hfs hfg hfin hl (fun _ => ih fun k hk => hv k (by omega)) a F hI (hv (n + 1) (by omega))
theorem split_ret {k : Result → Sem Fin} {hn : Option Value} {g : Bool} {l : List Value} {c : Code} {ps : Pos} {kp : List Value} {fs : List Frame} (h : splitAtGen fs = none) : splitAtGen (.ret k hn g l c ps kp :: fs) = none := by
  simp [splitAtGen, h]
theorem guard_ret {k : Result → Sem Fin} {hn : Option Value} {l : List Value} {c : Code} {ps : Pos} {kp : List Value} {fs : List Frame} (h : fs.any Frame.guarded = false) : (Frame.ret k hn false l c ps kp :: fs).any Frame.guarded = false := by
  simp [Frame.guarded] at h ⊢; exact h
set_option maxHeartbeats 4000000 in
theorem giTurn {n : Nat} {last : Option Int} {tl : Tok} {x : Int} {tx : Tok} {rest : List Int} {fs : List Frame} {c : Code} {K : Flow → Sem Fin} {H : Value → Sem Fin} {oI : Obj} (X : (hd.heap_39 w.params).In hS) (T : Top p loose mean mg mb hS) (hfs : splitAtGen fs = none) (hfg : fs.any Frame.guarded = false)
    (F : Fr hS Lg s.heap (fun y => if y = Str.ofString "interval" then some (.int x tx) else m y)) (hl : m (Str.ofString "last_interval") = some (lastV last tl)) (hS0 : Since Lg It s₀ s) (hI : s.heap.get? It = some oI) (hne : It ≠ Lg)
    (hG : Good fin val (x :: rest) last n)
    (hret : n = 0 → Seg (model PySem.Challenge.rw_re0062_01.row.prog w) A (giR Lg It) (giY hS fin val Lg It) n s₀ c (K (.ret .none)) fs s)
    (hnext : ∀ n', n = n' + 1 → Good fin val rest (some x) n' → ∀ s₁ s', Since Lg It s₁ s' → Fr hS Lg s'.heap (fun y => if y = Str.ofString "last_interval" then some (.int x tx) else if y = Str.ofString "interval" then some (.int x tx) else m y) → s'.heap.get? It = some oI →
      Seg (model PySem.Challenge.rw_re0062_01.row.prog w) A (giR Lg It) (giY hS fin val Lg It) n' s₁ c (K .next) fs s') :
    Seg (model PySem.Challenge.rw_re0062_01.row.prog w) A (giR Lg It) (giY hS fin val Lg It) n s₀ c ((execs giLoop (giEnv Lg)).wrap K H id id) fs s := by
  w_on
  revert X
  k_fill
  intro X
  have N : News hS Lg s.heap [] := News.nil
  conv => enter [8, 5, 1]; whnf
  refine seg_execs_cons (segIf ?_)
  refine wpAny_mono (Q := fun b s' => b = (x == 127) ∧ s = s') (E := fun _ _ => False) (by dsimp only [giEnv]; k_steps) ?_ (fun _ _ x => x.elim)
  rintro b _ ⟨rfl, rfl⟩
  rcases hG with ⟨rfl, rfl⟩ | ⟨rfl, hfin, hn, y, rfl, hv⟩ | ⟨h0, h127, n', rfl, hv, hG'⟩
  · rw [if_pos (show ((127 : Int) == 127) = true from rfl)]
    exact seg_execs_cons (segLast (wpAny_Return_none (hret rfl)))
  · rw [if_neg (show ¬ ((0 : Int) == 127) = true by decide)]
    refine seg_execs_nil ?_
    refine seg_execs_cons (segIf ?_)
    refine wpAny_mono (Q := fun b s' => b = ((0 : Int) == 0) ∧ ∃ tk, s' = { s with toks := tk }) (E := fun _ _ => False) (by dsimp only [giEnv]; k_steps <;> first | exact ⟨rfl, _, rfl⟩ | exact ⟨_, rfl⟩ | rfl) ?_ (fun _ _ x => x.elim)
    rintro b _ ⟨rfl, tk1, rfl⟩
    rw [if_pos (show ((0 : Int) == 0) = true from rfl)]
    refine seg_execs_cons (segIf ?_)
    have F1 : Fr hS Lg ({ s with toks := tk1 } : Shared).heap (fun y => if y = Str.ofString "interval" then some (.int 0 tx) else m y) := F
    have N1 : News hS Lg ({ s with toks := tk1 } : Shared).heap [] := N
    refine wpAny_mono (Q := fun b s' => b = false ∧ ({ s with toks := tk1 } : Shared) = s') (E := fun _ _ => False) (by dsimp only [giEnv, lastV] at *; k_steps) ?_ (fun _ _ x => x.elim)
    rintro b _ ⟨rfl, rfl⟩
    rw [if_neg (by decide)]
    refine seg_execs_nil ?_
    refine seg_execs_cons (seg_While fun ps => ?_)
    obtain ⟨n', rfl⟩ : ∃ n', n = n' + 1 := ⟨n - 1, by omega⟩
    exact giWhile X T (split_ret hfs) (guard_ret hfg) hfin (m := fun y => if y = Str.ofString "interval" then some (.int 0 tx) else m y) hl n' hv s₀ _ (hS0.step fun _ _ _ _ e => e) F hI
  · rw [if_neg (by simpa using h127)]
    refine seg_execs_nil ?_
    refine seg_execs_cons (segIf ?_)
    refine wpAny_mono (Q := fun b s' => b = (x == 0) ∧ ∃ tk, s' = { s with toks := tk }) (E := fun _ _ => False) (by dsimp only [giEnv]; k_steps <;> first | exact ⟨rfl, _, rfl⟩ | exact ⟨_, rfl⟩ | rfl) ?_ (fun _ _ x => x.elim)
    rintro b _ ⟨rfl, tk1, rfl⟩
    rw [if_neg (by simpa using h0)]
    refine seg_execs_nil ?_
    refine seg_execs_cons (seg_Expr_Yield hfs rfl hfg ?_)
    have F1 : Fr hS Lg ({ s with toks := tk1 } : Shared).heap (fun y => if y = Str.ofString "interval" then some (.int x tx) else m y) := F
    have N1 : News hS Lg ({ s with toks := tk1 } : Shared).heap [] := N
    refine wpAny_mono (Q := fun v s' => v = .int x tx ∧ ({ s with toks := tk1 } : Shared) = s') (E := fun _ _ => False) (by dsimp only [giEnv]; k_steps) ?_ (fun _ _ x => x.elim)
    rintro v _ ⟨rfl, rfl⟩ kap hkap
    obtain ⟨oL, hL⟩ := frGet F
    refine ⟨tx, oL, oI, by rw [hv], hS0.step fun _ _ _ _ e => e, hL, hI, fun hc s'' st e1 e2 => hkap .none s'' ?_⟩
    have F2 := frAt F hL e1 st
    refine seg_execs_cons (segLast ?_)
    refine wpAny_mono (Q := fun f s' => f = .next ∧ ∃ h' tk, s' = { s'' with heap := h', toks := tk } ∧ Fr hS Lg h' (fun y => if y = Str.ofString "last_interval" then some (.int x tx) else if y = Str.ofString "interval" then some (.int x tx) else m y) ∧ Heap.SameBut Lg s''.heap h') (E := fun _ _ => False) ?_ ?_ (fun _ _ x => x.elim)
    · clear F N F1 N1
      refine wpAny_Assign_Name ?_
      refine wpAny_mono (Q := fun v s' => v = .int x tx ∧ s'' = s') (E := fun _ _ => False) (by dsimp only [giEnv]; k_steps) ?_ (fun _ _ x => x.elim)
      rintro v _ ⟨rfl, rfl⟩
      refine wpAny_storeName_local rfl F2.ns (fun h' hn hs => ⟨rfl, h', _, rfl, F2.set hn hs, hs⟩) rfl
    · rintro f _ ⟨rfl, h', tk, rfl, F3, hsb⟩
      exact seg_execs_nil (hnext n' rfl (hG' hc) s'' _ ⟨h', tk, rfl, fun b o h1 _ e => hsb.extBut b o h1 e⟩ F3 (hsb.extBut _ _ hne e2))
end Mine
namespace Mine
variable {w : World} {A : Around} {s s₀ : Shared} {hS : Heap} {Lg It lr : Addr} {m mg mb : Str → Option Value} {p : Program} {loose : List Str} {mean : ExcName → Option Value} {fin : Bool} {val : Nat → Int}
theorem giFor {k1 : Result → Sem Fin} {c0 : Code} {p0 : Pos} {row : List Int} {rv : List Value} (X : (hd.heap_39 w.params).In hS) (T : Top p loose mean mg mb hS) (hA : A.handled = none) (hl : hS.IsList lr rv.toArray) (hrv : IntsAre rv row) (hIt : hS.get? It = none) (hne : It ≠ Lg)
    (hk1 : ∀ f s₁ s', (f = Flow.next ∨ f = .ret .none) → Since Lg It s₁ s' → Seg (model PySem.Challenge.rw_re0062_01.row.prog w) A (giR Lg It) (giY hS fin val Lg It) 0 s₁ c0 (k1 (.ok f)) [] s') :
    ∀ (rest : List Int) (i n : Nat) (last : Option Int) (tl : Tok) (m : Str → Option Value) (s₀ s : Shared), row.drop i = rest → Since Lg It s₀ s → Fr hS Lg s.heap m → m (Str.ofString "last_interval") = some (lastV last tl) → s.heap.IsListIter It lr i → Good fin val rest last n →
      Seg (model PySem.Challenge.rw_re0062_01.row.prog w) A (giR Lg It) (giY hS fin val Lg It) n s₀ (giFC Lg It) ((model PySem.Challenge.rw_re0062_01.row.prog w).den (giFC Lg It)) [.ret k1 none false [] c0 p0 []] s := by
  intro rest
  induction rest with
  | nil =>
    intro i n last tl m s₀ s hd' a F hm hit hG
    have hn : n = 0 := hG
    subst hn
    refine segForLoop ?_
    have hx : rv.toArray[i]? = none := by
      have := congrArg List.length hd'
      simp only [List.length_drop, List.length_nil] at this
      have hlen := hrv.length
      simp; omega
    refine wpAny_pyNext_list_end hA hit (hl.at fun o e => F.keep _ _ e) hx fun h' he => ?_
    refine seg_again rfl ?_
    show Seg _ A _ _ 0 s₀ _ (leafOf (.ok .next)) _ _
    exact seg_leaf (.ok .next) (hk1 .next _ _ (.inl rfl) (a.step fun b o _ h2 e => he b o h2 e))
  | cons x r ih =>
    intro i n last tl m s₀ s hd' a F hm hit hG
    have hxi : row[i]? = some x := by
      have := congrArg (fun l : List Int => l[0]?) hd'
      simpa using this
    obtain ⟨tx, htx⟩ := hrv.get i x hxi
    have hd2 : row.drop (i + 1) = r := by
      have := congrArg List.tail hd'
      simpa [List.tail_drop] using this
    refine segForLoop ?_
    refine wpAny_pyNext_list_item hit (hl.at fun o e => F.keep _ _ e) (x := .int x tx) (by simpa using htx) fun h' hit' hs' => ?_
    have F1 : Fr hS Lg h' m := by
      obtain ⟨oL, es, ep, hL, r9⟩ := F.ns
      exact ⟨⟨oL, es, ep, hs'.extBut _ _ (Ne.symm hne) hL, r9⟩, fun b o e => hs'.extBut b o (fun q => by rw [q, hIt] at e; cases e) (F.keep b o e), F.above⟩
    refine wpAny_storeName_local rfl F1.ns (fun h'' hn hs'' => ?_) rfl
    have F2 := F1.set hn hs''
    obtain ⟨oI, hoI, hcI, hdI⟩ := hit'
    have hI2 : h''.get? It = some oI := hs''.extBut _ _ hne hoI
    refine giTurn (oI := oI) (m := m) X T rfl rfl F2 hm (a.step fun b o h1 h2 e => hs''.extBut b o h1 (hs'.extBut b o h2 e)) hI2 hne hG ?_ ?_
    · intro hn0
      subst hn0
      show Seg _ A _ _ 0 s₀ _ (leafOf (.ok (.ret .none))) _ _
      exact seg_leaf (.ok (.ret .none)) (hk1 _ _ _ (.inr rfl) (a.step fun b o h1 h2 e => hs''.extBut b o h1 (hs'.extBut b o h2 e)))
    · intro n' _ hG' s₁ s' a' F3 hI3
      exact seg_again rfl (ih (i + 1) n' (some x) tx _ s₁ s' hd2 a' F3 rfl ⟨oI, hI3, hcI, hdI⟩ hG')
set_option maxHeartbeats 4000000 in
theorem giStart {row : List Int} {rv : List Value} {n : Nat} (X : (hd.heap_39 w.params).In hS) (T : Top p loose mean mg mb hS) (hA : A.handled = none) (hl : hS.IsList lr rv.toArray) (hrv : IntsAre rv row) (F : Fr hS Lg s.heap m) (hm : m (Str.ofString "grouping") = some (.ref lr)) (hG : Good fin val row none n) :
    Seg (model PySem.Challenge.rw_re0062_01.row.prog w) A (giR Lg s.heap.objs.size) (giY hS fin val Lg s.heap.objs.size) n s (.func (fnBody giDef) (giEnv Lg)) ((model PySem.Challenge.rw_re0062_01.row.prog w).den (.func (fnBody giDef) (giEnv Lg))) [] s := by
  have hLt : @LT.lt Nat _ Lg s.heap.objs.size := F.ns.lt
  have hIt : hS.get? s.heap.objs.size = none := Heap.get?_none_of_le (Nat.le_trans F.above (Nat.le_of_lt hLt))
  have hne : s.heap.objs.size ≠ Lg := Nat.ne_of_gt hLt
  refine seg_func ?_
  conv => enter [8, 5, 1]; whnf
  refine seg_execs_cons (segLast ?_)
  refine wpAny_Assign_Name ?_
  refine wpAny_mono (Q := fun v s' => v = .none ∧ s = s') (E := fun _ _ => False) (fun _ _ _ => ⟨rfl, rfl⟩) ?_ (fun _ _ x => x.elim)
  rintro v _ ⟨rfl, rfl⟩
  refine wpAny_storeName_local rfl F.ns (fun h' hn hs => ?_) rfl
  have F1 := F.set hn hs
  refine seg_execs_cons (segFor ?_ (fun _ => rfl))
  refine wpAny_Name (wpAny_loadName_local rfl rfl F1.ns (show (if Str.ofString "grouping" = Str.ofString "last_interval" then _ else m (Str.ofString "grouping")) = some (.ref lr) from hm) ?_) (by decide)
  refine wpAny_pyIter_list (hl.at fun o e => F1.keep _ _ e) ?_
  intro p0
  have hsz : h'.objs.size = s.heap.objs.size := hs.1
  have hsz' : ({ s with heap := h', toks := s.toks + 1 } : Shared).heap.objs.size = s.heap.objs.size := hsz
  rw [hsz']
  refine giFor (lr := lr) X T hA hl hrv hIt hne ?_ row 0 n none 0 (fun y => if y = Str.ofString "last_interval" then some .none else m y) s _ rfl ?_ (F1.push _) rfl ?_ hG
  · intro f s₁ s' hf a
    rcases hf with rfl | rfl
    · exact seg_end (.ok (.ret .none)) ⟨rfl, rfl, a⟩
    · exact seg_end (.ok (.ret .none)) ⟨rfl, rfl, a⟩
  · exact ⟨_, _, rfl, fun b o h1 _ e => Heap.get?_push_of_some _ (hs.extBut b o h1 e)⟩
  · rw [← hsz]
    exact ⟨_, Heap.get?_push_size _ rfl, rfl, rfl⟩
end Mine
namespace Mine
variable {w : World} {n : Nat} {A : Around} {s : Shared} {Q E : Value → Shared → Prop}
set_option maxHeartbeats 4000000 in
theorem giCall {lr : Addr} (C : Cx w n A s)
    (h : ∀ h' tk a, h'.Ns s.heap.objs.size (fun y => [(Str.ofString "grouping", Value.ref lr)].reverse.lookup y) → s.heap.StaysIn h' → h'.IsGen a s.gens.size → @LT.lt Nat _ s.heap.objs.size a →
      Q (.ref a) { s with heap := h', toks := tk, gens := s.gens.push (.fresh (.func (fnBody giDef) (giEnv s.heap.objs.size))) }) :
    wpAny (model PySem.Challenge.rw_re0062_01.row.prog w) A (call (.ref 35) [.ref lr]) Q E s := by
  have hX : (hd.heap_39 w.params) = (hd.heap_39 w.params) := rfl
  revert hX
  k_fill
  intro _
  obtain ⟨A₀, base, outer, h₀, L, m, env, p, loose, mean, mg, mb, B, F, X, T, hA, hf, hke, hh, hd, hu⟩ := C
  have X' := X.keeps F.keep
  have key : ∀ {oc : Value} {od : Option Addr} {osl : Array (Option Value)} {name qual : Str} {params : Arguments} {body : List Stmt} {scope : Scope} {dV kV doc pm cdv ct : Value} {an : Option Addr}, (Mine.hd.heap_39 w.params).lookup 35 = some ⟨oc, od, .func (fnOf name qual params body scope dV kV doc pm an cdv ct), osl⟩ → codeIn (Mine.hd.heap_39 w.params) cdv qual = true →
      scope.isCoroutine = false → scope.isGenerator = true → bindArgs (fnOf name qual params body scope dV kV doc pm an cdv ct) ⟨[.ref lr], []⟩ = pure [(Str.ofString "grouping", .ref lr)] → (∀ x ∈ scope.names, x.2 ≠ .cell) → (∀ x ∈ [(Str.ofString "grouping", Value.ref lr)], scope.names.lookup x.1 = some .local) → scope.kind = .function →
      body = fnBody giDef → envOf qual scope s.heap.objs.size 35 cdv = giEnv s.heap.objs.size →
      wpAny (model PySem.Challenge.rw_re0062_01.row.prog w) A (call (.ref 35) [.ref lr]) Q E s := by
    intro oc od osl name qual params body scope dV kV doc pm cdv ct an ho hcd hco hgen hbind hcell hloc hk hb he
    refine wpAny_call ?_
    refine codeAny_call_generator (fd := fnOf name qual params body scope dV kV doc pm an cdv ct) (body := body) (by omega) (X' _ _ ho) rfl hco hgen rfl (codeRec_of X' hcd) ?_
    rw [hbind]
    refine wpAny_pure (wpAny_newFunctionEnv hcell hloc (fun h₁ hns hsb => ⟨((T.nolimit).keeps F.keep).fresh _ hsb, ?_⟩) hk)
    have hst : s.heap.StaysIn h₁ := fun b o e => hsb.extBut b o (Nat.ne_of_lt (Heap.lt_size e)) (Heap.get?_push_of_some _ e)
    have hsz : h₁.objs.size = s.heap.objs.size + 1 := by rw [hsb.1, Heap.size_push]
    have := h (h₁.push { cls := .type "generator", data := .fields #[.int s.gens.size 0, .str name (s.toks + 1), .str qual (s.toks + 1 + 1)] }) (s.toks + 1 + 1 + 1) h₁.objs.size (hns.push _) (fun b o e => Heap.get?_push_of_some _ (hst b o e)) ⟨_, _, _, Heap.get?_push_size _ rfl, rfl, rfl, rfl⟩ (by rw [hsz]; exact Nat.lt_succ_self _)
    rw [← hb, ← he] at this
    exact this
  refine' key ?zo ?zc ?a1 ?a2 ?a3 ?a4 ?a5 ?a6 ?a7 ?a8
  case zo => k_dflt k_is
  case zc => k_dflt k_is
  case a1 => exact rfl
  case a2 => exact rfl
  case a3 => exact rfl
  case a4 => decide
  case a5 => exact locs rfl
  case a6 => exact rfl
  case a7 => exact rfl
  case a8 => exact rfl
end Mine
namespace Mine
section
local macro_rules | `(tactic| walk_at "zz0") => `(tactic| fail)
local macro_rules | `(tactic| walk_at "zz1") => `(tactic| fail)
theorem rst11 : True := by
  w_top off
  first | walk1 | trivial
end
end Mine
namespace Mine
def outI (val : Nat → Int) (N j : Nat) : List Int := (List.range j).map fun i => val (N - 1 - i)
theorem outI_succ (val : Nat → Int) (N j : Nat) : outI val N (j + 1) = outI val N j ++ [val (N - 1 - j)] := by simp [outI, List.range_succ]
theorem outI_len (val : Nat → Int) (N j : Nat) : (outI val N j).length = j := by simp [outI]
noncomputable def lsDef : Stmt := PySem.Challenge.pw_re0062_01.main.body.getD 12 default
noncomputable def lsScope : Scope := fnScope lsDef
noncomputable abbrev lsEnv (L : Addr) : Env := envOf (Str.ofString "_law_steps") lsScope L 74 (.ref 73)
noncomputable def lsFor : Stmt := (fnBody lsDef).getD 1 default
theorem push_set (gens : Array GenState) (x y : GenState) : (gens.push x).setIfInBounds gens.size y = gens.push y := by
  apply Array.ext'
  simp [Array.toList_setIfInBounds]
variable {w : World} {n : Nat} {A : Around} {s : Shared} {hS : Heap} {L' ls a Lg It lr : Addr} {m mg mb : Str → Option Value} {p : Program} {loose : List Str} {mean : ExcName → Option Value} {fin : Bool} {val : Nat → Int} {E : Value → Shared → Prop}
local macro_rules | `(tactic| walk_at "eval Name") => `(tactic| (k_here; k_dflt (refine' nameX_L ?F ?v ?_ ?a ?b ?c; (case F => k_asm); (case v => assumption); (case a => rfl); (case b => rfl); (case c => decide); k_whole)))
set_option maxHeartbeats 4000000 in
/-- one turn's body: what is told is kept, the loop is left at five -/
theorem lsBody {ov : List Value} {en j : Nat} {ns : List Int} {x : Int} {tx : Tok} {oL oI og : Obj} (X : (hd.heap_39 w.params).In hS) (T : Top p loose mean mg mb hS) (F : Fr hS L' s.heap (fun y => if y = Str.ofString "size" then some (.int x tx) else m y)) (hm : m (Str.ofString "steps") = some (.ref ls))
    (N : News hS L' s.heap [(ls, listOf ov.toArray en), (a, og), (Lg, oL), (It, oI)]) (h1 : @LT.lt Nat _ ls Lg) (h2 : @LT.lt Nat _ Lg a) (h3 : @Ne Nat ls It) (h4 : @Ne Nat It Lg) (h5 : @Ne Nat It a) (hov : IntsAre ov ns) (hj : ns.length = j) (hj5 : j < 5) {Q : Flow → Shared → Prop}
    (hq : ∀ h' tk en', Fr hS L' h' (fun y => if y = Str.ofString "size" then some (.int x tx) else m y) → News hS L' h' [(ls, listOf (ov ++ [Value.int x tx]).toArray en'), (a, og), (Lg, oL), (It, oI)] → Q (if j + 1 = 5 then .brk else .next) { s with heap := h', toks := tk }) :
    wpAny (model PySem.Challenge.rw_re0062_01.row.prog w) A (execs (forBody lsFor) (lsEnv L')) Q (fun _ _ => False) s := by
  w_on
  revert X
  k_fill
  intro X
  conv => enter [3, 1]; whnf
  dsimp only [lsEnv]
  have h6 : @LT.lt Nat _ ls a := Nat.lt_trans h1 h2
  have hov' : ov.length = j := hov.length.trans hj
  k_steps
  dsimp only [List.cons_append, List.nil_append]
  refine' append_K ?zk1 ?zk2 ?zk3 ?_ ?zz
  (case zk1 => k_asm)
  (case zk2 => k_asm)
  (case zk3 => k_upd)
  (case zz => size_fits)
  intro h9 F9 N9
  k_sweep
  try dsimp only
  repeat' (first | (k_unfold; (try dsimp only)) | (k_end; wrow_close) | walk1 | (dsimp only; walk1))
  all_goals (try dsimp only)
  all_goals (have N8 : News hS L' h9 [(ls, listOf (ov ++ [Value.int x tx]).toArray (en + 1)), (a, og), (Lg, oL), (It, oI)] := by (rename News hS L' h9 _ => N7); simpa using N7)
  · have := hq h9 tk (en + 1) (by assumption) N8
    rw [if_pos (by omega)] at this
    exact this
  · have := hq h9 tk (en + 1) (by assumption) N8
    rw [if_neg (by omega)] at this
    exact this
/-- how the generator stands when j numbers are taken -/
def Ready (w : World) (A : Around) (hS : Heap) (L' Lg a ls lr : Addr) (fin : Bool) (val : Nat → Int) (N j : Nat) (gs : GenState) (h : Heap) : Prop :=
  (j = 0 ∧ gs = .fresh (.func (fnBody giDef) (giEnv Lg)) ∧ ∃ m0 oL, h.Ns Lg m0 ∧ m0 (Str.ofString "grouping") = some (.ref lr) ∧ News hS L' h [(Lg, oL)]) ∨
  (∃ It oL oI, News hS L' h [(Lg, oL), (It, oI)] ∧ @Ne Nat ls It ∧ @Ne Nat It Lg ∧ @Ne Nat It a ∧
    ∀ s'' : Shared, hS.StaysIn s''.heap → s''.heap.get? Lg = some oL → s''.heap.get? It = some oI → gs.Goes (model PySem.Challenge.rw_re0062_01.row.prog w) A.in1 (giR Lg It) (giY hS fin val Lg It) (N - j) (.send .none) s'')
def LsInv (w : World) (A : Around) (hS : Heap) (L' Lg a ls lr : Addr) (og : Obj) (fin : Bool) (val : Nat → Int) (N : Nat) (s : Shared) (gens0 : Array GenState) (k : Nat) (s' : Shared) : Prop :=
  ∃ j gs h tk ov en m', k = N - j ∧ j ≤ N ∧ (j = N → fin = true) ∧ s' = { s with heap := h, toks := tk, gens := gens0.push gs } ∧ gs.bare = true ∧ Fr hS L' h m' ∧ m' (Str.ofString "steps") = some (.ref ls) ∧
    News hS L' h [(ls, listOf ov.toArray en), (a, og)] ∧ IntsAre ov (outI val N j) ∧ Ready w A hS L' Lg a ls lr fin val N j gs h
/-- behind a next value: the turn's body, then the invariant or the end -/
theorem lsAfter {N j : Nat} {gens0 : Array GenState} {R : Result → Shared → Prop} {ov : List Value} {en tk : Nat} {oL oI og : Obj} {x : Int} {tx : Tok} {gs' : GenState} {h : Heap} (X : (hd.heap_39 w.params).In hS) (T : Top p loose mean mg mb hS) (hjN : j < N) (hN : (fin = true ∧ N < 5) ∨ (fin = false ∧ N = 5))
    (F : Fr hS L' h m) (hm : m (Str.ofString "steps") = some (.ref ls)) (NL : News hS L' h [(ls, listOf ov.toArray en), (a, og), (Lg, oL), (It, oI)]) (hov : IntsAre ov (outI val N j)) (h1 : @LT.lt Nat _ ls Lg) (h2 : @LT.lt Nat _ Lg a) (h3 : @Ne Nat ls It) (h4 : @Ne Nat It Lg) (h5 : @Ne Nat It a) (hx : x = val (N - 1 - j)) (hb : gs'.bare = true)
    (hgo : (N - j - 1 ≠ 0 ∨ fin = true) → ∀ s'' : Shared, hS.StaysIn s''.heap → s''.heap.get? Lg = some oL → s''.heap.get? It = some oI → gs'.Goes (model PySem.Challenge.rw_re0062_01.row.prog w) A.in1 (giR Lg It) (giY hS fin val Lg It) (N - j - 1) (.send .none) s'')
    (hend : ∀ h' tk ov en gs m', Fr hS L' h' m' → m' (Str.ofString "steps") = some (.ref ls) → News hS L' h' [(ls, listOf ov.toArray en)] → IntsAre ov (outI val N N) → gs.bare = true → R (.ok .next) { s with heap := h', toks := tk, gens := gens0.push gs }) :
    wpAny (model PySem.Challenge.rw_re0062_01.row.prog w) A (assign (.Name (Str.ofString "size") (forName lsFor).2) (lsEnv L') (.int x tx)) (fun _ s₂ => wpAny (model PySem.Challenge.rw_re0062_01.row.prog w) A (execs (forBody lsFor) (lsEnv L')) (fun f s₃ => match f with
          | .next | .cont => ∃ m, m < N - j ∧ LsInv w A hS L' Lg a ls lr og fin val N s gens0 m s₃
          | .brk => R (.ok .next) s₃
          | .ret v => R (.ok (.ret v)) s₃) (fun _ _ => False) s₂) (fun _ _ => False) { s with heap := h, toks := tk, gens := gens0.push gs' } := by
  refine wpAny_assign_Name (wpAny_storeName_local rfl F.ns (fun h' hn hs => ?_) rfl)
  have F1 := F.set hn hs
  have N1 : News hS L' h' [(ls, listOf ov.toArray en), (a, og), (Lg, oL), (It, oI)] := NL.set hs
  have h5' : j < 5 := by omega
  refine lsBody (j := j) X T F1 hm N1 h1 h2 h3 h4 h5 hov (outI_len _ _ _) h5' fun h9 tk9 en9 F9 N9 => ?_
  have hov9 : IntsAre (ov ++ [Value.int x tx]) (outI val N (j + 1)) := by rw [outI_succ, ← hx]; exact hov.append (.cons _ _ .nil)
  by_cases e : j + 1 = 5
  · rw [if_pos e]
    have eN : N = j + 1 := by omega
    exact hend h9 _ _ en9 gs' _ F9 hm (kst_newsOf N9 fun q hq => by rw [List.mem_singleton.mp hq]; exact .head _) (by rw [eN] at hov9 ⊢; exact hov9) hb
  · rw [if_neg e]
    refine ⟨N - (j + 1), by omega, j + 1, gs', h9, tk9, _, en9, _, rfl, by omega, fun q => hN.elim (fun z => z.1) (fun z => absurd z.2 (by omega)), rfl, hb, F9, hm, kst_newsOf N9 (fun q hq => ?_), hov9, .inr ⟨It, oL, oI, kst_newsOf N9 (fun q hq => ?_), h3, h4, h5, ?_⟩⟩
    · simp only [List.mem_cons, List.not_mem_nil, or_false] at hq ⊢
      rcases hq with rfl | rfl <;> simp
    · simp only [List.mem_cons, List.not_mem_nil, or_false] at hq ⊢
      rcases hq with rfl | rfl <;> simp
    · have : N - (j + 1) = N - j - 1 := by omega
      rw [this]
      exact hgo (hN.elim (fun z => .inr z.1) fun z => .inl (by have := z.2; omega))
end Mine
namespace Mine
variable {w : World} {n : Nat} {A : Around} {s : Shared} {hS : Heap} {L' ls a Lg It lr : Addr} {m mg mb : Str → Option Value} {p : Program} {loose : List Str} {mean : ExcName → Option Value} {fin : Bool} {val : Nat → Int} {E : Value → Shared → Prop}
theorem noted_false {M : Model} {A : Around} {env : Env} {E : Value → Shared → Prop} : ∀ (e : Value) (s : Shared), (fun (_ : Value) (_ : Shared) => False) e s → notedBy M A env E e s := fun _ _ x => x.elim
theorem lsLoop {N : Nat} {gens0 : Array GenState} {R : Result → Shared → Prop} {og : Obj} {rv : List Value} {row : List Int} (X : (hd.heap_39 w.params).In hS) (T : Top p loose mean mg mb hS) (hA : A.handled = none) (hroom : A.depth < recursionLimit) (hl : hS.IsList lr rv.toArray) (hrv : IntsAre rv row) (hG : Good fin val row none N) (hN : (fin = true ∧ N < 5) ∨ (fin = false ∧ N = 5))
    (hog : ∀ h : Heap, h.get? a = some og → h.IsGen a gens0.size) (hLs : @LE.le Nat _ hS.objs.size Lg) (hLn : @Ne Nat L' Lg) (h1 : @LT.lt Nat _ ls Lg) (h2 : @LT.lt Nat _ Lg a)
    (hend : ∀ h' tk ov en gs m', Fr hS L' h' m' → m' (Str.ofString "steps") = some (.ref ls) → News hS L' h' [(ls, listOf ov.toArray en)] → IntsAre ov (outI val N N) → gs.bare = true → R (.ok .next) { s with heap := h', toks := tk, gens := gens0.push gs })
    {s' : Shared} (hI : LsInv w A hS L' Lg a ls lr og fin val N s gens0 N s') :
    codeAny (model PySem.Challenge.rw_re0062_01.row.prog w) A (.forLoop (.Name (Str.ofString "size") (forName lsFor).2) (.ref a) (forBody lsFor) [] (lsEnv L')) R s' := by
  refine codeAny_forLoop (LsInv w A hS L' Lg a ls lr og fin val N s gens0) ?_ N hI
  rintro k s9 ⟨j, gs, h, tk, ov, en, m', rfl, hjN, hjf, rfl, hb, F, hm, NL, hov, hr⟩
  have hlim : h.NoLimit := T.nolimit.keeps F.keep
  have hgen : h.IsGen a gens0.size := hog h (NL _ (.tail _ (.head _))).1
  have hgs : ({ s with heap := h, toks := tk, gens := gens0.push gs } : Shared).gens[gens0.size]? = some gs := Array.getElem?_push_size ..
  have hrun : ({ s with heap := h, toks := tk, gens := gens0.push gs } : Shared).setGen gens0.size .running = { s with heap := h, toks := tk, gens := gens0.push .running } := by
    simp only [Shared.setGen, push_set]
  have key : ∀ (It : Addr) (oI0 : Obj → Prop), (@Ne Nat ls It ∧ @Ne Nat It Lg ∧ @Ne Nat It a ∧ @Ne Nat It L' ∧ hS.get? It = none) →
      gs.Goes (model PySem.Challenge.rw_re0062_01.row.prog w) A.in1 (giR Lg It) (giY hS fin val Lg It) (N - j) (.send .none) { s with heap := h, toks := tk, gens := gens0.push .running } →
      wpAny (model PySem.Challenge.rw_re0062_01.row.prog w) A (pyNext (.ref a)) (fun r s₁ => match r with
        | none => wpAny (model PySem.Challenge.rw_re0062_01.row.prog w) A (execs [] (lsEnv L')) (fun f s₃ => R (.ok f) s₃) (notedBy (model PySem.Challenge.rw_re0062_01.row.prog w) A (lsEnv L') fun e s' => R (.error e) s') s₁
        | some v => wpAny (model PySem.Challenge.rw_re0062_01.row.prog w) A (assign (.Name (Str.ofString "size") (forName lsFor).2) (lsEnv L') v) (fun _ s₂ => wpAny (model PySem.Challenge.rw_re0062_01.row.prog w) A (execs (forBody lsFor) (lsEnv L')) (fun f s₃ => match f with
            | .next | .cont => ∃ m, m < N - j ∧ LsInv w A hS L' Lg a ls lr og fin val N s gens0 m s₃
            | .brk => R (.ok .next) s₃
            | .ret v => R (.ok (.ret v)) s₃) (notedBy (model PySem.Challenge.rw_re0062_01.row.prog w) A (lsEnv L') fun e s' => R (.error e) s') s₂) (notedBy (model PySem.Challenge.rw_re0062_01.row.prog w) A (lsEnv L') fun e s' => R (.error e) s') s₁)
        (notedBy (model PySem.Challenge.rw_re0062_01.row.prog w) A (lsEnv L') fun e s' => R (.error e) s') { s with heap := h, toks := tk, gens := gens0.push gs } := by
    rintro It _ ⟨h3, h4, h5, h6, h7⟩ hgo
    have hkeep : ∀ h' : Heap, (∀ b o, b ≠ Lg → b ≠ It → h.get? b = some o → h'.get? b = some o) → Fr hS L' h' m' ∧ News hS L' h' [(ls, listOf ov.toArray en), (a, og)] := by
      intro h' hk
      refine ⟨?_, fun q hq => ?_⟩
      · obtain ⟨oL, es, ep, hL, r9⟩ := F.ns
        refine ⟨⟨oL, es, ep, hk _ _ hLn (Ne.symm h6) hL, r9⟩, fun b o e => hk b o (fun q => ?_) (fun q => ?_) (F.keep b o e), F.above⟩
        · rw [q] at e; exact absurd (Heap.lt_size e) (Nat.not_lt.mpr hLs)
        · rw [q, h7] at e; cases e
      · have := NL q hq
        simp only [List.mem_cons, List.not_mem_nil, or_false] at hq
        rcases hq with rfl | rfl
        · exact ⟨hk _ _ (Nat.ne_of_lt h1) h3 this.1, this.2⟩
        · exact ⟨hk _ _ (Nat.ne_of_gt h2) (Ne.symm h5) this.1, this.2⟩
    refine genNext (P := fun n s₀ s₁ => n = 0 ∧ Since Lg It s₀ s₁) (n := N - j) hA hlim hroom hgen hgs (by rw [hrun]; exact hgo) (fun v s₁ gs' hb' hY => ?_) (fun s₁ hP h' st => ?_)
    · rw [hrun] at hY
      obtain ⟨t, oL, oI, rfl, ⟨h', tk', rfl, hk⟩, e1, e2, hc⟩ := hY
      obtain ⟨F1, N1⟩ := hkeep h' hk
      by_cases hj : j = N
      · exfalso
        have hz : N - j = 0 := by omega
        rw [hz] at hc
        exact hc (.inr (hjf hj)) { s with heap := h', toks := tk', gens := gens0.push .running } F1.keep e1 e2
      · have hpos : N - j = (N - j - 1) + 1 := by omega
        have hset : ({ ({ s with heap := h, toks := tk, gens := gens0.push .running } : Shared) with heap := h', toks := tk' } : Shared).setGen gens0.size gs' = { s with heap := h', toks := tk', gens := gens0.push gs' } := by
          simp only [Shared.setGen, push_set]
        rw [hset]
        have NA : News hS L' h' [(ls, listOf ov.toArray en), (a, og), (Lg, oL), (It, oI)] := by
          intro q hq
          simp only [List.mem_cons, List.not_mem_nil, or_false] at hq
          rcases hq with rfl | rfl | rfl | rfl
          · exact N1 _ (.head _)
          · exact N1 _ (.tail _ (.head _))
          · exact ⟨e1, Ne.symm hLn, Heap.get?_none_of_le hLs⟩
          · exact ⟨e2, h6, h7⟩
        have := lsAfter (s := s) (tk := tk') (R := R) (lr := lr) X T (show j < N by omega) hN F1 hm NA hov h1 h2 h3 h4 h5 (tx := t) (x := val (N - j - 1)) (by rw [show N - 1 - j = N - j - 1 by omega]) hb' (fun hcc s'' x1 x2 x3 => by
          have := hc hcc s'' x1 x2 x3
          rw [hpos] at this
          exact this) hend
        exact wpAny_mono this (fun _ s₂ x => wpAny_mono x (fun _ _ y => y) noted_false) noted_false
    · rw [hrun] at hP
      obtain ⟨hn0, h'', tk'', rfl, hk⟩ := hP
      have hj : j = N := by omega
      have st' : ∀ b o, b ≠ Lg → b ≠ It → h.get? b = some o → h'.get? b = some o := fun b o x y e => st b o (hk b o x y e)
      obtain ⟨F1, N1⟩ := hkeep h' st'
      refine wpAny_execs_nil ?_
      have hset : ({ ({ ({ s with heap := h, toks := tk, gens := gens0.push .running } : Shared) with heap := h'', toks := tk'' } : Shared).setGen gens0.size .finished with heap := h' } : Shared) = { s with heap := h', toks := tk'', gens := gens0.push .finished } := by
        simp only [Shared.setGen, push_set]
      rw [hset]
      exact hend h' tk'' ov en .finished m' F1 hm (kst_newsOf N1 fun q hq => by rw [List.mem_singleton.mp hq]; exact .head _) (by rw [hj] at hov; exact hov) rfl
  rcases hr with ⟨rfl, rfl, m0, oL, hns, hg0, NLg⟩ | ⟨It, oL, oI, NI, h3, h4, h5, hgo⟩
  · have hsz : ∀ b o, h.get? b = some o → @Ne Nat h.objs.size b := fun b o e => Nat.ne_of_gt (Heap.lt_size e)
    have FL : Fr hS Lg h m0 := ⟨hns, F.keep, hLs⟩
    refine key h.objs.size (fun _ => True) ⟨Ne.symm (hsz _ _ (NL _ (.head _)).1), hsz _ _ (NLg _ (.head _)).1, hsz _ _ (NL _ (.tail _ (.head _))).1, Nat.ne_of_gt F.ns.lt, Heap.get?_none_of_le (Nat.le_trans hLs (Nat.le_of_lt hns.lt))⟩ ⟨rfl, ?_⟩
    exact giStart (s := { s with heap := h, toks := tk, gens := gens0.push .running }) (A := A.in1) X T hA hl hrv FL hg0 hG
  · refine key It (fun _ => True) ⟨h3, h4, h5, (NI _ (.tail _ (.head _))).2.1, (NI _ (.tail _ (.head _))).2.2⟩ (hgo _ F.keep (NI _ (.head _)).1 (NI _ (.tail _ (.head _))).1)
end Mine
namespace Mine
section
local macro_rules | `(tactic| walk_at "zz0") => `(tactic| fail)
local macro_rules | `(tactic| walk_at "zz1") => `(tactic| fail)
theorem rst12 : True := by
  w_top off
  first | walk1 | trivial
end
end Mine
namespace Mine
variable {w : World} {n : Nat} {A : Around} {s : Shared} {Q E : Value → Shared → Prop}
local macro_rules | `(tactic| walk_at "eval Name") => `(tactic| (k_here; k_dflt (refine' nameX_L ?F ?v ?_ ?a ?b ?c; (case F => k_asm); (case v => assumption); (case a => rfl); (case b => rfl); (case c => decide); k_whole)))
set_option maxHeartbeats 4000000 in
theorem stepsC {lr : Addr} {rv : List Value} {row : List Int} {N : Nat} {fin : Bool} {val : Nat → Int} (C : Cx w (n + 2) A s) (hl : s.heap.IsList lr rv.toArray) (hrv : IntsAre rv row) (hG : Good fin val row none N) (hN : (fin = true ∧ N < 5) ∨ (fin = false ∧ N = 5))
    (h : ∀ h' tk a ov en gs, s.heap.StaysIn h' → h'.get? a = some (listOf ov.toArray en) → IntsAre ov (outI val N N) → gs.bare = true → s.heap.get? a = none → Q (.ref a) { s with heap := h', toks := tk, gens := s.gens.push gs }) :
    wpAny (model PySem.Challenge.rw_re0062_01.row.prog w) A (call (.ref 74) [.ref lr]) Q E s := by
  w_on
  have hX : (hd.heap_39 w.params) = (hd.heap_39 w.params) := rfl
  revert hX
  k_fill
  intro _
  refine' enterP (n := n + 1) (binds := [(Str.ofString "row", .ref lr)]) C ?zo ?zc ?zb ?zl ?_ ?zc2 ?zc3 ?zc4 ?zc5
  case zo => k_dflt k_is
  case zc => k_dflt k_is
  case zb => exact fun _ => BindsTo.of_eq rfl
  case zl => exact locs rfl
  case zc2 => exact rfl
  case zc3 => exact rfl
  case zc4 => exact rfl
  case zc5 => decide
  intro dp un gd base outer env p loose mean mg mb L' h₁ hd hu B F N0 X T
  repeat' ((fail_if_success (with_reducible show wpAny _ _ (exec (Stmt.For _ _ _ _ _) _) _ _ _)); first | (k_unfold; (try dsimp only)) | (k_end; wrow_close) | walk1 | (dsimp only; walk1))
  refine wpAny_For ?_ (fun _ => rfl)
  repeat' ((fail_if_success (with_reducible show wpAny _ _ (call (Value.ref 35) _ _) _ _ _)); first | (k_unfold; (try dsimp only)) | (k_end; wrow_close) | walk1 | (dsimp only; walk1))
  refine giCall (n := n) (Cx.mk (by k_asm) (by k_asm) (by k_asm) (by k_asm) rfl rfl rfl rfl (by dsimp only; omega) (by dsimp only; omega)) ?_
  intro h2 tk2 a hNs st2 hgen hlt
  rename News s.heap L' _ _ => NL
  rename Fr s.heap L' _ _ => FL
  have F2 := frStays FL st2
  have N2 := newsStays NL st2
  refine wpAny_pyIter_gen hgen ?_
  obtain ⟨og, nm, qn, hog, hogc, hogd, hogs⟩ := id hgen
  have hLlt := FL.ns.lt
  have hlslt := Heap.lt_size (NL _ (.head _)).1
  have hSz : @LE.le Nat _ s.heap.objs.size L' := FL.above
  have hLg : ∃ oL, h2.get? (_ : Addr) = some oL := let ⟨o, _, _, ho, _⟩ := hNs; ⟨o, ho⟩
  obtain ⟨oLg, hoLg⟩ := hLg
  refine lsLoop (og := og) (lr := lr) (s := s) (gens0 := s.gens) (rv := rv) (row := row) (N := N) (fin := fin) (val := val) X T rfl (by dsimp only; omega) hl hrv hG hN (fun hh e => ⟨og, nm, qn, e, hogc, hogd, hogs⟩) (Nat.le_trans hSz (Nat.le_of_lt hLlt)) (Nat.ne_of_lt hLlt) hlslt hlt ?_
    ⟨0, _, h2, tk2, [], 0, _, by omega, Nat.zero_le _, fun q => hN.elim (fun z => z.1) (fun z => absurd z.2 (by omega)), rfl, rfl, F2, rfl, ?_, .nil, .inl ⟨rfl, rfl, _, oLg, hNs, rfl, ?_⟩⟩
  · intro h' tk ov en gs m' F' hm NN hov hb
    dsimp only
    k_steps
    exact h h' tk _ ov en gs F'.keep (NN _ (.head _)).1 hov hb (NN _ (.head _)).2.2
  · intro q hq
    simp only [List.mem_cons, List.not_mem_nil, or_false] at hq
    rcases hq with rfl | rfl
    · exact N2 _ (.head _)
    · exact ⟨hog, Nat.ne_of_gt (Nat.lt_trans hLlt hlt), Heap.get?_none_of_le (Nat.le_trans hSz (Nat.le_of_lt (Nat.lt_trans hLlt hlt)))⟩
  · intro q hq
    rw [List.mem_singleton.mp hq]
    exact ⟨hoLg, Nat.ne_of_gt hLlt, Heap.get?_none_of_le (Nat.le_trans hSz (Nat.le_of_lt hLlt))⟩
end Mine
namespace Mine
section
local macro_rules | `(tactic| walk_at "zz0") => `(tactic| fail)
local macro_rules | `(tactic| walk_at "zz1") => `(tactic| fail)
local macro_rules | `(tactic| walk_at "zz2") => `(tactic| fail)
local macro_rules | `(tactic| walk_at "zz3") => `(tactic| fail)
theorem rst13 : True := by
  w_top off
  first | walk1 | trivial
end
end Mine
namespace Mine
variable {w : World} {A : Around} {s : Shared} {Q : Flow → Shared → Prop} {E : Value → Shared → Prop} {h₀ : Heap} {L fa : Addr} {cd : Value} {m mg mb : Str → Option Value} {p : Program} {loose : List Str} {mean : ExcName → Option Value} {news : List (Addr × Obj)}
local macro_rules | `(tactic| walk_at "eval Name") => `(tactic| (k_here; k_dflt (refine' nameX_L ?F ?v ?_ ?a ?b ?c; (case F => k_asm); (case v => assumption); (case a => rfl); (case b => rfl); (case c => decide); k_whole)))
local macro_rules | `(tactic| walk_at "subscriptTail List") => `(tactic| (k_here; k_dflt (refine kba_turn (value' := PySem.Expr.Name (PySem.Str.ofString "_") ⟨0, 0, 0, 0⟩) (fun _ => rfl) ?_)))
local macro_rules | `(tactic| walk_at "subscriptTail Name Slice ref ref") => `(tactic| (k_here; (with_reducible show wpAny _ _ (subscriptTail _ (PySem.Expr.Slice _ _ none _) (Value.ref _) (Value.ref _)) _ _ _); k_dflt (refine' kmk_slice_ints ?F ?N ?l ?p ?q ?i ?m ?c ?_ ?s ?t ?z; (case F => k_asm); (case N => k_asm); (case l => kmk_list); (case p => kmk_part); (case q => kmk_part); (case i => l_ints); (case m => first | exact kmk_from (by l_ints) (Int.natCast_nonneg _) | exact kmk_upto (by l_ints) (by decide) | kmk_nums); (case c => kmk_len); (case s => with_unfolding_all rfl); (case t => kmk_pure); (case z => kmk_size)); intro D' ws' h' F' N' l1 hI' hC' hL'; (try simp only [Int.reduceNeg, Int.neg_neg, Int.reduceToNat] at hI' hC' hL'); (try k_lt l1); (try k_sweep)))
theorem frDup {h : Heap} {x : Str} {v v' : Option Value} (F : Fr h₀ L h (fun y => if y = x then v else if y = x then v' else m y)) : Fr h₀ L h (fun y => if y = x then v else m y) := by
  have e : (fun y => if y = x then v else if y = x then v' else m y) = fun y => if y = x then v else m y := by
    funext y; by_cases h : y = x <;> simp [h]
  rw [← e]; exact F
theorem newsSub {h : Heap} {l l' : List (Addr × Obj)} (N : News h₀ L h l) (hs : ∀ p ∈ l', p ∈ l) : News h₀ L h l' := fun p hp => N p (hs p hp)
/-- the five numbers -/
def drawnOf (ns : List Int) : List Int := List.map (fun k => k.fmod 1000000) (List.take 5 ns) ++ List.drop (↑(List.map (fun k => k.fmod 1000000) (List.take 5 ns)).length : Int).toNat [14104, 5, 70, 181, 96]
theorem drawn_len (ns : List Int) : (drawnOf ns).length = 5 := by
  simp only [drawnOf, List.length_append, List.length_drop, List.length_map, List.length_take, Int.toNat_natCast, List.length_cons, List.length_nil]; omega
theorem drawn_ok (ns : List Int) : ∀ x ∈ drawnOf ns, 0 ≤ x ∧ x < 1000000 := by
  intro x hx
  rcases List.mem_append.mp hx with h | h
  · obtain ⟨k, _, rfl⟩ := List.mem_map.mp h
    have e : k.fmod 1000000 = k % 1000000 := Int.fmod_eq_emod_of_nonneg k (by decide)
    rw [e]; omega
  · have := List.mem_of_mem_drop h
    simp only [List.mem_cons, List.not_mem_nil, or_false] at this
    omega
set_option maxHeartbeats 4000000 in
theorem s01 {ls : Addr} {vs : List Value} {ns : List Int} (B : Below callerA h₀ [] h₀) (F : Fr h₀ L s.heap (fun y => if y = Str.ofString "script" then some (.ref ls) else none)) (X : (hd.heap_39 w.params).In h₀) (T : Top p loose mean mg mb h₀)
    {o1 o2 o3 o4 : Obj} (N : News h₀ L s.heap [(L + 1, o1), (L + 2, o2), (L + 3, o3), (L + 4, o4), (90, tabObj #[])])
    (hl : h₀.IsList ls vs.toArray) (hI : IntsAre vs ns) (hlen : ns.length ≤ 63)
    (h : ∀ h' tk a dv, IntsAre dv (drawnOf ns) → Fr h₀ L h' (fun y => if y = Str.ofString "drawn" then some (.ref a) else if y = Str.ofString "script" then some (.ref ls) else none) →
      News h₀ L h' [(a, listOf dv.toArray 0), (L + 1, o1), (L + 2, o2), (L + 3, o3), (L + 4, o4), (90, tabObj #[])] → @LT.lt Nat _ (L + 4) a → @LT.lt Nat _ 90 a → Q .next { s with heap := h', toks := tk }) :
    wpAny (model PySem.Challenge.rw_re0062_01.row.prog w) (callerA.deeper (lawEnv L fa cd)) (execs [lawStmt 0, lawStmt 1] (lawEnv L fa cd)) Q (fun _ _ => False) s := by
  w_on
  revert X
  k_fill
  intro X
  conv => enter [3, 1, 1]; whnf
  conv => enter [3, 1, 2, 1]; whnf
  dsimp only [lawEnv]
  repeat' (first | (k_unfold; (try dsimp only)) | (k_end; wrow_close) | (walk1 <;> (try ((with_reducible show wpAny _ _ (spliced _) _ _ _); dsimp only)) <;> (try ((with_reducible show wpAny _ _ (newList _) _ _ _); dsimp only)) <;> (try ((with_reducible show wpAny _ _ (binaryOp _ _ _) _ _ _); dsimp only)) <;> (try ((with_reducible show wpAny _ _ (evalPart _ _) _ _ _); dsimp only))) | (dsimp only; walk1) | fail "no step")
  rename News h₀ L _ _ => NE
  refine h _ _ _ _ (by assumption) (frDup (by assumption)) (newsSub NE fun q hq => ?_) (by omega) (by omega)
  simp only [List.mem_cons, List.not_mem_nil, or_false] at hq ⊢
  rcases hq with rfl | rfl | rfl | rfl | rfl | rfl <;> simp
end Mine
namespace Mine
section
theorem rst14 : True := by
  w_top off
  trivial
end
end Mine
namespace Mine
variable {w : World} {A : Around} {s : Shared} {Q : Flow → Shared → Prop} {E : Value → Shared → Prop} {h₀ : Heap} {L fa : Addr} {cd : Value} {m mg mb : Str → Option Value} {p : Program} {loose : List Str} {mean : ExcName → Option Value} {news : List (Addr × Obj)}
local macro_rules | `(tactic| walk_at "subscriptTail List") => `(tactic| (k_here; k_dflt (refine kba_turn (value' := PySem.Expr.Name (PySem.Str.ofString "_") ⟨0, 0, 0, 0⟩) (fun _ => rfl) ?_)))
local macro_rules | `(tactic| walk_at "subscriptTail Name Slice ref ref") => `(tactic| (k_here; (with_reducible show wpAny _ _ (subscriptTail _ (PySem.Expr.Slice _ _ none _) (Value.ref _) (Value.ref _)) _ _ _); k_dflt (refine' kmk_slice_ints ?F ?N ?l ?p ?q ?i ?m ?c ?_ ?s ?t ?z; (case F => k_asm); (case N => k_asm); (case l => kmk_list); (case p => kmk_part); (case q => kmk_part); (case i => l_ints); (case m => first | exact kmk_from (by l_ints) (Int.natCast_nonneg _) | exact kmk_upto (by l_ints) (by first | decide | omega | l_fact) | kmk_nums); (case c => kmk_len); (case s => with_unfolding_all rfl); (case t => kmk_pure); (case z => kmk_size)); intro D' ws' h' F' N' l1 hI' hC' hL'; (try simp only [Int.reduceNeg, Int.neg_neg, Int.reduceToNat] at hI' hC' hL'); (try k_lt l1); (try k_sweep)))
def sizesOf (d : Int) : List Int := List.take (1 + (d.fdiv 3375).fmod 3).toNat [1 + d.fmod 15, 1 + (d.fdiv 15).fmod 15, 1 + (d.fdiv 225).fmod 15]
def endOf (d : Int) : Int := (d.fdiv 10125).fmod 3
set_option maxHeartbeats 4000000 in
theorem s23 {ls a : Addr} {d0 d1 d2 d3 d4 : Int} {t0 t1 t2 t3 t4 : Tok} (B : Below callerA h₀ [] h₀) (F : Fr h₀ L s.heap (fun y => if y = Str.ofString "drawn" then some (.ref a) else if y = Str.ofString "script" then some (.ref ls) else none)) (X : (hd.heap_39 w.params).In h₀) (T : Top p loose mean mg mb h₀)
    {o1 o2 o3 o4 : Obj} (N : News h₀ L s.heap [(a, listOf #[.int d0 t0, .int d1 t1, .int d2 t2, .int d3 t3, .int d4 t4] 0), (L + 1, o1), (L + 2, o2), (L + 3, o3), (L + 4, o4), (90, tabObj #[])]) (hd0 : 0 ≤ d0 ∧ d0 < 1000000) (ha1 : @LT.lt Nat _ (L + 4) a)
    (h : ∀ h' tk b sv te, IntsAre sv (sizesOf d0) → Fr h₀ L h' (fun y => if y = Str.ofString "end" then some (.int (endOf d0) te) else if y = Str.ofString "sizes" then some (.ref b) else if y = Str.ofString "drawn" then some (.ref a) else if y = Str.ofString "script" then some (.ref ls) else none) →
      News h₀ L h' [(b, listOf sv.toArray 0), (a, listOf #[.int d0 t0, .int d1 t1, .int d2 t2, .int d3 t3, .int d4 t4] 0), (L + 1, o1), (L + 2, o2), (L + 3, o3), (L + 4, o4), (90, tabObj #[])] → @LT.lt Nat _ (L + 4) b → @LT.lt Nat _ a b → @LT.lt Nat _ 90 b → Q .next { s with heap := h', toks := tk }) :
    wpAny (model PySem.Challenge.rw_re0062_01.row.prog w) (callerA.deeper (lawEnv L fa cd)) (execs [lawStmt 2, lawStmt 3] (lawEnv L fa cd)) Q (fun _ _ => False) s := by
  w_on
  revert X
  k_fill
  intro X
  conv => enter [3, 1, 1]; whnf
  conv => enter [3, 1, 2, 1]; whnf
  dsimp only [lawEnv]
  repeat' (first | (k_unfold; (try dsimp only)) | (k_end; wrow_close) | (walk1 <;> (try ((with_reducible show wpAny _ _ (spliced _) _ _ _); dsimp only)) <;> (try ((with_reducible show wpAny _ _ (newList _) _ _ _); dsimp only)) <;> (try ((with_reducible show wpAny _ _ (binaryOp _ _ _) _ _ _); dsimp only)) <;> (try ((with_reducible show wpAny _ _ (evalPart _ _) _ _ _); dsimp only))) | (dsimp only; walk1) | fail "no step")
  rename News h₀ L _ _ => NE
  refine h _ _ _ _ _ (by assumption) (by assumption) (newsSub NE fun q hq => ?_) (by omega) (by omega) (by omega)
  simp only [List.mem_cons, List.not_mem_nil, or_false] at hq ⊢
  rcases hq with rfl | rfl | rfl | rfl | rfl | rfl | rfl <;> simp
end Mine
namespace Mine
section
theorem rst15 : True := by
  w_top off
  trivial
end
end Mine
namespace Mine
variable {w : World} {A : Around} {s : Shared} {Q : Flow → Shared → Prop} {E : Value → Shared → Prop} {h₀ : Heap} {L fa : Addr} {cd : Value} {m mg mb : Str → Option Value} {p : Program} {loose : List Str} {mean : ExcName → Option Value} {news : List (Addr × Obj)}
abbrev mS4 (L a b ls : Addr) (e : Int) (te : Tok) : Str → Option Value := fun y => if y = Str.ofString "end" then some (.int e te) else if y = Str.ofString "sizes" then some (.ref b) else if y = Str.ofString "drawn" then some (.ref a) else if y = Str.ofString "script" then some (.ref ls) else none
/-- behind the call of _law_steps -/
theorem s4End {ls a b D : Addr} {da : Obj} {sv wv : List Value} {row : List Int} {e : Int} {te : Tok} {h : Heap} {tk NN : Nat} {fin : Bool} {val : Nat → Int} (B : Below callerA h₀ [] h₀) (F : Fr h₀ L h (mS4 L a b ls e te)) (X : (hd.heap_39 w.params).In h₀) (T : Top p loose mean mg mb h₀)
    {o1 o2 o3 o4 : Obj} (N1 : News h₀ L h [(D, listOf wv.toArray 0)]) (N : News h₀ L h [(b, listOf sv.toArray 0), (a, da), (L + 1, o1), (L + 2, o2), (L + 3, o3), (L + 4, o4), (90, tabObj #[])]) (hwv : IntsAre wv row) (hG : Good fin val row none NN) (hN : (fin = true ∧ NN < 5) ∨ (fin = false ∧ NN = 5)) (hc1 : o1.data = .cell none)
    (ha1 : @LT.lt Nat _ (L + 4) a) (hb1 : @LT.lt Nat _ a b) (hb2 : @LT.lt Nat _ 90 L)
    (hq : ∀ h' tk c ov en gs o1', IntsAre ov (outI val NN NN) → o1'.data = .cell (some (.ref c)) → Fr h₀ L h' (mS4 L a b ls e te) → News h₀ L h' [(c, listOf ov.toArray en), (b, listOf sv.toArray 0), (a, da), (L + 1, o1'), (L + 2, o2), (L + 3, o3), (L + 4, o4), (90, tabObj #[])] → gs.bare = true →
      (@Ne Nat c L ∧ @Ne Nat c (L + 1) ∧ @Ne Nat c (L + 2) ∧ @Ne Nat c (L + 3) ∧ @Ne Nat c (L + 4) ∧ @Ne Nat c 90 ∧ @Ne Nat c a ∧ @Ne Nat c b) → Q .next { s with heap := h', toks := tk, gens := s.gens.push gs }) :
    wpAny (model PySem.Challenge.rw_re0062_01.row.prog w) (callerA.deeper (lawEnv L fa cd)) (call (Value.ref 74) [Value.ref D]) (fun v s₁ =>
      wpAny (model PySem.Challenge.rw_re0062_01.row.prog w) (callerA.deeper (lawEnv L fa cd)) (storeName (lawEnv L fa cd) (Str.ofString "steps") v)
        (fun _ s' => wpAny (model PySem.Challenge.rw_re0062_01.row.prog w) (callerA.deeper (lawEnv L fa cd)) (execs [] (lawEnv L fa cd)) Q (fun _ _ => False) s') (fun _ _ => False) s₁) (fun _ _ => False) { s with heap := h, toks := tk } := by
  refine stepsC (n := 3) (Cx.deep B F X T rfl rfl rfl (by decide) (by decide)) (News.isList N1 (.head _)) hwv hG hN ?_
  intro h9 tk9 c ov en gs st9 hc hov hb hfr
  have hne : ∀ x ob, h.get? x = some ob → @Ne Nat c x := fun x ob ee q => by
    have q' : c = x := q
    rw [q', ee] at hfr; cases hfr
  have F9 := frStays F st9
  obtain ⟨oL, _, _, hoL, _⟩ := F.ns
  have hcL := hne _ _ hoL
  have hc0 : h₀.get? c = none := by
    cases q : h₀.get? c with
    | none => rfl
    | some o => have := F.keep _ _ q; rw [hfr] at this; cases this
  have N9 : News h₀ L h9 [(c, listOf ov.toArray en), (b, listOf sv.toArray 0), (a, da), (L + 1, o1), (L + 2, o2), (L + 3, o3), (L + 4, o4), (90, tabObj #[])] := by
    intro q hq
    rcases List.mem_cons.mp hq with rfl | hq
    · exact ⟨hc, hcL, hc0⟩
    · exact newsStays N st9 q hq
  have c1 := hne _ _ (N _ (.tail _ (.tail _ (.head _)))).1
  have c2 := hne _ _ (N _ (.tail _ (.tail _ (.tail _ (.head _))))).1
  have c3 := hne _ _ (N _ (.tail _ (.tail _ (.tail _ (.tail _ (.head _)))))).1
  have c4 := hne _ _ (N _ (.tail _ (.tail _ (.tail _ (.tail _ (.tail _ (.head _))))))).1
  have c5 := hne _ _ (N _ (.tail _ (.tail _ (.tail _ (.tail _ (.tail _ (.tail _ (.head _)))))))).1
  have cb := hne _ _ (N _ (.head _)).1
  have ca := hne _ _ (N _ (.tail _ (.head _))).1
  dsimp only at c1 c2 c3 c4 c5 ca cb
  refine' storeX_C (c := L + 1) (cs := lawScope) (cl := cellsFrom (L + 1) lawScope.names []) F9 N9 rfl ?zU hc1 ?_ rfl rfl
  case zU => k_updF
  intro h8 o8 F8 N8 d8
  exact wpAny_execs_nil (hq h8 _ c ov en gs o8 hov d8 F8 N8 hb ⟨hcL, c1, c2, c3, c4, c5, ca, cb⟩)
set_option maxHeartbeats 4000000 in
theorem s4_0 {ls a b : Addr} {da : Obj} {sv : List Value} {sn : List Int} {te : Tok} {NN : Nat} {fin : Bool} {val : Nat → Int} (B : Below callerA h₀ [] h₀) (F : Fr h₀ L s.heap (mS4 L a b ls 0 te))
    (X : (hd.heap_39 w.params).In h₀) (T : Top p loose mean mg mb h₀) {o1 o2 o3 o4 : Obj} (N : News h₀ L s.heap [(b, listOf sv.toArray 0), (a, da), (L + 1, o1), (L + 2, o2), (L + 3, o3), (L + 4, o4), (90, tabObj #[])]) (hsv : IntsAre sv sn) (hsl : sn.length ≤ 3) (hc1 : o1.data = .cell none)
    (ha1 : @LT.lt Nat _ (L + 4) a) (hb1 : @LT.lt Nat _ a b) (hb2 : @LT.lt Nat _ 90 L) (hG : Good fin val (sn ++ []) none NN) (hN : (fin = true ∧ NN < 5) ∨ (fin = false ∧ NN = 5))
    (hq : ∀ h' tk c ov en gs o1', IntsAre ov (outI val NN NN) → o1'.data = .cell (some (.ref c)) → Fr h₀ L h' (mS4 L a b ls 0 te) → News h₀ L h' [(c, listOf ov.toArray en), (b, listOf sv.toArray 0), (a, da), (L + 1, o1'), (L + 2, o2), (L + 3, o3), (L + 4, o4), (90, tabObj #[])] → gs.bare = true →
      (@Ne Nat c L ∧ @Ne Nat c (L + 1) ∧ @Ne Nat c (L + 2) ∧ @Ne Nat c (L + 3) ∧ @Ne Nat c (L + 4) ∧ @Ne Nat c 90 ∧ @Ne Nat c a ∧ @Ne Nat c b) → Q .next { s with heap := h', toks := tk, gens := s.gens.push gs }) :
    wpAny (model PySem.Challenge.rw_re0062_01.row.prog w) (callerA.deeper (lawEnv L fa cd)) (execs [lawStmt 4] (lawEnv L fa cd)) Q (fun _ _ => False) s := by
  w_on
  revert X
  k_fill
  intro X
  conv => enter [3, 1, 1]; whnf
  dsimp only [lawEnv, mS4] at F ⊢
  repeat' ((fail_if_success (with_reducible show wpAny _ _ (call (Value.ref 74) _ _) _ _ _)); first | (k_unfold; (try dsimp only)) | (k_end; wrow_close) | (walk1 <;> (try ((with_reducible show wpAny _ _ (spliced _) _ _ _); dsimp only)) <;> (try ((with_reducible show wpAny _ _ (newList _) _ _ _); dsimp only)) <;> (try ((with_reducible show wpAny _ _ (binaryOp _ _ _) _ _ _); dsimp only)) <;> (try ((with_reducible show wpAny _ _ (evalPart _ _) _ _ _); dsimp only))) | (dsimp only; walk1) | fail "no step")
  rename News h₀ L _ _ => NE
  rename IntsAre _ (_ ++ _) => hI9
  refine s4End B (by assumption) X T (newsSub NE fun q hq => ?_) (newsSub NE fun q hq => ?_) hI9 hG hN hc1 ha1 hb1 hb2 hq
  · rw [List.mem_singleton.mp hq]; exact .head _
  · simp only [List.mem_cons, List.not_mem_nil, or_false] at hq ⊢
    rcases hq with rfl | rfl | rfl | rfl | rfl | rfl | rfl <;> simp
set_option maxHeartbeats 4000000 in
theorem s4_1 {ls a b : Addr} {da : Obj} {sv : List Value} {sn : List Int} {te : Tok} {NN : Nat} {fin : Bool} {val : Nat → Int} (B : Below callerA h₀ [] h₀) (F : Fr h₀ L s.heap (mS4 L a b ls 1 te))
    (X : (hd.heap_39 w.params).In h₀) (T : Top p loose mean mg mb h₀) {o1 o2 o3 o4 : Obj} (N : News h₀ L s.heap [(b, listOf sv.toArray 0), (a, da), (L + 1, o1), (L + 2, o2), (L + 3, o3), (L + 4, o4), (90, tabObj #[])]) (hsv : IntsAre sv sn) (hsl : sn.length ≤ 3) (hc1 : o1.data = .cell none)
    (ha1 : @LT.lt Nat _ (L + 4) a) (hb1 : @LT.lt Nat _ a b) (hb2 : @LT.lt Nat _ 90 L) (hG : Good fin val (sn ++ [0, 7]) none NN) (hN : (fin = true ∧ NN < 5) ∨ (fin = false ∧ NN = 5))
    (hq : ∀ h' tk c ov en gs o1', IntsAre ov (outI val NN NN) → o1'.data = .cell (some (.ref c)) → Fr h₀ L h' (mS4 L a b ls 1 te) → News h₀ L h' [(c, listOf ov.toArray en), (b, listOf sv.toArray 0), (a, da), (L + 1, o1'), (L + 2, o2), (L + 3, o3), (L + 4, o4), (90, tabObj #[])] → gs.bare = true →
      (@Ne Nat c L ∧ @Ne Nat c (L + 1) ∧ @Ne Nat c (L + 2) ∧ @Ne Nat c (L + 3) ∧ @Ne Nat c (L + 4) ∧ @Ne Nat c 90 ∧ @Ne Nat c a ∧ @Ne Nat c b) → Q .next { s with heap := h', toks := tk, gens := s.gens.push gs }) :
    wpAny (model PySem.Challenge.rw_re0062_01.row.prog w) (callerA.deeper (lawEnv L fa cd)) (execs [lawStmt 4] (lawEnv L fa cd)) Q (fun _ _ => False) s := by
  w_on
  revert X
  k_fill
  intro X
  conv => enter [3, 1, 1]; whnf
  dsimp only [lawEnv, mS4] at F ⊢
  repeat' ((fail_if_success (with_reducible show wpAny _ _ (call (Value.ref 74) _ _) _ _ _)); first | (k_unfold; (try dsimp only)) | (k_end; wrow_close) | (walk1 <;> (try ((with_reducible show wpAny _ _ (spliced _) _ _ _); dsimp only)) <;> (try ((with_reducible show wpAny _ _ (newList _) _ _ _); dsimp only)) <;> (try ((with_reducible show wpAny _ _ (binaryOp _ _ _) _ _ _); dsimp only)) <;> (try ((with_reducible show wpAny _ _ (evalPart _ _) _ _ _); dsimp only))) | (dsimp only; walk1) | fail "no step")
  rename News h₀ L _ _ => NE
  rename IntsAre _ (_ ++ _) => hI9
  refine s4End B (by assumption) X T (newsSub NE fun q hq => ?_) (newsSub NE fun q hq => ?_) hI9 hG hN hc1 ha1 hb1 hb2 hq
  · rw [List.mem_singleton.mp hq]; exact .head _
  · simp only [List.mem_cons, List.not_mem_nil, or_false] at hq ⊢
    rcases hq with rfl | rfl | rfl | rfl | rfl | rfl | rfl <;> simp
set_option maxHeartbeats 4000000 in
theorem s4_2 {ls a b : Addr} {da : Obj} {sv : List Value} {sn : List Int} {te : Tok} {NN : Nat} {fin : Bool} {val : Nat → Int} (B : Below callerA h₀ [] h₀) (F : Fr h₀ L s.heap (mS4 L a b ls 2 te))
    (X : (hd.heap_39 w.params).In h₀) (T : Top p loose mean mg mb h₀) {o1 o2 o3 o4 : Obj} (N : News h₀ L s.heap [(b, listOf sv.toArray 0), (a, da), (L + 1, o1), (L + 2, o2), (L + 3, o3), (L + 4, o4), (90, tabObj #[])]) (hsv : IntsAre sv sn) (hsl : sn.length ≤ 3) (hc1 : o1.data = .cell none)
    (ha1 : @LT.lt Nat _ (L + 4) a) (hb1 : @LT.lt Nat _ a b) (hb2 : @LT.lt Nat _ 90 L) (hG : Good fin val (sn ++ [127, 3]) none NN) (hN : (fin = true ∧ NN < 5) ∨ (fin = false ∧ NN = 5))
    (hq : ∀ h' tk c ov en gs o1', IntsAre ov (outI val NN NN) → o1'.data = .cell (some (.ref c)) → Fr h₀ L h' (mS4 L a b ls 2 te) → News h₀ L h' [(c, listOf ov.toArray en), (b, listOf sv.toArray 0), (a, da), (L + 1, o1'), (L + 2, o2), (L + 3, o3), (L + 4, o4), (90, tabObj #[])] → gs.bare = true →
      (@Ne Nat c L ∧ @Ne Nat c (L + 1) ∧ @Ne Nat c (L + 2) ∧ @Ne Nat c (L + 3) ∧ @Ne Nat c (L + 4) ∧ @Ne Nat c 90 ∧ @Ne Nat c a ∧ @Ne Nat c b) → Q .next { s with heap := h', toks := tk, gens := s.gens.push gs }) :
    wpAny (model PySem.Challenge.rw_re0062_01.row.prog w) (callerA.deeper (lawEnv L fa cd)) (execs [lawStmt 4] (lawEnv L fa cd)) Q (fun _ _ => False) s := by
  w_on
  revert X
  k_fill
  intro X
  conv => enter [3, 1, 1]; whnf
  dsimp only [lawEnv, mS4] at F ⊢
  repeat' ((fail_if_success (with_reducible show wpAny _ _ (call (Value.ref 74) _ _) _ _ _)); first | (k_unfold; (try dsimp only)) | (k_end; wrow_close) | (walk1 <;> (try ((with_reducible show wpAny _ _ (spliced _) _ _ _); dsimp only)) <;> (try ((with_reducible show wpAny _ _ (newList _) _ _ _); dsimp only)) <;> (try ((with_reducible show wpAny _ _ (binaryOp _ _ _) _ _ _); dsimp only)) <;> (try ((with_reducible show wpAny _ _ (evalPart _ _) _ _ _); dsimp only))) | (dsimp only; walk1) | fail "no step")
  rename News h₀ L _ _ => NE
  rename IntsAre _ (_ ++ _) => hI9
  refine s4End B (by assumption) X T (newsSub NE fun q hq => ?_) (newsSub NE fun q hq => ?_) hI9 hG hN hc1 ha1 hb1 hb2 hq
  · rw [List.mem_singleton.mp hq]; exact .head _
  · simp only [List.mem_cons, List.not_mem_nil, or_false] at hq ⊢
    rcases hq with rfl | rfl | rfl | rfl | rfl | rfl | rfl <;> simp
end Mine
namespace Mine
section
local macro_rules | `(tactic| walk_at "zz0") => `(tactic| fail)
local macro_rules | `(tactic| walk_at "zz1") => `(tactic| fail)
local macro_rules | `(tactic| walk_at "zz2") => `(tactic| fail)
theorem rst16 : True := by
  w_top off
  first | walk1 | trivial
end
end Mine
namespace Mine
variable {w : World} {A : Around} {s : Shared} {Q : Flow → Shared → Prop} {E : Value → Shared → Prop} {h₀ : Heap} {L fa : Addr} {cd : Value} {m mg mb : Str → Option Value} {p : Program} {loose : List Str} {mean : ExcName → Option Value} {news : List (Addr × Obj)}
noncomputable def paintBody : List Stmt := forBody (lawStmt 6)
def paintStored : List Str := [Str.ofString "share", Str.ofString "value", Str.ofString "red", Str.ofString "green", Str.ofString "blue", Str.ofString "hue", Str.ofString "told", Str.ofString "bright"]
theorem offStored {z : Str} (h : paintStored.contains z = false) : z ≠ Str.ofString "share" ∧ z ≠ Str.ofString "value" ∧ z ≠ Str.ofString "red" ∧ z ≠ Str.ofString "green" ∧ z ≠ Str.ofString "blue" ∧ z ≠ Str.ofString "hue" ∧ z ≠ Str.ofString "told" ∧ z ≠ Str.ofString "bright" := by
  simpa [paintStored] using h
theorem divQ {prog : Program} {a b : Int} {t u : Tok} {Q E : Value → Shared → Prop} (hA : A.handled = none) (hs : 0 ≤ a ∧ a < 100) (hb : b ≠ 0) (h : Q (.float (qF a b) s.toks) { s with toks := s.toks + 1 }) : wpAny (model prog w) A (binaryOp .Div (.int a t) (.int b u)) Q E s :=
  PySem.Flt.div_ii_fits hA (Nat.lt_trans (Nat.lt_of_lt_of_le (m := 101) (by omega) (Nat.le_refl _)) (by decide +kernel)) (fun x => absurd x hb) fun _ _ => h
theorem fm4 (x : Int) : 0 ≤ 1 + x.fmod 4 ∧ 1 + x.fmod 4 < 100 := by
  have e : x.fmod 4 = x % 4 := Int.fmod_eq_emod_of_nonneg x (by decide)
  rw [e]; omega
theorem fm16 (x : Int) : 0 ≤ x.fmod 16 ∧ x.fmod 16 < 100 := by
  have e : x.fmod 16 = x % 16 := Int.fmod_eq_emod_of_nonneg x (by decide)
  rw [e]; omega
theorem newsAdd {h h' : Heap} {l : List (Addr × Obj)} {c : Addr} {o : Obj} (F : Fr h₀ L h m) (N : News h₀ L h l) (st : h.StaysIn h') (hc : h'.get? c = some o) (hf : h.get? c = none) : News h₀ L h' ((c, o) :: l) := by
  have hne : ∀ x ob, h.get? x = some ob → @Ne Nat c x := fun x ob ee q => by
    have q' : c = x := q
    rw [q', ee] at hf; cases hf
  obtain ⟨oL, _, _, hoL, _⟩ := F.ns
  have hcL := hne _ _ hoL
  have hc0 : h₀.get? c = none := by
    cases q : h₀.get? c with
    | none => rfl
    | some o => have := F.keep _ _ q; rw [hf] at this; cases this
  intro q hq
  rcases List.mem_cons.mp hq with rfl | hq
  · exact ⟨hc, hcL, hc0⟩
  · exact newsStays N st q hq
local macro_rules | `(tactic| k_all) => `(tactic| assumption)
local macro_rules | `(tactic| k_mem) => `(tactic| assumption)
local macro_rules | `(tactic| walk_at "eval Name") => `(tactic| (k_here; k_dflt (refine' nameX_L ?F ?v ?_ ?a ?b ?c; (case F => k_asm); (case v => assumption); (case a => rfl); (case b => rfl); (case c => decide); k_whole)))
local macro_rules | `(tactic| walk_at "binaryOp Div int int") => `(tactic| (k_here; k_dflt (refine divQ rfl (by first | assumption | exact fm4 _ | exact fm16 _) (by decide) ?_)))
set_option maxHeartbeats 4000000 in
theorem paintTurn {a r : Addr} {d0 d1 d2 d3 d4 k : Int} {t0 t1 t2 t3 t4 t : Tok} {rv : List Value} {en : Nat} {o2 : Obj} {rest : List (Addr × Obj)} (B : Below callerA h₀ [] h₀) (X : (hd.heap_39 w.params).In h₀) (T : Top p loose mean mg mb h₀) (F : Fr h₀ L s.heap m) (hj : m (Str.ofString "j") = some (.int k t)) (hdr : m (Str.ofString "drawn") = some (.ref a)) (hk : 0 ≤ k ∧ k < 100) 
    (hp : Paint k (1 + (d1 + k).fmod 4) (1 + (d1.fdiv 4 + k).fmod 4))
    (N : News h₀ L s.heap ((r, listOf rv.toArray en) :: (a, listOf #[.int d0 t0, .int d1 t1, .int d2 t2, .int d3 t3, .int d4 t4] 0) :: (L + 1 + 1, o2) :: rest)) (hr : ∀ q ∈ rest, q.1 ≠ r) (hra : @Ne Nat r a) (hr2 : @Ne Nat r (L + 2)) (hc2 : o2.data = .cell (some (.ref r))) (hlen : rv.length < 32)
    (hq : ∀ h' tk m' t', (∀ z, paintStored.contains z = false → m' z = m z) → Fr h₀ L h' m' → News h₀ L h' ((r, listOf (rv ++ [Value.int (k.fmod 16) t']).toArray (en + 1)) :: (a, listOf #[.int d0 t0, .int d1 t1, .int d2 t2, .int d3 t3, .int d4 t4] 0) :: (L + 1 + 1, o2) :: rest) → Q .next { s with heap := h', toks := tk }) :
    wpAny (model PySem.Challenge.rw_re0062_01.row.prog w) (callerA.deeper (lawEnv L fa cd)) (execs paintBody (lawEnv L fa cd)) Q (fun _ _ => False) s := by
  w_on
  revert X
  k_fill
  intro X
  conv => enter [3, 1]; whnf
  dsimp only [lawEnv] at F ⊢
  repeat' ((fail_if_success (with_reducible show wpAny _ _ (call (Value.ref 67) _ _) _ _ _)); first | (k_unfold; (try dsimp only)) | (k_end; wrow_close) | (walk1 <;> (try ((with_reducible show wpAny _ _ (spliced _) _ _ _); dsimp only)) <;> (try ((with_reducible show wpAny _ _ (newList _) _ _ _); dsimp only)) <;> (try ((with_reducible show wpAny _ _ (binaryOp _ _ _) _ _ _); dsimp only)) <;> (try ((with_reducible show wpAny _ _ (evalPart _ _) _ _ _); dsimp only))) | (dsimp only; walk1) | fail "no step")
  rename Fr h₀ L _ _ => F1
  rename News h₀ L _ _ => N1
  refine hsvC (n := 3) (Cx.deep B F1 X T rfl rfl rfl (by decide) (by decide)) (Nat.succ_ne_zero _) hp.h1 hp.h2 hp.h3 hp.h4 ?_
  intro h2 tk2 c2 z1 z2 z3 nz2 st2 g2 n2
  have F2 := frStays F1 st2
  have N2 := newsAdd F1 N1 st2 g2 n2
  clear F1 N1 st2 g2 n2
  dsimp only
  generalize hR : hsvR _ _ _ = R at N2
  generalize hG : hsvG _ _ _ = G at N2
  generalize hB : hsvB _ _ _ = BB at N2
  obtain ⟨p1, p2, p3, p4, p5, p6, p7, p8, p9⟩ := hp.more R G BB hR.symm hG.symm hB.symm
  repeat' ((fail_if_success (with_reducible show wpAny _ _ (call (Value.ref 60) _ _) _ _ _)); first | (k_unfold; (try dsimp only)) | (k_end; wrow_close) | (walk1 <;> (try ((with_reducible show wpAny _ _ (spliced _) _ _ _); dsimp only)) <;> (try ((with_reducible show wpAny _ _ (newList _) _ _ _); dsimp only)) <;> (try ((with_reducible show wpAny _ _ (binaryOp _ _ _) _ _ _); dsimp only)) <;> (try ((with_reducible show wpAny _ _ (evalPart _ _) _ _ _); dsimp only))) | (dsimp only; walk1) | fail "no step")
  rename Fr h₀ L _ _ => F1
  rename News h₀ L _ _ => N1
  refine rgbC (n := 3) (Cx.deep B F1 X T rfl rfl rfl (by decide) (by decide)) nz2.1 nz2.2.1 nz2.2.2 p1 p2 p3 ?_
  intro h3 tk3 c3 z4 z5 z6 nz3 st3 g3 n3
  have F3 := frStays F1 st3
  have N3 := newsAdd F1 N1 st3 g3 n3
  clear F1 N1 st3 g3 n3
  generalize rgbH _ _ _ = Hh at N3 p4 p7 p8 p9
  generalize rgbS _ _ _ = Sh at N3 p5
  generalize mxF _ _ = Vh at N3 p6
  dsimp only
  repeat' ((fail_if_success (with_reducible show wpAny _ _ (compareOp _ _ _) _ _ _)); first | (k_unfold; (try dsimp only)) | (k_end; wrow_close) | (walk1 <;> (try ((with_reducible show wpAny _ _ (spliced _) _ _ _); dsimp only)) <;> (try ((with_reducible show wpAny _ _ (newList _) _ _ _); dsimp only)) <;> (try ((with_reducible show wpAny _ _ (binaryOp _ _ _) _ _ _); dsimp only)) <;> (try ((with_reducible show wpAny _ _ (evalPart _ _) _ _ _); dsimp only))) | (dsimp only; walk1) | fail "no step")
  rename Fr h₀ L _ _ => F1
  rename News h₀ L _ _ => N1
  refine neTupF (X.keeps F1.keep) (N1 _ (.tail _ (.head _))).1 (N1 _ (.head _)).1 ⟨nz3, Nat.succ_ne_zero _, Nat.succ_ne_zero _, Nat.succ_ne_zero _⟩ p4 p5 p6 (Nat.le_of_ble_eq_true rfl) ?_
  repeat' ((fail_if_success (with_reducible show wpAny _ _ (call (Value.builtin "list.append") _ _) _ _ _)); first | (k_unfold; (try dsimp only)) | (k_end; wrow_close) | (walk1 <;> (try ((with_reducible show wpAny _ _ (spliced _) _ _ _); dsimp only)) <;> (try ((with_reducible show wpAny _ _ (newList _) _ _ _); dsimp only)) <;> (try ((with_reducible show wpAny _ _ (binaryOp _ _ _) _ _ _); dsimp only)) <;> (try ((with_reducible show wpAny _ _ (evalPart _ _) _ _ _); dsimp only))) | (dsimp only; walk1) | fail "no step")
  all_goals first
    | (exfalso; rename (_ = true) => q9; rw [p7] at q9; exact Bool.false_ne_true q9)
    | (exfalso; rename (_ = true) => q9; rw [p8] at q9; exact Bool.false_ne_true q9)
    | skip
  rename Fr h₀ L _ _ => F9
  rename News h₀ L _ _ => N9
  rw [p9]
  have N8 := newsSub N9 (l' := (r, listOf rv.toArray en) :: (a, listOf #[.int d0 t0, .int d1 t1, .int d2 t2, .int d3 t3, .int d4 t4] 0) :: (L + 1 + 1, o2) :: rest) (fun q hq => .tail _ (.tail _ (.tail _ (.tail _ hq))))
  dsimp only [List.cons_append, List.nil_append]
  refine append_K F9 N8 (.head fun q hq => ?_) (fun h' F' N' => ?_) (by simp only [List.size_toArray]; exact Nat.le_trans (Nat.le_of_lt hlen) (by decide))
  · rcases List.mem_cons.mp hq with rfl | hq
    · exact fun e => hra e.symm
    rcases List.mem_cons.mp hq with rfl | hq
    · exact fun e => hr2 e.symm
    · exact hr _ hq
  · refine wpAny_execs_nil ?_
    refine hq _ _ _ _ (fun z hz => ?_) F' (by rw [List.push_toArray] at N'; exact N')
    obtain ⟨e1, e2, e3, e4, e5, e6, e7, e8⟩ := offStored hz
    simp only [e1, e2, e3, e4, e5, e6, e7, e8, if_false]
end Mine
namespace Mine
section
theorem rst17 : True := by
  w_top off
  trivial
end
end Mine
namespace Mine
variable {w : World} {A : Around} {s : Shared} {Q : Flow → Shared → Prop} {E : Value → Shared → Prop} {h₀ : Heap} {L fa : Addr} {cd : Value} {m mg mb : Str → Option Value} {p : Program} {loose : List Str} {mean : ExcName → Option Value} {news : List (Addr × Obj)}
def hues : List Int := (rangeKs 0 32).map fun k => k.fmod 16
theorem intsSnoc {vs : List Value} {ns : List Int} {n : Int} {t : Tok} (h : IntsAre vs ns) : IntsAre (vs ++ [.int n t]) (ns ++ [n]) := by
  induction h with
  | nil => exact .cons _ _ .nil
  | cons a b _ ih => exact .cons a b ih
set_option maxHeartbeats 4000000 in
theorem s56 {ls a b c : Addr} {d0 d1 d2 d3 d4 : Int} {t0 t1 t2 t3 t4 : Tok} {da : Obj} {sv ov : List Value} {e : Int} {te : Tok} {en : Nat} (B : Below callerA h₀ [] h₀) (F : Fr h₀ L s.heap (mS4 L a b ls e te))
    (X : (hd.heap_39 w.params).In h₀) (T : Top p loose mean mg mb h₀) {o1 o2 o3 o4 : Obj} (N : News h₀ L s.heap [(c, listOf ov.toArray en), (b, listOf sv.toArray 0), (a, listOf #[.int d0 t0, .int d1 t1, .int d2 t2, .int d3 t3, .int d4 t4] 0), (L + 1, o1), (L + 2, o2), (L + 3, o3), (L + 4, o4), (90, tabObj #[])]) (hc2 : o2.data = .cell none)
    (ha1 : @LT.lt Nat _ (L + 4) a) (hb1 : @LT.lt Nat _ a b) (hb2 : @LT.lt Nat _ 90 L) (hcn : @Ne Nat c L ∧ @Ne Nat c (L + 1) ∧ @Ne Nat c (L + 2) ∧ @Ne Nat c (L + 3) ∧ @Ne Nat c (L + 4) ∧ @Ne Nat c 90 ∧ @Ne Nat c a ∧ @Ne Nat c b)
    (hq : ∀ h' tk m' r rv rn o2', IntsAre rv hues → o2'.data = .cell (some (.ref r)) → (m' (Str.ofString "end") = some (.int e te) ∧ m' (Str.ofString "sizes") = some (.ref b) ∧ m' (Str.ofString "drawn") = some (.ref a)) → Fr h₀ L h' m' →
      News h₀ L h' [(r, listOf rv.toArray rn), (c, listOf ov.toArray en), (b, listOf sv.toArray 0), (a, listOf #[Value.int d0 t0, Value.int d1 t1, Value.int d2 t2, Value.int d3 t3, Value.int d4 t4] 0), (L + 1, o1), (L + 2, o2'), (L + 3, o3), (L + 4, o4), (90, tabObj #[])] →
      (@LT.lt Nat _ c r ∧ @LT.lt Nat _ b r ∧ @LT.lt Nat _ a r ∧ @LT.lt Nat _ (L + 4) r) → Q .next { s with heap := h', toks := tk }) :
    wpAny (model PySem.Challenge.rw_re0062_01.row.prog w) (callerA.deeper (lawEnv L fa cd)) (execs [lawStmt 5, lawStmt 6] (lawEnv L fa cd)) Q (fun _ _ => False) s := by
  w_on
  revert X
  k_fill
  intro X
  conv => enter [3, 1, 1]; whnf
  conv => enter [3, 1, 2, 1]; whnf
  dsimp only [lawEnv, mS4] at F ⊢
  k_with "pyIter ref" => skip
  repeat' ((fail_if_success (with_reducible show wpAny _ _ (pyIter _) _ _ _)); first | (k_unfold; (try dsimp only)) | (k_end; wrow_close) | (walk1 <;> (try ((with_reducible show wpAny _ _ (spliced _) _ _ _); dsimp only)) <;> (try ((with_reducible show wpAny _ _ (newList _) _ _ _); dsimp only)) <;> (try ((with_reducible show wpAny _ _ (binaryOp _ _ _) _ _ _); dsimp only)) <;> (try ((with_reducible show wpAny _ _ (evalPart _ _) _ _ _); dsimp only))) | (dsimp only; walk1) | fail "no step")
  rename_i l' _ l1 h' o' F' N' d' _ _ _ _ _ hR F9 N9 _
  refine kst_range (σ := List Value × Nat) (n := 32) (fun q => (l', listOf q.1.toArray q.2) :: (a, listOf #[.int d0 t0, .int d1 t1, .int d2 t2, .int d3 t3, .int d4 t4] 0) :: (L + 1 + 1, o') :: [(c, listOf ov.toArray en), (b, listOf sv.toArray 0), (L + 1, o1), (L + 3, o3), (L + 4, o4), (90, tabObj #[])])
    (fun _ => []) (fun _ => True) paintStored (fun pre q => IntsAre q.1 (pre.map fun k => k.fmod 16)) ([], 0) rfl hR rfl rfl F9 (newsSub N9 ?z1) trivial (fun _ hp => nomatch hp) .nil ?z2 ?z3
  case z1 =>
    intro q hq
    simp only [List.mem_cons, List.not_mem_nil, or_false] at hq ⊢
    rcases hq with rfl | rfl | rfl | rfl | rfl | rfl | rfl | rfl | rfl <;> simp
  case z2 =>
    intro q pre k t u h tk' own hk hpl hoff _ hI F8 N8
    refine paintTurn (rest := [(c, listOf ov.toArray en), (b, listOf sv.toArray 0), (L + 1, o1), (L + 3, o3), (L + 4, o4), (90, tabObj #[])] ++ own) B X T F8 (t := t) (k := k) rfl rfl (by omega) (paintOk (by omega) _ _) N8 ?y1 ?y2 ?y3 d' (by have := hI.length; simp at this; omega) ?y4
    case y1 =>
      intro q hq
      rcases List.mem_append.mp hq with hq | hq
      · simp only [List.mem_cons, List.not_mem_nil, or_false] at hq
        have l2 : @LT.lt Nat _ c l' ∧ @LT.lt Nat _ b l' ∧ @LT.lt Nat _ a l' ∧ @LT.lt Nat _ (L + 1) l' ∧ @LT.lt Nat _ (L + 2) l' ∧ @LT.lt Nat _ (L + 3) l' ∧ @LT.lt Nat _ (L + 4) l' ∧ @LT.lt Nat _ 90 l' := l1
        rcases hq with rfl | rfl | rfl | rfl | rfl | rfl <;> (show @Ne Nat _ _; omega)
      · exact hoff q hq _ (.head _)
    case y2 => exact fun e => Nat.lt_irrefl _ (e ▸ l1.2.2.1)
    case y3 => exact fun e => Nat.lt_irrefl _ (e ▸ l1.2.2.2.2.1)
    case y4 =>
      intro h7 tk7 m7 t7 hm7 F7 N7
      refine kst_end (q.1 ++ [Value.int (k.fmod 16) t7], q.2 + 1) F7 N7 (fun q hq => List.mem_append_left own hq) (fun q hq => .tail _ (.tail _ (.tail _ (List.mem_append_right _ hq)))) rfl trivial (fun _ hp => nomatch hp) (fun z z1 _ z2 => ?_) ?_
      · rw [hm7 z z2]
        show (if z = Str.ofString "j" then _ else if paintStored.contains z = true then _ else _) = _
        rw [if_neg z1, z2]; rfl
      · rw [List.map_append]; exact intsSnoc hI
  case z3 =>
    intro q u h tk' _ hI F8 N8
    refine wpAny_execs_nil ?_
    refine hq _ _ _ _ _ q.2 _ hI d' ⟨rfl, rfl, rfl⟩ F8 (newsSub N8 ?y1) ⟨l1.1, l1.2.1, l1.2.2.1, l1.2.2.2.2.2.2.1⟩
    intro q hq
    simp only [List.mem_cons, List.not_mem_nil, or_false] at hq ⊢
    rcases hq with rfl | rfl | rfl | rfl | rfl | rfl | rfl | rfl | rfl <;> simp
end Mine
namespace Mine
section
local macro_rules | `(tactic| k_all) => `(tactic| assumption)
local macro_rules | `(tactic| k_mem) => `(tactic| assumption)
local macro_rules | `(tactic| walk_at "eval Name") => `(tactic| (k_here; k_dflt (refine' nameX_L ?F ?v ?_ ?a ?b ?c; (case F => k_asm); (case v => assumption); (case a => rfl); (case b => rfl); (case c => decide); k_whole)))
section
theorem rst18 : True := by
  w_top off
  trivial
end
section
variable {w : World} {A : Around} {s : Shared} {Q : Flow → Shared → Prop} {E : Value → Shared → Prop} {h₀ : Heap} {L fa : Addr} {cd : Value} {m mg mb : Str → Option Value} {p : Program} {loose : List Str} {mean : ExcName → Option Value} {news : List (Addr × Obj)}
theorem strsBack : ∀ {vs : List Value} {ys : List Str}, CarriedAll vs (ys.map PyData.str) → StrsAre vs ys
  | [], [], _ => .nil
  | [], _ :: _, h => nomatch h
  | _ :: _, [], h => nomatch h
  | _ :: _, _ :: _, .cons (.str _ _) r => .cons _ _ (strsBack r)
def wordsL (sn : List Int) : List Str := (rangeKs 0 16).map fun k => ⟨(wordA k sn).toArray⟩
theorem huesGet : ∀ i : Nat, i < 32 → hues[i]? = some ((i : Int) % 16) := by
  intro i hi
  have e : ((i : Int)).fmod 16 = (i : Int) % 16 := Int.fmod_eq_emod_of_nonneg _ (by decide)
  simp [hues, rangeKs, hi, e]
set_option maxHeartbeats 4000000 in
theorem s7 {r c : Addr} {rv ov : List Value} {sn : List Int} {rn en : Nat} {rest : List (Addr × Obj)} (B : Below callerA h₀ [] h₀) (F : Fr h₀ L s.heap m)
    (X : (hd.heap_39 w.params).In h₀) (T : Top p loose mean mg mb h₀) {o1 o2 : Obj} (N : News h₀ L s.heap ((r, listOf rv.toArray rn) :: (c, listOf ov.toArray en) :: (L + 1, o1) :: (L + 2, o2) :: rest)) (hc1 : o1.data = .cell (some (.ref c))) (hc2 : o2.data = .cell (some (.ref r)))
    (hrv : IntsAre rv hues) (hov : IntsAre ov sn) (hsl : sn.length ≤ 5) (hsb : ∀ x ∈ sn, 1 ≤ x ∧ x ≤ 15)
    (hq : ∀ h' tk D ys, StrsAre ys (wordsL sn) → Fr h₀ L h' (fun z => if z = Str.ofString "words" then some (Value.ref D) else m z) → News h₀ L h' ((D, LCg.lst ys) :: (r, listOf rv.toArray rn) :: (c, listOf ov.toArray en) :: (L + 1, o1) :: (L + 2, o2) :: rest) →
      (@Ne Nat r D ∧ @Ne Nat c D ∧ @Ne Nat (L + 1) D ∧ @Ne Nat (L + 2) D ∧ LCg.Off1 D rest) → Q .next { s with heap := h', toks := tk }) :
    wpAny (model PySem.Challenge.rw_re0062_01.row.prog w) (callerA.deeper (lawEnv L fa cd)) (execs [lawStmt 7] (lawEnv L fa cd)) Q (fun _ _ => False) s := by
  w_on
  revert X
  k_fill
  intro X
  conv => enter [3, 1, 1]; whnf
  dsimp only [lawEnv] at F ⊢
  k_with "pyIter ref" => skip
  repeat' ((fail_if_success (with_reducible show (LCg.CompSrc _ _ _ _ _ _ _ _ _ _ _ _ _ _))); first | (k_unfold; (try dsimp only)) | (k_end; wrow_close) | (walk1 <;> (try ((with_reducible show wpAny _ _ (spliced _) _ _ _); dsimp only)) <;> (try ((with_reducible show wpAny _ _ (newList _) _ _ _); dsimp only)) <;> (try ((with_reducible show wpAny _ _ (binaryOp _ _ _) _ _ _); dsimp only)) <;> (try ((with_reducible show wpAny _ _ (evalPart _ _) _ _ _); dsimp only))) | (dsimp only; walk1) | fail "no step")
  rename Fr h₀ L _ _ => F1
  rename News h₀ L _ _ => N1
  rename IsRange _ _ _ _ _ _ _ _ => hR
  refine LCg.CompSrc.range rfl F1 N1 hR (by decide) (n := 16) rfl (Nat.le_of_ble_eq_true rfl) ?_
  intro g'
  refine kct_range (fun k => ⟨(wordA k sn).toArray⟩) (fun k' t' I' oI' C' oC' D' m' ys' h' tk' E' hlo hhi hC hx F2 N2 off ne mk => ?_) ?_
  · clear F1 N1
    repeat' ((fail_if_success (with_reducible show wpAny _ _ (call (Value.ref 81) _ _) _ _ _)); first | (k_unfold; (try dsimp only)) | (k_end; wrow_close) | (walk1 <;> (try ((with_reducible show wpAny _ _ (spliced _) _ _ _); dsimp only)) <;> (try ((with_reducible show wpAny _ _ (newList _) _ _ _); dsimp only)) <;> (try ((with_reducible show wpAny _ _ (binaryOp _ _ _) _ _ _); dsimp only)) <;> (try ((with_reducible show wpAny _ _ (evalPart _ _) _ _ _); dsimp only))) | (dsimp only; walk1) | fail "no step")
    rename Fr h₀ L _ _ => F3
    rename News h₀ L _ _ => N3
    refine wordC (n := 3) (rn := hues) (Cx.deep B F3 X T rfl rfl rfl (by decide) (by decide)) (News.isList N3 (.tail _ (.tail _ (.tail _ (.head _))))) hrv (News.isList N3 (.tail _ (.tail _ (.tail _ (.tail _ (.head _)))))) hov huesGet (by rfl) hsb hsl ⟨hlo, by omega⟩ ?_
    intro h9 tk9 t9 st9
    exact LCg.CompEnd.intro (frStays F3 st9) (newsStays N3 st9) _ (fun p hp => hp) off trivial ⟨rfl, t9, rfl⟩
  · show ∀ _, _
    intro ys hC hl
    repeat' ((fail_if_success (with_reducible show wpAny _ _ (call (Value.ref 999) _ _) _ _ _)); first | (k_unfold; (try dsimp only)) | (k_end; wrow_close) | (walk1 <;> (try ((with_reducible show wpAny _ _ (spliced _) _ _ _); dsimp only)) <;> (try ((with_reducible show wpAny _ _ (newList _) _ _ _); dsimp only)) <;> (try ((with_reducible show wpAny _ _ (binaryOp _ _ _) _ _ _); dsimp only)) <;> (try ((with_reducible show wpAny _ _ (evalPart _ _) _ _ _); dsimp only))) | (dsimp only; walk1) | fail "no step")
    refine hq _ _ _ _ (strsBack ?_) (by assumption) (by assumption) (by assumption)
    rw [wordsL, List.map_map]
    exact hC
end
section
local macro_rules | `(tactic| walk_at "zz0") => `(tactic| fail)
local macro_rules | `(tactic| walk_at "zz1") => `(tactic| fail)
theorem rst19 : True := by
  w_top off
  first | walk1 | trivial
end
section
variable {w : World} {A : Around} {s : Shared} {Q : Flow → Shared → Prop} {E : Value → Shared → Prop} {h₀ : Heap} {L fa : Addr} {cd : Value} {m mg mb : Str → Option Value} {p : Program} {loose : List Str} {mean : ExcName → Option Value} {news : List (Addr × Obj)}
def dueOf (sn : List Int) (e : Int) : List Int := if e = 1 then sn ++ (List.replicate (Int.toNat 4) [sn.getD (-1 + (sn.length : Int)).toNat 0]).flatten else sn
set_option maxHeartbeats 4000000 in
theorem s8 {b : Addr} {sv : List Value} {sn : List Int} {e : Int} {te : Tok} {rest : List (Addr × Obj)} (B : Below callerA h₀ [] h₀) (F : Fr h₀ L s.heap m)
    (X : (hd.heap_39 w.params).In h₀) (T : Top p loose mean mg mb h₀) (N : News h₀ L s.heap ((b, listOf sv.toArray 0) :: rest)) (hE : m (Str.ofString "end") = some (.int e te)) (hS : m (Str.ofString "sizes") = some (.ref b))
    (hsv : IntsAre sv sn) (hsl : 1 ≤ sn.length ∧ sn.length ≤ 3)
    (hq : ∀ h' tk d dv, IntsAre dv (dueOf sn e) → Fr h₀ L h' (fun y => if y = Str.ofString "due" then some (Value.ref d) else m y) → News h₀ L h' ((d, listOf dv.toArray 0) :: (b, listOf sv.toArray 0) :: rest) → Q .next { s with heap := h', toks := tk }) :
    wpAny (model PySem.Challenge.rw_re0062_01.row.prog w) (callerA.deeper (lawEnv L fa cd)) (execs [lawStmt 8] (lawEnv L fa cd)) Q (fun _ _ => False) s := by
  w_on
  revert X
  k_fill
  intro X
  conv => enter [3, 1, 1]; whnf
  dsimp only [lawEnv] at F ⊢
  repeat' ((fail_if_success (with_reducible show False)); first | (k_unfold; (try dsimp only)) | (k_end; wrow_close) | (walk1 <;> (try ((with_reducible show wpAny _ _ (spliced _) _ _ _); dsimp only)) <;> (try ((with_reducible show wpAny _ _ (newList _) _ _ _); dsimp only)) <;> (try ((with_reducible show wpAny _ _ (binaryOp _ _ _) _ _ _); dsimp only)) <;> (try ((with_reducible show wpAny _ _ (evalPart _ _) _ _ _); dsimp only))) | (dsimp only; walk1) | fail "no step")
  · rename News h₀ L _ _ => NE
    rename e = 1 => he
    refine hq _ _ _ _ (by rw [dueOf, if_pos he]; assumption) (by assumption) (newsSub NE fun q hq => ?_)
    rcases List.mem_cons.mp hq with rfl | hq
    · exact .head _
    · exact .tail _ (.tail _ (.tail _ hq))
  · rename News h₀ L _ _ => NE
    rename e ≠ 1 => he
    refine hq _ _ _ _ (by rw [dueOf, if_neg he]; assumption) (by assumption) (newsSub NE fun q hq => ?_)
    rcases List.mem_cons.mp hq with rfl | hq
    · exact .head _
    · exact hq
def sumsOf (pre : List Int) : List Int := (List.range pre.length).map fun i => (pre.take (i + 1)).sum
local macro_rules | `(tactic| walk_at "subscriptTail Name Slice ref ref") => `(tactic| (k_here; (with_reducible show wpAny _ _ (subscriptTail _ (PySem.Expr.Slice _ _ none _) (Value.ref _) (Value.ref _)) _ _ _); k_dflt (refine' kmk_slice_ints ?F ?N ?l ?p ?q ?i ?m ?c ?_ ?s ?t ?z; (case F => k_asm); (case N => k_asm); (case l => kmk_list); (case p => kmk_part); (case q => kmk_part); (case i => l_ints); (case m => first | exact kmk_from (by l_ints) (Int.natCast_nonneg _) | exact kmk_upto (by l_ints) (by first | decide | omega | l_fact) | kmk_nums); (case c => kmk_len); (case s => with_unfolding_all rfl); (case t => kmk_pure); (case z => kmk_size)); intro D' ws' h' F' N' l1 hI' hC' hL'; (try simp only [Int.reduceNeg, Int.neg_neg, Int.reduceToNat] at hI' hC' hL'); (try k_lt l1); (try k_sweep)))
noncomputable def sumBody : List Stmt := forBody (lawStmt 10)
set_option maxHeartbeats 4000000 in
theorem sumTurn {q : Addr} {us : List Value} {un : List Int} {nn : Nat} {n : Int} {t : Tok} {rest : List (Addr × Obj)} (B : Below callerA h₀ [] h₀) (F : Fr h₀ L s.heap m)
    (X : (hd.heap_39 w.params).In h₀) (T : Top p loose mean mg mb h₀) (N : News h₀ L s.heap ((q, listOf us.toArray nn) :: rest)) (hE : m (Str.ofString "size") = some (.int n t)) (hE2 : m (Str.ofString "sums") = some (.ref q))
    (hsv : IntsAre us un) (hsl : un.length ≤ 5) (hr : ∀ p ∈ rest, p.1 ≠ q)
    (hq : ∀ h' tk t', Fr h₀ L h' m → News h₀ L h' ((q, listOf (us ++ [Value.int ((List.drop (un.length - 1) un).sum + n) t']).toArray (nn + 1)) :: rest) → Q .next { s with heap := h', toks := tk }) :
    wpAny (model PySem.Challenge.rw_re0062_01.row.prog w) (callerA.deeper (lawEnv L fa cd)) (execs sumBody (lawEnv L fa cd)) Q (fun _ _ => False) s := by
  w_on
  revert X
  k_fill
  intro X
  conv => enter [3, 1]; whnf
  dsimp only [lawEnv] at F ⊢
  repeat' ((fail_if_success (with_reducible show (wpAny _ _ (call (Value.builtin "list.append") _ _) _ _ _))); first | (k_unfold; (try dsimp only)) | (k_end; wrow_close) | (walk1 <;> (try ((with_reducible show wpAny _ _ (spliced _) _ _ _); dsimp only)) <;> (try ((with_reducible show wpAny _ _ (newList _) _ _ _); dsimp only)) <;> (try ((with_reducible show wpAny _ _ (binaryOp _ _ _) _ _ _); dsimp only)) <;> (try ((with_reducible show wpAny _ _ (evalPart _ _) _ _ _); dsimp only))) | (dsimp only; walk1) | fail "no step")
  rename Fr h₀ L _ _ => F9
  rename News h₀ L _ _ => N9
  have hl := hsv.length
  dsimp only [List.cons_append, List.nil_append]
  refine append_K F9 (newsSub N9 fun q hq => .tail _ hq) (.head hr) (fun h' F' N' => ?_) (by simp only [List.size_toArray]; exact Nat.le_trans (by omega) (show 5 ≤ sizeLine by decide))
  refine wpAny_execs_nil ?_
  exact hq _ _ _ F' (by rw [List.push_toArray] at N'; exact N')
theorem allLt_mem {d : Nat} (l : List (Addr × Obj)) (h : AllLt d l) : ∀ x ∈ l, @LT.lt Nat _ x.1 d := by
  induction l with
  | nil => intro x hx; cases hx
  | cons y r ih =>
    intro x hx
    cases hx with
    | head => exact h.1
    | tail _ hx => exact ih h.2 x hx
theorem sumsOf_len (pre : List Int) : (sumsOf pre).length = pre.length := by simp [sumsOf]
theorem sumsOf_last (pre : List Int) : (List.drop ((sumsOf pre).length - 1) (sumsOf pre)).sum = pre.sum := by
  rw [sumsOf_len]
  rcases Nat.eq_zero_or_pos pre.length with h | h
  · have : pre = [] := List.eq_nil_of_length_eq_zero h
    subst this; rfl
  · obtain ⟨k, hk⟩ : ∃ k, pre.length = k + 1 := ⟨pre.length - 1, by omega⟩
    rw [hk]
    show (List.drop k (sumsOf pre)).sum = _
    unfold sumsOf
    rw [hk, List.range_succ, List.map_append, List.drop_append_of_le_length (by simp), List.drop_of_length_le (by simp)]
    simp only [List.map_cons, List.map_nil, List.nil_append, List.sum_cons, List.sum_nil, Int.add_zero]
    rw [List.take_of_length_le (by omega)]
theorem sumsOf_snoc (pre : List Int) (n : Int) : sumsOf (pre ++ [n]) = sumsOf pre ++ [(List.drop ((sumsOf pre).length - 1) (sumsOf pre)).sum + n] := by
  rw [sumsOf_last]
  unfold sumsOf
  rw [List.length_append, List.length_singleton, List.range_succ, List.map_append]
  congr 1
  · refine List.map_congr_left fun i hi => ?_
    have := List.mem_range.mp hi
    rw [List.take_append_of_le_length (by omega)]
  · simp only [List.map_cons, List.map_nil]
    rw [List.take_of_length_le (by simp)]
    simp
set_option maxHeartbeats 4000000 in
theorem s9 {d : Addr} {dv : List Value} {dn : List Int} {rest : List (Addr × Obj)} (B : Below callerA h₀ [] h₀) (F : Fr h₀ L s.heap m)
    (X : (hd.heap_39 w.params).In h₀) (T : Top p loose mean mg mb h₀) (N : News h₀ L s.heap ((d, listOf dv.toArray 0) :: rest)) (hE : m (Str.ofString "due") = some (.ref d))
    (hsv : IntsAre dv dn) (hsl : 1 ≤ dn.length ∧ dn.length ≤ 7)
    (hq : ∀ h' tk m' q us nn, IntsAre us (sumsOf (List.take 5 dn)) → (∀ z, z ≠ Str.ofString "size" → m' z = if z = Str.ofString "sums" then some (Value.ref q) else m z) → Fr h₀ L h' m' → News h₀ L h' ((q, listOf us.toArray nn) :: (d, listOf dv.toArray 0) :: rest) → 
      (@LT.lt Nat _ d q ∧ AllLt q rest) → Q .next { s with heap := h', toks := tk }) :
    wpAny (model PySem.Challenge.rw_re0062_01.row.prog w) (callerA.deeper (lawEnv L fa cd)) (execs [lawStmt 9, lawStmt 10] (lawEnv L fa cd)) Q (fun _ _ => False) s := by
  w_on
  revert X
  k_fill
  intro X
  conv => enter [3, 1, 1]; whnf
  conv => enter [3, 1, 2, 1]; whnf
  dsimp only [lawEnv] at F ⊢
  k_with "pyIter ref" => skip
  repeat' ((fail_if_success (with_reducible show (wpAny _ _ (pyIter _) _ _ _))); first | (k_unfold; (try dsimp only)) | (k_end; wrow_close) | (walk1 <;> (try ((with_reducible show wpAny _ _ (spliced _) _ _ _); dsimp only)) <;> (try ((with_reducible show wpAny _ _ (newList _) _ _ _); dsimp only)) <;> (try ((with_reducible show wpAny _ _ (binaryOp _ _ _) _ _ _); dsimp only)) <;> (try ((with_reducible show wpAny _ _ (evalPart _ _) _ _ _); dsimp only))) | (dsimp only; walk1) | fail "no step")
  rename_i q _ l1 _ D ws _ F9 N9 hI9 hC9 hL9 l2
  refine kst_listL (σ := List Value × Nat) (nn := 0) (ns := List.take 5 dn) (fun u => (q, listOf u.1.toArray u.2) :: (D, listOf ws.toArray 0) :: (d, listOf dv.toArray 0) :: rest)
    (fun _ => []) (fun _ => True) [] (fun pre u => IntsAre u.1 (sumsOf pre)) ([], 0) rfl (fun _ => .tail _ (.head _)) hI9 F9 (newsSub N9 ?z1) trivial (fun _ hp => nomatch hp) .nil ?z2 ?z3
  case z1 =>
    intro x hx
    rcases List.mem_cons.mp hx with rfl | hx
    · exact .tail _ (.head _)
    rcases List.mem_cons.mp hx with rfl | hx
    · exact .head _
    · exact .tail _ (.tail _ hx)
  case z2 =>
    intro u pre post k t v h tk' own hk hmem hoff _ hI F8 N8
    refine sumTurn (rest := ((D, listOf ws.toArray 0) :: (d, listOf dv.toArray 0) :: rest) ++ own) B F8 X T N8 (n := k) (t := t) rfl rfl hI ?y0 ?y1 ?y4
    case y0 => rw [sumsOf_len]; have := congrArg List.length hk; simp at this; omega
    case y1 =>
      intro x hx
      rcases List.mem_append.mp hx with hx | hx
      · rcases List.mem_cons.mp hx with rfl | hx
        · exact fun e => Nat.lt_irrefl _ (e ▸ l2.1)
        rcases List.mem_cons.mp hx with rfl | hx
        · exact fun e => Nat.lt_irrefl _ (e ▸ l1.1)
        · exact fun e => Nat.lt_irrefl _ (e ▸ allLt_mem _ l1.2 x hx)
      · exact hoff x hx _ (.head _)
    case y4 =>
      intro h7 tk7 t7 F7 N7
      refine kst_end (u.1 ++ [Value.int ((List.drop ((sumsOf pre).length - 1) (sumsOf pre)).sum + k) t7], u.2 + 1) F7 N7 (fun x hx => List.mem_append_left own hx) (fun x hx => .tail _ (List.mem_append_right _ hx)) rfl trivial (fun _ hp => nomatch hp) (fun z z1 _ z2 => ?_) ?_
      · show (if z = Str.ofString "size" then _ else _) = _
        rw [if_neg z1]; rfl
      · rw [sumsOf_snoc]; exact intsSnoc hI
  case z3 =>
    intro u v h tk' _ hI F8 N8
    refine wpAny_execs_nil ?_
    refine hq _ _ _ _ _ u.2 hI (fun z hz => ?_) F8 (newsSub N8 ?y1) l1
    · show (if z = Str.ofString "size" then _ else _) = _
      rw [if_neg hz]; rfl
    · intro x hx
      rcases List.mem_cons.mp hx with rfl | hx
      · exact .head _
      · exact .tail _ (.tail _ hx)
end
section
local macro_rules | `(tactic| walk_at "zz0") => `(tactic| fail)
local macro_rules | `(tactic| walk_at "zz1") => `(tactic| fail)
theorem rst20 : True := by
  w_top off
  first | walk1 | trivial
end
section
variable {w : World} {A : Around} {s : Shared} {Q : Flow → Shared → Prop} {E : Value → Shared → Prop} {h₀ : Heap} {L fa : Addr} {cd : Value} {m mg mb : Str → Option Value} {p : Program} {loose : List Str} {mean : ExcName → Option Value} {news : List (Addr × Obj)}
local macro_rules | `(tactic| walk_at "exec Assign cons ListComp") => `(tactic| (k_here; k_dflt (refine LCg.Assign_ListComp_U (F₀ := by k_asm) (by rfl) (by with_unfolding_all rfl) (by with_unfolding_all rfl) (by decide) (by rfl) (by decide) (by rfl) (by rfl) (by rfl) ?_)))
def marksOf (un : List Int) : List Int := un.map fun k => (-k).fmod 16
set_option maxHeartbeats 4000000 in
theorem s11 {q : Addr} {us : List Value} {un : List Int} {nn : Nat} {rest : List (Addr × Obj)} (B : Below callerA h₀ [] h₀) (F : Fr h₀ L s.heap m)
    (X : (hd.heap_39 w.params).In h₀) (T : Top p loose mean mg mb h₀) (N : News h₀ L s.heap ((q, listOf us.toArray nn) :: rest)) (hE : m (Str.ofString "sums") = some (.ref q))
    (hsv : IntsAre us un) (hsl : un.length ≤ 5)
    (hq : ∀ h' tk D ys, IntsAre ys (marksOf un) → Fr h₀ L h' (fun z => if z = Str.ofString "marks" then some (Value.ref D) else m z) → News h₀ L h' ((D, LCg.lst ys) :: (q, listOf us.toArray nn) :: rest) → (@Ne Nat q D ∧ LCg.Off1 D rest) → Q .next { s with heap := h', toks := tk }) :
    wpAny (model PySem.Challenge.rw_re0062_01.row.prog w) (callerA.deeper (lawEnv L fa cd)) (execs [lawStmt 11] (lawEnv L fa cd)) Q (fun _ _ => False) s := by
  w_on
  revert X
  k_fill
  intro X
  conv => enter [3, 1, 1]; whnf
  dsimp only [lawEnv] at F ⊢
  repeat' ((fail_if_success (with_reducible show (LCg.CompSrc _ _ _ _ _ _ _ _ _ _ _ _ _ _))); first | (k_unfold; (try dsimp only)) | (k_end; wrow_close) | (walk1 <;> (try ((with_reducible show wpAny _ _ (spliced _) _ _ _); dsimp only)) <;> (try ((with_reducible show wpAny _ _ (newList _) _ _ _); dsimp only)) <;> (try ((with_reducible show wpAny _ _ (binaryOp _ _ _) _ _ _); dsimp only)) <;> (try ((with_reducible show wpAny _ _ (evalPart _ _) _ _ _); dsimp only))) | (dsimp only; walk1) | fail "no step")
  have hl := hsv.length
  refine LCg.CompSrc.ledger rfl F N (.head _) (by simp only [List.size_toArray]; exact Nat.le_trans (by omega) (show 5 ≤ sizeLine by decide)) ?_
  intro g'
  refine kcf_list (fun k => (-k).fmod 16) hsv (fun k' t' I' oI' C' oC' D' m' ys' h' tk' E' hk hC hx F2 N2 off ne mk => ?_) ?_
  · clear F N
    repeat' ((fail_if_success (with_reducible show (LCg.CompEnd _ _ _ _ _ _ _ _ _ _ _ _ _ _))); first | (k_unfold; (try dsimp only)) | (k_end; wrow_close) | (walk1 <;> (try ((with_reducible show wpAny _ _ (spliced _) _ _ _); dsimp only)) <;> (try ((with_reducible show wpAny _ _ (newList _) _ _ _); dsimp only)) <;> (try ((with_reducible show wpAny _ _ (binaryOp _ _ _) _ _ _); dsimp only)) <;> (try ((with_reducible show wpAny _ _ (evalPart _ _) _ _ _); dsimp only))) | (dsimp only; walk1) | fail "no step")
    exact LCg.CompEnd.intro F2 N2 _ (fun p hp => hp) off (.inr ⟨_, .head _, rfl, _, rfl⟩) ⟨rfl, _, rfl⟩
  · show ∀ _, _
    intro ys hC
    repeat' ((fail_if_success (with_reducible show False)); first | (k_unfold; (try dsimp only)) | (k_end; wrow_close) | (walk1 <;> (try ((with_reducible show wpAny _ _ (spliced _) _ _ _); dsimp only)) <;> (try ((with_reducible show wpAny _ _ (newList _) _ _ _); dsimp only)) <;> (try ((with_reducible show wpAny _ _ (binaryOp _ _ _) _ _ _); dsimp only)) <;> (try ((with_reducible show wpAny _ _ (evalPart _ _) _ _ _); dsimp only))) | (dsimp only; walk1) | fail "no step")
    exact hq _ _ _ _ hC (by assumption) (by assumption) (by assumption)
end
section
theorem rst21 : True := by
  w_top off
  trivial
end
section
variable {w : World} {A : Around} {s : Shared} {Q : Flow → Shared → Prop} {E : Value → Shared → Prop} {h₀ : Heap} {L fa : Addr} {cd : Value} {m mg mb : Str → Option Value} {p : Program} {loose : List Str} {mean : ExcName → Option Value} {news : List (Addr × Obj)}
def SignLaw (mn : List Int) (k : Int) (a b : Str) : Prop := ((mn.any fun x => x == k + 1) = true → a.cps.toList < b.cps.toList ∧ ¬ b.cps.toList < a.cps.toList) ∧ ((mn.any fun x => x == k + 1) = false → ¬ a.cps.toList < b.cps.toList ∧ ¬ b.cps.toList < a.cps.toList)
theorem coll1 {a b : Str} (h : a.cps.toList < b.cps.toList ∧ ¬ b.cps.toList < a.cps.toList) : b2i (decide (b.cps.toList < a.cps.toList)) - b2i (decide (a.cps.toList < b.cps.toList)) = -1 ∧ b2i (decide (a.cps.toList < b.cps.toList)) - b2i (decide (b.cps.toList < a.cps.toList)) = 1 := by
  simp [h.1, h.2, b2i]
theorem coll0 {a b : Str} (h : ¬ a.cps.toList < b.cps.toList ∧ ¬ b.cps.toList < a.cps.toList) : b2i (decide (b.cps.toList < a.cps.toList)) - b2i (decide (a.cps.toList < b.cps.toList)) = 0 ∧ b2i (decide (a.cps.toList < b.cps.toList)) - b2i (decide (b.cps.toList < a.cps.toList)) = 0 := by
  simp [h.1, h.2, b2i]
noncomputable def huesBody : List Stmt := forBody (lawStmt 12)
set_option maxHeartbeats 4000000 in
theorem huesTurn {mk wd : Addr} {mv wv : List Value} {mn : List Int} {ws : List Str} {k : Int} {t : Tok} {rest : List (Addr × Obj)} (B : Below callerA h₀ [] h₀) (F : Fr h₀ L s.heap m)
    (X : (hd.heap_39 w.params).In h₀) (T : Top p loose mean mg mb h₀) (N : News h₀ L s.heap ((mk, LCg.lst mv) :: (wd, LCg.lst wv) :: rest)) (hE : m (Str.ofString "hue_now") = some (.int k t)) (hE2 : m (Str.ofString "marks") = some (.ref mk)) (hE3 : m (Str.ofString "words") = some (.ref wd))
    (hmv : IntsAre mv mn) (hml : mn.length ≤ 5) (hwv : StrsAre wv ws) (hwl : ws.length = 16) (hk : 0 ≤ k ∧ k < 15)
    (hlaw : SignLaw mn k (ws.getD k.toNat Str.empty) (ws.getD (k + 1).toNat Str.empty))
    (hq : ∀ h' tk m', (∀ z, z ≠ Str.ofString "sign" → m' z = m z) → Fr h₀ L h' m' → News h₀ L h' ((mk, LCg.lst mv) :: (wd, LCg.lst wv) :: rest) → Q .next { s with heap := h', toks := tk }) :
    wpAny (model PySem.Challenge.rw_re0062_01.row.prog w) (callerA.deeper (lawEnv L fa cd)) (execs huesBody (lawEnv L fa cd)) Q (fun _ _ => False) s := by
  w_on
  revert X
  k_fill
  intro X
  conv => enter [3, 1]; whnf
  dsimp only [lawEnv] at F ⊢
  repeat' ((fail_if_success (with_reducible show (wpAny _ _ (call (Value.ref 21) _ _) _ _ _))); first | (k_unfold; (try dsimp only)) | (k_end; wrow_close) | (walk1 <;> (try ((with_reducible show wpAny _ _ (spliced _) _ _ _); dsimp only)) <;> (try ((with_reducible show wpAny _ _ (newList _) _ _ _); dsimp only)) <;> (try ((with_reducible show wpAny _ _ (binaryOp _ _ _) _ _ _); dsimp only)) <;> (try ((with_reducible show wpAny _ _ (evalPart _ _) _ _ _); dsimp only))) | (dsimp only; walk1) | fail "no step")
  · rename Fr h₀ L _ _ => F1
    rename News h₀ L _ _ => N1
    obtain ⟨c1, c2⟩ := coll1 (hlaw.1 (by assumption))
    refine strcollC (n := 3) (Cx.deep B F1 X T rfl rfl rfl (by decide) (by decide)) ?_
    intro h2 tk2 z2 st2
    rw [c1]
    have F2 := frStays F1 st2
    have N2 := newsStays N1 st2
    clear F1 N1 st2
    repeat' ((fail_if_success (with_reducible show (wpAny _ _ (call (Value.ref 21) _ _) _ _ _))); first | (k_unfold; (try dsimp only)) | (k_end; wrow_close) | (walk1 <;> (try ((with_reducible show wpAny _ _ (spliced _) _ _ _); dsimp only)) <;> (try ((with_reducible show wpAny _ _ (newList _) _ _ _); dsimp only)) <;> (try ((with_reducible show wpAny _ _ (binaryOp _ _ _) _ _ _); dsimp only)) <;> (try ((with_reducible show wpAny _ _ (evalPart _ _) _ _ _); dsimp only))) | (dsimp only; walk1) | fail "no step")
    rename Fr h₀ L _ _ => F1
    rename News h₀ L _ _ => N1
    refine strcollC (n := 3) (Cx.deep B F1 X T rfl rfl rfl (by decide) (by decide)) ?_
    intro h3 tk3 z3 st3
    rw [c2]
    have F3 := frStays F1 st3
    have N3 := newsStays N1 st3
    clear F1 N1 st3
    repeat' ((fail_if_success (with_reducible show False)); first | (k_unfold; (try dsimp only)) | (k_end; wrow_close) | (walk1 <;> (try ((with_reducible show wpAny _ _ (spliced _) _ _ _); dsimp only)) <;> (try ((with_reducible show wpAny _ _ (newList _) _ _ _); dsimp only)) <;> (try ((with_reducible show wpAny _ _ (binaryOp _ _ _) _ _ _); dsimp only)) <;> (try ((with_reducible show wpAny _ _ (evalPart _ _) _ _ _); dsimp only))) | (dsimp only; walk1) | fail "no step")
    rename News h₀ L _ _ => NE
    exact hq _ _ _ (fun z hz => if_neg hz) (by assumption) (newsSub NE fun q hq => .tail _ (.tail _ hq))
  · rename Fr h₀ L _ _ => F1
    rename News h₀ L _ _ => N1
    obtain ⟨c1, c2⟩ := coll0 (hlaw.2 (by assumption))
    refine strcollC (n := 3) (Cx.deep B F1 X T rfl rfl rfl (by decide) (by decide)) ?_
    intro h2 tk2 z2 st2
    rw [c1]
    have F2 := frStays F1 st2
    have N2 := newsStays N1 st2
    clear F1 N1 st2
    repeat' ((fail_if_success (with_reducible show (wpAny _ _ (call (Value.ref 21) _ _) _ _ _))); first | (k_unfold; (try dsimp only)) | (k_end; wrow_close) | (walk1 <;> (try ((with_reducible show wpAny _ _ (spliced _) _ _ _); dsimp only)) <;> (try ((with_reducible show wpAny _ _ (newList _) _ _ _); dsimp only)) <;> (try ((with_reducible show wpAny _ _ (binaryOp _ _ _) _ _ _); dsimp only)) <;> (try ((with_reducible show wpAny _ _ (evalPart _ _) _ _ _); dsimp only))) | (dsimp only; walk1) | fail "no step")
    rename Fr h₀ L _ _ => F1
    rename News h₀ L _ _ => N1
    refine strcollC (n := 3) (Cx.deep B F1 X T rfl rfl rfl (by decide) (by decide)) ?_
    intro h3 tk3 z3 st3
    rw [c2]
    have F3 := frStays F1 st3
    have N3 := newsStays N1 st3
    clear F1 N1 st3
    repeat' ((fail_if_success (with_reducible show False)); first | (k_unfold; (try dsimp only)) | (k_end; wrow_close) | (walk1 <;> (try ((with_reducible show wpAny _ _ (spliced _) _ _ _); dsimp only)) <;> (try ((with_reducible show wpAny _ _ (newList _) _ _ _); dsimp only)) <;> (try ((with_reducible show wpAny _ _ (binaryOp _ _ _) _ _ _); dsimp only)) <;> (try ((with_reducible show wpAny _ _ (evalPart _ _) _ _ _); dsimp only))) | (dsimp only; walk1) | fail "no step")
    rename News h₀ L _ _ => NE
    exact hq _ _ _ (fun z hz => if_neg hz) (by assumption) (newsSub NE fun q hq => .tail _ (.tail _ hq))
set_option maxHeartbeats 4000000 in
theorem s12 {mk wd : Addr} {mv wv : List Value} {mn : List Int} {ws : List Str} {rest : List (Addr × Obj)} (B : Below callerA h₀ [] h₀) (F : Fr h₀ L s.heap m)
    (X : (hd.heap_39 w.params).In h₀) (T : Top p loose mean mg mb h₀) (N : News h₀ L s.heap ((mk, LCg.lst mv) :: (wd, LCg.lst wv) :: rest)) (hE2 : m (Str.ofString "marks") = some (.ref mk)) (hE3 : m (Str.ofString "words") = some (.ref wd))
    (hmv : IntsAre mv mn) (hml : mn.length ≤ 5) (hwv : StrsAre wv ws) (hwl : ws.length = 16)
    (hlaw : ∀ k : Int, 0 ≤ k → k < 15 → SignLaw mn k (ws.getD k.toNat Str.empty) (ws.getD (k + 1).toNat Str.empty))
    (hq : ∀ h' tk m', (∀ z, z ≠ Str.ofString "sign" → z ≠ Str.ofString "hue_now" → m' z = m z) → Fr h₀ L h' m' → News h₀ L h' ((mk, LCg.lst mv) :: (wd, LCg.lst wv) :: rest) → Q .next { s with heap := h', toks := tk }) :
    wpAny (model PySem.Challenge.rw_re0062_01.row.prog w) (callerA.deeper (lawEnv L fa cd)) (execs [lawStmt 12] (lawEnv L fa cd)) Q (fun _ _ => False) s := by
  w_on
  revert X
  k_fill
  intro X
  conv => enter [3, 1, 1]; whnf
  dsimp only [lawEnv] at F ⊢
  k_with "pyIter ref" => skip
  repeat' ((fail_if_success (with_reducible show (wpAny _ _ (pyIter _) _ _ _))); first | (k_unfold; (try dsimp only)) | (k_end; wrow_close) | (walk1 <;> (try ((with_reducible show wpAny _ _ (spliced _) _ _ _); dsimp only)) <;> (try ((with_reducible show wpAny _ _ (newList _) _ _ _); dsimp only)) <;> (try ((with_reducible show wpAny _ _ (binaryOp _ _ _) _ _ _); dsimp only)) <;> (try ((with_reducible show wpAny _ _ (evalPart _ _) _ _ _); dsimp only))) | (dsimp only; walk1) | fail "no step")
  rename Fr h₀ L _ _ => F9
  rename News h₀ L _ _ => N9
  rename IsRange _ _ _ _ _ _ _ _ => hR
  refine kst_range (σ := Unit) (n := 15) (fun _ => (mk, LCg.lst mv) :: (wd, LCg.lst wv) :: rest) (fun _ => []) (fun _ => True) [Str.ofString "sign"] (fun _ _ => True) () rfl hR rfl rfl F9 N9 trivial (fun _ hp => nomatch hp) trivial ?z2 ?z3
  case z2 =>
    intro q pre k t u h tk' own hk hpl hoff _ _ F8 N8
    refine huesTurn (rest := rest ++ own) B F8 X T N8 (k := k) (t := t) rfl hE2 hE3 hmv hml hwv hwl (by omega) (hlaw k (by omega) (by omega)) ?_
    intro h7 tk7 m7 hm7 F7 N7
    refine kst_end () F7 N7 (fun x hx => List.mem_append_left own hx) (fun x hx => .tail _ (.tail _ (List.mem_append_right _ hx))) rfl trivial (fun _ hp => nomatch hp) (fun z z1 _ z2 => ?_) trivial
    have z3 : z ≠ Str.ofString "sign" := by simpa using z2
    rw [hm7 z z3]
    show (if z = Str.ofString "hue_now" then _ else if List.contains [Str.ofString "sign"] z = true then _ else _) = _
    rw [if_neg z1, z2]; rfl
  case z3 =>
    intro q u h tk' _ _ F8 N8
    refine wpAny_execs_nil ?_
    refine hq _ _ _ (fun z z3 z1 => ?_) F8 N8
    have z2 : List.contains [Str.ofString "sign"] z = false := by simpa using z3
    show (if z = Str.ofString "hue_now" then _ else if List.contains [Str.ofString "sign"] z = true then _ else _) = _
    rw [if_neg z1, z2]; rfl
end
section
variable {w : World} {A : Around} {s : Shared} {Q : Flow → Shared → Prop} {E : Value → Shared → Prop} {h₀ : Heap} {L fa : Addr} {cd : Value} {m mg mb : Str → Option Value} {p : Program} {loose : List Str} {mean : ExcName → Option Value} {news : List (Addr × Obj)}
/-- a for whose target is a cell of law: over what walks -/
theorem forCell {x : Str} {px : Pos} {body : List Stmt} {I c : Addr} {fp : List Addr} {n : Nat} {P : Nat → Value → Prop} {St : Nat → Heap → Prop} {o oI : Obj} {vo : Option Value} {rest : List (Addr × Obj)} {R : Result → Shared → Prop} (Inv : Nat → (Str → Option Value) → Prop)
    (W : Walks PySem.Challenge.rw_re0062_01.row.prog w (callerA.deeper (lawEnv L fa cd)) I fp [I] n P St) (hc : (cellsFrom (L + 1) lawScope.names []).lookup x = some c) (hx : (lawEnv L fa cd).kindOf x = some .cell)
    (F : Fr h₀ L s.heap m) (N : News h₀ L s.heap ((c, o) :: (I, oI) :: rest)) (ho : o.data = .cell vo) (hcr : ∀ p ∈ rest, p.1 ≠ c) (hIr : ∀ p ∈ rest, p.1 ≠ I) (hIc : I ≠ c) (hfp : ∀ b ∈ fp, b = I ∨ ∃ o, (b, o) ∈ rest) (hSI : ∀ i h, St i h → ∃ o, h.get? I = some o) (hst : St 0 s.heap) (h0 : Inv 0 m)
    (turn : ∀ i v h tk m₁ o₁ oI', i < n → P i v → o₁.data = .cell (some v) → Inv i m₁ → Fr h₀ L h m₁ → News h₀ L h ((c, o₁) :: (I, oI') :: rest) →
      wpAny (model PySem.Challenge.rw_re0062_01.row.prog w) (callerA.deeper (lawEnv L fa cd)) (execs body (lawEnv L fa cd)) (fun f s' => match f with
        | .ret v => R (.ok (.ret v)) s'
        | .brk => R (.ok .next) s'
        | _ => ∃ h' tk' m', s' = { s with heap := h', toks := tk' } ∧ Inv (i + 1) m' ∧ Fr h₀ L h' m' ∧ News h₀ L h' ((c, o₁) :: (I, oI') :: rest)) (fun _ _ => False) { s with heap := h, toks := tk })
    (done : ∀ h tk m₁ o₁ vo, o₁.data = .cell vo → Inv n m₁ → Fr h₀ L h m₁ → News h₀ L h ((c, o₁) :: rest) → R (.ok .next) { s with heap := h, toks := tk }) :
    codeAny (model PySem.Challenge.rw_re0062_01.row.prog w) (callerA.deeper (lawEnv L fa cd)) (.forLoop (.Name x px) (.ref I) body [] (lawEnv L fa cd)) R s := by
  have hnI : @Ne Nat I L := (N _ (.tail _ (.head _))).2.1
  have h0I : h₀.get? I = none := (N _ (.tail _ (.head _))).2.2
  refine codeAny_forLoop (fun k s' => ∃ h' tk m' o' oI' vo' i, s' = { s with heap := h', toks := tk } ∧ St i h' ∧ o'.data = .cell vo' ∧ Fr h₀ L h' m' ∧ News h₀ L h' ((c, o') :: (I, oI') :: rest) ∧ Inv i m' ∧ i ≤ n ∧ k = n + 1 - i) ?_ (n + 1)
    ⟨s.heap, s.toks, m, o, oI, vo, 0, rfl, hst, ho, F, N, h0, Nat.zero_le _, rfl⟩
  rintro k s' ⟨h', tk, m', o', oI', vo', i, rfl, hst', ho', F', N', hJ, hi, rfl⟩
  have next : ∀ h₁ : Heap, (∀ b o, b ∉ [I] → h'.get? b = some o → h₁.get? b = some o) → Fr h₀ L h₁ m' ∧ News h₀ L h₁ ((c, o') :: rest) := fun h₁ hk₁ =>
    ⟨⟨F'.ns.at' fun o e => hk₁ _ o (fun hm => hnI (List.mem_singleton.mp hm).symm) e, fun b o e => hk₁ b o (fun hm => by rw [List.mem_singleton.mp hm, h0I] at e; cases e) (F'.keep b o e), F'.above⟩, fun q hq => by
      rcases List.mem_cons.mp hq with rfl | hq
      · exact ⟨hk₁ _ _ (fun hm => hIc (List.mem_singleton.mp hm).symm) (N' _ (.head _)).1, (N' _ (.head _)).2⟩
      · exact ⟨hk₁ _ _ (fun hm => hIr q hq (List.mem_singleton.mp hm)) (N' _ (.tail _ (.tail _ hq))).1, (N' _ (.tail _ (.tail _ hq))).2⟩⟩
  by_cases hlt : i < n
  · refine W.item i _ _ _ hlt hst' fun v h₁ tk₁ hP hst₁ hk₁ => ?_
    obtain ⟨F₁, N₁⟩ := next h₁ hk₁
    obtain ⟨oI₁, hoI₁⟩ := hSI _ _ hst₁
    have N₁' : News h₀ L h₁ ((c, o') :: (I, oI₁) :: rest) := by
      intro q hq
      rcases List.mem_cons.mp hq with rfl | hq
      · exact N₁ _ (.head _)
      rcases List.mem_cons.mp hq with rfl | hq
      · exact ⟨hoI₁, hnI, h0I⟩
      · exact N₁ _ (.tail _ hq)
    have fr : ∀ (ha hb : Heap) oc oc', St (i + 1) ha → News h₀ L ha ((c, oc) :: (I, oI₁) :: rest) → News h₀ L hb ((c, oc') :: (I, oI₁) :: rest) → St (i + 1) hb := by
      intro ha hb oc oc' hs Na Nb
      refine W.frame _ _ _ hs fun b hb' o e => ?_
      rcases hfp b hb' with rfl | ⟨o2, hm⟩
      · rw [(Na _ (.tail _ (.head _))).1] at e; rw [← e]; exact (Nb _ (.tail _ (.head _))).1
      · have := (Na _ (.tail _ (.tail _ hm))).1; rw [this] at e; rw [← e]; exact (Nb _ (.tail _ (.tail _ hm))).1
    refine wpAny_assign_Name ?_
    refine storeX_C (c := c) (cs := lawScope) (cl := cellsFrom (L + 1) lawScope.names []) F₁ N₁' hc (.head ?_) ho' ?_ rfl hx
    · intro q hq
      rcases List.mem_cons.mp hq with rfl | hq
      · exact hIc
      · exact hcr q hq
    intro h₂ o₂ F₂ N₂ d₂
    have st₂ := fr _ _ _ _ hst₁ N₁' N₂
    refine wpAny_mono (turn i v h₂ tk₁ m' o₂ oI₁ hlt hP d₂ hJ F₂ N₂) (fun f s₃ h₃ => ?_) (fun _ _ x => x.elim)
    cases f with
    | ret v => exact h₃
    | brk => exact h₃
    | next =>
      obtain ⟨h₃', tk₃, m₃, rfl, hJ₃, F₃, N₃⟩ := h₃
      exact ⟨n + 1 - (i + 1), by omega, h₃', tk₃, m₃, o₂, oI₁, _, i + 1, rfl, fr _ _ _ _ st₂ N₂ N₃, d₂, F₃, N₃, hJ₃, hlt, rfl⟩
    | cont =>
      obtain ⟨h₃', tk₃, m₃, rfl, hJ₃, F₃, N₃⟩ := h₃
      exact ⟨n + 1 - (i + 1), by omega, h₃', tk₃, m₃, o₂, oI₁, _, i + 1, rfl, fr _ _ _ _ st₂ N₂ N₃, d₂, F₃, N₃, hJ₃, hlt, rfl⟩
  · have hin : i = n := by omega
    subst hin
    refine W.done _ _ _ hst' fun h₁ tk₁ hk₁ => wpAny_execs_nil ?_
    obtain ⟨F₁, N₁⟩ := next h₁ hk₁
    exact done h₁ tk₁ m' o' vo' ho' hJ F₁ N₁
end
section
local macro_rules | `(tactic| walk_at "zz0") => `(tactic| fail)
local macro_rules | `(tactic| walk_at "zz1") => `(tactic| fail)
theorem rst22 : True := by
  w_top off
  first | walk1 | trivial
end
section
variable {w : World} {A : Around} {s : Shared} {Q : Flow → Shared → Prop} {E : Value → Shared → Prop} {h₀ : Heap} {L fa : Addr} {cd : Value} {m mg mb : Str → Option Value} {p : Program} {loose : List Str} {mean : ExcName → Option Value} {news : List (Addr × Obj)}
local macro_rules | `(tactic| walk_at "eval ListComp") => `(tactic| (k_here; k_dflt (refine LCt.ListComp_T (F₀ := by k_asm) (by with_unfolding_all rfl) (by decide) (by rfl) (by decide) (by rfl) ?_)))
def upTo (mn : List Int) (k : Int) : List Int := mn.foldl (fun l x => if x ≤ k then l ++ [x] else l) []
def behindOf (mn : List Int) (k : Int) : List Int := mn.foldl (fun l x => if k < x then l ++ [x] else l) []
def HereLaw (mn : List Int) (ws : List Str) (k : Int) (x : Str) : Prop := ∃ r1 r2 : Nat, r1 ≤ 16 ∧ r2 ≤ 16 ∧ (∀ i v, ws[i]? = some v → (v.cps.toList < x.cps.toList ↔ i < r1)) ∧ (∀ i v, ws[i]? = some v → (x.cps.toList < v.cps.toList ↔ ¬ i < r2)) ∧
  (∀ M, M ∈ [0] ++ upTo mn k → (∀ a ∈ [0] ++ upTo mn k, a ≤ M) → M = (r1 : Int)) ∧ (∀ M, M ∈ [16] ++ behindOf mn k → (∀ a ∈ [16] ++ behindOf mn k, M ≤ a) → M = (r2 : Int))
noncomputable def hereBody : List Stmt := forBody (lawStmt 13)
set_option maxHeartbeats 4000000 in
theorem hereTurn {mk wd : Addr} {mv wv : List Value} {mn : List Int} {ws : List Str} {k : Int} {t : Tok} {rest : List (Addr × Obj)} {o3 : Obj} (B : Below callerA h₀ [] h₀) (F : Fr h₀ L s.heap m)
    (X : (hd.heap_39 w.params).In h₀) (T : Top p loose mean mg mb h₀) (N : News h₀ L s.heap ((L + 3, o3) :: (mk, LCg.lst mv) :: (wd, LCg.lst wv) :: rest)) (hc : o3.data = .cell (some (.int k t))) (hE2 : m (Str.ofString "marks") = some (.ref mk)) (hE3 : m (Str.ofString "words") = some (.ref wd))
    (hmv : IntsAre mv mn) (hml : mn.length ≤ 5) (hwv : StrsAre wv ws) (hwl : ws.length = 16) (hk : 0 ≤ k ∧ k < 16) (hlaw : HereLaw mn ws k (ws.getD k.toNat Str.empty))
    (hq : ∀ h' tk m', (∀ z, z ≠ Str.ofString "first" → z ≠ Str.ofString "behind" → m' z = m z) → Fr h₀ L h' m' → News h₀ L h' ((L + 3, o3) :: (mk, LCg.lst mv) :: (wd, LCg.lst wv) :: rest) → Q .next { s with heap := h', toks := tk }) :
    wpAny (model PySem.Challenge.rw_re0062_01.row.prog w) (callerA.deeper (lawEnv L fa cd)) (execs hereBody (lawEnv L fa cd)) Q (fun _ _ => False) s := by
  w_on
  revert X
  k_fill
  intro X
  conv => enter [3, 1]; whnf
  dsimp only [lawEnv] at F ⊢
  repeat' ((fail_if_success (with_reducible show (LCt.CompSrcT _ _ _ _ _ _ _ _ _ _ _ _ _ _ _))); first | (k_unfold; (try dsimp only)) | (k_end; wrow_close) | (walk1 <;> (try ((with_reducible show wpAny _ _ (spliced _) _ _ _); dsimp only)) <;> (try ((with_reducible show wpAny _ _ (newList _) _ _ _); dsimp only)) <;> (try ((with_reducible show wpAny _ _ (binaryOp _ _ _) _ _ _); dsimp only)) <;> (try ((with_reducible show wpAny _ _ (evalPart _ _) _ _ _); dsimp only))) | (dsimp only; walk1) | fail "no step")
  have hl := hmv.length
  rename Fr h₀ L _ _ => F1
  rename News h₀ L _ _ => N1
  refine LCt.CompSrcT.ledger rfl F1 N1 (.tail _ (.tail _ (.head _))) (by simp only [List.size_toArray]; exact Nat.le_trans (by omega) (show 5 ≤ sizeLine by decide)) ?_
  intro g'
  refine kci_list (fun l x => if x ≤ k then l ++ [x] else l) hmv (fun k' t' I' oI' C' oC' D' m' ys' l' h' tk' E' hk hI hC hx F2 N2 off ne mk => ?_) ?_ (fun l x => by dsimp only; split <;> simp)
  · clear F1 N1
    repeat' ((fail_if_success (with_reducible show (LCg.CompEnd _ _ _ _ _ _ _ _ _ _ _ _ _ _))); first | (k_unfold; (try dsimp only)) | (k_end; wrow_close) | (walk1 <;> (try ((with_reducible show wpAny _ _ (spliced _) _ _ _); dsimp only)) <;> (try ((with_reducible show wpAny _ _ (newList _) _ _ _); dsimp only)) <;> (try ((with_reducible show wpAny _ _ (binaryOp _ _ _) _ _ _); dsimp only)) <;> (try ((with_reducible show wpAny _ _ (evalPart _ _) _ _ _); dsimp only))) | (dsimp only; walk1) | fail "no step")
    · exact LCg.CompEnd.intro F2 N2 _ (fun p hp => hp) off (.inr ⟨_, .tail _ (.tail _ (.head _)), rfl, _, rfl⟩) ⟨rfl, k', t', rfl, if_pos (by assumption)⟩
    · exact LCg.CompEnd.intro F2 N2 _ (fun p hp => hp) off (.inr ⟨_, .tail _ (.tail _ (.head _)), rfl, _, rfl⟩) ⟨rfl, if_neg (by assumption)⟩
  show ∀ _, _
  intro ys hC
  clear F1 N1
  repeat' ((fail_if_success (with_reducible show (LCt.CompSrcT _ _ _ _ _ _ _ _ _ _ _ _ _ _ _))); first | (k_unfold; (try dsimp only)) | (k_end; wrow_close) | (walk1 <;> (try ((with_reducible show wpAny _ _ (spliced _) _ _ _); dsimp only)) <;> (try ((with_reducible show wpAny _ _ (newList _) _ _ _); dsimp only)) <;> (try ((with_reducible show wpAny _ _ (binaryOp _ _ _) _ _ _); dsimp only)) <;> (try ((with_reducible show wpAny _ _ (evalPart _ _) _ _ _); dsimp only))) | (dsimp only; walk1) | fail "no step")
  rename Fr h₀ L _ _ => F1
  rename News h₀ L _ _ => N1
  rename ∀ a ∈ [0] ++ _, _ => hM2
  rename _ ∈ [0] ++ _ => hM1
  obtain ⟨r1, r2, hr1, hr2, hb1, hb2, hm1, hm2⟩ := hlaw
  have hM := hm1 _ hM1 hM2
  subst hM
  clear hM1 hM2
  have N2 := newsSub N1 (l' := (_, listOf #[Value.int 16 _] 0) :: (L + 3, o3) :: (mk, LCg.lst mv) :: (wd, LCg.lst wv) :: rest) (fun q hq => by
    rcases List.mem_cons.mp hq with rfl | hq
    · exact .head _
    · exact .tail _ (.tail _ (.tail _ (.tail _ hq))))
  clear N1
  refine LCt.CompSrcT.ledger rfl F1 N2 (.tail _ (.tail _ (.head _))) (by simp only [List.size_toArray]; exact Nat.le_trans (by omega) (show 5 ≤ sizeLine by decide)) ?_
  intro g'
  refine kci_list (fun l x => if k < x then l ++ [x] else l) hmv (fun k' t' I' oI' C' oC' D' m' ys' l' h' tk' E' hk hI hC hx F2 N2 off ne mk => ?_) ?_ (fun l x => by dsimp only; split <;> simp)
  · clear F1
    repeat' ((fail_if_success (with_reducible show (LCg.CompEnd _ _ _ _ _ _ _ _ _ _ _ _ _ _))); first | (k_unfold; (try dsimp only)) | (k_end; wrow_close) | (walk1 <;> (try ((with_reducible show wpAny _ _ (spliced _) _ _ _); dsimp only)) <;> (try ((with_reducible show wpAny _ _ (newList _) _ _ _); dsimp only)) <;> (try ((with_reducible show wpAny _ _ (binaryOp _ _ _) _ _ _); dsimp only)) <;> (try ((with_reducible show wpAny _ _ (evalPart _ _) _ _ _); dsimp only))) | (dsimp only; walk1) | fail "no step")
    · exact LCg.CompEnd.intro F2 N2 _ (fun p hp => hp) off (.inr ⟨_, .tail _ (.tail _ (.head _)), rfl, _, rfl⟩) ⟨rfl, k', t', rfl, if_pos (by assumption)⟩
    · exact LCg.CompEnd.intro F2 N2 _ (fun p hp => hp) off (.inr ⟨_, .tail _ (.tail _ (.head _)), rfl, _, rfl⟩) ⟨rfl, if_neg (by assumption)⟩
  show ∀ _, _
  intro ys hC
  clear F1 N2
  repeat' ((fail_if_success (with_reducible show (wpAny _ _ (call (Value.ref 53) _ _) _ _ _))); first | (k_unfold; (try dsimp only)) | (k_end; wrow_close) | (walk1 <;> (try ((with_reducible show wpAny _ _ (spliced _) _ _ _); dsimp only)) <;> (try ((with_reducible show wpAny _ _ (newList _) _ _ _); dsimp only)) <;> (try ((with_reducible show wpAny _ _ (binaryOp _ _ _) _ _ _); dsimp only)) <;> (try ((with_reducible show wpAny _ _ (evalPart _ _) _ _ _); dsimp only))) | (dsimp only; walk1) | fail "no step")
  rename Fr h₀ L _ _ => F1
  rename News h₀ L _ _ => N1
  rename ∀ a ∈ [16] ++ _, _ => hM2
  rename _ ∈ [16] ++ _ => hM1
  have hM := hm2 _ hM1 hM2
  subst hM
  clear hM1 hM2
  have N2 := newsSub N1 (l' := (L + 3, o3) :: (mk, LCg.lst mv) :: (wd, LCg.lst wv) :: rest) (fun q hq => .tail _ (.tail _ (.tail _ hq)))
  clear N1
  refine bisL0 (n := 3) (r := r1) (Cx.deep B F1 X T rfl rfl rfl (by decide) (by decide)) ⟨_, N2.get (.tail _ (.tail _ (.head _))), rfl, _, rfl⟩ (by assumption) (by omega) (by omega) hb1 ?_
  intro h5 tk5 t5 st5
  have F5 := frStays F1 st5
  have N5 := newsStays N2 st5
  clear F1 N2 st5
  repeat' ((fail_if_success (with_reducible show (wpAny _ _ (call (Value.ref 44) _ _) _ _ _))); first | (k_unfold; (try dsimp only)) | (k_end; wrow_close) | (walk1 <;> (try ((with_reducible show wpAny _ _ (spliced _) _ _ _); dsimp only)) <;> (try ((with_reducible show wpAny _ _ (newList _) _ _ _); dsimp only)) <;> (try ((with_reducible show wpAny _ _ (binaryOp _ _ _) _ _ _); dsimp only)) <;> (try ((with_reducible show wpAny _ _ (evalPart _ _) _ _ _); dsimp only))) | (dsimp only; walk1) | fail "no step")
  rename Fr h₀ L _ _ => F1
  rename News h₀ L _ _ => N2
  refine bisR0 (n := 3) (r := r2) (Cx.deep B F1 X T rfl rfl rfl (by decide) (by decide)) ⟨_, N2.get (.tail _ (.tail _ (.head _))), rfl, _, rfl⟩ (by assumption) (by omega) (by omega) hb2 ?_
  intro h6 tk6 t6 st6
  have F6 := frStays F1 st6
  have N6 := newsStays N2 st6
  clear F1 N2 st6
  repeat' ((fail_if_success (with_reducible show False)); first | (k_unfold; (try dsimp only)) | (k_end; wrow_close) | (walk1 <;> (try ((with_reducible show wpAny _ _ (spliced _) _ _ _); dsimp only)) <;> (try ((with_reducible show wpAny _ _ (newList _) _ _ _); dsimp only)) <;> (try ((with_reducible show wpAny _ _ (binaryOp _ _ _) _ _ _); dsimp only)) <;> (try ((with_reducible show wpAny _ _ (evalPart _ _) _ _ _); dsimp only))) | (dsimp only; walk1) | fail "no step")
  rename News h₀ L _ _ => NE
  refine hq _ _ _ (fun z z1 z2 => ?_) (by assumption) (newsSub NE fun q hq => .tail _ (.tail _ hq))
  rw [if_neg z2, if_neg z1]
end
section
theorem rst23 : True := by
  w_top off
  trivial
end
section
variable {w : World} {A : Around} {s : Shared} {Q : Flow → Shared → Prop} {E : Value → Shared → Prop} {h₀ : Heap} {L fa : Addr} {cd : Value} {m mg mb : Str → Option Value} {p : Program} {loose : List Str} {mean : ExcName → Option Value} {news : List (Addr × Obj)}
theorem newsSwap {h : Heap} {x y a b : Addr × Obj} {rest : List (Addr × Obj)} (N : News h₀ L h (x :: y :: a :: b :: rest)) : News h₀ L h (x :: a :: b :: y :: rest) := newsSub N fun q hq => by
  simp only [List.mem_cons] at hq ⊢
  rcases hq with h | h | h | h | h <;> simp [h]
theorem newsSwap' {h : Heap} {x y a b : Addr × Obj} {rest : List (Addr × Obj)} (N : News h₀ L h (x :: a :: b :: y :: rest)) : News h₀ L h (x :: y :: a :: b :: rest) := newsSub N fun q hq => by
  simp only [List.mem_cons] at hq ⊢
  rcases hq with h | h | h | h | h <;> simp [h]
set_option maxHeartbeats 4000000 in
theorem s13 {mk wd : Addr} {mv wv : List Value} {mn : List Int} {ws : List Str} {rest : List (Addr × Obj)} {o3 : Obj} (B : Below callerA h₀ [] h₀) (F : Fr h₀ L s.heap m)
    (X : (hd.heap_39 w.params).In h₀) (T : Top p loose mean mg mb h₀) (N : News h₀ L s.heap ((L + 3, o3) :: (mk, LCg.lst mv) :: (wd, LCg.lst wv) :: rest)) (hc : o3.data = .cell none) (hE2 : m (Str.ofString "marks") = some (.ref mk)) (hE3 : m (Str.ofString "words") = some (.ref wd))
    (hmv : IntsAre mv mn) (hml : mn.length ≤ 5) (hwv : StrsAre wv ws) (hwl : ws.length = 16) (hcr : ∀ q ∈ (mk, LCg.lst mv) :: (wd, LCg.lst wv) :: rest, q.1 ≠ L + 3)
    (hlaw : ∀ k : Int, 0 ≤ k → k < 16 → HereLaw mn ws k (ws.getD k.toNat Str.empty))
    (hq : ∀ h' tk m', (∀ z, z ≠ Str.ofString "first" → z ≠ Str.ofString "behind" → m' z = m z) → Fr h₀ L h' m' → News h₀ L h' ((mk, LCg.lst mv) :: (wd, LCg.lst wv) :: rest) → Q .next { s with heap := h', toks := tk }) :
    wpAny (model PySem.Challenge.rw_re0062_01.row.prog w) (callerA.deeper (lawEnv L fa cd)) (execs [lawStmt 13] (lawEnv L fa cd)) Q (fun _ _ => False) s := by
  w_on
  revert X
  k_fill
  intro X
  conv => enter [3, 1, 1]; whnf
  dsimp only [lawEnv] at F ⊢
  k_with "pyIter ref" => skip
  repeat' ((fail_if_success (with_reducible show (wpAny _ _ (exec (Stmt.For _ _ _ _ _) _) _ _ _))); first | (k_unfold; (try dsimp only)) | (k_end; wrow_close) | (walk1 <;> (try ((with_reducible show wpAny _ _ (spliced _) _ _ _); dsimp only)) <;> (try ((with_reducible show wpAny _ _ (newList _) _ _ _); dsimp only)) <;> (try ((with_reducible show wpAny _ _ (binaryOp _ _ _) _ _ _); dsimp only)) <;> (try ((with_reducible show wpAny _ _ (evalPart _ _) _ _ _); dsimp only))) | (dsimp only; walk1) | fail "no step")
  refine wpAny_For ?_ (fun _ => rfl)
  repeat' ((fail_if_success (with_reducible show (wpAny _ _ (pyIter _) _ _ _))); first | (k_unfold; (try dsimp only)) | (k_end; wrow_close) | (walk1 <;> (try ((with_reducible show wpAny _ _ (spliced _) _ _ _); dsimp only)) <;> (try ((with_reducible show wpAny _ _ (newList _) _ _ _); dsimp only)) <;> (try ((with_reducible show wpAny _ _ (binaryOp _ _ _) _ _ _); dsimp only)) <;> (try ((with_reducible show wpAny _ _ (evalPart _ _) _ _ _); dsimp only))) | (dsimp only; walk1) | fail "no step")
  rename Fr h₀ L _ _ => F9
  rename News h₀ L _ _ => N9
  rename IsRange _ _ _ _ _ _ _ _ => hR
  refine wpAny_pyIter_range hR rfl ?_
  have hLlt := F9.ns.lt
  refine forCell (c := L + 3) (oI := { cls := .type "range_iterator", data := .fields #[rawInt 0, rawInt (Builtin.Range.rangeSize 0 16 1), rawInt 1] }) (fun _ m' => ∀ z, z ≠ Str.ofString "first" → z ≠ Str.ofString "behind" → m' z = m z) (Walks.range rfl _ 0 1 16) rfl rfl (F9.push _) (rest := (mk, LCg.lst mv) :: (wd, LCg.lst wv) :: rest) (fun q hq => ?z1) hc hcr (fun q hq => ?z2) ?z3 (fun b hb => .inl (List.mem_singleton.mp hb)) (fun i h st => ⟨_, st⟩) ?z4 (fun _ _ _ => rfl) ?z5 ?z6
  case z1 =>
    rcases List.mem_cons.mp hq with rfl | hq
    · exact ⟨Heap.get?_push_of_some _ (N9 _ (.head _)).1, (N9 _ (.head _)).2⟩
    rcases List.mem_cons.mp hq with rfl | hq
    · exact ⟨Heap.get?_push_size _ rfl, Nat.ne_of_gt hLlt, next_is_new F9⟩
    · exact ⟨Heap.get?_push_of_some _ (N9 _ (.tail _ hq)).1, (N9 _ (.tail _ hq)).2⟩
  case z2 => exact Nat.ne_of_lt (Heap.lt_size (N9 _ (.tail _ hq)).1)
  case z3 => exact Nat.ne_of_gt (Heap.lt_size (N9 _ (.head _)).1)
  case z4 => exact Heap.get?_push_size _ rfl
  case z5 =>
    rintro i v h tk' m₁ o₁ oI' hi ⟨t, rfl⟩ ho₁ hJ F8 N8
    refine hereTurn (k := 0 + (i : Int) * 1) (t := t) B F8 X T (newsSwap N8) ho₁ ((hJ _ (by decide) (by decide)).trans hE2) ((hJ _ (by decide) (by decide)).trans hE3) hmv hml hwv hwl (by omega) (hlaw _ (by omega) (by omega)) ?_
    intro h7 tk7 m7 hm7 F7 N7
    exact ⟨h7, tk7, m7, rfl, fun z z1 z2 => (hm7 z z1 z2).trans (hJ z z1 z2), F7, newsSwap' N7⟩
  case z6 =>
    intro h tk' m₁ o₁ vo ho₁ hJ F8 N8
    refine wpAny_execs_nil ?_
    exact hq _ _ _ hJ F8 (newsSub N8 fun q hq => .tail _ hq)
end
section
def bitOf (k j : Int) : Int := Builtin.bitAnd ((k.fdiv 7).fdiv (2 ^ j.toNat)) 1
theorem bitOf01 (k j : Int) : bitOf k j = 0 ∨ bitOf k j = 1 := by unfold bitOf; rw [bitAnd_m1]; omega
def letterOf (k j : Int) : Str := Txt.item (Str.ofString "ab") (bitOf k j)
def textOf (k : Int) : Str := Txt.join (Str.ofString "") ((rangeKs 0 (k.fmod 7).toNat).map (letterOf k))
theorem letter_len (k j : Int) : (letterOf k j).length = 1 := by
  unfold letterOf; rcases bitOf01 k j with h | h <;> rw [h] <;> rfl
def TextLaw (ws : List Str) (un : List Int) (x : Str) : Prop := ∃ rl rr : Nat, rl ≤ 16 ∧ rr ≤ 16 ∧ (∀ i v, ws[i]? = some v → (v.cps.toList < x.cps.toList ↔ i < rl)) ∧ (∀ i v, ws[i]? = some v → (x.cps.toList < v.cps.toList ↔ ¬ i < rr)) ∧ btwR x un = ((rl : Int), (rr : Int))
end
section
local macro_rules | `(tactic| walk_at "zz0") => `(tactic| fail)
local macro_rules | `(tactic| walk_at "zz1") => `(tactic| fail)
theorem rst24 : True := by
  w_top off
  first | walk1 | trivial
end
section
variable {w : World} {A : Around} {s : Shared} {Q : Flow → Shared → Prop} {E : Value → Shared → Prop} {h₀ : Heap} {L fa : Addr} {cd : Value} {m mg mb : Str → Option Value} {p : Program} {loose : List Str} {mean : ExcName → Option Value} {news : List (Addr × Obj)}
local macro_rules | `(tactic| walk_at "eval ListComp") => `(tactic| (k_here; k_dflt (refine LCg.ListComp_U (F₀ := by k_asm) (by with_unfolding_all rfl) (by decide) (by rfl) (by decide) (by rfl) ?_)))
noncomputable def textBody : List Stmt := forBody (lawStmt 14)
set_option maxHeartbeats 4000000 in
theorem textTurn {q wd : Addr} {us wv : List Value} {un : List Int} {ws : List Str} {k : Int} {t : Tok} {nn : Nat} {rest : List (Addr × Obj)} {o4 : Obj} (B : Below callerA h₀ [] h₀) (F : Fr h₀ L s.heap m)
    (X : (hd.heap_39 w.params).In h₀) (T : Top p loose mean mg mb h₀) (N : News h₀ L s.heap ((L + 4, o4) :: (q, listOf us.toArray nn) :: (wd, LCg.lst wv) :: rest)) (hc : o4.data = .cell (some (.int k t))) (hE2 : m (Str.ofString "sums") = some (.ref q)) (hE3 : m (Str.ofString "words") = some (.ref wd))
    (hus : IntsAre us un) (hul : un.length ≤ 5) (hwv : StrsAre wv ws) (hwl : ws.length = 16) (hk : 0 ≤ k ∧ k < 1000000)
    {others : List (Addr × Obj)} (hoth : ∀ x ∈ others, x ∈ rest) (hTab : ∀ h, News h₀ L h rest → TabOk h₀ L h) (hne : @Ne Nat q 90 ∧ @Ne Nat wd 90 ∧ @Ne Nat (L + 4) 90) (ho9 : ∀ x ∈ others, x.1 ≠ 90) (CH : CodeHd h₀ 94 90) (hlaw : TextLaw ws un (textOf k))
    (hq : ∀ h' tk m', (∀ z, z ≠ Str.ofString "text" → m' z = m z) → Fr h₀ L h' m' → News h₀ L h' ((L + 4, o4) :: (q, listOf us.toArray nn) :: (wd, LCg.lst wv) :: others) → Tab2 h₀ L h' → Q .next { s with heap := h', toks := tk }) :
    wpAny (model PySem.Challenge.rw_re0062_01.row.prog w) (callerA.deeper (lawEnv L fa cd)) (execs textBody (lawEnv L fa cd)) Q (fun _ _ => False) s := by
  w_on
  revert X
  k_fill
  intro X
  conv => enter [3, 1]; whnf
  dsimp only [lawEnv] at F ⊢
  repeat' ((fail_if_success (with_reducible show (LCg.CompSrc _ _ _ _ _ _ _ _ _ _ _ _ _ _))); first | (k_unfold; (try dsimp only)) | (k_end; wrow_close) | (walk1 <;> (try ((with_reducible show wpAny _ _ (spliced _) _ _ _); dsimp only)) <;> (try ((with_reducible show wpAny _ _ (newList _) _ _ _); dsimp only)) <;> (try ((with_reducible show wpAny _ _ (binaryOp _ _ _) _ _ _); dsimp only)) <;> (try ((with_reducible show wpAny _ _ (evalPart _ _) _ _ _); dsimp only))) | (dsimp only; walk1) | fail "no step")
  rename Fr h₀ L _ _ => F1
  rename News h₀ L _ _ => N1
  rename IsRange _ _ _ _ _ _ _ _ => hR
  have hm7 := fmod_lo k (n := 7) (by decide)
  have hm8 := fmod_hi k (n := 7) (by decide)
  refine LCg.CompSrc.range rfl F1 N1 hR (small_one (by omega) (by omega) (by omega) (by omega)) (n := (k.fmod 7).toNat) (by rw [rangeSize_nat]; simp) (Nat.le_trans (show (k.fmod 7).toNat ≤ 7 by omega) (by decide)) ?_
  intro g'
  refine kct_range (letterOf k) (fun k' t' I' oI' C' oC' D' m' ys' h' tk' E' hlo hhi hC hx F2 N2 off ne mk => ?_) ?_
  · clear F1 N1
    repeat' ((fail_if_success (with_reducible show (LCg.CompEnd _ _ _ _ _ _ _ _ _ _ _ _ _ _))); first | (k_unfold; (try dsimp only)) | (k_end; wrow_close) | (walk1 <;> (try ((with_reducible show wpAny _ _ (spliced _) _ _ _); dsimp only)) <;> (try ((with_reducible show wpAny _ _ (newList _) _ _ _); dsimp only)) <;> (try ((with_reducible show wpAny _ _ (binaryOp _ _ _) _ _ _); dsimp only)) <;> (try ((with_reducible show wpAny _ _ (evalPart _ _) _ _ _); dsimp only))) | (dsimp only; walk1) | fail "no step")
    show wpAny _ _ (subscriptTail _ _ _ (Value.int (bitOf k k') _)) _ _ _
    refine item_str (by rcases bitOf01 k k' with h | h <;> rw [h] <;> rfl) (by rcases bitOf01 k k' with h | h <;> rw [h] <;> decide) (by rcases bitOf01 k k' with h | h <;> rw [h] <;> decide) ?_
    intro _
    exact LCg.CompEnd.intro F2 N2 _ (fun p hp => hp) off trivial ⟨rfl, _, rfl⟩
  · show ∀ _, _
    intro ys hC hl
    repeat' ((fail_if_success (with_reducible show (wpAny _ _ (call (Value.builtin "str.join") _ _) _ _ _))); first | (k_unfold; (try dsimp only)) | (k_end; wrow_close) | (walk1 <;> (try ((with_reducible show wpAny _ _ (spliced _) _ _ _); dsimp only)) <;> (try ((with_reducible show wpAny _ _ (newList _) _ _ _); dsimp only)) <;> (try ((with_reducible show wpAny _ _ (binaryOp _ _ _) _ _ _); dsimp only)) <;> (try ((with_reducible show wpAny _ _ (evalPart _ _) _ _ _); dsimp only))) | (dsimp only; walk1) | fail "no step")
    rename News h₀ L _ _ => N3
    dsimp only [List.cons_append, List.nil_append]
    refine KT.join_1 (g := letterOf k) ⟨_, N3.get (.head _), rfl, _, rfl⟩ hC (fun a _ => letter_len k a) (by rw [hl]; omega) ?_
    intro t' k2 hlen
    have N4 := newsSub N3 (fun q hq => .tail _ hq)
    clear N1 F1
    repeat' ((fail_if_success (with_reducible show (wpAny _ _ (call (Value.ref 95) _ _) _ _ _))); first | (k_unfold; (try dsimp only)) | (k_end; wrow_close) | (walk1 <;> (try ((with_reducible show wpAny _ _ (spliced _) _ _ _); dsimp only)) <;> (try ((with_reducible show wpAny _ _ (newList _) _ _ _); dsimp only)) <;> (try ((with_reducible show wpAny _ _ (binaryOp _ _ _) _ _ _); dsimp only)) <;> (try ((with_reducible show wpAny _ _ (evalPart _ _) _ _ _); dsimp only))) | (dsimp only; walk1) | fail "no step")
    rename Fr h₀ L _ _ => F5
    rename News h₀ L _ _ => N5
    obtain ⟨rl, rr, hrl, hrr, hsl, hsr, hbt⟩ := hlaw
    refine standC (rest := (L + 4, o4) :: (q, listOf us.toArray nn) :: (wd, LCg.lst wv) :: others) B F5 X (newsSub N5 ?y1) (hTab _ (newsSub N5 fun x hx => .tail _ (.tail _ (.tail _ hx)))) T rfl rfl rfl rfl (Nat.le_of_ble_eq_true rfl) (Nat.le_of_ble_eq_true rfl) CH ?y2 (.tail _ (.tail _ (.head _))) (by assumption) (by omega) (by omega) (by omega) hsl hsr ?y3
    case y1 =>
      intro x hx
      simp only [List.mem_cons] at hx ⊢
      rcases hx with h | h | h | h
      · simp [h]
      · simp [h]
      · simp [h]
      · exact .inr (.inr (.inr (hoth x h)))
    case y2 =>
      intro x hx
      simp only [List.mem_cons] at hx
      rcases hx with rfl | rfl | rfl | h
      · exact hne.2.2
      · exact hne.1
      · exact hne.2.1
      · exact ho9 x h
    case y3 =>
      intro h6 tk6 a6 b6 c6 u1 u2 u3 u4 F6 N6 T6 N7
      obtain ⟨rest2, hr2o, hr2T, N8⟩ : ∃ rest2, (∀ x ∈ others, x ∈ rest2) ∧ (∀ h, News h₀ L h rest2 → Tab2 h₀ L h) ∧ News h₀ L h6 rest2 := by
        obtain ⟨k1, k2, oc1, oc2, vs1, vs2, v1, v2, NT, r⟩ := T6
        refine ⟨others ++ _, fun x hx => List.mem_append_left _ hx, fun h NN => ⟨k1, k2, oc1, oc2, vs1, vs2, v1, v2, newsSub NN fun x hx => List.mem_append_right _ hx, r⟩, news_app (newsSub N6 fun x hx => .tail _ (.tail _ (.tail _ hx))) NT⟩
      have N9 : News h₀ L h6 ((a6, { cls := .type "tuple", data := .seq #[.ref b6, .ref c6] }) :: (b6, { cls := .type "tuple", data := .seq #[.int rl u1, .int rr u2] }) :: (c6, { cls := .type "tuple", data := .seq #[.int rl u3, .int rr u4] }) :: (L + 4, o4) :: (q, listOf us.toArray nn) :: (wd, LCg.lst wv) :: rest2) := by
        refine news_sub (news_app N7 (news_app (newsSub N6 (l' := [(L + 4, o4), (q, listOf us.toArray nn), (wd, LCg.lst wv)]) fun x hx => ?_) N8)) fun x hx => ?_
        · simp only [List.mem_cons, List.not_mem_nil, or_false] at hx ⊢
          rcases hx with h | h | h <;> simp [h]
        · simpa using hx
      clear N6 N7 N8 T6 N5 F5
      repeat' ((fail_if_success (with_reducible show (wpAny _ _ (call (Value.ref 88) _ _) _ _ _))); first | (k_unfold; (try dsimp only)) | (k_end; wrow_close) | (walk1 <;> (try ((with_reducible show wpAny _ _ (spliced _) _ _ _); dsimp only)) <;> (try ((with_reducible show wpAny _ _ (newList _) _ _ _); dsimp only)) <;> (try ((with_reducible show wpAny _ _ (binaryOp _ _ _) _ _ _); dsimp only)) <;> (try ((with_reducible show wpAny _ _ (evalPart _ _) _ _ _); dsimp only))) | (dsimp only; walk1) | fail "no step")
      have hx6 : (textOf k).length ≤ 6 := by
        show (Txt.join (Str.ofString "") (List.map (letterOf k) (rangeKs 0 (k.fmod 7).toNat))).length ≤ 6
        rw [hlen, hl]; omega
      refine betweenC (x := textOf k) (n := 3) (Cx.deep B F6 X T rfl rfl rfl (by decide) (by decide)) (News.isList N9 (.tail _ (.tail _ (.tail _ (.tail _ (.head _)))))) (by assumption) hul hx6 ?_
      intro h7 tk7 a7 w1 w2 st7 g7 n7
      rw [hbt] at g7
      have F7 := frStays F6 st7
      have N7 := newsAdd F6 N9 st7 g7 n7
      clear F6 N9 st7 g7 n7
      repeat' ((fail_if_success (with_reducible show (wpAny _ _ (call (Value.ref 88) _ _) _ _ _))); first | (k_unfold; (try dsimp only)) | (k_end; wrow_close) | (walk1 <;> (try ((with_reducible show wpAny _ _ (spliced _) _ _ _); dsimp only)) <;> (try ((with_reducible show wpAny _ _ (newList _) _ _ _); dsimp only)) <;> (try ((with_reducible show wpAny _ _ (binaryOp _ _ _) _ _ _); dsimp only)) <;> (try ((with_reducible show wpAny _ _ (evalPart _ _) _ _ _); dsimp only))) | (dsimp only; walk1) | fail "no step")
      refine betweenC (x := textOf k) (n := 3) (Cx.deep B F7 X T rfl rfl rfl (by decide) (by decide)) (News.isList N7 (.tail _ (.tail _ (.tail _ (.tail _ (.tail _ (.head _))))))) (by assumption) hul hx6 ?_
      intro h8 tk8 a8 w3 w4 st8 g8 n8
      rw [hbt] at g8
      have F8 := frStays F7 st8
      have N8 := newsAdd F7 N7 st8 g8 n8
      clear F7 N7 st8 g8 n8
      dsimp only at N8
      repeat' ((fail_if_success (with_reducible show False)); first | (k_unfold; (try dsimp only)) | (k_end; wrow_close) | (walk1 <;> (try ((with_reducible show wpAny _ _ (spliced _) _ _ _); dsimp only)) <;> (try ((with_reducible show wpAny _ _ (newList _) _ _ _); dsimp only)) <;> (try ((with_reducible show wpAny _ _ (binaryOp _ _ _) _ _ _); dsimp only)) <;> (try ((with_reducible show wpAny _ _ (evalPart _ _) _ _ _); dsimp only))) | (dsimp only; walk1) | fail "no step")
      rename News h₀ L _ (_ :: _ :: _ :: _ :: _ :: _ :: _ :: _ :: _ :: rest2) => NE
      refine hq _ _ _ (fun z hz => if_neg hz) (by assumption) (newsSub NE fun x hx => ?_) (hr2T _ (newsSub NE fun x hx => .tail _ (.tail _ (.tail _ (.tail _ (.tail _ (.tail _ (.tail _ (.tail _ (.tail _ hx))))))))))
      refine .tail _ (.tail _ (.tail _ (.tail _ (.tail _ (.tail _ ?_)))))
      show x ∈ (L + 4, o4) :: (q, listOf us.toArray nn) :: (wd, LCg.lst wv) :: rest2
      simp only [List.mem_cons] at hx ⊢
      rcases hx with h | h | h | h
      · simp [h]
      · simp [h]
      · simp [h]
      · exact .inr (.inr (.inr (hr2o x h)))
end
section
variable {w : World} {A : Around} {s : Shared} {Q : Flow → Shared → Prop} {E : Value → Shared → Prop} {h₀ : Heap} {L fa : Addr} {cd : Value} {m mg mb : Str → Option Value} {p : Program} {loose : List Str} {mean : ExcName → Option Value} {news : List (Addr × Obj)}
/-- a for whose target is a cell of law; the ledger's tail may change from turn to turn -/
theorem forCell2 {x : Str} {px : Pos} {body : List Stmt} {I c : Addr} {fp : List Addr} {n : Nat} {P : Nat → Value → Prop} {St : Nat → Heap → Prop} {o oI : Obj} {vo : Option Value} {fix rest₀ : List (Addr × Obj)} {R : Result → Shared → Prop} (Inv : Nat → (Str → Option Value) → List (Addr × Obj) → Prop) (PI : Obj → Prop)
    (W : Walks PySem.Challenge.rw_re0062_01.row.prog w (callerA.deeper (lawEnv L fa cd)) I fp [I] n P St) (hc : (cellsFrom (L + 1) lawScope.names []).lookup x = some c) (hx : (lawEnv L fa cd).kindOf x = some .cell)
    (F : Fr h₀ L s.heap m) (N : News h₀ L s.heap ((c, o) :: (I, oI) :: (fix ++ rest₀))) (ho : o.data = .cell vo) (hcr : ∀ p ∈ fix ++ rest₀, p.1 ≠ c) (hIr : ∀ p ∈ fix ++ rest₀, p.1 ≠ I) (hIc : I ≠ c) (hfp : ∀ b ∈ fp, b = I ∨ ∃ o, (b, o) ∈ fix) (hSI : ∀ i h, St i h → ∃ o, h.get? I = some o ∧ PI o) (hst : St 0 s.heap) (h0 : Inv 0 m rest₀)
    (turn : ∀ i v h tk m₁ o₁ oI' rest, i < n → P i v → o₁.data = .cell (some v) → PI oI' → Inv i m₁ rest → (∀ p ∈ fix ++ rest, p.1 ≠ c) → (∀ p ∈ fix ++ rest, p.1 ≠ I) → Fr h₀ L h m₁ → News h₀ L h ((c, o₁) :: (I, oI') :: (fix ++ rest)) →
      wpAny (model PySem.Challenge.rw_re0062_01.row.prog w) (callerA.deeper (lawEnv L fa cd)) (execs body (lawEnv L fa cd)) (fun f s' => match f with
        | .ret v => R (.ok (.ret v)) s'
        | .brk => R (.ok .next) s'
        | _ => ∃ h' tk' m' rest', s' = { s with heap := h', toks := tk' } ∧ Inv (i + 1) m' rest' ∧ (∀ p ∈ fix ++ rest', p.1 ≠ c) ∧ (∀ p ∈ fix ++ rest', p.1 ≠ I) ∧ Fr h₀ L h' m' ∧ News h₀ L h' ((c, o₁) :: (I, oI') :: (fix ++ rest'))) (fun _ _ => False) { s with heap := h, toks := tk })
    (done : ∀ h tk m₁ o₁ vo rest, o₁.data = .cell vo → Inv n m₁ rest → Fr h₀ L h m₁ → News h₀ L h ((c, o₁) :: (fix ++ rest)) → R (.ok .next) { s with heap := h, toks := tk }) :
    codeAny (model PySem.Challenge.rw_re0062_01.row.prog w) (callerA.deeper (lawEnv L fa cd)) (.forLoop (.Name x px) (.ref I) body [] (lawEnv L fa cd)) R s := by
  have hnI : @Ne Nat I L := (N _ (.tail _ (.head _))).2.1
  have h0I : h₀.get? I = none := (N _ (.tail _ (.head _))).2.2
  refine codeAny_forLoop (fun k s' => ∃ h' tk m' o' oI' vo' i rest, s' = { s with heap := h', toks := tk } ∧ St i h' ∧ o'.data = .cell vo' ∧ Fr h₀ L h' m' ∧ News h₀ L h' ((c, o') :: (I, oI') :: (fix ++ rest)) ∧ (∀ p ∈ fix ++ rest, p.1 ≠ c) ∧ (∀ p ∈ fix ++ rest, p.1 ≠ I) ∧ Inv i m' rest ∧ i ≤ n ∧ k = n + 1 - i) ?_ (n + 1)
    ⟨s.heap, s.toks, m, o, oI, vo, 0, rest₀, rfl, hst, ho, F, N, hcr, hIr, h0, Nat.zero_le _, rfl⟩
  rintro k s' ⟨h', tk, m', o', oI', vo', i, rest, rfl, hst', ho', F', N', hcr, hIr, hJ, hi, rfl⟩
  have next : ∀ h₁ : Heap, (∀ b o, b ∉ [I] → h'.get? b = some o → h₁.get? b = some o) → Fr h₀ L h₁ m' ∧ News h₀ L h₁ ((c, o') :: (fix ++ rest)) := fun h₁ hk₁ =>
    ⟨⟨F'.ns.at' fun o e => hk₁ _ o (fun hm => hnI (List.mem_singleton.mp hm).symm) e, fun b o e => hk₁ b o (fun hm => by rw [List.mem_singleton.mp hm, h0I] at e; cases e) (F'.keep b o e), F'.above⟩, fun q hq => by
      rcases List.mem_cons.mp hq with rfl | hq
      · exact ⟨hk₁ _ _ (fun hm => hIc (List.mem_singleton.mp hm).symm) (N' _ (.head _)).1, (N' _ (.head _)).2⟩
      · exact ⟨hk₁ _ _ (fun hm => hIr q hq (List.mem_singleton.mp hm)) (N' _ (.tail _ (.tail _ hq))).1, (N' _ (.tail _ (.tail _ hq))).2⟩⟩
  by_cases hlt : i < n
  · refine W.item i _ _ _ hlt hst' fun v h₁ tk₁ hP hst₁ hk₁ => ?_
    obtain ⟨F₁, N₁⟩ := next h₁ hk₁
    obtain ⟨oI₁, hoI₁, hPI₁⟩ := hSI _ _ hst₁
    have N₁' : News h₀ L h₁ ((c, o') :: (I, oI₁) :: (fix ++ rest)) := by
      intro q hq
      rcases List.mem_cons.mp hq with rfl | hq
      · exact N₁ _ (.head _)
      rcases List.mem_cons.mp hq with rfl | hq
      · exact ⟨hoI₁, hnI, h0I⟩
      · exact N₁ _ (.tail _ hq)
    have fr : ∀ (ha hb : Heap) oc oc' ra rb, St (i + 1) ha → News h₀ L ha ((c, oc) :: (I, oI₁) :: (fix ++ ra)) → News h₀ L hb ((c, oc') :: (I, oI₁) :: (fix ++ rb)) → St (i + 1) hb := by
      intro ha hb oc oc' ra rb hs Na Nb
      refine W.frame _ _ _ hs fun b hb' o e => ?_
      rcases hfp b hb' with rfl | ⟨o2, hm⟩
      · rw [(Na _ (.tail _ (.head _))).1] at e; rw [← e]; exact (Nb _ (.tail _ (.head _))).1
      · have := (Na _ (.tail _ (.tail _ (List.mem_append_left _ hm)))).1; rw [this] at e; rw [← e]; exact (Nb _ (.tail _ (.tail _ (List.mem_append_left _ hm)))).1
    refine wpAny_assign_Name ?_
    refine storeX_C (c := c) (cs := lawScope) (cl := cellsFrom (L + 1) lawScope.names []) F₁ N₁' hc (.head ?_) ho' ?_ rfl hx
    · intro q hq
      rcases List.mem_cons.mp hq with rfl | hq
      · exact hIc
      · exact hcr q hq
    intro h₂ o₂ F₂ N₂ d₂
    have st₂ := fr _ _ _ _ _ _ hst₁ N₁' N₂
    refine wpAny_mono (turn i v h₂ tk₁ m' o₂ oI₁ rest hlt hP d₂ hPI₁ hJ hcr hIr F₂ N₂) (fun f s₃ h₃ => ?_) (fun _ _ x => x.elim)
    cases f with
    | ret v => exact h₃
    | brk => exact h₃
    | next =>
      obtain ⟨h₃', tk₃, m₃, r₃, rfl, hJ₃, hc₃, hI₃, F₃, N₃⟩ := h₃
      exact ⟨n + 1 - (i + 1), by omega, h₃', tk₃, m₃, o₂, oI₁, _, i + 1, r₃, rfl, fr _ _ _ _ _ _ st₂ N₂ N₃, d₂, F₃, N₃, hc₃, hI₃, hJ₃, hlt, rfl⟩
    | cont =>
      obtain ⟨h₃', tk₃, m₃, r₃, rfl, hJ₃, hc₃, hI₃, F₃, N₃⟩ := h₃
      exact ⟨n + 1 - (i + 1), by omega, h₃', tk₃, m₃, o₂, oI₁, _, i + 1, r₃, rfl, fr _ _ _ _ _ _ st₂ N₂ N₃, d₂, F₃, N₃, hc₃, hI₃, hJ₃, hlt, rfl⟩
  · have hin : i = n := by omega
    subst hin
    refine W.done _ _ _ hst' fun h₁ tk₁ hk₁ => wpAny_execs_nil ?_
    obtain ⟨F₁, N₁⟩ := next h₁ hk₁
    exact done h₁ tk₁ m' o' vo' rest ho' hJ F₁ N₁
end
section
local macro_rules | `(tactic| walk_at "zz0") => `(tactic| fail)
local macro_rules | `(tactic| walk_at "zz1") => `(tactic| fail)
theorem rst25 : True := by
  w_top off
  first | walk1 | trivial
end
section
variable {w : World} {A : Around} {s : Shared} {Q : Flow → Shared → Prop} {E : Value → Shared → Prop} {h₀ : Heap} {L fa : Addr} {cd : Value} {m mg mb : Str → Option Value} {p : Program} {loose : List Str} {mean : ExcName → Option Value} {news : List (Addr × Obj)}
local macro_rules | `(tactic| walk_at "subscriptTail Name Slice ref ref") => `(tactic| (k_here; (with_reducible show wpAny _ _ (subscriptTail _ (PySem.Expr.Slice _ _ none _) (Value.ref _) (Value.ref _)) _ _ _); k_dflt (refine' kmk_slice_ints ?F ?N ?l ?p ?q ?i ?m ?c ?_ ?s ?t ?z; (case F => k_asm); (case N => k_asm); (case l => kmk_list); (case p => kmk_part); (case q => kmk_part); (case i => l_ints); (case m => first | exact kmk_from (by l_ints) (by decide) | kmk_nums); (case c => kmk_len); (case s => with_unfolding_all rfl); (case t => kmk_pure); (case z => kmk_size)); intro D' ws' h' F' N' l1 hI' hC' hL'; (try simp only [Int.reduceNeg, Int.neg_neg, Int.reduceToNat] at hI' hC' hL'); (try k_lt l1); (try k_sweep)))
set_option maxHeartbeats 4000000 in
theorem s14 {a q wd : Addr} {dv us wv : List Value} {dn un : List Int} {ws : List Str} {nn : Nat} {o4 : Obj} (B : Below callerA h₀ [] h₀) (F : Fr h₀ L s.heap m)
    (X : (hd.heap_39 w.params).In h₀) (T : Top p loose mean mg mb h₀) (N : News h₀ L s.heap [(a, listOf dv.toArray 0), (L + 4, o4), (q, listOf us.toArray nn), (wd, LCg.lst wv), (90, tabObj #[])]) (hc : o4.data = .cell none) (hE1 : m (Str.ofString "drawn") = some (.ref a)) (hE2 : m (Str.ofString "sums") = some (.ref q)) (hE3 : m (Str.ofString "words") = some (.ref wd))
    (hdv : IntsAre dv dn) (hdl : dn.length = 5) (hus : IntsAre us un) (hul : un.length ≤ 5) (hwv : StrsAre wv ws) (hwl : ws.length = 16) (hdn : ∀ k ∈ dn, 0 ≤ k ∧ k < 1000000)
    (hne : @Ne Nat q 90 ∧ @Ne Nat wd 90 ∧ @Ne Nat (L + 4) 90) (hne4 : @Ne Nat q (L + 4) ∧ @Ne Nat wd (L + 4)) (CH : CodeHd h₀ 94 90) (hlaw : ∀ k, TextLaw ws un (textOf k))
    (hq : ∀ h' tk m', Fr h₀ L h' m' → TabOk h₀ L h' → Q .next { s with heap := h', toks := tk }) :
    wpAny (model PySem.Challenge.rw_re0062_01.row.prog w) (callerA.deeper (lawEnv L fa cd)) (execs [lawStmt 14] (lawEnv L fa cd)) Q (fun _ _ => False) s := by
  w_on
  revert X
  k_fill
  intro X
  conv => enter [3, 1, 1]; whnf
  dsimp only [lawEnv] at F ⊢
  k_with "pyIter ref" => skip
  repeat' ((fail_if_success (with_reducible show (wpAny _ _ (exec (Stmt.For _ _ _ _ _) _) _ _ _))); first | (k_unfold; (try dsimp only)) | (k_end; wrow_close) | (walk1 <;> (try ((with_reducible show wpAny _ _ (spliced _) _ _ _); dsimp only)) <;> (try ((with_reducible show wpAny _ _ (newList _) _ _ _); dsimp only)) <;> (try ((with_reducible show wpAny _ _ (binaryOp _ _ _) _ _ _); dsimp only)) <;> (try ((with_reducible show wpAny _ _ (evalPart _ _) _ _ _); dsimp only))) | (dsimp only; walk1) | fail "no step")
  refine wpAny_For ?_ (fun _ => rfl)
  repeat' ((fail_if_success (with_reducible show (wpAny _ _ (pyIter _) _ _ _))); first | (k_unfold; (try dsimp only)) | (k_end; wrow_close) | (walk1 <;> (try ((with_reducible show wpAny _ _ (spliced _) _ _ _); dsimp only)) <;> (try ((with_reducible show wpAny _ _ (newList _) _ _ _); dsimp only)) <;> (try ((with_reducible show wpAny _ _ (binaryOp _ _ _) _ _ _); dsimp only)) <;> (try ((with_reducible show wpAny _ _ (evalPart _ _) _ _ _); dsimp only))) | (dsimp only; walk1) | fail "no step")
  rename_i D ws' h1 F9 N9 hI9 _ _ l1
  refine wpAny_pyIter_list (News.isList N9 (.head _)) ?_
  have hLlt := F9.ns.lt
  have hl9 := hI9.length
  have hDlt := Heap.lt_size (N9 _ (.head _)).1
  have h90 := Heap.lt_size (N9 _ (.tail _ (.tail _ (.tail _ (.tail _ (.tail _ (.head _))))))).1
  have hDl := l1.2.1
  have hD9 := l1.2.2.2.2
  dsimp only at hDlt h90 hLlt hDl hD9 ⊢
  refine forCell2 (c := L + 4) (oI := { cls := .type "list_iterator", data := .fields #[.ref D, .int 0 0] }) (fix := [(D, listOf ws'.toArray 0), (q, listOf us.toArray nn), (wd, LCg.lst wv)]) (rest₀ := [(90, tabObj #[])])
    (fun _ m' ext => (∀ z, z ≠ Str.ofString "text" → m' z = m z) ∧ (∀ h, News h₀ L h ext → TabOk h₀ L h)) (fun o => ∃ l i, o.data = .fields #[.ref l, .int i 0])
    (Walks.list rfl h1.objs.size D (Nat.ne_of_lt hDlt) ws'.toArray) rfl rfl (F9.push _) (fun x hx => ?z1) hc (fun x hx => ?z2) (fun x hx => ?z3) ?z4 (fun b hb => ?z5) (fun i h st => ?z6) ?z7 ⟨fun _ _ => rfl, fun h N => .inl N⟩ ?z8 ?z9
  case z1 =>
    rcases List.mem_cons.mp hx with rfl | hx
    · exact ⟨Heap.get?_push_of_some _ (N9 _ (.tail _ (.tail _ (.head _)))).1, (N9 _ (.tail _ (.tail _ (.head _)))).2⟩
    rcases List.mem_cons.mp hx with rfl | hx
    · exact ⟨Heap.get?_push_size _ rfl, Nat.ne_of_gt hLlt, next_is_new F9⟩
    have hx' : x ∈ [(D, listOf ws'.toArray 0), (a, listOf dv.toArray 0), (L + 4, o4), (q, listOf us.toArray nn), (wd, LCg.lst wv), (90, tabObj #[])] := by
      simp only [List.mem_append, List.mem_cons, List.not_mem_nil, or_false] at hx ⊢
      rcases hx with (h | h | h) | h <;> simp [h]
    exact ⟨Heap.get?_push_of_some _ (N9 _ hx').1, (N9 _ hx').2⟩
  case z2 =>
    simp only [List.mem_append, List.mem_cons, List.not_mem_nil, or_false] at hx
    rcases hx with (h | h | h) | h <;> subst h
    · exact Nat.ne_of_gt hDl
    · exact hne4.1
    · exact hne4.2
    · exact fun e => hne.2.2 e.symm
  case z3 =>
    have hx' : x ∈ [(D, listOf ws'.toArray 0), (a, listOf dv.toArray 0), (L + 4, o4), (q, listOf us.toArray nn), (wd, LCg.lst wv), (90, tabObj #[])] := by
      simp only [List.mem_append, List.mem_cons, List.not_mem_nil, or_false] at hx ⊢
      rcases hx with (h | h | h) | h <;> simp [h]
    exact Nat.ne_of_lt (Heap.lt_size (N9 _ hx').1)
  case z4 => exact Nat.ne_of_gt (Heap.lt_size (N9 _ (.tail _ (.tail _ (.head _)))).1)
  case z5 =>
    rcases List.mem_cons.mp hb with rfl | hb
    · exact .inl rfl
    · rw [List.mem_singleton.mp hb]; exact .inr ⟨_, .head _⟩
  case z6 => obtain ⟨o, e, _, d⟩ := st.1; exact ⟨o, e, _, _, d⟩
  case z7 =>
    refine ⟨⟨_, Heap.get?_push_size _ rfl, rfl, rfl⟩, ?_⟩
    exact (News.isList N9 (.head _)).push _
  case z8 =>
    rintro i v h tk' m₁ o₁ oI' ext hi hP ho₁ ⟨lI, iI, hPI⟩ ⟨hJ, hTab⟩ hcr hIr F8 N8
    have hi' : i < (List.drop 2 dn).length := by
      have : ws'.toArray.size = ws'.length := by simp
      omega
    obtain ⟨t, ht⟩ := hI9.get i _ (List.getElem?_eq_getElem hi')
    have hv : v = Value.int (List.drop 2 dn)[i] t := by
      rw [List.getElem?_toArray, ht] at hP; exact (Option.some.inj hP).symm
    have hkm := hdn _ (List.mem_of_mem_drop (List.getElem_mem hi'))
    generalize (List.drop 2 dn)[i] = k at hv hkm
    subst hv
    refine textTurn (k := k) (t := t) (nn := nn) (rest := (h1.objs.size, oI') :: (D, listOf ws'.toArray 0) :: ext) (others := [(h1.objs.size, oI'), (D, listOf ws'.toArray 0)]) B F8 X T (newsSub N8 fun x hx => ?y1) ho₁ ((hJ _ (by decide)).trans hE2) ((hJ _ (by decide)).trans hE3) hus hul hwv hwl hkm (fun x hx => ?y2) (fun h N => hTab h (newsSub N fun x hx => .tail _ (.tail _ hx))) hne (fun x hx => ?y3) CH (hlaw k) ?y4
    case y1 =>
      simp only [List.mem_append, List.mem_cons, List.not_mem_nil, or_false] at hx ⊢
      rcases hx with h | h | h | h | h | h <;> simp [h]
    case y2 =>
      simp only [List.mem_cons, List.not_mem_nil, or_false] at hx ⊢
      rcases hx with h | h <;> simp [h]
    case y3 =>
      simp only [List.mem_cons, List.not_mem_nil, or_false] at hx
      rcases hx with h | h <;> subst h
      · exact Nat.ne_of_gt h90
      · exact Nat.ne_of_gt hD9
    case y4 =>
      intro h7 tk7 m7 hm7 F7 N7 T7
      obtain ⟨k1, k2, oc1, oc2, vs1, vs2, v1, v2, NT, e1, e2, e3, e4, e5, e6⟩ := T7
      have g4 := (N7 _ (.head _)).1
      have gI := (N7 _ (.tail _ (.tail _ (.tail _ (.head _))))).1
      have g1 := (NT _ (.tail _ (.head _))).1
      have g2 := (NT _ (.tail _ (.tail _ (.head _)))).1
      dsimp only at g4 gI g1 g2
      have off4 : ∀ (kk : Addr) (oc : Obj) (vs : Array Value), h7.get? kk = some oc → oc.data = .fields vs → kk ≠ L + 4 := by
        intro kk oc vs g e q
        rw [q, g4] at g
        rw [← Option.some.inj g, ho₁] at e; cases e
      have offI : ∀ (kk : Addr) (oc : Obj) (vs : Array Value) (tt : Tok), h7.get? kk = some oc → oc.data = .fields vs → vs[1]? = some (.str lamQual tt) → kk ≠ h1.objs.size := by
        intro kk oc vs tt g e e' q
        rw [q, gI] at g
        rw [← Option.some.inj g, hPI] at e
        have e := Data.fields.inj e
        rw [← e] at e'
        cases e'
      have ea := off4 _ _ _ g1 e1
      have eb := off4 _ _ _ g2 e3
      have ec := offI _ _ _ _ g1 e1 e2
      have ed := offI _ _ _ _ g2 e3 e4
      refine ⟨h7, tk7, m7, [(90, tabObj #[rawInt 135, rawInt 0, .ref k1, rawInt 136, rawInt 0, .ref k2]), (k1, oc1), (k2, oc2)], rfl, ⟨fun z hz => (hm7 z hz).trans (hJ z hz), fun h N => .inr ⟨k1, k2, oc1, oc2, vs1, vs2, v1, v2, N, e1, e2, e3, e4, e5, e6⟩⟩, fun x hx => ?x1, fun x hx => ?x2, F7, fun x hx => ?x3⟩
      case x1 =>
        rcases List.mem_append.mp hx with h | h
        · exact hcr x (List.mem_append_left _ h)
        · simp only [List.mem_cons, List.not_mem_nil, or_false] at h
          rcases h with h | h | h <;> subst h
          · exact fun e => hne.2.2 e.symm
          · exact ea
          · exact eb
      case x2 =>
        rcases List.mem_append.mp hx with h | h
        · exact hIr x (List.mem_append_left _ h)
        · simp only [List.mem_cons, List.not_mem_nil, or_false] at h
          rcases h with h | h | h <;> subst h
          · exact Nat.ne_of_lt h90
          · exact ec
          · exact ed
      case x3 =>
        rcases List.mem_cons.mp hx with rfl | hx
        · exact N7 _ (.head _)
        rcases List.mem_cons.mp hx with rfl | hx
        · exact N7 _ (.tail _ (.tail _ (.tail _ (.head _))))
        rcases List.mem_append.mp hx with h | h
        · refine N7 x ?_
          simp only [List.mem_cons, List.not_mem_nil, or_false] at h ⊢
          rcases h with h | h | h <;> simp [h]
        · exact NT x h
  case z9 =>
    rintro h tk' m₁ o₁ vo ext ho₁ ⟨hJ, hTab⟩ F8 N8
    refine wpAny_execs_nil ?_
    exact hq _ _ _ F8 (hTab _ (newsSub N8 fun x hx => .tail _ (List.mem_append_right _ hx)))
end
end
end Mine
namespace Mine
/-- lists of one length in front decide first -/
theorem lt_app {l l' r r' : List Nat} (h : l.length = l'.length) : (l ++ r < l' ++ r') ↔ (l < l' ∨ (l = l' ∧ r < r')) := by
  induction l generalizing l' with
  | nil => cases l' with
    | nil => simp
    | cons b l' => simp at h
  | cons a l ih => cases l' with
    | nil => simp at h
    | cons b l' =>
      have e := ih (l' := l') (by simpa using h)
      rw [List.cons_append, List.cons_append, List.cons_lt_cons_iff, List.cons_lt_cons_iff, e, List.cons.injEq]
      constructor
      · rintro (h1 | ⟨h1, h2 | ⟨h2, h3⟩⟩)
        · exact .inl (.inl h1)
        · exact .inl (.inr ⟨h1, h2⟩)
        · exact .inr ⟨⟨h1, h2⟩, h3⟩
      · rintro ((h1 | ⟨h1, h2⟩) | ⟨⟨h1, h2⟩, h3⟩)
        · exact .inl h1
        · exact .inr ⟨h1, .inl h2⟩
        · exact .inr ⟨h1, .inr ⟨h2, h3⟩⟩
theorem sumsOf_cons (x : Int) (r : List Int) : sumsOf (x :: r) = x :: (sumsOf r).map (fun y => x + y) := by
  simp [sumsOf, List.range_succ_eq_map, List.map_map, Function.comp_def]
theorem word_cmp : ∀ (r : List Int) (q q' : Int), (∀ x ∈ r, 1 ≤ x ∧ x ≤ 15) → q ≤ q' → q / 16 = q' / 16 →
    (wordA q r = wordA q' r ∧ ∀ S ∈ sumsOf r, (q + S) / 16 = (q' + S) / 16) ∨ (wordA q r < wordA q' r ∧ ∃ S ∈ sumsOf r, (q + S) / 16 ≠ (q' + S) / 16)
  | [], q, q', _, _, _ => .inl ⟨rfl, fun S hS => nomatch hS⟩
  | x :: r, q, q', hx, h1, h2 => by
    have hx1 := hx x (.head _)
    have hr : ∀ y ∈ r, 1 ≤ y ∧ y ≤ 15 := fun y hy => hx y (.tail _ hy)
    rw [sumsOf_cons]
    by_cases hc : (q + x) / 16 = (q' + x) / 16
    · have e : ((q + x) % 16 < q % 16) ↔ ((q' + x) % 16 < q' % 16) := by omega
      have e' : (if (q + x) % 16 < q % 16 then 98 else 97) = (if (q' + x) % 16 < q' % 16 then 98 else 97) := by simp only [e]
      rcases word_cmp r (q + x) (q' + x) hr (by omega) hc with ⟨e1, e2⟩ | ⟨e1, S, hS, e2⟩
      · refine .inl ⟨by rw [wordA, wordA, e', e1], ?_⟩
        intro S hS
        rcases List.mem_cons.mp hS with rfl | hS
        · exact hc
        · obtain ⟨y, hy, rfl⟩ := List.mem_map.mp hS
          have := e2 y hy
          rw [Int.add_assoc, Int.add_assoc] at this; exact this
      · refine .inr ⟨by rw [wordA, wordA, e', List.cons_lt_cons_iff]; exact .inr ⟨rfl, e1⟩, x + S, .tail _ (List.mem_map.mpr ⟨S, hS, rfl⟩), ?_⟩
        rw [Int.add_assoc, Int.add_assoc] at e2; exact e2
    · have n1 : ¬ (q + x) % 16 < q % 16 := by omega
      have n2 : (q' + x) % 16 < q' % 16 := by omega
      refine .inr ⟨?_, x, .head _, hc⟩
      rw [wordA, wordA, if_neg n1, if_pos n2, List.cons_lt_cons_iff]; exact .inl (by decide)
theorem lt_irr (a : List Nat) : ¬ a < a := List.lt_irrefl a
theorem lt_as {a b : List Nat} (h : a < b) : ¬ b < a := List.lt_asymm h
/-- of two hues' words one is below the other just where a mark lies between -/
theorem wlt {sn : List Int} (hs : ∀ x ∈ sn, 1 ≤ x ∧ x ≤ 15) {i k : Int} (hi : 0 ≤ i ∧ i < 16) (hk : 0 ≤ k ∧ k < 16) : wordA i sn < wordA k sn ↔ ∃ S ∈ sumsOf sn, i < (-S).fmod 16 ∧ (-S).fmod 16 ≤ k := by
  by_cases hik : i ≤ k
  · rcases word_cmp sn i k hs hik (by omega) with ⟨e1, e2⟩ | ⟨e1, S, hS, e2⟩
    · constructor
      · intro h; rw [e1] at h; exact (lt_irr _ h).elim
      · rintro ⟨S, hS, h1, h2⟩
        have := e2 S hS
        rw [Int.fmod_eq_emod_of_nonneg _ (by decide)] at h1 h2
        omega
    · refine ⟨fun _ => ⟨S, hS, ?_⟩, fun _ => e1⟩
      rw [Int.fmod_eq_emod_of_nonneg _ (by decide)]
      omega
  · constructor
    · intro h
      rcases word_cmp sn k i hs (by omega) (by omega) with ⟨e1, _⟩ | ⟨e1, _⟩
      · rw [e1] at h; exact (lt_irr _ h).elim
      · exact (lt_as e1 h).elim
    · rintro ⟨S, _, h1, h2⟩; omega
theorem wordsGet {sn : List Int} {i : Nat} {v : Str} (h : (wordsL sn)[i]? = some v) : i < 16 ∧ v.cps.toList = wordA (i : Int) sn := by
  unfold wordsL rangeKs at h
  rw [List.map_map, List.getElem?_map] at h
  by_cases hi : i < 16
  · rw [List.getElem?_range hi] at h
    simp at h
    subst h
    exact ⟨hi, by simp⟩
  · rw [List.getElem?_eq_none (by simp; omega)] at h; simp at h
theorem wordsD {sn : List Int} {k : Int} (h : 0 ≤ k ∧ k < 16) : ((wordsL sn).getD k.toNat Str.empty).cps.toList = wordA k sn := by
  have hl : (wordsL sn).length = 16 := by simp [wordsL, rangeKs]
  have e : (wordsL sn)[k.toNat]? = some ((wordsL sn).getD k.toNat Str.empty) := by
    rw [List.getD_eq_getElem?_getD, List.getElem?_eq_getElem (by omega)]; rfl
  rw [(wordsGet e).2, Int.toNat_of_nonneg h.1]
theorem signLaw {sn : List Int} (hs : ∀ x ∈ sn, 1 ≤ x ∧ x ≤ 15) (k : Int) (h0 : 0 ≤ k) (h1 : k < 15) : SignLaw (marksOf (sumsOf sn)) k ((wordsL sn).getD k.toNat Str.empty) ((wordsL sn).getD (k + 1).toNat Str.empty) := by
  have ea := wordsD (sn := sn) (k := k) (by omega)
  have eb := wordsD (sn := sn) (k := k + 1) (by omega)
  have c1 := wlt hs (i := k) (k := k + 1) (by omega) (by omega)
  have c2 := wlt hs (i := k + 1) (k := k) (by omega) (by omega)
  have n2 : ¬ wordA (k + 1) sn < wordA k sn := by
    rw [c2]; rintro ⟨S, _, h1, h2⟩; omega
  unfold SignLaw
  rw [ea, eb]
  refine ⟨fun h => ⟨c1.mpr ?_, n2⟩, fun h => ⟨fun h' => ?_, n2⟩⟩
  · obtain ⟨x, hx, e⟩ := List.any_eq_true.mp h
    obtain ⟨S, hS, rfl⟩ := List.mem_map.mp hx
    have e := eq_of_beq e
    exact ⟨S, hS, by omega, by omega⟩
  · obtain ⟨S, hS, h2, h3⟩ := c1.mp h'
    have : ((marksOf (sumsOf sn)).any fun x => x == k + 1) = true := by
      refine List.any_eq_true.mpr ⟨(-S).fmod 16, List.mem_map.mpr ⟨S, hS, rfl⟩, ?_⟩
      exact beq_iff_eq.mpr (by omega)
    rw [this] at h; cases h
theorem memFold {P : Int → Prop} [DecidablePred P] (mn : List Int) : ∀ (l : List Int) (x : Int), x ∈ mn.foldl (fun l x => if P x then l ++ [x] else l) l ↔ x ∈ l ∨ (x ∈ mn ∧ P x) := by
  induction mn with
  | nil => intro l x; simp
  | cons a r ih =>
    intro l x
    rw [List.foldl_cons, ih]
    by_cases ha : P a
    · rw [if_pos ha]; simp only [List.mem_append, List.mem_cons, List.not_mem_nil, or_false]
      constructor
      · rintro ((h | rfl) | h)
        · exact .inl h
        · exact .inr ⟨.inl rfl, ha⟩
        · exact .inr ⟨.inr h.1, h.2⟩
      · rintro (h | ⟨rfl | h, h2⟩)
        · exact .inl (.inl h)
        · exact .inl (.inr rfl)
        · exact .inr ⟨h, h2⟩
    · rw [if_neg ha]; simp only [List.mem_cons]
      constructor
      · rintro (h | h)
        · exact .inl h
        · exact .inr ⟨.inr h.1, h.2⟩
      · rintro (h | ⟨rfl | h, h2⟩)
        · exact .inl h
        · exact (ha h2).elim
        · exact .inr ⟨h, h2⟩
theorem memUp {mn : List Int} {k x : Int} : x ∈ [0] ++ upTo mn k ↔ x = 0 ∨ (x ∈ mn ∧ x ≤ k) := by
  unfold upTo; rw [List.mem_append, memFold (P := fun x => x ≤ k)]; simp
theorem memBeh {mn : List Int} {k x : Int} : x ∈ [16] ++ behindOf mn k ↔ x = 16 ∨ (x ∈ mn ∧ k < x) := by
  unfold behindOf; rw [List.mem_append, memFold (P := fun x => k < x)]; simp
theorem hasMax : ∀ (l : List Int) (a : Int), ∃ M ∈ a :: l, ∀ x ∈ a :: l, x ≤ M
  | [], a => ⟨a, .head _, fun x hx => by rw [List.mem_singleton.mp hx]; exact Int.le_refl _⟩
  | b :: l, a => by
    obtain ⟨M, hM, h⟩ := hasMax l b
    by_cases c : a ≤ M
    · exact ⟨M, .tail _ hM, fun x hx => by rcases List.mem_cons.mp hx with rfl | hx; exact c; exact h x hx⟩
    · exact ⟨a, .head _, fun x hx => by
        rcases List.mem_cons.mp hx with rfl | hx
        · exact Int.le_refl _
        · have := h x hx; omega⟩
theorem hasMin : ∀ (l : List Int) (a : Int), ∃ M ∈ a :: l, ∀ x ∈ a :: l, M ≤ x
  | [], a => ⟨a, .head _, fun x hx => by rw [List.mem_singleton.mp hx]; exact Int.le_refl _⟩
  | b :: l, a => by
    obtain ⟨M, hM, h⟩ := hasMin l b
    by_cases c : M ≤ a
    · exact ⟨M, .tail _ hM, fun x hx => by rcases List.mem_cons.mp hx with rfl | hx; exact c; exact h x hx⟩
    · exact ⟨a, .head _, fun x hx => by
        rcases List.mem_cons.mp hx with rfl | hx
        · exact Int.le_refl _
        · have := h x hx; omega⟩
theorem marks_b {un : List Int} : ∀ x ∈ marksOf un, 0 ≤ x ∧ x < 16 := by
  intro x hx
  obtain ⟨S, _, rfl⟩ := List.mem_map.mp hx
  rw [Int.fmod_eq_emod_of_nonneg _ (by decide)]
  omega
theorem hereLaw {sn : List Int} (hs : ∀ x ∈ sn, 1 ≤ x ∧ x ≤ 15) (k : Int) (h0 : 0 ≤ k) (h1 : k < 16) : HereLaw (marksOf (sumsOf sn)) (wordsL sn) k ((wordsL sn).getD k.toNat Str.empty) := by
  obtain ⟨M, hM, hMx⟩ := hasMax (upTo (marksOf (sumsOf sn)) k) 0
  obtain ⟨R, hR, hRx⟩ := hasMin (behindOf (marksOf (sumsOf sn)) k) 16
  have ek := wordsD (sn := sn) (k := k) ⟨h0, h1⟩
  have hM' := memUp.mp hM
  have hR' := memBeh.mp hR
  have M0 : 0 ≤ M := hMx 0 (.head _)
  have R16 : R ≤ 16 := hRx 16 (.head _)
  have M16 : M ≤ 16 := by
    rcases hM' with h | h
    · omega
    · have := marks_b _ h.1; omega
  have R0 : 0 ≤ R := by
    rcases hR' with h | h
    · omega
    · have := marks_b _ h.1; omega
  refine ⟨M.toNat, R.toNat, by omega, by omega, fun i v hv => ?_, fun i v hv => ?_, fun M' hM2 hM3 => ?_, fun M' hM2 hM3 => ?_⟩
  · obtain ⟨hi, e⟩ := wordsGet hv
    rw [e, ek, wlt hs (by omega) (by omega)]
    constructor
    · rintro ⟨S, hS, h2, h3⟩
      have := hMx _ (memUp.mpr (.inr ⟨List.mem_map.mpr ⟨S, hS, rfl⟩, h3⟩)); omega
    · intro h
      rcases hM' with h' | ⟨h', h3⟩
      · omega
      · obtain ⟨S, hS, rfl⟩ := List.mem_map.mp h'
        exact ⟨S, hS, by omega, h3⟩
  · obtain ⟨hi, e⟩ := wordsGet hv
    rw [e, ek, wlt hs (by omega) (by omega)]
    constructor
    · rintro ⟨S, hS, h2, h3⟩
      have := hRx _ (memBeh.mpr (.inr ⟨List.mem_map.mpr ⟨S, hS, rfl⟩, h2⟩)); omega
    · intro h
      rcases hR' with h' | ⟨h', h3⟩
      · omega
      · obtain ⟨S, hS, rfl⟩ := List.mem_map.mp h'
        exact ⟨S, hS, h3, by omega⟩
  · have a1 := hM3 _ hM
    have a2 := hMx _ hM2
    omega
  · have a1 := hM3 _ hR
    have a2 := hRx _ hM2
    omega
end Mine
namespace Mine
theorem wordA_app (q : Int) (a b : List Int) : wordA q (a ++ b) = wordA q a ++ wordA (q + a.sum) b := by
  induction a generalizing q with
  | nil => simp [wordA]
  | cons x r ih => simp only [List.cons_append, wordA, ih, List.sum_cons, Int.add_assoc]
theorem wordA_len (q : Int) (a : List Int) : (wordA q a).length = a.length := by
  induction a generalizing q with
  | nil => rfl
  | cons x r ih => simp only [wordA, List.length_cons, ih]
theorem sumsOf_get {sn : List Int} {k : Nat} (h : k < sn.length) : (sumsOf sn).getD k 0 = (sn.take (k + 1)).sum := by
  unfold sumsOf
  rw [List.getD_eq_getElem?_getD, List.getElem?_map, List.getElem?_range h]; rfl
theorem take_snoc {α : Type} {l : List α} {k : Nat} {x : α} (h : l[k]? = some x) : l.take (k + 1) = l.take k ++ [x] := by
  rw [List.take_add_one, h]; rfl
theorem itemB {x : Str} {k : Nat} (h : k < x.cps.toList.length) : (Txt.item x (k : Int) == Str.ofString "b") = true ↔ x.cps.toList[k]? = some 98 := by
  have h' : k < x.cps.size := by simpa using h
  have e : Txt.charAt x (k : Int) = x.cps[k]? := by
    unfold Txt.charAt
    have : seqIndex? (k : Int) x.length = some k := by
      unfold seqIndex?
      have hl : x.length = x.cps.size := rfl
      have n0 : ¬ ((k : Int) < 0) := by omega
      simp [hl, h', n0]
    rw [this]; rfl
  unfold Txt.item
  rw [e]
  have e3 : x.cps.toList[k]? = x.cps[k]? := by simp
  rw [e3, Array.getElem?_eq_getElem h']
  simp only [Option.getD_some, Option.some.injEq]
  rw [beq_iff_eq]
  constructor
  · intro h2
    have : (#[x.cps[k]] : Array Nat) = #[98] := by injection h2
    simpa using this
  · intro h2; rw [h2]; rfl
/-- what is known behind k letters -/
def Cut (sn : List Int) (xl : List Nat) (k : Nat) (b : Int × Int × Int) : Prop :=
  0 ≤ b.1 ∧ b.1 ≤ b.2.1 ∧ b.2.1 ≤ 16 ∧ ∀ i : Int, 0 ≤ i → i < 16 → (i < b.1 → wordA i (sn.take k) < xl.take k) ∧ (b.2.1 ≤ i → xl.take k < wordA i (sn.take k)) ∧ (b.1 ≤ i → i < b.2.1 → wordA i (sn.take k) = xl.take k ∧ (i + (sn.take k).sum) / 16 = b.2.2)
theorem cutI_spec (t S l h : Int) (hl : l ≤ h) : l ≤ cutI t S l h ∧ cutI t S l h ≤ h ∧ ∀ i, l ≤ i → i < h → (cutI t S l h ≤ i ↔ 16 * (t + 1) - S ≤ i) := by
  unfold cutI
  refine ⟨?_, ?_, fun i h1 h2 => ?_⟩
  · split <;> split <;> omega
  · split <;> split <;> omega
  · split <;> split <;> omega
theorem cutStep {sn : List Int} {x : Str} (hs : ∀ y ∈ sn, 1 ≤ y ∧ y ≤ 15) (hx : ∀ c ∈ x.cps.toList, c = 97 ∨ c = 98) {k : Nat} (hk : k < sn.length) (hk2 : k < x.cps.toList.length) (h : Cut sn x.cps.toList k (bst x (sumsOf sn) k)) :
    Cut sn x.cps.toList (k + 1) (bst x (sumsOf sn) (k + 1)) := by
  obtain ⟨c, hc⟩ : ∃ c, x.cps.toList[k]? = some c := ⟨_, List.getElem?_eq_getElem hk2⟩
  obtain ⟨y, hy⟩ : ∃ y, sn[k]? = some y := ⟨_, List.getElem?_eq_getElem hk⟩
  have hyb := hs y (List.mem_of_getElem? hy)
  have hcb := hx c (List.mem_of_getElem? hc)
  rw [bst, sumsOf_get hk, take_snoc hy]
  generalize bst x (sumsOf sn) k = b at h
  obtain ⟨l, hh, t⟩ := b
  obtain ⟨h1, h2, h3, h4⟩ := h
  dsimp only at h1 h2 h3 h4 ⊢
  generalize hP : sn.take k = P at h4 ⊢
  have hPl : P.length = k := by rw [← hP, List.length_take]; omega
  have hxl : (x.cps.toList.take k).length = k := by rw [List.length_take]; omega
  have eS : (P ++ [y]).sum = P.sum + y := by rw [List.sum_append]; simp
  rw [eS]
  obtain ⟨c1, c2, c3⟩ := cutI_spec t (P.sum + y) l hh h2
  generalize hcut : cutI t (P.sum + y) l hh = cut at c1 c2 c3 ⊢
  have eL : ∀ i : Int, (wordA i P).length = (x.cps.toList.take k).length := fun i => by rw [wordA_len, hPl, hxl]
  by_cases hb : c = 98
  · subst hb
    rw [if_pos ((itemB hk2).mpr hc)]
    refine ⟨by show 0 ≤ cut; omega, c2, h3, fun i i0 i1 => ?_⟩
    dsimp only
    rw [take_snoc hy, take_snoc hc, hP, wordA_snoc, lt_app (eL i), lt_app (eL i).symm, eS]
    obtain ⟨g1, g2, g3⟩ := h4 i i0 i1
    refine ⟨fun hi => ?_, fun hi => .inl (g2 hi), fun hi hi2 => ?_⟩
    · by_cases hil : i < l
      · exact .inl (g1 hil)
      · obtain ⟨w1, w2⟩ := g3 (by omega) (by omega)
        refine .inr ⟨w1, ?_⟩
        have := c3 i (by omega) (by omega)
        rw [if_neg (by omega)]; decide
    · obtain ⟨w1, w2⟩ := g3 (by omega) (by omega)
      have := c3 i (by omega) (by omega)
      refine ⟨by rw [w1, if_pos (by omega)], by omega⟩
  · have hb' : c = 97 := hcb.resolve_right hb
    subst hb'
    rw [if_neg (by rw [itemB hk2, hc]; decide)]
    refine ⟨h1, c1, by show cut ≤ 16; omega, fun i i0 i1 => ?_⟩
    dsimp only
    rw [take_snoc hy, take_snoc hc, hP, wordA_snoc, lt_app (eL i), lt_app (eL i).symm, eS]
    obtain ⟨g1, g2, g3⟩ := h4 i i0 i1
    refine ⟨fun hi => .inl (g1 hi), fun hi => ?_, fun hi hi2 => ?_⟩
    · by_cases hil : hh ≤ i
      · exact .inl (g2 hil)
      · obtain ⟨w1, w2⟩ := g3 (by omega) (by omega)
        refine .inr ⟨w1.symm, ?_⟩
        have := c3 i (by omega) (by omega)
        rw [if_pos (by omega)]; decide
    · obtain ⟨w1, w2⟩ := g3 (by omega) (by omega)
      have := c3 i (by omega) (by omega)
      refine ⟨by rw [w1, if_neg (by omega)], by omega⟩
theorem cutAll {sn : List Int} {x : Str} (hs : ∀ y ∈ sn, 1 ≤ y ∧ y ≤ 15) (hx : ∀ c ∈ x.cps.toList, c = 97 ∨ c = 98) : ∀ k : Nat, k ≤ sn.length → k ≤ x.cps.toList.length → Cut sn x.cps.toList k (bst x (sumsOf sn) k)
  | 0, _, _ => ⟨(by decide : (0 : Int) ≤ 0), (by decide : (0 : Int) ≤ 16), (by decide : (16 : Int) ≤ 16), fun i i0 i1 => ⟨fun h => by have h' : i < 0 := h; omega, fun h => by have h' : 16 ≤ i := h; omega, fun _ _ => ⟨rfl, by
      show (i + 0) / 16 = 0
      omega⟩⟩⟩
  | k + 1, h1, h2 => cutStep hs hx h1 h2 (cutAll hs hx k (by omega) (by omega))
theorem textLaw {sn : List Int} {x : Str} (hs : ∀ y ∈ sn, 1 ≤ y ∧ y ≤ 15) (hx : ∀ c ∈ x.cps.toList, c = 97 ∨ c = 98) : TextLaw (wordsL sn) (sumsOf sn) x := by
  have hxl : x.length = x.cps.toList.length := by show x.cps.size = _; simp
  unfold TextLaw btwR
  rw [hxl, sumsOf_len]
  have nz : ∀ (q : Int) (z : Int) (r : List Int), [] < wordA q (z :: r) := fun q z r => by rw [wordA]; exact List.nil_lt_cons _ _
  by_cases c1 : x.cps.toList.length < sn.length
  · rw [if_pos c1]
    obtain ⟨h1, h2, h3, h4⟩ := cutAll hs hx _ (Nat.le_of_lt c1) (Nat.le_refl _)
    generalize bst x (sumsOf sn) x.cps.toList.length = b at *
    rw [List.take_length] at h4
    have sp : ∀ i : Int, wordA i sn = wordA i (sn.take x.cps.toList.length) ++ wordA (i + (sn.take x.cps.toList.length).sum) (sn.drop x.cps.toList.length) := fun i => by rw [← wordA_app, List.take_append_drop]
    obtain ⟨z, r, hz⟩ : ∃ z r, sn.drop x.cps.toList.length = z :: r := by
      cases hd : sn.drop x.cps.toList.length with
      | nil => have := congrArg List.length hd; rw [List.length_drop, List.length_nil] at this; omega
      | cons z r => exact ⟨z, r, rfl⟩
    have eL : ∀ i : Int, (wordA i (sn.take x.cps.toList.length)).length = x.cps.toList.length := fun i => by rw [wordA_len, List.length_take]; omega
    have eX : ∀ a b : List Nat, (a < x.cps.toList ↔ a < x.cps.toList ++ []) ∧ (x.cps.toList < b ↔ x.cps.toList ++ [] < b) := fun a b => by simp
    refine ⟨b.1.toNat, b.1.toNat, by omega, by omega, fun i v hv => ?_, fun i v hv => ?_, by ext <;> simp <;> omega⟩
    · obtain ⟨hi, e⟩ := wordsGet hv
      obtain ⟨g1, g2, g3⟩ := h4 i (by omega) (by omega)
      rw [e, sp, hz, (eX _ []).1, lt_app (eL i)]
      constructor
      · rintro (h | ⟨h, h'⟩)
        · refine Classical.byContradiction fun hc => ?_
          by_cases c2 : (i : Int) < b.2.1
          · rw [(g3 (by omega) c2).1] at h; exact lt_irr _ h
          · exact lt_as h (g2 (by omega))
        · exact (List.not_lt_nil _ h').elim
      · intro h; exact .inl (g1 (by omega))
    · obtain ⟨hi, e⟩ := wordsGet hv
      obtain ⟨g1, g2, g3⟩ := h4 i (by omega) (by omega)
      rw [e, sp, hz, (eX [] _).2, lt_app (eL i).symm]
      constructor
      · rintro (h | ⟨h, h'⟩)
        · intro hc; exact lt_as h (g1 (by omega))
        · intro hc; have := g1 (by omega); rw [← h] at this; exact lt_irr _ this
      · intro h
        by_cases c2 : (i : Int) < b.2.1
        · exact .inr ⟨(g3 (by omega) c2).1.symm, nz _ _ _⟩
        · exact .inl (g2 (by omega))
  · rw [if_neg c1]
    obtain ⟨h1, h2, h3, h4⟩ := cutAll hs hx sn.length (Nat.le_refl _) (by omega)
    generalize bst x (sumsOf sn) sn.length = b at *
    rw [List.take_length] at h4
    have eL : ∀ i : Int, (wordA i sn).length = (x.cps.toList.take sn.length).length := fun i => by rw [wordA_len, List.length_take]; omega
    by_cases c2 : sn.length < x.cps.toList.length
    · rw [if_pos c2]
      obtain ⟨z, r, hz⟩ : ∃ z r, x.cps.toList.drop sn.length = z :: r := by
        cases hd : x.cps.toList.drop sn.length with
        | nil => have := congrArg List.length hd; rw [List.length_drop, List.length_nil] at this; omega
        | cons z r => exact ⟨z, r, rfl⟩
      have sp : x.cps.toList = x.cps.toList.take sn.length ++ (z :: r) := by rw [← hz, List.take_append_drop]
      have q1 : ∀ i : Int, wordA i sn < x.cps.toList ↔ (wordA i sn < x.cps.toList.take sn.length ∨ wordA i sn = x.cps.toList.take sn.length) := fun i => by
        have := lt_app (r := []) (r' := z :: r) (eL i)
        rw [← sp, List.append_nil] at this
        rw [this]
        simp
      have q2 : ∀ i : Int, x.cps.toList < wordA i sn ↔ (x.cps.toList.take sn.length < wordA i sn) := fun i => by
        have := lt_app (r := z :: r) (r' := []) (eL i).symm
        rw [← sp, List.append_nil] at this
        rw [this]
        simp
      refine ⟨b.2.1.toNat, b.2.1.toNat, by omega, by omega, fun i v hv => ?_, fun i v hv => ?_, by ext <;> simp <;> omega⟩
      · obtain ⟨hi, e⟩ := wordsGet hv
        obtain ⟨g1, g2, g3⟩ := h4 i (by omega) (by omega)
        rw [e, q1]
        constructor
        · rintro (h | h)
          · refine Classical.byContradiction fun hc => lt_as h (g2 (by omega))
          · refine Classical.byContradiction fun hc => ?_
            have := g2 (by omega); rw [h] at this; exact lt_irr _ this
        · intro h
          by_cases c3 : (i : Int) < b.1
          · exact .inl (g1 c3)
          · exact .inr (g3 (by omega) (by omega)).1
      · obtain ⟨hi, e⟩ := wordsGet hv
        obtain ⟨g1, g2, g3⟩ := h4 i (by omega) (by omega)
        rw [e, q2]
        constructor
        · intro h hc
          by_cases c3 : (i : Int) < b.1
          · exact lt_as h (g1 c3)
          · rw [(g3 (by omega) (by omega)).1] at h; exact lt_irr _ h
        · intro h; exact g2 (by omega)
    · rw [if_neg c2]
      have eq : x.cps.toList.take sn.length = x.cps.toList := List.take_of_length_le (by omega)
      rw [eq] at h4
      refine ⟨b.1.toNat, b.2.1.toNat, by omega, by omega, fun i v hv => ?_, fun i v hv => ?_, by ext <;> simp <;> omega⟩
      · obtain ⟨hi, e⟩ := wordsGet hv
        obtain ⟨g1, g2, g3⟩ := h4 i (by omega) (by omega)
        rw [e]
        constructor
        · intro h
          refine Classical.byContradiction fun hc => ?_
          by_cases c3 : (i : Int) < b.2.1
          · rw [(g3 (by omega) c3).1] at h; exact lt_irr _ h
          · exact lt_as h (g2 (by omega))
        · intro h; exact g1 (by omega)
      · obtain ⟨hi, e⟩ := wordsGet hv
        obtain ⟨g1, g2, g3⟩ := h4 i (by omega) (by omega)
        rw [e]
        constructor
        · intro h hc
          by_cases c3 : (i : Int) < b.1
          · exact lt_as h (g1 c3)
          · rw [(g3 (by omega) (by omega)).1] at h; exact lt_irr _ h
        · intro h; exact g2 (by omega)
theorem joinAll {P : Nat → Prop} : ∀ l : List Str, (∀ x ∈ l, ∀ c ∈ x.cps.toList, P c) → ∀ c ∈ (Str.join (Str.ofString "") l).cps.toList, P c
  | [], _ => fun c hc => nomatch hc
  | [x], h => fun c hc => h x (.head _) c hc
  | x :: y :: r, h => fun c hc => by
    have hc' : c ∈ (x ++ Str.ofString "" ++ Str.join (Str.ofString "") (y :: r)).cps.toList := hc
    rw [Str.cps_append, Str.cps_append, Array.toList_append, Array.toList_append] at hc'
    rcases List.mem_append.mp hc' with h1 | h1
    · rcases List.mem_append.mp h1 with h1 | h1
      · exact h x (.head _) c h1
      · exact (nomatch h1)
    · exact joinAll (y :: r) (fun z hz => h z (.tail _ hz)) c h1
theorem textChars (k : Int) : ∀ c ∈ (textOf k).cps.toList, c = 97 ∨ c = 98 := by
  unfold textOf
  have e : Txt.join (Str.ofString "") ((rangeKs 0 (k.fmod 7).toNat).map (letterOf k)) = Str.join (Str.ofString "") ((rangeKs 0 (k.fmod 7).toNat).map (letterOf k)) := StrLaws.glued_eq_join _ _
  rw [e]
  refine joinAll _ fun x hx => ?_
  obtain ⟨j, _, rfl⟩ := List.mem_map.mp hx
  unfold letterOf
  rcases bitOf01 k j with h | h <;> rw [h]
  · intro c hc
    have : c ∈ [97] := hc
    exact .inl (List.mem_singleton.mp this)
  · intro c hc
    have : c ∈ [98] := hc
    exact .inr (List.mem_singleton.mp this)
end Mine
namespace Mine
theorem sizes3 (d : Int) : ∃ a b c : Int, (1 ≤ a ∧ a ≤ 15) ∧ (1 ≤ b ∧ b ≤ 15) ∧ (1 ≤ c ∧ c ≤ 15) ∧ (sizesOf d = [a] ∨ sizesOf d = [a, b] ∨ sizesOf d = [a, b, c]) := by
  refine ⟨1 + d.fmod 15, 1 + (d.fdiv 15).fmod 15, 1 + (d.fdiv 225).fmod 15, ?_, ?_, ?_, ?_⟩
  · have := fmod_lo d (n := 15) (by decide); have := fmod_hi d (n := 15) (by decide); omega
  · have := fmod_lo (d.fdiv 15) (n := 15) (by decide); have := fmod_hi (d.fdiv 15) (n := 15) (by decide); omega
  · have := fmod_lo (d.fdiv 225) (n := 15) (by decide); have := fmod_hi (d.fdiv 225) (n := 15) (by decide); omega
  · have h1 := fmod_lo (d.fdiv 3375) (n := 3) (by decide)
    have h2 := fmod_hi (d.fdiv 3375) (n := 3) (by decide)
    unfold sizesOf
    generalize (d.fdiv 3375).fmod 3 = e at *
    have : e = 0 ∨ e = 1 ∨ e = 2 := by omega
    rcases this with rfl | rfl | rfl
    · exact .inl rfl
    · exact .inr (.inl rfl)
    · exact .inr (.inr rfl)
theorem end3 (d : Int) : endOf d = 0 ∨ endOf d = 1 ∨ endOf d = 2 := by
  have h1 := fmod_lo (d.fdiv 10125) (n := 3) (by decide)
  have h2 := fmod_hi (d.fdiv 10125) (n := 3) (by decide)
  unfold endOf; omega
/-- the numbers that a run over the row yields -/
def valOf (l : List Int) (i : Nat) : Int := l.getD (l.length - 1 - i) 0
theorem outVal (l : List Int) : outI (valOf l) l.length l.length = l := by
  unfold outI valOf
  refine List.ext_getElem (by simp) fun i h1 h2 => ?_
  simp only [List.length_map, List.length_range] at h1
  simp only [List.getElem_map, List.getElem_range]
  have e : l.length - 1 - (l.length - 1 - i) = i := by omega
  rw [e, List.getD_eq_getElem?_getD, List.getElem?_eq_getElem h1]; rfl
theorem good0 {s : List Int} (h : ∃ a b c : Int, (1 ≤ a ∧ a ≤ 15) ∧ (1 ≤ b ∧ b ≤ 15) ∧ (1 ≤ c ∧ c ≤ 15) ∧ (s = [a] ∨ s = [a, b] ∨ s = [a, b, c])) : Good true (valOf s) (s ++ []) none s.length ∧ Good true (valOf s) (s ++ [127, 3]) none s.length := by
  obtain ⟨a, b, c, ha, hb, hc, rfl | rfl | rfl⟩ := h
  · exact ⟨.inr (.inr ⟨by omega, by omega, 0, rfl, rfl, fun _ => rfl⟩), .inr (.inr ⟨by omega, by omega, 0, rfl, rfl, fun _ => .inl ⟨rfl, rfl⟩⟩)⟩
  · exact ⟨.inr (.inr ⟨by omega, by omega, 1, rfl, rfl, fun _ => .inr (.inr ⟨by omega, by omega, 0, rfl, rfl, fun _ => rfl⟩)⟩), .inr (.inr ⟨by omega, by omega, 1, rfl, rfl, fun _ => .inr (.inr ⟨by omega, by omega, 0, rfl, rfl, fun _ => .inl ⟨rfl, rfl⟩⟩)⟩)⟩
  · exact ⟨.inr (.inr ⟨by omega, by omega, 2, rfl, rfl, fun _ => .inr (.inr ⟨by omega, by omega, 1, rfl, rfl, fun _ => .inr (.inr ⟨by omega, by omega, 0, rfl, rfl, fun _ => rfl⟩)⟩)⟩), .inr (.inr ⟨by omega, by omega, 2, rfl, rfl, fun _ => .inr (.inr ⟨by omega, by omega, 1, rfl, rfl, fun _ => .inr (.inr ⟨by omega, by omega, 0, rfl, rfl, fun _ => .inl ⟨rfl, rfl⟩⟩)⟩)⟩)⟩
theorem good1 {s : List Int} (h : ∃ a b c : Int, (1 ≤ a ∧ a ≤ 15) ∧ (1 ≤ b ∧ b ≤ 15) ∧ (1 ≤ c ∧ c ≤ 15) ∧ (s = [a] ∨ s = [a, b] ∨ s = [a, b, c])) : Good false (valOf (List.take 5 (dueOf s 1))) (s ++ [0, 7]) none 5 := by
  obtain ⟨a, b, c, ha, hb, hc, rfl | rfl | rfl⟩ := h
  · refine .inr (.inr ⟨by omega, by omega, 4, rfl, rfl, fun _ => .inr (.inl ⟨rfl, rfl, by decide, a, rfl, fun k hk => ?_⟩)⟩)
    have : k = 0 ∨ k = 1 ∨ k = 2 ∨ k = 3 := by omega
    rcases this with rfl | rfl | rfl | rfl <;> rfl
  · refine .inr (.inr ⟨by omega, by omega, 4, rfl, rfl, fun _ => .inr (.inr ⟨by omega, by omega, 3, rfl, rfl, fun _ => .inr (.inl ⟨rfl, rfl, by decide, b, rfl, fun k hk => ?_⟩)⟩)⟩)
    have : k = 0 ∨ k = 1 ∨ k = 2 := by omega
    rcases this with rfl | rfl | rfl <;> rfl
  · refine .inr (.inr ⟨by omega, by omega, 4, rfl, rfl, fun _ => .inr (.inr ⟨by omega, by omega, 3, rfl, rfl, fun _ => .inr (.inr ⟨by omega, by omega, 2, rfl, rfl, fun _ => .inr (.inl ⟨rfl, rfl, by decide, c, rfl, fun k hk => ?_⟩)⟩)⟩)⟩)
    have : k = 0 ∨ k = 1 := by omega
    rcases this with rfl | rfl <;> rfl
/-- the steps: the first five due -/
def stepsOf (d : Int) : List Int := List.take 5 (dueOf (sizesOf d) (endOf d))
theorem steps_len1 (d : Int) (h : endOf d = 1) : (stepsOf d).length = 5 := by
  obtain ⟨a, b, c, ha, hb, hc, e | e | e⟩ := sizes3 d <;> (unfold stepsOf; rw [e, h]; rfl)
theorem steps_eq (d : Int) (h : endOf d ≠ 1) : stepsOf d = sizesOf d := by
  obtain ⟨a, b, c, ha, hb, hc, e | e | e⟩ := sizes3 d <;> (unfold stepsOf dueOf; rw [if_neg h, e]; rfl)
theorem sizes_b (d : Int) : (∀ x ∈ sizesOf d, 1 ≤ x ∧ x ≤ 15) ∧ 1 ≤ (sizesOf d).length ∧ (sizesOf d).length ≤ 3 := by
  obtain ⟨a, b, c, ha, hb, hc, e | e | e⟩ := sizes3 d <;> rw [e]
  · refine ⟨fun x hx => ?_, by simp, by simp⟩
    simp only [List.mem_cons, List.not_mem_nil, or_false] at hx; subst hx; exact ha
  · refine ⟨fun x hx => ?_, by simp, by simp⟩
    simp only [List.mem_cons, List.not_mem_nil, or_false] at hx
    rcases hx with rfl | rfl <;> assumption
  · refine ⟨fun x hx => ?_, by simp, by simp⟩
    simp only [List.mem_cons, List.not_mem_nil, or_false] at hx
    rcases hx with rfl | rfl | rfl <;> assumption
theorem due_len (d : Int) : 1 ≤ (dueOf (sizesOf d) (endOf d)).length ∧ (dueOf (sizesOf d) (endOf d)).length ≤ 7 := by
  have hs := (sizes_b d).2
  unfold dueOf
  split
  · simp; omega
  · omega
theorem due_b (d : Int) : ∀ x ∈ dueOf (sizesOf d) (endOf d), 1 ≤ x ∧ x ≤ 15 := by
  have hs := sizes_b d
  intro x hx
  unfold dueOf at hx
  split at hx
  · rcases List.mem_append.mp hx with h | h
    · exact hs.1 x h
    · simp only [List.mem_flatten, List.mem_replicate] at h
      obtain ⟨l, ⟨_, rfl⟩, h⟩ := h
      rw [List.mem_singleton.mp h]
      refine hs.1 _ ?_
      have hlt : (-1 + ((sizesOf d).length : Int)).toNat < (sizesOf d).length := by omega
      rw [List.getD_eq_getElem?_getD, List.getElem?_eq_getElem hlt]
      exact List.getElem_mem hlt
  · exact hs.1 x hx
theorem steps_b (d : Int) : ∀ x ∈ stepsOf d, 1 ≤ x ∧ x ≤ 15 := fun x hx => due_b d x (List.mem_of_mem_take hx)
theorem steps_len (d : Int) : (stepsOf d).length ≤ 5 := by unfold stepsOf; rw [List.length_take]; omega
end Mine
namespace Mine
variable {w : World} {A : Around} {s : Shared} {Q : Flow → Shared → Prop} {E : Value → Shared → Prop} {h₀ : Heap} {L fa : Addr} {cd : Value} {m mg mb : Str → Option Value} {p : Program} {loose : List Str} {mean : ExcName → Option Value} {news : List (Addr × Obj)}
theorem execsApp (env : Env) (b : List Stmt) : ∀ a : List Stmt, execs (a ++ b) env = (execs a env >>= fun f => match f with | .next => execs b env | f => pure f)
  | [] => rfl
  | st :: r => by
    rw [List.cons_append, execs_cons, execs_cons, LawfulMonad.bind_assoc]
    refine congrArg _ (funext fun f => ?_)
    cases f
    · exact execsApp env b r
    all_goals rfl
theorem wpApp {M : Model} {env : Env} {a b : List Stmt} (h : wpAny M A (execs a env) (fun f s' => match f with | .next => wpAny M A (execs b env) Q E s' | f => Q f s') E s) : wpAny M A (execs (a ++ b) env) Q E s := fun Γ p hΓ => by
  rw [execsApp, Sem.wp_bind']
  refine Sem.wp_mono M Γ _ (fun f p' s' h' => ?_) (fun _ _ _ h' => h') _ _ (h Γ p hΓ)
  cases f <;> first | exact h' Γ p' hΓ | exact h'
theorem s4 {ls a b : Addr} {da : Obj} {sv : List Value} {d0 : Int} {te : Tok} (B : Below callerA h₀ [] h₀) (F : Fr h₀ L s.heap (mS4 L a b ls (endOf d0) te))
    (X : (hd.heap_39 w.params).In h₀) (T : Top p loose mean mg mb h₀) {o1 o2 o3 o4 : Obj} (N : News h₀ L s.heap [(b, listOf sv.toArray 0), (a, da), (L + 1, o1), (L + 2, o2), (L + 3, o3), (L + 4, o4), (90, tabObj #[])]) (hsv : IntsAre sv (sizesOf d0)) (hc1 : o1.data = .cell none)
    (ha1 : @LT.lt Nat _ (L + 4) a) (hb1 : @LT.lt Nat _ a b) (hb2 : @LT.lt Nat _ 90 L)
    (hq : ∀ h' tk c ov en gs o1', IntsAre ov (stepsOf d0) → o1'.data = .cell (some (.ref c)) → Fr h₀ L h' (mS4 L a b ls (endOf d0) te) → News h₀ L h' [(c, listOf ov.toArray en), (b, listOf sv.toArray 0), (a, da), (L + 1, o1'), (L + 2, o2), (L + 3, o3), (L + 4, o4), (90, tabObj #[])] → gs.bare = true →
      (@Ne Nat c L ∧ @Ne Nat c (L + 1) ∧ @Ne Nat c (L + 2) ∧ @Ne Nat c (L + 3) ∧ @Ne Nat c (L + 4) ∧ @Ne Nat c 90 ∧ @Ne Nat c a ∧ @Ne Nat c b) → Q .next { s with heap := h', toks := tk, gens := s.gens.push gs }) :
    wpAny (model PySem.Challenge.rw_re0062_01.row.prog w) (callerA.deeper (lawEnv L fa cd)) (execs [lawStmt 4] (lawEnv L fa cd)) Q (fun _ _ => False) s := by
  have hl := (sizes_b d0).2
  rcases end3 d0 with he | he | he
  · have e1 := outVal (sizesOf d0)
    have e2 := steps_eq d0 (by omega)
    rw [he] at F hq
    refine s4_0 (fin := true) (val := valOf (sizesOf d0)) (NN := (sizesOf d0).length) B F X T N hsv hl.2 hc1 ha1 hb1 hb2 (good0 (sizes3 d0)).1 (.inl ⟨rfl, by omega⟩) ?_
    intro h' tk c ov en gs o1' hov
    rw [e1, ← e2] at hov
    exact hq h' tk c ov en gs o1' hov
  · have e1 := outVal (stepsOf d0)
    have e2 := steps_len1 d0 he
    rw [e2] at e1
    have hG := good1 (sizes3 d0)
    have e3 : stepsOf d0 = List.take 5 (dueOf (sizesOf d0) 1) := by unfold stepsOf; rw [he]
    rw [← e3] at hG
    rw [he] at F hq
    refine s4_1 (fin := false) (val := valOf (stepsOf d0)) (NN := 5) B F X T N hsv hl.2 hc1 ha1 hb1 hb2 hG (.inr ⟨rfl, rfl⟩) ?_
    intro h' tk c ov en gs o1' hov
    rw [e1] at hov
    exact hq h' tk c ov en gs o1' hov
  · have e1 := outVal (sizesOf d0)
    have e2 := steps_eq d0 (by omega)
    rw [he] at F hq
    refine s4_2 (fin := true) (val := valOf (sizesOf d0)) (NN := (sizesOf d0).length) B F X T N hsv hl.2 hc1 ha1 hb1 hb2 (good0 (sizes3 d0)).2 (.inl ⟨rfl, by omega⟩) ?_
    intro h' tk c ov en gs o1' hov
    rw [e1, ← e2] at hov
    exact hq h' tk c ov en gs o1' hov
theorem ints5 {vs : List Value} {ns : List Int} (h : IntsAre vs ns) (hl : ns.length = 5) : ∃ d0 d1 d2 d3 d4 t0 t1 t2 t3 t4, vs = [.int d0 t0, .int d1 t1, .int d2 t2, .int d3 t3, .int d4 t4] ∧ ns = [d0, d1, d2, d3, d4] := by
  cases h with
  | nil => simp at hl
  | cons d0 t0 h => cases h with
    | nil => simp at hl
    | cons d1 t1 h => cases h with
      | nil => simp at hl
      | cons d2 t2 h => cases h with
        | nil => simp at hl
        | cons d3 t3 h => cases h with
          | nil => simp at hl
          | cons d4 t4 h => cases h with
            | nil => exact ⟨d0, d1, d2, d3, d4, t0, t1, t2, t3, t4, rfl, rfl⟩
            | cons d5 t5 h => simp at hl
theorem s15 (h : Q (.ret (.bool true)) s) : wpAny (model PySem.Challenge.rw_re0062_01.row.prog w) (callerA.deeper (lawEnv L fa cd)) (execs [lawStmt 15] (lawEnv L fa cd)) Q (fun _ _ => False) s := by
  refine wpAny_execs_cons ?_
  conv => enter [3, 1]; whnf
  refine wpAny_Return_some ?_
  exact fun _ _ _ => h
theorem lawBodyEq : fnBody lawDef = [lawStmt 0, lawStmt 1] ++ ([lawStmt 2, lawStmt 3] ++ ([lawStmt 4] ++ ([lawStmt 5, lawStmt 6] ++ ([lawStmt 7] ++ ([lawStmt 8] ++ ([lawStmt 9, lawStmt 10] ++ ([lawStmt 11] ++ ([lawStmt 12] ++ ([lawStmt 13] ++ ([lawStmt 14] ++ [lawStmt 15])))))))))) := rfl
end Mine
namespace Mine
variable {w : World} {A : Around} {s : Shared} {Q : Flow → Shared → Prop} {E : Value → Shared → Prop} {h₀ : Heap} {L fa : Addr} {cd : Value} {m mg mb : Str → Option Value} {p : Program} {loose : List Str} {mean : ExcName → Option Value} {news : List (Addr × Obj)}
theorem subNil {α : Type} (l : List α) : ∀ x ∈ ([] : List α), x ∈ l := fun _ h => nomatch h
theorem subCons {α : Type} {y : α} {r l : List α} (h : y ∈ l) (t : ∀ x ∈ r, x ∈ l) : ∀ x ∈ y :: r, x ∈ l := fun x hx => by
  rcases List.mem_cons.mp hx with rfl | hx
  · exact h
  · exact t x hx
set_option maxHeartbeats 4000000 in
theorem lawBody {ls : Addr} {vs : List Value} {ns : List Int} (B : Below callerA h₀ [] h₀) (F : Fr h₀ L s.heap (fun y => if y = Str.ofString "script" then some (.ref ls) else none)) (X : (hd.heap_39 w.params).In h₀) (T : Top p loose mean mg mb h₀)
    {o1 o2 o3 o4 : Obj} (N : News h₀ L s.heap [(L + 1, o1), (L + 2, o2), (L + 3, o3), (L + 4, o4), (90, tabObj #[])]) (hc1 : o1.data = .cell none) (hc2 : o2.data = .cell none) (hc3 : o3.data = .cell none) (hc4 : o4.data = .cell none)
    (hl : h₀.IsList ls vs.toArray) (hI : IntsAre vs ns) (hlen : ns.length ≤ 63) (h90 : @LT.lt Nat _ 90 L) (CH : CodeHd h₀ 94 90)
    (h : ∀ h' tk gs m', gs.bare = true → Fr h₀ L h' m' → TabOk h₀ L h' → Q (.ret (.bool true)) { s with heap := h', toks := tk, gens := s.gens.push gs }) :
    wpAny (model PySem.Challenge.rw_re0062_01.row.prog w) (callerA.deeper (lawEnv L fa cd)) (execs (fnBody lawDef) (lawEnv L fa cd)) Q (fun _ _ => False) s := by
  rw [lawBodyEq]
  refine wpApp (s01 B F X T N hl hI hlen ?_)
  intro h1 tk1 a dv hdv F1 N1 la1 la2
  have hdl := drawn_len ns
  have hdok := drawn_ok ns
  generalize drawnOf ns = dn at hdv hdl hdok
  obtain ⟨d0, d1, d2, d3, d4, t0, t1, t2, t3, t4, rfl, rfl⟩ := ints5 hdv hdl
  refine wpApp (s23 B F1 X T N1 (hdok d0 (.head _)) la1 ?_)
  intro h2 tk2 b sv te hsv F2 N2 lb1 lb2 lb3
  refine wpApp (s4 B F2 X T N2 hsv hc1 la1 lb2 h90 ?_)
  intro h3 tk3 c ov en gs o1' hov hc1' F3 N3 hgs hcn
  refine wpApp (s56 (da := o1) B F3 X T N3 hc2 la1 lb2 h90 hcn ?_)
  intro h4 tk4 m4 r rv rn o2' hrv hc2' hm4 F4 N4 lr
  obtain ⟨m4e, m4s, m4d⟩ := hm4
  refine wpApp (s7 (r := r) (c := c) (rn := rn) (en := en) (rest := [(L + 3, o3), (L + 4, o4), (90, tabObj #[]), (b, listOf sv.toArray 0), (a, listOf #[Value.int d0 t0, Value.int d1 t1, Value.int d2 t2, Value.int d3 t3, Value.int d4 t4] 0)]) B F4 X T (newsSub N4 fun x hx => ?z1) hc1' hc2' hrv hov (steps_len d0) (steps_b d0) ?_)
  case z1 => (revert x; (repeat' (first | exact subNil _ | refine subCons ?_ ?_); all_goals (repeat' (first | exact List.Mem.head _ | refine List.Mem.tail _ ?_))))
  intro h5 tk5 wd wv hwv F5 N5 off5
  obtain ⟨_, _, _, _, w3, w4, w9, wb, wa, _⟩ := off5
  dsimp only at w3 w4 w9 wb wa
  refine wpApp (s8 (b := b) (sv := sv) (sn := sizesOf d0) (e := endOf d0) (te := te) (rest := [(wd, LCg.lst wv), (L + 3, o3), (L + 4, o4), (90, tabObj #[]), (a, listOf #[Value.int d0 t0, Value.int d1 t1, Value.int d2 t2, Value.int d3 t3, Value.int d4 t4] 0)]) B F5 X T (newsSub N5 fun x hx => ?z2) ((if_neg (by decide)).trans m4e) ((if_neg (by decide)).trans m4s) hsv (sizes_b d0).2 ?_)
  case z2 => (revert x; (repeat' (first | exact subNil _ | refine subCons ?_ ?_); all_goals (repeat' (first | exact List.Mem.head _ | refine List.Mem.tail _ ?_))))
  intro h6 tk6 d ev hev F6 N6
  refine wpApp (s9 (d := d) (dv := ev) (dn := dueOf (sizesOf d0) (endOf d0)) (rest := [(wd, LCg.lst wv), (L + 3, o3), (L + 4, o4), (90, tabObj #[]), (a, listOf #[Value.int d0 t0, Value.int d1 t1, Value.int d2 t2, Value.int d3 t3, Value.int d4 t4] 0)]) B F6 X T (newsSub N6 fun x hx => ?z3) (if_pos rfl) hev (due_len d0) ?_)
  case z3 => (revert x; (repeat' (first | exact subNil _ | refine subCons ?_ ?_); all_goals (repeat' (first | exact List.Mem.head _ | refine List.Mem.tail _ ?_))))
  intro h7 tk7 m7 q us nn hus hm7 F7 N7 off7
  obtain ⟨_, q1, q3, q4, q9, qa, _⟩ := off7
  dsimp only at q1 q3 q4 q9 qa
  have m7q : m7 (Str.ofString "sums") = some (.ref q) := (hm7 _ (by decide)).trans (if_pos rfl)
  have m7w : m7 (Str.ofString "words") = some (.ref wd) := (hm7 _ (by decide)).trans ((if_neg (by decide)).trans ((if_neg (by decide)).trans (if_pos rfl)))
  have m7d : m7 (Str.ofString "drawn") = some (.ref a) := (hm7 _ (by decide)).trans ((if_neg (by decide)).trans ((if_neg (by decide)).trans ((if_neg (by decide)).trans m4d)))
  have hus' : IntsAre us (sumsOf (stepsOf d0)) := hus
  have hul : (sumsOf (stepsOf d0)).length ≤ 5 := by rw [sumsOf_len]; exact steps_len d0
  refine wpApp (s11 (q := q) (nn := nn) (us := us) (un := sumsOf (stepsOf d0)) (rest := [(wd, LCg.lst wv), (L + 3, o3), (L + 4, o4), (90, tabObj #[]), (a, listOf #[Value.int d0 t0, Value.int d1 t1, Value.int d2 t2, Value.int d3 t3, Value.int d4 t4] 0)]) B F7 X T (newsSub N7 fun x hx => ?z4) m7q hus' hul ?_)
  case z4 => (revert x; (repeat' (first | exact subNil _ | refine subCons ?_ ?_); all_goals (repeat' (first | exact List.Mem.head _ | refine List.Mem.tail _ ?_))))
  intro h8 tk8 mk mv hmv F8 N8 off8
  obtain ⟨_, _, k3, k4, k9, ka, _⟩ := off8
  dsimp only at k3 k4 k9 ka
  have hml : (marksOf (sumsOf (stepsOf d0))).length ≤ 5 := by unfold marksOf; rw [List.length_map]; exact hul
  have hwl : (wordsL (stepsOf d0)).length = 16 := by simp [wordsL, rangeKs]
  refine wpApp (s12 (mk := mk) (wd := wd) (mn := marksOf (sumsOf (stepsOf d0))) (ws := wordsL (stepsOf d0)) (rest := [(q, listOf us.toArray nn), (L + 3, o3), (L + 4, o4), (90, tabObj #[]), (a, listOf #[Value.int d0 t0, Value.int d1 t1, Value.int d2 t2, Value.int d3 t3, Value.int d4 t4] 0)]) B F8 X T (newsSub N8 fun x hx => ?z5) (if_pos rfl) ((if_neg (by decide)).trans m7w) hmv hml hwv hwl (fun k x y => signLaw (steps_b d0) k x y) ?_)
  case z5 => (revert x; (repeat' (first | exact subNil _ | refine subCons ?_ ?_); all_goals (repeat' (first | exact List.Mem.head _ | refine List.Mem.tail _ ?_))))
  intro h9 tk9 m9 hm9 F9 N9
  refine wpApp (s13 (mk := mk) (wd := wd) (o3 := o3) (mn := marksOf (sumsOf (stepsOf d0))) (ws := wordsL (stepsOf d0)) (rest := [(q, listOf us.toArray nn), (L + 4, o4), (90, tabObj #[]), (a, listOf #[Value.int d0 t0, Value.int d1 t1, Value.int d2 t2, Value.int d3 t3, Value.int d4 t4] 0)]) B F9 X T (newsSub N9 fun x hx => ?z6) hc3 ((hm9 _ (by decide) (by decide)).trans (if_pos rfl)) ((hm9 _ (by decide) (by decide)).trans ((if_neg (by decide)).trans m7w)) hmv hml hwv hwl (fun x hx => ?z7) (fun k x y => hereLaw (steps_b d0) k x y) ?_)
  case z6 => (revert x; (repeat' (first | exact subNil _ | refine subCons ?_ ?_); all_goals (repeat' (first | exact List.Mem.head _ | refine List.Mem.tail _ ?_))))
  case z7 =>
    simp only [List.mem_cons, List.not_mem_nil, or_false] at hx
    show @Ne Nat _ _
    rcases hx with h | h | h | h | h | h <;> subst h <;> dsimp only <;> omega
  intro h10 tk10 m10 hm10 F10 N10
  have up : ∀ z, z ≠ Str.ofString "first" → z ≠ Str.ofString "behind" → z ≠ Str.ofString "sign" → z ≠ Str.ofString "hue_now" → z ≠ Str.ofString "marks" → m10 z = m7 z := fun z a1 a2 a3 a4 a5 => (hm10 z a1 a2).trans ((hm9 z a3 a4).trans (if_neg a5))
  refine wpApp (s14 (a := a) (q := q) (wd := wd) (dv := [Value.int d0 t0, Value.int d1 t1, Value.int d2 t2, Value.int d3 t3, Value.int d4 t4]) (dn := [d0, d1, d2, d3, d4]) (un := sumsOf (stepsOf d0)) (ws := wordsL (stepsOf d0)) (nn := nn) (o4 := o4) B F10 X T (newsSub N10 fun x hx => ?z8) hc4
    ((up _ (by decide) (by decide) (by decide) (by decide) (by decide)).trans m7d) ((up _ (by decide) (by decide) (by decide) (by decide) (by decide)).trans m7q) ((up _ (by decide) (by decide) (by decide) (by decide) (by decide)).trans m7w) hdv rfl hus' hul hwv hwl hdok ⟨by omega, by omega, by omega⟩ ⟨by omega, by omega⟩ CH (fun k => textLaw (steps_b d0) (textChars k)) ?_)
  case z8 => (revert x; (repeat' (first | exact subNil _ | refine subCons ?_ ?_); all_goals (repeat' (first | exact List.Mem.head _ | refine List.Mem.tail _ ?_))))
  intro h11 tk11 m11 F11 T11
  exact s15 (h _ _ gs m11 hgs F11 T11)
end Mine
namespace Mine
theorem tabGrown {h₀ h : Heap} {L : Addr} (T : TabOk h₀ L h) : GrownAll [(94, 90)] h := by
  refine ⟨?_, True.intro⟩
  rcases T with N | ⟨_, _, _, _, _, _, _, _, N, _⟩
  · exact ⟨_, (N _ (.head _)).1⟩
  · exact ⟨_, (N _ (.head _)).1⟩
theorem frExt {h₀ h : Heap} {L : Addr} {m m' : Str → Option Value} (F : Fr h₀ L h m) (e : m = m') : Fr h₀ L h m' := e ▸ F
theorem newsRev {h₀ h : Heap} {L : Addr} {p1 p2 p3 p4 p5 : Addr × Obj} (N : News h₀ L h [p4, p3, p2, p1, p5]) : News h₀ L h [p1, p2, p3, p4, p5] := newsSub N fun x hx => by
  simp only [List.mem_cons, List.not_mem_nil, or_false] at hx ⊢
  rcases hx with h | h | h | h | h <;> simp [h]
/-- what the law's call must come to -/
def LawGood (tabs : List (Addr × Addr)) (s₁ : Shared) (r : Result) (s' : Shared) : Prop :=
  r = .ok (.ret (.bool true)) ∧ (∀ b o, (ghostOf s₁.heap tabs).get? b = some o → s'.heap.get? b = some o) ∧ GrownAll tabs s'.heap ∧ s'.os = s₁.os ∧ AllBare s'.gens
theorem law_post {M : Model} {A : Around} {cd : Code} {s s₁ : Shared} {cw : ClaimW} {cl : Str → Option Addr} {mean : ExcName → Option Value} {args : List WData} {tabs : List (Addr × Addr)} (hT : TabsAt tabs s₁.heap) (hr : ∀ a x, cw.raises a x = false) (hp : cw.post args (.bool true) args = true)
    (h : codeAny M A cd (LawGood tabs s₁) s) : codeAny M A cd (GoodWG cw cl mean args s₁) s := by
  refine codeAny_mono h fun r s' g => ?_
  obtain ⟨rfl, hk, hgr, hos, hg⟩ := g
  refine ⟨.inl ⟨.bool true, .bool true, [], rfl, hr _, .bool _, hp, fun _ => ⟨List.nodup_nil, fun _ ha => nomatch ha⟩⟩, ?_, hos, hg⟩
  have split : ∀ b o, s₁.heap.get? b = some o → s'.heap.get? b = some o ∨ (isCodeTable s₁.heap b ∧ o = tabObj #[] ∧ ∃ ps, s'.heap.get? b = some (tabObj ps)) := by
    intro b o e
    by_cases hb : b ∈ tabs.map (·.2)
    · obtain ⟨q, hq, rfl⟩ := List.mem_map.mp hb
      have e2 := (hT q hq).2
      rw [e] at e2
      exact .inr ⟨((hT q hq).1.tab (hT q hq).2).isCodeTable, Option.some.inj e2, hgr.get q hq⟩
    · exact .inl (hk b o (ghost_ne e hb))
  refine ⟨fun b o e => ?_, fun b o e => ?_⟩
  · rcases split b o e with x | ⟨x, rfl, ps, y⟩
    · exact .inl x
    · exact .inr (.inl ⟨x, rfl, #[], ps, rfl, by rw [Array.empty_append]; exact y⟩)
  · rcases split b o e with x | ⟨_, _, ps, y⟩
    · exact ⟨_, x⟩
    · exact ⟨_, y⟩
set_option maxHeartbeats 8000000 in
theorem top0 : PySem.Challenge.rw_re0062_01.Holds := Mine.hd (by
  w_on
  k_fill
  intro w s₀ s₁ mg mb G Y fa o pm cd doc dV kV ho hd hcd hD hmg hg args vals as hpre hlay hrd hwl hlo
  have KX := km_in_of Y
  km_tabs Y
  have X := (Ground.X G).1
  have V := (Ground.X G).2
  refine Ground.open G ?_
  intro T B D TE TW
  try (refine guard_noD D (by decide +kernel) ?_; clear D)
  km_lay T hmg ho hd cd
  clear hmg
  wrow_args hpre hlay hrd hwl hlo
  all_goals (
    first | refine callC_kw (enter_call ?_) | refine enter_call ?_
    w_top on
    refine law_post hT9 (fun _ _ => rfl) (postW_of rfl (w_eq_bool (w_res rfl) w_lit) rfl) ?_
    w_call any ho hd hcd hD T F
    clear hd
    kn_ghosts F T
    k_drop
    rename CellsAre _ _ _ => zX0
    rename Fr _ _ _ _ => zF
    rename News _ _ _ _ => zN
    rename Top topProg _ _ _ _ _ => zT
    rename Below _ _ _ _ => zK
    rename Frag.In _ _ => zX
    rename CodeHd _ _ _ => zC
    rename Heap.IsList (ghostOf _ _) _ _ => zL
    rename IntsAre _ _ => zI
    rename (¬ _ < _) => zlen
    clear zX0
    skip)
  have zR := newsRev zN
  clear zN
  have zg := hg
  refine wpAny_mono (lawBody zK (frExt zF (m' := fun y => if y = Str.ofString "script" then some (.ref _) else none) ?e1) zX zT zR ?h1 ?h2 ?h3 ?h4 zL zI ?e2 ?e3 zC ?e4) (fun _ _ x => x) (fun _ _ x => x.elim)
  case h1 => with_unfolding_all assumption
  case h2 => with_unfolding_all assumption
  case h3 => with_unfolding_all assumption
  case h4 => with_unfolding_all assumption
  case e1 => with_unfolding_all rfl
  case e3 => assumption
  case e2 => omega
  case e4 =>
    intro h' tk gs m' hgs F T
    refine ⟨rfl, F.keep, tabGrown T, rfl, ?_⟩
    exact (AllBare.of_eq zg).push hgs)
end Mine

theorem PySem.Challenge.cw_re0062_01_holds : PySem.Challenge.rw_re0062_01.Holds := by
  exact Mine.top0
