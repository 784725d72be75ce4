import PyProof.Rows.All
import Wide.All
import OpenK.AllK
import Wide.FinOn
import Lean
import PySem.Challenge.RW_gn5009_01
open PySem PySem.W PyProof.Rows PySem.Calls
set_option Elab.async false
set_option maxRecDepth 100000
set_option maxHeartbeats 8000000
namespace Mine
open_top hd for PySem.Challenge.rw_gn5009_01
section PartA
theorem fillK (P : Params) (Z : Prop) (h : PySem.Challenge.rw_gn5009_01 = PySem.Challenge.rw_gn5009_01 → hd.heap_39 P = hd.heap_39 P → Z) : Z := h rfl rfl

abbrev Led := List (Addr × Obj)

/-- what a call finds around it -/
structure Gnd (K : Frag) (d : Nat) (A A₀ : Around) (base h₀ : Heap) (L a : Addr) (cn : Str) (cs : Scope) (ccd : Value) (outer : List Env) (p : Program) (loose : List Str) (mean : ExcName → Option Value) (mg mb : Str → Option Value) : Prop where
  hh : A.handled = none
  hA : A.frames = some (envOf cn cs L a ccd :: outer)
  hk : cs.kind = .function
  hdp : A.depth + d < recursionLimit
  hun : A.units + 10 * d < cLine
  B : Below A₀ base outer h₀
  X : K.In h₀
  T : Top p loose mean mg mb h₀

theorem allLt_ne {d : Addr} : ∀ {l : Led}, AllLt d l → ∀ p ∈ l, p.1 ≠ d
  | [], _, _, h => nomatch h
  | _ :: _, ⟨h, _⟩, _, .head _ => Nat.ne_of_lt h
  | _ :: _, ⟨_, h⟩, _, .tail _ hp => allLt_ne h _ hp

section
variable {prog : Program} {w : World} {A : Around} {E : Value → Shared → Prop} {s : Shared} {h₀ : Heap} {L : Addr} {m : Str → Option Value} {news : Led} {Q : Value → Shared → Prop}
theorem rl_len {l : Addr} {vs : List Value} {nc : Nat} (N : News h₀ L s.heap news) (hm : (l, listOf vs.toArray nc) ∈ news) (hz : vs.length ≤ 16384) (h : Q (.int (vs.length : Nat) (s.toks + 1)) { s with toks := s.toks + 1 + 1 }) :
    wpAny (model prog w) A (call (.builtin "len") [.ref l]) Q E s :=
  kun_lenL (News.isList N hm) (by simp) (by omega) h
theorem ints_len {vs : List Value} {ns : List Int} (hi : IntsAre vs ns) : ns.length = vs.length := hi.length.symm
theorem rl_item_ints {value slice : PySem.Expr} {l : Addr} {vs : List Value} {nc : Nat} {ns : List Int} {k : Int} {u : Tok} (N : News h₀ L s.heap news) (hm : (l, listOf vs.toArray nc) ∈ news) (hi : IntsAre vs ns)
    (h0 : 0 ≤ k) (h1 : k < (vs.length : Nat)) (hfit : k < 2 ^ 63) (h : ∀ x t, Q (.int x t) s)
    (hs : subscripted slice false (.ref l) (.int k u) = operate [.ref l, .int k u] (getItem (.ref l) (.int k u)) := by with_unfolding_all rfl) :
    wpAny (model prog w) A (subscriptTail value slice (.ref l) (.int k u)) Q E s :=
  item_anyK (News.isList N hm) hi h0 (by rw [ints_len hi]; exact h1) hfit (fun t => h _ t) hs
theorem rl_item {value slice : PySem.Expr} {l : Addr} {vs : List Value} {nc : Nat} {k : Int} {u : Tok} {v : Value} (N : News h₀ L s.heap news) (hm : (l, listOf vs.toArray nc) ∈ news) (hx : vs[k.toNat]? = some v)
    (h0 : 0 ≤ k) (hfit : k < 2 ^ 63) (h : Q v s)
    (hs : subscripted slice false (.ref l) (.int k u) = operate [.ref l, .int k u] (getItem (.ref l) (.int k u)) := by with_unfolding_all rfl) :
    wpAny (model prog w) A (subscriptTail value slice (.ref l) (.int k u)) Q E s :=
  tail_any (News.isList N hm).typeIs slot_list_getitem.lookup (wpAny_getItem_list (News.isList N hm) h0 hfit (by simpa using hx) h) hs
theorem rl_item_out {value slice : PySem.Expr} {l : Addr} {vs : List Value} {nc : Nat} {k : Int} {u : Tok} (hA : A.handled = none) (N : News h₀ L s.heap news) (hm : (l, listOf vs.toArray nc) ∈ news)
    (hout : k < -((vs.length : Nat) : Int) ∨ ((vs.length : Nat) : Int) ≤ k) (hfit : -(2 ^ 63) ≤ k ∧ k < 2 ^ 63) (hE : ∀ h' tk e, Heap.NewExc s.heap h' e "IndexError" → E (.ref e) { s with heap := h', toks := tk })
    (hs : subscripted slice false (.ref l) (.int k u) = operate [.ref l, .int k u] (getItem (.ref l) (.int k u)) := by with_unfolding_all rfl) :
    wpAny (model prog w) A (subscriptTail value slice (.ref l) (.int k u)) Q E s :=
  tail_any (News.isList N hm).typeIs slot_list_getitem.lookup (wpAny_getItem_list_out hA (News.isList N hm) (by simpa using hout) hfit.1 hfit.2 hE) hs
end

local macro_rules | `(tactic| ktr_enter) => `(tactic| (refine' code_def ?k1 ?k2 ?k3 ?k4 ?k5 ?kA ?kF ?kK ?k6 ?k7 ?k8 ?k9 ?kB ?_ ?c2 ?c3 ?c4 ?c5; (case kA => assumption); (case kF => exact rfl); (case kK => assumption); (case k1 => k_asm); (case k2 => k_asm); (case k3 => k_asm); (case k4 => k_asm); (case k5 => k_asm); (case k6 => k_is); (case k7 => k_is); (case k8 => omega); (case k9 => exact BindsTo.of_eq rfl); (case c5 => decide); (case kB => exact locs rfl); (case c2 => exact rfl); (case c3 => exact rfl); (case c4 => exact rfl); k_whole; intro g' L' h' FG' F' N' B' X' T'; (try dsimp only); (try k_lift B'); (try k_fold)))
local macro_rules | `(tactic| k_all) => `(tactic| first | assumption | exact allLt_ne (by assumption))
local macro_rules | `(tactic| k_mem) => `(tactic| assumption)
local macro_rules | `(tactic| walk_at "call builtin:len") => `(tactic| (k_here; (with_reducible show wpAny _ _ (call (Value.builtin "len") [Value.ref _]) _ _ _); k_dflt (refine' rl_len ?k1 ?k2 ?k3 ?_; (case k1 => k_asm); (case k2 => k_mem); (case k3 => omega); k_whole)))
local macro_rules | `(tactic| walk_at "subscriptTail") => `(tactic| (k_here; (with_reducible show wpAny _ _ (subscriptTail _ _ (Value.ref _) (Value.int _ _)) _ _ _); k_dflt (refine' rl_item_ints ?k1 ?k2 ?k3 ?k4 ?k5 ?k6 ?_ ?k7; (case k1 => k_asm); (case k2 => k_mem); (case k3 => with_reducible assumption); (case k4 => omega); (case k5 => omega); (case k6 => omega); (case k7 => with_unfolding_all rfl); k_whole); intro _ _))

section
variable {w : World} {A A₀ : Around} {E Q : Value → Shared → Prop} {s : Shared} {base h₀ : Heap} {outer : List Env} {L a : Addr} {m : Str → Option Value} {cn : Str} {cs : Scope} {ccd : Value} {prog : Program} {p : Program} {loose : List Str} {mean : ExcName → Option Value} {mg mb : Str → Option Value}

/-- the drawing state: a list of the script and the place -/
abbrev stObj (sc : Addr) (i : Int) (t : Tok) (c : Nat) : Obj := listOf [Value.ref sc, .int i t].toArray c

theorem next_h {st sc : Addr} {i lim : Int} {t tl : Tok} {c nc : Nat} {rest : Led} {vs : List Value} {ns : List Int}
    (G : Gnd (hd.heap_39 w.params) 5 A A₀ base h₀ L a cn cs ccd outer p loose mean mg mb) (F : Fr h₀ L s.heap m)
    (N : News h₀ L s.heap ((st, stObj sc i t c) :: rest)) (hne : ∀ p ∈ rest, p.1 ≠ st) (hm : (sc, listOf vs.toArray nc) ∈ rest) (hi : IntsAre vs ns) (hlen : vs.length ≤ 63)
    (h0 : 0 ≤ i) (h1 : i < 1000000) (hl0 : 0 < lim) (hl1 : lim < 100000)
    (hq : ∀ v t' t'' tk' h', 0 ≤ v → v < lim → Fr h₀ L h' m → News h₀ L h' ((st, stObj sc (i + 1) t' c) :: rest) → Q (.int v t'') { s with heap := h', toks := tk' }) :
    wpAny (model prog w) A (call (.ref 586) [.ref st, .int lim tl]) Q E s := by
  w_top off; refine fillK w.params _ ?_; k_fill; intro _ _
  obtain ⟨hh, hA, hk, hdp, hun, B, X, T⟩ := G
  refine wpAny_call ?_
  k_dflt ktr_enter
  k_steps
  · exact hq _ _ _ _ _ (by omega) (by omega) (by k_asm) (by k_asm)
  · exact hq _ _ _ _ _ (fmod_lo _ hl0) (fmod_hi _ hl0) (by k_asm) (by k_asm)

theorem news_perm {h : Heap} {l l' : Led} (N : News h₀ L h l) (hs : ∀ p ∈ l', p ∈ l) : News h₀ L h l' := fun p hp => N p (hs p hp)
theorem mid_in {d : Addr × Obj} {pre post : Led} : ∀ p ∈ d :: (pre ++ post), p ∈ pre ++ d :: post := fun p hp => by
  simp only [List.mem_cons, List.mem_append] at hp ⊢
  rcases hp with h | h | h <;> simp [h]
theorem mid_out {d : Addr × Obj} {pre post : Led} : ∀ p ∈ pre ++ d :: post, p ∈ d :: (pre ++ post) := fun p hp => by
  simp only [List.mem_cons, List.mem_append] at hp ⊢
  rcases hp with h | h | h <;> simp [h]
theorem mid_ne {d : Addr} {pre post : Led} (h1 : ∀ p ∈ pre, p.1 ≠ d) (h2 : ∀ p ∈ post, p.1 ≠ d) : ∀ p ∈ pre ++ post, p.1 ≠ d := fun p hp => (List.mem_append.mp hp).elim (h1 p) (h2 p)
theorem mid_mem {d : Addr} {o : Obj} {q : Addr × Obj} {pre post : Led} (hq : q ∈ pre ++ (d, o) :: post) (hn : q.1 ≠ d) : q ∈ pre ++ post := by
  simp only [List.mem_cons, List.mem_append] at hq ⊢
  rcases hq with h | h | h
  · exact .inl h
  · exact absurd (by rw [h]) hn
  · exact .inr h

theorem next_c {st sc : Addr} {i lim : Int} {t tl : Tok} {c nc : Nat} {news : Led} {U : Obj → Led} {vs : List Value} {ns : List Int}
    (G : Gnd (hd.heap_39 w.params) 5 A A₀ base h₀ L a cn cs ccd outer p loose mean mg mb) (F : Fr h₀ L s.heap m)
    (N : News h₀ L s.heap news) (hU : UpdF st (stObj sc i t c) news U) (hm : (sc, listOf vs.toArray nc) ∈ news) (hne : sc ≠ st) (hi : IntsAre vs ns) (hlen : vs.length ≤ 63)
    (h0 : 0 ≤ i) (h1 : i < 1000000) (hl0 : 0 < lim) (hl1 : lim < 100000)
    (hq : ∀ v t' t'' tk' h', 0 ≤ v → v < lim → Fr h₀ L h' m → News h₀ L h' (U (stObj sc (i + 1) t' c)) → Q (.int v t'') { s with heap := h', toks := tk' }) :
    wpAny (model prog w) A (call (.ref 586) [.ref st, .int lim tl]) Q E s := by
  obtain ⟨pre, post, rfl, hu, n1, n2⟩ := hU.split
  refine next_h G F (news_perm N mid_in) (mid_ne n1 n2) (mid_mem hm hne) hi hlen h0 h1 hl0 hl1 fun v t' t'' tk' h' v0 v1 F' N' => ?_
  exact hq v t' t'' tk' h' v0 v1 F' (by rw [hu]; exact news_perm N' mid_out)
end
end PartA
section PartB
local macro_rules | `(tactic| ktr_enter) => `(tactic| (refine' code_def ?k1 ?k2 ?k3 ?k4 ?k5 ?kA ?kF ?kK ?k6 ?k7 ?k8 ?k9 ?kB ?_ ?c2 ?c3 ?c4 ?c5; (case kA => assumption); (case kF => exact rfl); (case kK => assumption); (case k1 => k_asm); (case k2 => k_asm); (case k3 => k_asm); (case k4 => k_asm); (case k5 => k_asm); (case k6 => k_is); (case k7 => k_is); (case k8 => first | omega | (dsimp only; omega)); (case k9 => exact BindsTo.of_eq rfl); (case c5 => decide); (case kB => exact locs rfl); (case c2 => exact rfl); (case c3 => exact rfl); (case c4 => exact rfl); k_whole; intro g' L' h' FG' F' N' B' X' T'; (try dsimp only); (try k_lift B'); (try k_fold)))
local macro_rules | `(tactic| k_all) => `(tactic| first | assumption | exact allLt_ne (by assumption))
local macro_rules | `(tactic| k_mem) => `(tactic| assumption)
local macro_rules | `(tactic| walk_at "call builtin:len") => `(tactic| (k_here; (with_reducible show wpAny _ _ (call (Value.builtin "len") [Value.ref _]) _ _ _); k_dflt (refine' rl_len ?k1 ?k2 ?k3 ?_; (case k1 => k_asm); (case k2 => k_mem); (case k3 => omega); k_whole)))
local macro_rules | `(tactic| walk_at "subscriptTail") => `(tactic| (k_here; (with_reducible show wpAny _ _ (subscriptTail _ _ (Value.ref _) (Value.int _ _)) _ _ _); k_dflt (refine' rl_item_ints ?k1 ?k2 ?k3 ?k4 ?k5 ?k6 ?_ ?k7; (case k1 => k_asm); (case k2 => k_mem); (case k3 => with_reducible assumption); (case k4 => omega); (case k5 => omega); (case k6 => omega); (case k7 => with_unfolding_all rfl); k_whole); intro _ _))
local macro_rules | `(tactic| walk_at "subscriptTail") => `(tactic| (k_here; (with_reducible show wpAny _ _ (subscriptTail _ _ (Value.ref _) (Value.int _ _)) _ _ _); k_dflt (refine' rl_item ?k1 ?k2 ?k3 ?k4 ?k6 ?_ ?k7; (case k1 => k_asm); (case k2 => k_mem); (case k4 => first | decide | omega); (case k6 => first | decide | omega); (case k3 => first | exact rfl | assumption); (case k7 => with_unfolding_all rfl); k_whole)))
local macro_rules | `(tactic| walk_at "call builtin:max") => `(tactic| (k_here; (with_reducible show wpAny _ _ (call (Value.builtin _) [Value.int _ _, Value.int _ _]) _ _ _); k_dflt (refine' max_two_N ?k1 ?k2 ?k3 ?_; (case k1 => assumption); (case k2 => k_asm); (case k3 => k_asm); k_whole); intro h' tk' F' N'; (try k_sweep)))
local macro_rules | `(tactic| walk_at "call builtin:min") => `(tactic| (k_here; (with_reducible show wpAny _ _ (call (Value.builtin _) [Value.int _ _, Value.int _ _]) _ _ _); k_dflt (refine' min_two_N ?k1 ?k2 ?k3 ?_; (case k1 => assumption); (case k2 => k_asm); (case k3 => k_asm); k_whole); intro h' tk' F' N'; (try k_sweep)))
local macro_rules | `(tactic| k_room) => `(tactic| first | ((try simp only [depth_under_make, depth_under_kw, depth_in1, depth_deeper, depth_caller]); omega) | (dsimp only [Around.mark, Around.deeper, Around.in1, Around.under]; omega))
local macro_rules | `(tactic| ktr_unf) => `(tactic| (refine' code_defS0 ?k1 ?k2 ?k3 ?k4 ?k5 ?kA ?k6 ?k7 ?k8 ?k9 ?kB ?_ ?cK ?c2 ?c3 ?c4 ?c5; (case kA => exact rfl); (case k2 => k_asm); (case k1 => k_asm); (case k3 => k_asm); (case k4 => k_asm); (case k5 => k_asm); (case k6 => k_is); (case k7 => k_is); (case k8 => first | omega | (dsimp only; omega)); (case k9 => first | exact BindsTo.of_eq rfl | exact binds_K (by k_in) rfl (by k_is) rfl rfl rfl); (case kB => exact locs rfl); (case cK => assumption); (case c2 => exact rfl); (case c3 => exact rfl); (case c4 => exact rfl); (case c5 => decide); k_whole; intro g' L' h' FG' F' N' B' X' T' D'; (try dsimp only); (try k_lift B'); (try k_fold)))
local macro_rules | `(tactic| walk_at "subscriptTail") => `(tactic| (k_here; (with_reducible show wpAny _ _ (subscriptTail _ _ (Value.ref _) (Value.int _ _)) _ _ _); k_dflt (refine' rl_item_out ?k0 ?k1 ?k2 ?k4 ?k6 ?_ ?k7; (case k0 => first | exact rfl | assumption); (case k1 => k_asm); (case k2 => k_mem); (case k4 => omega); (case k6 => omega); (case k7 => with_unfolding_all rfl); k_whole); intro h' tk' e' x'))
section
variable {w : World} {A A₀ : Around} {E Q : Value → Shared → Prop} {s : Shared} {base h₀ : Heap} {outer : List Env} {L a : Addr} {m : Str → Option Value} {cn : Str} {cs : Scope} {ccd : Value} {prog : Program} {p : Program} {loose : List Str} {mean : ExcName → Option Value} {mg mb : Str → Option Value}

/-- a world: its rows, its places, the first row's number, where it stands, what it holds -/
abbrev wObj (wr wp : Addr) (b : Int) (bt : Tok) (pl : Int) (pt : Tok) (hv : Value) (c : Nat) : Obj := listOf [Value.ref wr, .ref wp, .int b bt, .int pl pt, hv].toArray c
/-- what a deed's amount may be -/
def Amt (n : Nat) (pl b deed v : Int) : Prop := (deed = 0 → 1 ≤ v ∧ v ≤ 3) ∧ (deed = 1 → -1 ≤ pl - v ∧ pl - v < n) ∧ (deed = 2 → 0 ≤ v - b ∧ v - b < n + 2)

theorem amount_c {wa wr wp : Addr} {b pl deed want : Int} {bt pt dt wt : Tok} {hv : Value} {c nr : Nat} {news : Led} {rv : List Value}
    (G : Gnd (hd.heap_39 w.params) 5 A A₀ base h₀ L a cn cs ccd outer p loose mean mg mb) (F : Fr h₀ L s.heap m)
    (N : News h₀ L s.heap news) (hw : (wa, wObj wr wp b bt pl pt hv c) ∈ news) (hr : (wr, listOf rv.toArray nr) ∈ news) (hn1 : rv.length ≤ 6)
    (b0 : 0 ≤ b) (b1 : b < 1000) (p0 : -1 ≤ pl) (p1 : pl < 1000) (d0 : 0 ≤ deed) (d1 : deed < 3) (w0 : 0 ≤ want) (w1 : want < 100)
    (hq : ∀ v t tk' h', Amt rv.length pl b deed v → Fr h₀ L h' m → News h₀ L h' news → Q (.int v t) { s with heap := h', toks := tk' }) :
    wpAny (model prog w) A (call (.ref 607) [.ref wa, .int deed dt, .int want wt]) Q E s := by
  w_top off; refine fillK w.params _ ?_; k_fill; intro _ _
  obtain ⟨hh, hA, hk, hdp, hun, B, X, T⟩ := G
  refine wpAny_call ?_
  k_dflt ktr_enter
  have f1 : 0 ≤ want.fmod 3 := fmod_lo _ (by omega)
  have f2 : want.fmod 3 < 3 := fmod_hi _ (by omega)
  have f3 : 0 ≤ want.fmod ((rv.length : Nat) + 2) := fmod_lo _ (by omega)
  have f4 : want.fmod ((rv.length : Nat) + 2) < (rv.length : Nat) + 2 := fmod_hi _ (by omega)
  k_steps
  all_goals (refine hq _ _ _ _ ⟨?_, ?_, ?_⟩ (by k_asm) (by k_asm) <;> intros <;> (try simp only [decide_eq_true_eq, decide_eq_false_iff_not] at *) <;> (repeat' split) <;> omega)

theorem lt_of_all {d : Addr} : ∀ {l : Led}, AllLt d l → ∀ p ∈ l, p.1 < d
  | [], _, _, h => nomatch h
  | _ :: _, ⟨h, _⟩, _, .head _ => h
  | _ :: _, ⟨_, h⟩, _, .tail _ hp => lt_of_all h _ hp
abbrev tupObj (vs : List Value) (n : Nat) : Obj := { cls := .type "tuple", data := .seq vs.toArray n }
/-- the places: pairs of a file's name and a row's number -/
inductive PlAre (news : Led) : List Value → List (Str × Int) → Prop
  | nil : PlAre news [] []
  | cons {r : Addr} {f : Str} {o : Int} {t1 t2 : Tok} {n : Nat} {vs : List Value} {ps : List (Str × Int)} : (r, tupObj [.str f t1, .int o t2] n) ∈ news → 0 ≤ o → o < 1000 → PlAre news vs ps → PlAre news (.ref r :: vs) ((f, o) :: ps)
theorem PlAre.length {news : Led} {vs : List Value} {ps : List (Str × Int)} (h : PlAre news vs ps) : ps.length = vs.length := by
  induction h with
  | nil => rfl
  | cons _ _ _ _ ih => rw [List.length_cons, List.length_cons, ih]
theorem PlAre.get {news : Led} {vs : List Value} {ps : List (Str × Int)} (h : PlAre news vs ps) : ∀ {k : Nat}, k < vs.length → ∃ r f o t1 t2 n, vs[k]? = some (.ref r) ∧ ps[k]? = some (f, o) ∧ (r, tupObj [.str f t1, .int o t2] n) ∈ news ∧ 0 ≤ o ∧ o < 1000 := by
  induction h with
  | nil => intro k hk; exact absurd hk (Nat.not_lt_zero _)
  | cons hm h0 h1 _ ih =>
    intro k hk
    cases k with
    | zero => exact ⟨_, _, _, _, _, _, rfl, rfl, hm, h0, h1⟩
    | succ k => exact ih (Nat.lt_of_succ_lt_succ hk)
theorem PlAre.mono {news news' : Led} {vs : List Value} {ps : List (Str × Int)} (h : PlAre news vs ps) (hs : ∀ q ∈ news, q ∈ news') : PlAre news' vs ps := by
  induction h with
  | nil => exact .nil
  | cons hm h0 h1 _ ih => exact .cons (hs _ hm) h0 h1 ih
inductive Said : Value → Value → Option (Str × Int) → Prop
  | some {f : Str} {o : Int} {t1 t2 : Tok} : Said (.str f t1) (.int o t2) (some (f, o))
  | none : Said .none .none none
/-- what is told of a place -/
def tellAt (ps : List (Str × Int)) (off : Int) : Option (Str × Int) :=
  if 0 ≤ off then (if off < (ps.length : Nat) then (ps[off.toNat]?).map (fun q => (q.1, q.2 + 1)) else if off = (ps.length : Nat) then (ps[(((ps.length : Nat) : Int) - 1).toNat]?).map (fun q => (q.1, q.2 + 2)) else none) else none
theorem tell_in {ps : List (Str × Int)} {off : Int} {f : Str} {o : Int} (h0 : 0 ≤ off) (h1 : off < (ps.length : Nat)) (h : ps[off.toNat]? = some (f, o)) : tellAt ps off = some (f, o + 1) := by
  unfold tellAt
  rw [if_pos h0, if_pos h1, h]
  rfl
theorem tell_end {ps : List (Str × Int)} {off : Int} {f : Str} {o : Int} (h0 : off = (ps.length : Nat)) (h : ps[(((ps.length : Nat) : Int) - 1).toNat]? = some (f, o)) : tellAt ps off = some (f, o + 2) := by
  unfold tellAt
  rw [if_pos (by omega), if_neg (by omega), if_pos h0, h]
  rfl
theorem tell_out {ps : List (Str × Int)} {off : Int} (h : off < 0 ∨ (ps.length : Nat) < off) : tellAt ps off = none := by
  unfold tellAt
  rcases h with h | h
  · rw [if_neg (by omega)]
  · rw [if_pos (by omega), if_neg (by omega), if_neg (by omega)]

theorem where_c {wp : Addr} {off : Int} {ot : Tok} {np : Nat} {news : Led} {pv : List Value} {ps : List (Str × Int)}
    (G : Gnd (hd.heap_39 w.params) 5 A A₀ base h₀ L a cn cs ccd outer p loose mean mg mb) (F : Fr h₀ L s.heap m)
    (N : News h₀ L s.heap news) (hp : (wp, listOf pv.toArray np) ∈ news) (hpl : PlAre news pv ps) (hn0 : 3 ≤ pv.length) (hn1 : pv.length ≤ 6)
    (o0 : -100000 < off) (o1 : off < 100000)
    (hq : ∀ r v1 v2 n tk' h', Fr h₀ L h' m → News h₀ L h' ((r, tupObj [v1, v2] n) :: news) → (∀ q ∈ news, q.1 < r) → Said v1 v2 (tellAt ps off) → Q (.ref r) { s with heap := h', toks := tk' }) :
    wpAny (model prog w) A (call (.ref 635) [.ref wp, .int off ot]) Q E s := by
  w_top off; refine fillK w.params _ ?_; k_fill; intro _ _
  obtain ⟨hh, hA, hk, hdp, hun, B, X, T⟩ := G
  have hl := hpl.length
  by_cases c1 : 0 ≤ off ∧ off < (pv.length : Nat)
  · obtain ⟨r, f, o, t1, t2, n, e1, e2, e3, e4, e5⟩ := hpl.get (k := off.toNat) (by omega)
    obtain ⟨c1, c2⟩ := c1
    have tl := tell_in c1 (by omega) e2
    clear hpl
    refine wpAny_call ?_
    k_dflt ktr_enter
    k_steps
    all_goals first | exact hq _ _ _ _ _ _ (by k_asm) (by k_asm) (by first | assumption | exact lt_of_all (by assumption)) (by rw [tl]; exact .some) | (exfalso; omega) | (trace_state; fail)
  by_cases c2 : off = (pv.length : Nat)
  · obtain ⟨r, f, o, t1, t2, n, e1, e2, e3, e4, e5⟩ := hpl.get (k := (((pv.length : Nat) : Int) - 1).toNat) (by omega)
    have tl := tell_end (ps := ps) (off := off) (by omega) (by rw [hl]; exact e2)
    clear hpl
    refine wpAny_call ?_
    k_dflt ktr_enter
    k_steps
    all_goals first | exact hq _ _ _ _ _ _ (by k_asm) (by k_asm) (by first | assumption | exact lt_of_all (by assumption)) (by rw [tl]; exact .some) | (exfalso; omega) | (trace_state; fail)
  have tl : tellAt ps off = none := tell_out (by omega)
  rcases (show off < 0 ∨ (pv.length : Nat) < off by omega) with c3 | c3
  · clear hpl c1 c2
    refine wpAny_call ?_
    k_dflt ktr_enter
    k_steps
    all_goals first | exact hq _ _ _ _ _ _ (by k_asm) (by k_asm) (by first | assumption | exact lt_of_all (by assumption)) (by rw [tl]; exact .none) | (exfalso; omega) | (trace_state; fail)
  · clear hpl c1 c2
    refine wpAny_call ?_
    k_dflt ktr_enter
    k_steps
    all_goals first | exact hq _ _ _ _ _ _ (by k_asm) (by k_asm) (by first | assumption | exact lt_of_all (by assumption)) (by rw [tl]; exact .none) | (exfalso; omega) | (trace_state; fail)
end
end PartB
section PartC
local macro_rules | `(tactic| ktr_enter) => `(tactic| (refine' code_def ?k1 ?k2 ?k3 ?k4 ?k5 ?kA ?kF ?kK ?k6 ?k7 ?k8 ?k9 ?kB ?_ ?c2 ?c3 ?c4 ?c5; (case kA => assumption); (case kF => exact rfl); (case kK => assumption); (case k1 => k_asm); (case k2 => k_asm); (case k3 => k_asm); (case k4 => k_asm); (case k5 => k_asm); (case k6 => k_is); (case k7 => k_is); (case k8 => first | omega | (dsimp only; omega)); (case k9 => exact BindsTo.of_eq rfl); (case c5 => decide); (case kB => exact locs rfl); (case c2 => exact rfl); (case c3 => exact rfl); (case c4 => exact rfl); k_whole; intro g' L' h' FG' F' N' B' X' T'; (try dsimp only); (try k_lift B'); (try k_fold)))
local macro_rules | `(tactic| k_all) => `(tactic| first | assumption | exact allLt_ne (by assumption))
local macro_rules | `(tactic| k_mem) => `(tactic| assumption)
local macro_rules | `(tactic| walk_at "call builtin:len") => `(tactic| (k_here; (with_reducible show wpAny _ _ (call (Value.builtin "len") [Value.ref _]) _ _ _); k_dflt (refine' rl_len ?k1 ?k2 ?k3 ?_; (case k1 => k_asm); (case k2 => k_mem); (case k3 => omega); k_whole)))
local macro_rules | `(tactic| walk_at "subscriptTail") => `(tactic| (k_here; (with_reducible show wpAny _ _ (subscriptTail _ _ (Value.ref _) (Value.int _ _)) _ _ _); k_dflt (refine' rl_item_ints ?k1 ?k2 ?k3 ?k4 ?k5 ?k6 ?_ ?k7; (case k1 => k_asm); (case k2 => k_mem); (case k3 => with_reducible assumption); (case k4 => omega); (case k5 => omega); (case k6 => omega); (case k7 => with_unfolding_all rfl); k_whole); intro _ _))
local macro_rules | `(tactic| walk_at "subscriptTail") => `(tactic| (k_here; (with_reducible show wpAny _ _ (subscriptTail _ _ (Value.ref _) (Value.int _ _)) _ _ _); k_dflt (refine' rl_item ?k1 ?k2 ?k3 ?k4 ?k6 ?_ ?k7; (case k1 => k_asm); (case k2 => k_mem); (case k4 => first | decide | omega); (case k6 => first | decide | omega); (case k3 => first | exact rfl | assumption); (case k7 => with_unfolding_all rfl); k_whole)))
local macro_rules | `(tactic| walk_at "call builtin:max") => `(tactic| (k_here; (with_reducible show wpAny _ _ (call (Value.builtin _) [Value.int _ _, Value.int _ _]) _ _ _); k_dflt (refine' max_two_N ?k1 ?k2 ?k3 ?_; (case k1 => assumption); (case k2 => k_asm); (case k3 => k_asm); k_whole); intro h' tk' F' N'; (try k_sweep)))
local macro_rules | `(tactic| walk_at "call builtin:min") => `(tactic| (k_here; (with_reducible show wpAny _ _ (call (Value.builtin _) [Value.int _ _, Value.int _ _]) _ _ _); k_dflt (refine' min_two_N ?k1 ?k2 ?k3 ?_; (case k1 => assumption); (case k2 => k_asm); (case k3 => k_asm); k_whole); intro h' tk' F' N'; (try k_sweep)))
local macro_rules | `(tactic| k_room) => `(tactic| first | ((try simp only [depth_under_make, depth_under_kw, depth_in1, depth_deeper, depth_caller]); omega) | (dsimp only [Around.mark, Around.deeper, Around.in1, Around.under]; omega))
local macro_rules | `(tactic| ktr_unf) => `(tactic| (refine' code_defS0 ?k1 ?k2 ?k3 ?k4 ?k5 ?kA ?k6 ?k7 ?k8 ?k9 ?kB ?_ ?cK ?c2 ?c3 ?c4 ?c5; (case kA => exact rfl); (case k2 => k_asm); (case k1 => k_asm); (case k3 => k_asm); (case k4 => k_asm); (case k5 => k_asm); (case k6 => k_is); (case k7 => k_is); (case k8 => first | omega | (dsimp only; omega)); (case k9 => first | exact BindsTo.of_eq rfl | exact binds_K (by k_in) rfl (by k_is) rfl rfl rfl); (case kB => exact locs rfl); (case cK => assumption); (case c2 => exact rfl); (case c3 => exact rfl); (case c4 => exact rfl); (case c5 => decide); k_whole; intro g' L' h' FG' F' N' B' X' T' D'; (try dsimp only); (try k_lift B'); (try k_fold)))
local macro_rules | `(tactic| walk_at "subscriptTail") => `(tactic| (k_here; (with_reducible show wpAny _ _ (subscriptTail _ _ (Value.ref _) (Value.int _ _)) _ _ _); k_dflt (refine' rl_item_out ?k0 ?k1 ?k2 ?k4 ?k6 ?_ ?k7; (case k0 => first | exact rfl | assumption); (case k1 => k_asm); (case k2 => k_mem); (case k4 => omega); (case k6 => omega); (case k7 => with_unfolding_all rfl); k_whole); intro h' tk' e' x'))
section
variable {w : World} {A A₀ : Around} {E Q : Value → Shared → Prop} {s : Shared} {base h₀ : Heap} {outer : List Env} {L a : Addr} {m : Str → Option Value} {cn : Str} {cs : Scope} {ccd : Value} {prog : Program} {p : Program} {loose : List Str} {mean : ExcName → Option Value} {mg mb : Str → Option Value}

theorem strs_get {vs : List Value} {rs : List Str} (h : StrsAre vs rs) : ∀ {k : Nat}, k < vs.length → ∃ x t, vs[k]? = some (.str x t) ∧ rs[k]? = some x := by
  induction h with
  | nil => intro k hk; exact absurd hk (Nat.not_lt_zero _)
  | cons x t _ ih =>
    intro k hk
    cases k with
    | zero => exact ⟨_, _, rfl, rfl⟩
    | succ k => exact ih (Nat.lt_of_succ_lt_succ hk)
theorem strs_len {vs : List Value} {rs : List Str} (h : StrsAre vs rs) : rs.length = vs.length := by
  induction h with
  | nil => rfl
  | cons _ _ _ ih => rw [List.length_cons, List.length_cons, ih]
/-- where a deed leads -/
def newPl (deed pl b v : Int) : Int := if deed = 0 then pl + v else if deed = 1 then pl - v else v - b
/-- what is held there, and what the deed hands back -/
inductive Went (rs : List Str) (deed pl : Int) : Value → Value → Prop
  | on {x : Str} {t1 t2 : Tok} : 0 ≤ pl → pl < (rs.length : Nat) → rs[pl.toNat]? = some x → Went rs deed pl (.str x t1) (.str x t2)
  | low : deed = 1 → pl < 0 → Went rs deed pl .none .none
  | off {t : Tok} : deed ≠ 1 → (rs.length : Nat) ≤ pl → Went rs deed pl .none (.str (Str.ofString "the end") t)

theorem moved_h {wa wr wp : Addr} {b pl deed v : Int} {bt pt dt vt : Tok} {hv : Value} {c nr : Nat} {rest : Led} {rv : List Value} {rs : List Str}
    (G : Gnd (hd.heap_39 w.params) 5 A A₀ base h₀ L a cn cs ccd outer p loose mean mg mb) (F : Fr h₀ L s.heap m)
    (N : News h₀ L s.heap ((wa, wObj wr wp b bt pl pt hv c) :: rest)) (hne : ∀ p ∈ rest, p.1 ≠ wa) (hr : (wr, listOf rv.toArray nr) ∈ rest) (hs : StrsAre rv rs) (hn0 : 3 ≤ rv.length) (hn1 : rv.length ≤ 6)
    (b0 : 0 ≤ b) (b1 : b < 1000) (p0 : -1 ≤ pl) (p1 : pl < 1000) (d0 : 0 ≤ deed) (d1 : deed < 3) (am : Amt rv.length pl b deed v)
    (hq : ∀ r hv' pt' tk' h', Fr h₀ L h' m → News h₀ L h' ((wa, wObj wr wp b bt (newPl deed pl b v) pt' hv' c) :: rest) → Went rs deed (newPl deed pl b v) hv' r → Q r { s with heap := h', toks := tk' }) :
    wpAny (model prog w) A (call (.ref 621) [.ref wa, .int deed dt, .int v vt]) Q E s := by
  w_top off; refine fillK w.params _ ?_; k_fill; intro _ _
  obtain ⟨hh, hA, hk, hdp, hun, B, X, T⟩ := G
  have hl := strs_len hs
  obtain ⟨a1, a2, a3⟩ := am
  rcases (show deed = 0 ∨ deed = 1 ∨ deed = 2 by omega) with e | e | e
  · subst e
    obtain ⟨a4, a5⟩ := a1 rfl
    clear a1 a2 a3
    have en : newPl 0 pl b v = pl + v := rfl
    rw [en] at hq
    by_cases c1 : pl + v < (rv.length : Nat)
    · obtain ⟨x, t, e1, e2⟩ := strs_get hs (k := (pl + v).toNat) (by omega)
      clear hs
      refine wpAny_call ?_
      k_dflt ktr_enter
      k_steps
      all_goals first | exact hq _ _ _ _ _ (by k_asm) (by k_asm) (.on (by omega) (by omega) e2) | (exfalso; omega) | (trace_state; fail)
    · clear hs
      refine wpAny_call ?_
      k_dflt ktr_enter
      k_steps
      all_goals first | exact hq _ _ _ _ _ (by k_asm) (by k_asm) (.off (by decide) (by omega)) | (exfalso; omega) | (trace_state; fail)
  · subst e
    obtain ⟨a4, a5⟩ := a2 rfl
    clear a1 a2 a3
    have en : newPl 1 pl b v = pl - v := rfl
    rw [en] at hq
    by_cases c0 : pl - v < 0
    · clear hs
      refine wpAny_call ?_
      k_dflt ktr_enter
      k_steps
      all_goals first | exact hq _ _ _ _ _ (by k_asm) (by k_asm) (.low rfl c0) | (exfalso; omega) | (trace_state; fail)
    · obtain ⟨x, t, e1, e2⟩ := strs_get hs (k := (pl - v).toNat) (by omega)
      clear hs
      refine wpAny_call ?_
      k_dflt ktr_enter
      k_steps
      all_goals first | exact hq _ _ _ _ _ (by k_asm) (by k_asm) (.on (by omega) (by omega) e2) | (exfalso; omega) | (trace_state; fail)
  · subst e
    obtain ⟨a4, a5⟩ := a3 rfl
    clear a1 a2 a3
    have en : newPl 2 pl b v = v - b := rfl
    rw [en] at hq
    by_cases c1 : v - b < (rv.length : Nat)
    · obtain ⟨x, t, e1, e2⟩ := strs_get hs (k := (v - b).toNat) (by omega)
      clear hs
      refine wpAny_call ?_
      k_dflt ktr_enter
      k_steps
      all_goals first | exact hq _ _ _ _ _ (by k_asm) (by k_asm) (.on (by omega) (by omega) e2) | (exfalso; omega) | (trace_state; fail)
    · clear hs
      refine wpAny_call ?_
      k_dflt ktr_enter
      k_steps
      all_goals first | exact hq _ _ _ _ _ (by k_asm) (by k_asm) (.off (by decide) (by omega)) | (exfalso; omega) | (trace_state; fail)

theorem moved_c {wa wr wp : Addr} {b pl deed v : Int} {bt pt dt vt : Tok} {hv : Value} {c nr : Nat} {news : Led} {U : Obj → Led} {rv : List Value} {rs : List Str}
    (G : Gnd (hd.heap_39 w.params) 5 A A₀ base h₀ L a cn cs ccd outer p loose mean mg mb) (F : Fr h₀ L s.heap m)
    (N : News h₀ L s.heap news) (hU : UpdF wa (wObj wr wp b bt pl pt hv c) news U) (hne : wr ≠ wa) (hr : (wr, listOf rv.toArray nr) ∈ news) (hs : StrsAre rv rs) (hn0 : 3 ≤ rv.length) (hn1 : rv.length ≤ 6)
    (b0 : 0 ≤ b) (b1 : b < 1000) (p0 : -1 ≤ pl) (p1 : pl < 1000) (d0 : 0 ≤ deed) (d1 : deed < 3) (am : Amt rv.length pl b deed v)
    (hq : ∀ r hv' pt' tk' h', Fr h₀ L h' m → News h₀ L h' (U (wObj wr wp b bt (newPl deed pl b v) pt' hv' c)) → Went rs deed (newPl deed pl b v) hv' r → Q r { s with heap := h', toks := tk' }) :
    wpAny (model prog w) A (call (.ref 621) [.ref wa, .int deed dt, .int v vt]) Q E s := by
  obtain ⟨pre, post, rfl, hu, n1, n2⟩ := hU.split
  refine moved_h G F (news_perm N mid_in) (mid_ne n1 n2) (mid_mem hr hne) hs hn0 hn1 b0 b1 p0 p1 d0 d1 am fun r hv' pt' tk' h' F' N' W => ?_
  exact hq r hv' pt' tk' h' F' (by rw [hu]; exact news_perm N' mid_out) W
end
end PartC
section PartX
local macro_rules | `(tactic| ktr_enter) => `(tactic| (refine' code_def ?k1 ?k2 ?k3 ?k4 ?k5 ?kA ?kF ?kK ?k6 ?k7 ?k8 ?k9 ?kB ?_ ?c2 ?c3 ?c4 ?c5; (case kA => assumption); (case kF => exact rfl); (case kK => assumption); (case k1 => k_asm); (case k2 => k_asm); (case k3 => k_asm); (case k4 => k_asm); (case k5 => k_asm); (case k6 => k_is); (case k7 => k_is); (case k8 => first | omega | (dsimp only; omega)); (case k9 => exact BindsTo.of_eq rfl); (case c5 => decide); (case kB => exact locs rfl); (case c2 => exact rfl); (case c3 => exact rfl); (case c4 => exact rfl); k_whole; intro g' L' h' FG' F' N' B' X' T'; (try dsimp only); (try k_lift B'); (try k_fold)))
local macro_rules | `(tactic| k_all) => `(tactic| first | assumption | exact allLt_ne (by assumption))
local macro_rules | `(tactic| k_mem) => `(tactic| assumption)
local macro_rules | `(tactic| walk_at "call builtin:len") => `(tactic| (k_here; (with_reducible show wpAny _ _ (call (Value.builtin "len") [Value.ref _]) _ _ _); k_dflt (refine' rl_len ?k1 ?k2 ?k3 ?_; (case k1 => k_asm); (case k2 => k_mem); (case k3 => omega); k_whole)))
local macro_rules | `(tactic| walk_at "subscriptTail") => `(tactic| (k_here; (with_reducible show wpAny _ _ (subscriptTail _ _ (Value.ref _) (Value.int _ _)) _ _ _); k_dflt (refine' rl_item_ints ?k1 ?k2 ?k3 ?k4 ?k5 ?k6 ?_ ?k7; (case k1 => k_asm); (case k2 => k_mem); (case k3 => with_reducible assumption); (case k4 => omega); (case k5 => omega); (case k6 => omega); (case k7 => with_unfolding_all rfl); k_whole); intro _ _))
local macro_rules | `(tactic| walk_at "subscriptTail") => `(tactic| (k_here; (with_reducible show wpAny _ _ (subscriptTail _ _ (Value.ref _) (Value.int _ _)) _ _ _); k_dflt (refine' rl_item ?k1 ?k2 ?k3 ?k4 ?k6 ?_ ?k7; (case k1 => k_asm); (case k2 => k_mem); (case k4 => first | decide | omega); (case k6 => first | decide | omega); (case k3 => first | exact rfl | assumption); (case k7 => with_unfolding_all rfl); k_whole)))
local macro_rules | `(tactic| walk_at "call builtin:max") => `(tactic| (k_here; (with_reducible show wpAny _ _ (call (Value.builtin _) [Value.int _ _, Value.int _ _]) _ _ _); k_dflt (refine' max_two_N ?k1 ?k2 ?k3 ?_; (case k1 => assumption); (case k2 => k_asm); (case k3 => k_asm); k_whole); intro h' tk' F' N'; (try k_sweep)))
local macro_rules | `(tactic| walk_at "call builtin:min") => `(tactic| (k_here; (with_reducible show wpAny _ _ (call (Value.builtin _) [Value.int _ _, Value.int _ _]) _ _ _); k_dflt (refine' min_two_N ?k1 ?k2 ?k3 ?_; (case k1 => assumption); (case k2 => k_asm); (case k3 => k_asm); k_whole); intro h' tk' F' N'; (try k_sweep)))
local macro_rules | `(tactic| k_room) => `(tactic| first | ((try simp only [depth_under_make, depth_under_kw, depth_in1, depth_deeper, depth_caller]); omega) | (dsimp only [Around.mark, Around.deeper, Around.in1, Around.under]; omega))
local macro_rules | `(tactic| ktr_unf) => `(tactic| (refine' code_defS0 ?k1 ?k2 ?k3 ?k4 ?k5 ?kA ?k6 ?k7 ?k8 ?k9 ?kB ?_ ?cK ?c2 ?c3 ?c4 ?c5; (case kA => exact rfl); (case k2 => k_asm); (case k1 => k_asm); (case k3 => k_asm); (case k4 => k_asm); (case k5 => k_asm); (case k6 => k_is); (case k7 => k_is); (case k8 => first | omega | (dsimp only; omega)); (case k9 => first | exact BindsTo.of_eq rfl | exact binds_K (by k_in) rfl (by k_is) rfl rfl rfl); (case kB => exact locs rfl); (case cK => assumption); (case c2 => exact rfl); (case c3 => exact rfl); (case c4 => exact rfl); (case c5 => decide); k_whole; intro g' L' h' FG' F' N' B' X' T' D'; (try dsimp only); (try k_lift B'); (try k_fold)))
local macro_rules | `(tactic| walk_at "subscriptTail") => `(tactic| (k_here; (with_reducible show wpAny _ _ (subscriptTail _ _ (Value.ref _) (Value.int _ _)) _ _ _); k_dflt (refine' rl_item_out ?k0 ?k1 ?k2 ?k4 ?k6 ?_ ?k7; (case k0 => first | exact rfl | assumption); (case k1 => k_asm); (case k2 => k_mem); (case k4 => omega); (case k6 => omega); (case k7 => with_unfolding_all rfl); k_whole); intro h' tk' e' x'))
/-- an exception stands in h with a traceback and without a context; fl: the flag of its newest entry -/
def Trc (base : Heap) (e : Addr) (cls fl : Value) (h : Heap) : Prop :=
  ∃ oe vs T oT ts a0, h.get? e = some oe ∧ oe.cls = cls ∧ oe.data = .fields vs ∧ vs[0]? = some a0 ∧ vs[1]? = some (.ref T) ∧ vs[2]? = some .none ∧ base.get? T = none ∧ T ≠ e ∧ h.get? T = some oT ∧ oT.data = .fields ts ∧ ts[3]? = some fl
/-- it flies over the frames l -/
structure Fly (base : Heap) (l : List Env) (e : Addr) (cls fl : Value) (h : Heap) : Prop where
  stays : base.StaysIn h
  fresh : base.get? e = none
  frames : h.FunFrames base l
  trc : Trc base e cls fl h
theorem Fly.toW {base h : Heap} {l : List Env} {e : Addr} {cls : Value} (x : Fly base l e cls .none h) : ∃ a0, Heap.FlyingW base l e cls a0 h := by
  obtain ⟨f1, f2, f3, oe, vs, T, oT, ts, a0, q1, q2, q3, q4, q5, _, q7, q8, q9, q10, q11⟩ := x
  exact ⟨a0, f1, f2, f3, oe, vs, T, oT, ts, q1, ⟨q2, q4⟩, q3, q5, q7, q8, q9, q10, q11⟩

section
variable {M : Model} {A : Around} {E : Value → Shared → Prop} {s : Shared} {base : Heap} {env : Env} {outer : List Env} {L e : Addr} {Q : Unit → Shared → Prop}

theorem fly_entry {oe : Obj} {vs : Array Value} {head a0 : Value} {hadNext : Bool} (hfr : A.frames = some (env :: outer)) (hf : env.frame = some L) (hst : base.StaysIn s.heap) (hen : base.get? e = none) (hl : s.heap.FunFrames base (env :: outer))
    (he : s.heap.get? e = some oe) (hd : oe.data = .fields vs) (v0 : vs[0]? = some a0) (v1 : 1 < vs.size) (v2 : vs[2]? = some .none)
    (k : ∀ h', Fly base (env :: outer) e oe.cls (rawInt L) h' → s.heap.UpToSlots h' → Q () { s with heap := h' }) :
    wpAny M A (do let f ← frameOf env; let pl ← entryPlaceOf L hadNext; let b ← EntryCells.newEntry head f .none (rawInt L) .none pl; setField (.ref e) 1 b) Q E s := by
  have notFrame : e ∉ (env :: outer).filterMap (·.frame) := by
    intro hm
    obtain ⟨_, o, ho, hno⟩ := hl.mem hm
    have : o = oe := Option.some.inj (ho.symm.trans he)
    exact hno vs (this ▸ hd)
  refine wpAny_bind (wpAny_frameOf_fun hfr hl hf fun h₁ so => ?_)
  refine wpAny_bind (wpAny_entryPlaceOf fun pl hpl => ?_)
  unfold EntryCells.newEntry newFields
  refine wpAny_bind (wpAny_newObj_type ?_ (hpl.sizeOk5 _ _ _ _ _))
  have e₁ : h₁.get? e = some oe := (so.2.1 e notFrame).trans he
  have st₁ : base.StaysIn h₁ := by
    intro b o hb
    have : b ∉ (env :: outer).filterMap (·.frame) := fun hm => by
      have := (hl.mem hm).1
      rw [this] at hb
      cases hb
    exact (so.2.1 b this).trans (hst b o hb)
  generalize hob : ({ cls := .type "traceback", dict := none, data := .fields ([head, .ref L, .none, rawInt L, .none] ++ (if pl.isEmpty then List.replicate 6 Value.none else pl)).toArray } : Obj) = ob
  have hobd : ∃ ts, ob.data = .fields ts ∧ ts[3]? = some (rawInt L) := by
    refine ⟨_, by rw [← hob], ?_⟩
    simp
  have hobf : ob.isFreed = false := by rw [← hob]; rfl
  obtain ⟨ts, td, t3⟩ := hobd
  have e₂ : (h₁.push ob).get? e = some oe := Heap.get?_push_of_some ob e₁
  have hT : (h₁.push ob).get? h₁.objs.size = some ob := Heap.get?_push_size h₁ hobf
  have ne : h₁.objs.size ≠ e := Nat.ne_of_gt (Heap.lt_size e₁)
  refine wpAny_setField e₂ hd v1 (k _ ?_ ?_)
  · have d₃ := Obj.data_mapFields hd (·.setIfInBounds 1 (Value.ref h₁.objs.size))
    have old : ∀ b o, b ≠ e → h₁.get? b = some o → ((h₁.push ob).update e (Obj.mapFields (·.setIfInBounds 1 (Value.ref h₁.objs.size)))).get? b = some o := fun b o hb ho =>
      (Heap.get?_update_other _ _ (Ne.symm hb)).trans (Heap.get?_push_of_some ob ho)
    refine ⟨fun b o hb => old b o ?_ (st₁ b o hb), hen, hl.of_keeps fun b o hb hno => ?_, ?_⟩
    · intro q
      rw [q, hen] at hb
      cases hb
    · obtain ⟨sl, hs⟩ := so.2.2 b o hb
      refine ⟨_, old b _ ?_ hs, rfl⟩
      intro q
      rw [q, he] at hb
      exact hno vs ((Option.some.inj hb) ▸ hd)
    · refine ⟨_, _, h₁.objs.size, ob, ts, a0, Heap.get?_update_self _ e₂ (Obj.isFreed_of_fields d₃), Obj.cls_mapFields _ _, d₃, ?_, ?_, ?_, st₁.fresh, ne, ?_, td, t3⟩
      · rw [Array.getElem?_setIfInBounds_ne (by decide)]; exact v0
      · simp [v1]
      · rw [Array.getElem?_setIfInBounds_ne (by decide)]; exact v2
      · exact (Heap.get?_update_other _ _ (Ne.symm ne)).trans hT
  · intro b o hb hno
    obtain ⟨sl, hs⟩ := so.2.2 b o hb
    refine ⟨sl, (Heap.get?_update_other _ _ ?_).trans (Heap.get?_push_of_some ob hs)⟩
    intro q
    rw [← q, he] at hb
    exact hno vs ((Option.some.inj hb) ▸ hd)

theorem fly_note_first {oe : Obj} {vs : Array Value} {a0 : Value} (hfr : A.frames = some (env :: outer)) (hf : env.frame = some L) (hst : base.StaysIn s.heap) (hen : base.get? e = none) (hl : s.heap.FunFrames base (env :: outer))
    (he : s.heap.get? e = some oe) (hd : oe.data = .fields vs) (v0 : vs[0]? = some a0) (v1 : vs[1]? = some .none) (v2 : vs[2]? = some .none)
    (k : ∀ h', Fly base (env :: outer) e oe.cls (rawInt L) h' → s.heap.UpToSlots h' → Q () { s with heap := h' }) :
    wpAny M A (noteFrame (.ref e) env) Q E s := by
  unfold noteFrame
  simp only [hf]
  refine wpAny_bind (wpAny_field he hd v1 ?_)
  rw [if_neg (by decide)]
  exact fly_entry hfr hf hst hen hl he hd v0 (Array.getElem?_eq_some_iff.mp v1).1 v2 k

theorem fly_note_on {cls : Value} (hfr : A.frames = some (env :: outer)) (hf : env.frame = some L) (x : Fly base (env :: outer) e cls .none s.heap)
    (k : ∀ h', Fly base (env :: outer) e cls (rawInt L) h' → s.heap.UpToSlots h' → Q () { s with heap := h' }) :
    wpAny M A (noteFrame (.ref e) env) Q E s := by
  obtain ⟨f1, f2, f3, oe, vs, T, oT, ts, a0, he, hc, hd, v0, v1, v2, hTb, hTe, hT, hTd, t3⟩ := x
  subst hc
  unfold noteFrame
  simp only [hf]
  refine wpAny_bind (wpAny_field he hd v1 ?_)
  rw [if_pos (show (Value.ref T != Value.none) = true by simp)]
  refine wpAny_bind (wpAny_field hT hTd t3 ?_)
  rw [if_neg (by simp [rawInt])]
  refine wpAny_bind (wpAny_setField hT hTd (Array.getElem?_eq_some_iff.mp t3).1 ?_)
  have away : ∀ b, b ≠ T → (s.heap.update T (Obj.mapFields (·.setIfInBounds 3 Value.none))).get? b = s.heap.get? b := fun b hb => Heap.get?_update_other _ _ (Ne.symm hb)
  have plain : ∀ b o, s.heap.get? b = some o → (∀ ws, o.data ≠ .fields ws) → b ≠ T := by
    intro b o hb hno q
    rw [q, hT] at hb
    exact hno ts ((Option.some.inj hb) ▸ hTd)
  refine fly_entry hfr hf ?_ f2 ?_ ((away e (Ne.symm hTe)).trans he) hd v0 (Array.getElem?_eq_some_iff.mp v1).1 v2 fun h' F U => k h' F ?_
  · intro b o hb
    refine (away b fun q => ?_).trans (f1 b o hb)
    rw [q, hTb] at hb
    cases hb
  · exact f3.of_keeps fun b o hb hno => ⟨o, (away b (plain b o hb hno)).trans hb, rfl⟩
  · exact fun b o hb hno => U b o ((away b (plain b o hb hno)).trans hb) hno

theorem fly_note_held {cls : Value} (hf : env.frame = some L) (x : Trc base e cls (rawInt L) s.heap) (k : Q () s) : wpAny M A (noteFrame (.ref e) env) Q E s := by
  obtain ⟨oe, vs, T, oT, ts, a0, he, hc, hd, v0, v1, v2, hTb, hTe, hT, hTd, t3⟩ := x
  unfold noteFrame
  simp only [hf]
  refine wpAny_bind (wpAny_field he hd v1 ?_)
  rw [if_pos (show (Value.ref T != Value.none) = true by simp)]
  refine wpAny_bind (wpAny_field hT hTd t3 ?_)
  rw [if_pos (by simp)]
  exact wpAny_pure k

theorem fly_set {l : List Env} {cls fl : Value} (x : Option Addr) (y : Fly base l e cls fl s.heap)
    (k : ∀ h', Fly base l e cls (x.elim .none fun f => rawInt f) h' → s.heap.UpToSlots h' → Q () { s with heap := h' }) : wpAny M A (setFlight (.ref e) x) Q E s := by
  obtain ⟨f1, f2, f3, oe, vs, T, oT, ts, a0, he, hc, hd, v0, v1, v2, hTb, hTe, hT, hTd, t3⟩ := y
  have away : ∀ b, b ≠ T → (s.heap.update T (Obj.mapFields (·.setIfInBounds 3 (x.elim Value.none fun f => rawInt f)))).get? b = s.heap.get? b := fun b hb => Heap.get?_update_other _ _ (Ne.symm hb)
  have plain : ∀ b o, s.heap.get? b = some o → (∀ ws, o.data ≠ .fields ws) → b ≠ T := by
    intro b o hb hno q
    rw [q, hT] at hb
    exact hno ts ((Option.some.inj hb) ▸ hTd)
  have t3' : 3 < ts.size := (Array.getElem?_eq_some_iff.mp t3).1
  have dT := Obj.data_mapFields hTd (·.setIfInBounds 3 (x.elim Value.none fun f => rawInt f))
  unfold setFlight
  refine wpAny_bind (wpAny_field he hd v1 ?_)
  rw [if_pos (show (Value.ref T != Value.none) = true by simp)]
  refine wpAny_setField hT hTd t3' (k _ ⟨?_, f2, ?_, ?_⟩ ?_)
  · intro b o hb
    refine (away b fun q => ?_).trans (f1 b o hb)
    rw [q, hTb] at hb
    cases hb
  · exact f3.of_keeps fun b o hb hno => ⟨o, (away b (plain b o hb hno)).trans hb, rfl⟩
  · exact ⟨oe, vs, T, _, _, a0, (away e (Ne.symm hTe)).trans he, hc, hd, v0, v1, v2, hTb, hTe, Heap.get?_update_self _ hT (Obj.isFreed_of_fields dT), dT, by simp [t3']⟩
  · exact fun b o hb hno => ⟨o.slots, (away b (plain b o hb hno)).trans hb⟩
end
end PartX
section PartY
local macro_rules | `(tactic| ktr_enter) => `(tactic| (refine' code_def ?k1 ?k2 ?k3 ?k4 ?k5 ?kA ?kF ?kK ?k6 ?k7 ?k8 ?k9 ?kB ?_ ?c2 ?c3 ?c4 ?c5; (case kA => assumption); (case kF => exact rfl); (case kK => assumption); (case k1 => k_asm); (case k2 => k_asm); (case k3 => k_asm); (case k4 => k_asm); (case k5 => k_asm); (case k6 => k_is); (case k7 => k_is); (case k8 => first | omega | (dsimp only; omega)); (case k9 => exact BindsTo.of_eq rfl); (case c5 => decide); (case kB => exact locs rfl); (case c2 => exact rfl); (case c3 => exact rfl); (case c4 => exact rfl); k_whole; intro g' L' h' FG' F' N' B' X' T'; (try dsimp only); (try k_lift B'); (try k_fold)))
local macro_rules | `(tactic| k_all) => `(tactic| first | assumption | exact allLt_ne (by assumption))
local macro_rules | `(tactic| k_mem) => `(tactic| assumption)
local macro_rules | `(tactic| walk_at "call builtin:len") => `(tactic| (k_here; (with_reducible show wpAny _ _ (call (Value.builtin "len") [Value.ref _]) _ _ _); k_dflt (refine' rl_len ?k1 ?k2 ?k3 ?_; (case k1 => k_asm); (case k2 => k_mem); (case k3 => omega); k_whole)))
local macro_rules | `(tactic| walk_at "subscriptTail") => `(tactic| (k_here; (with_reducible show wpAny _ _ (subscriptTail _ _ (Value.ref _) (Value.int _ _)) _ _ _); k_dflt (refine' rl_item_ints ?k1 ?k2 ?k3 ?k4 ?k5 ?k6 ?_ ?k7; (case k1 => k_asm); (case k2 => k_mem); (case k3 => with_reducible assumption); (case k4 => omega); (case k5 => omega); (case k6 => omega); (case k7 => with_unfolding_all rfl); k_whole); intro _ _))
local macro_rules | `(tactic| walk_at "subscriptTail") => `(tactic| (k_here; (with_reducible show wpAny _ _ (subscriptTail _ _ (Value.ref _) (Value.int _ _)) _ _ _); k_dflt (refine' rl_item ?k1 ?k2 ?k3 ?k4 ?k6 ?_ ?k7; (case k1 => k_asm); (case k2 => k_mem); (case k4 => first | decide | omega); (case k6 => first | decide | omega); (case k3 => first | exact rfl | assumption); (case k7 => with_unfolding_all rfl); k_whole)))
local macro_rules | `(tactic| walk_at "call builtin:max") => `(tactic| (k_here; (with_reducible show wpAny _ _ (call (Value.builtin _) [Value.int _ _, Value.int _ _]) _ _ _); k_dflt (refine' max_two_N ?k1 ?k2 ?k3 ?_; (case k1 => assumption); (case k2 => k_asm); (case k3 => k_asm); k_whole); intro h' tk' F' N'; (try k_sweep)))
local macro_rules | `(tactic| walk_at "call builtin:min") => `(tactic| (k_here; (with_reducible show wpAny _ _ (call (Value.builtin _) [Value.int _ _, Value.int _ _]) _ _ _); k_dflt (refine' min_two_N ?k1 ?k2 ?k3 ?_; (case k1 => assumption); (case k2 => k_asm); (case k3 => k_asm); k_whole); intro h' tk' F' N'; (try k_sweep)))
local macro_rules | `(tactic| k_room) => `(tactic| first | ((try simp only [depth_under_make, depth_under_kw, depth_in1, depth_deeper, depth_caller]); omega) | (dsimp only [Around.mark, Around.deeper, Around.in1, Around.under]; omega))
local macro_rules | `(tactic| ktr_unf) => `(tactic| (refine' code_defS0 ?k1 ?k2 ?k3 ?k4 ?k5 ?kA ?k6 ?k7 ?k8 ?k9 ?kB ?_ ?cK ?c2 ?c3 ?c4 ?c5; (case kA => exact rfl); (case k2 => k_asm); (case k1 => k_asm); (case k3 => k_asm); (case k4 => k_asm); (case k5 => k_asm); (case k6 => k_is); (case k7 => k_is); (case k8 => first | omega | (dsimp only; omega)); (case k9 => first | exact BindsTo.of_eq rfl | exact binds_K (by k_in) rfl (by k_is) rfl rfl rfl); (case kB => exact locs rfl); (case cK => assumption); (case c2 => exact rfl); (case c3 => exact rfl); (case c4 => exact rfl); (case c5 => decide); k_whole; intro g' L' h' FG' F' N' B' X' T' D'; (try dsimp only); (try k_lift B'); (try k_fold)))
local macro_rules | `(tactic| walk_at "subscriptTail") => `(tactic| (k_here; (with_reducible show wpAny _ _ (subscriptTail _ _ (Value.ref _) (Value.int _ _)) _ _ _); k_dflt (refine' rl_item_out ?k0 ?k1 ?k2 ?k4 ?k6 ?_ ?k7; (case k0 => first | exact rfl | assumption); (case k1 => k_asm); (case k2 => k_mem); (case k4 => omega); (case k6 => omega); (case k7 => with_unfolding_all rfl); k_whole); intro h' tk' e' x'))
/-- an exception without a context is on its way out, over the frames l; news: what else stands -/
def RaisedC (base G : Heap) (l : List Env) (e : Addr) (cls fl : Value) (news : Led) (h : Heap) : Prop :=
  ∃ B, base.StaysIn B ∧ (∀ b o, G.get? b = some o → b ∉ l.filterMap (·.frame) → B.get? b = some o) ∧ (∀ q ∈ news, B.get? q.1 = some q.2 ∧ G.get? q.1 = none ∧ base.get? q.1 = none) ∧ Fly B l e cls fl h
theorem RaisedC.toSN {base G h : Heap} {l : List Env} {e : Addr} {cls : Value} {news : Led} (R : RaisedC base G l e cls .none news h) : RaisedSN base G l e cls news h := by
  obtain ⟨B, h1, h2, h3, x⟩ := R
  obtain ⟨a0, y⟩ := x.toW
  exact ⟨B, a0, h1, h2, h3, y⟩

theorem turn_none {fs : List Addr} {G G' : Heap} (T : KtsTurn fs G G') {b : Addr} (e : G'.get? b = none) : G.get? b = none := by
  cases q : G.get? b with
  | none => rfl
  | some o =>
    obtain ⟨sl, hs⟩ := T.up q
    rw [e] at hs
    cases hs
theorem upTo_back {fs : List Addr} {G G' h : Heap} (T : KtsTurn fs G G') (U : G'.UpToSlots h) : G.UpToSlots h := by
  intro b o hb hno
  obtain ⟨sl, hs⟩ := T.up hb
  exact U b { o with slots := sl } hs hno
theorem RaisedC.back {base G G' h : Heap} {l : List Env} {e : Addr} {cls fl : Value} {news : Led} (T : KtsTurn (l.filterMap (·.frame)) G G') (R : RaisedC base G' l e cls fl news h) : RaisedC base G l e cls fl news h := by
  obtain ⟨B, h1, h2, h3, x⟩ := R
  exact ⟨B, h1, fun b o hb nm => h2 b o (T.other b o hb nm) nm, fun q hq => ⟨(h3 q hq).1, turn_none T (h3 q hq).2.1, (h3 q hq).2.2⟩, x⟩
theorem raisedSN_back {base G G' h : Heap} {l : List Env} {e : Addr} {cls : Value} {news : Led} (T : KtsTurn (l.filterMap (·.frame)) G G') (R : RaisedSN base G' l e cls news h) : RaisedSN base G l e cls news h := by
  obtain ⟨B, a0, h1, h2, h3, x⟩ := R
  exact ⟨B, a0, h1, fun b o hb nm => h2 b o (T.other b o hb nm) nm, fun q hq => ⟨(h3 q hq).1, turn_none T (h3 q hq).2.1, (h3 q hq).2.2⟩, x⟩

section
variable {M : Model} {A A₀ : Around} {E : Value → Shared → Prop} {s' : Shared} {base g g₀ G h : Heap} {outer : List Env} {L a e : Addr} {m : Str → Option Value} {name : Str} {scope : Scope} {cd : Value} {Q : Unit → Shared → Prop} {news : Led}

theorem over_ground (K : Below A base outer g) (F : Fr g L h m) (N : News g L h news) (hk : scope.kind = .function) :
    ∃ B : Heap, base.StaysIn B ∧ (∀ b o, g.get? b = some o → b ∉ outer.filterMap (·.frame) → B.get? b = some o) ∧ (∀ q ∈ news, B.get? q.1 = some q.2 ∧ g.get? q.1 = none ∧ base.get? q.1 = none) ∧ B.StaysIn h ∧
      h.FunFrames B (envOf name scope L a cd :: outer) ∧ (∀ b o, h.get? b = some o → b ∉ (envOf name scope L a cd :: outer).filterMap (·.frame) → B.get? b = some o) := by
  have P := K.push (name := name) (scope := scope) (a := a) (cd := cd) F hk
  refine ⟨hideAll h ((envOf name scope L a cd :: outer).filterMap (·.frame)), fun b o hb => ?_, fun b o hb nm => ?_, fun q hq => ⟨?_, (N q hq).2.2, fresh_of_stays K.stays (N q hq).2.2⟩, fun b o hb => of_hideAll _ hb, ?_, fun b o hb nm => hideAll_get _ hb nm⟩
  · refine hideAll_get _ (P.stays b o hb) fun hm => ?_
    have := (P.frames.mem hm).1
    rw [this] at hb
    cases hb
  · refine hideAll_get _ (F.keep b o hb) fun hm => ?_
    rcases kts_mem hm with z | z
    · rw [z, kts_self F] at hb
      cases hb
    · exact nm z
  · refine hideAll_get _ (N q hq).1 fun hm => ?_
    rcases kts_mem hm with z | z
    · exact (N q hq).2.1 z
    · obtain ⟨_, o, ho, _⟩ := K.frames.mem z
      rw [(N q hq).2.2] at ho
      cases ho
  · exact funFrames_hide P.frames fun env he b hb => List.mem_filterMap.mpr ⟨env, he, hb⟩

theorem Fly.off {B h : Heap} {env : Env} {outer : List Env} {e : Addr} {cls fl : Value} (x : Fly B (env :: outer) e cls fl h) : Fly B outer e cls fl h := ⟨x.stays, x.fresh, x.frames.2.2, x.trc⟩

theorem leaveC_first {cls : String} (K : Below A base outer g) (hx : Heap.NewExc h s'.heap e cls) (F : Fr g L h m) (N : News g L h news) (T0 : KtsTurn (outer.filterMap (·.frame)) g₀ g)
    (hQ : ∀ h', RaisedC base g₀ outer e (.type cls) .none news h' → RaisedSN base g₀ outer e (.type cls) news h' → g₀.UpToSlots h' → Q () { s' with heap := h' }) (hk : scope.kind = .function := by rfl) :
    wpAny M (A.deeper (envOf name scope L a cd)) (leaving (envOf name scope L a cd) (.ref e)) Q E s' := by
  obtain ⟨B, b1, b2, b3, b4, b5, _⟩ := over_ground (name := name) (a := a) (cd := cd) K F N hk
  obtain ⟨ob, t, he, hc, hd⟩ := hx.there
  have hen : B.get? e = none := by
    cases q : B.get? e with
    | none => rfl
    | some o =>
      have := b4 e o q
      rw [hx.new] at this
      cases this
  unfold leaving
  refine wpAny_bind (fly_note_first (Around.frames_deeper K.stack) rfl (fun b o hb => hx.keeps b o (b4 b o hb)) hen (b5.of_keeps fun b o hb _ => ⟨o, hx.keeps b o hb, rfl⟩) he hd rfl rfl rfl fun h₁ x₁ u₁ => ?_)
  rw [hc] at x₁
  refine fly_set none x₁ fun h₂ x₂ u₂ => ?_
  have R : RaisedC base g₀ outer e (.type cls) .none news h₂ := RaisedC.back T0 ⟨B, b1, b2, b3, x₂.off⟩
  exact hQ h₂ R R.toSN (upTo_back T0 <| ((Heap.UpToSlots.of_keeps F.keep).trans (Heap.UpToSlots.of_keeps hx.keeps)).trans (u₁.trans u₂))

theorem leaveC_held {cls : Value} (F : Fr g L h m) (R : RaisedC base g (envOf name scope L a cd :: outer) e cls (rawInt L) news s'.heap) (U : g.UpToSlots s'.heap) (T0 : KtsTurn (outer.filterMap (·.frame)) g₀ g)
    (hQ : ∀ h', RaisedC base g₀ outer e cls .none news h' → RaisedSN base g₀ outer e cls news h' → g₀.UpToSlots h' → Q () { s' with heap := h' }) :
    wpAny M (A.deeper (envOf name scope L a cd)) (leaving (envOf name scope L a cd) (.ref e)) Q E s' := by
  obtain ⟨B, b1, b2, b3, x⟩ := R
  unfold leaving
  refine wpAny_bind (fly_note_held rfl x.trc ?_)
  refine fly_set none x fun h₂ x₂ u₂ => ?_
  have R : RaisedC base g₀ outer e cls .none news h₂ := RaisedC.back T0 ⟨B, b1, fun b o hb nm => b2 b o hb fun hm => by
    rcases kts_mem hm with z | z
    · rw [z, kts_self F] at hb
      cases hb
    · exact nm z, b3, x₂.off⟩
  exact hQ h₂ R R.toSN (upTo_back T0 (U.trans u₂))
end

section
variable {prog : Program} {w : World} {A₀ : Around} {E : Value → Shared → Prop} {s' : Shared} {base g g₀ G h : Heap} {outer : List Env} {L a e : Addr} {m : Str → Option Value} {name : Str} {scope : Scope} {cd : Value}
  {b₀ : Stmt} {suite : List Stmt} {pos np : Pos} {rest : List ExceptHandler} {Q : Flow → Shared → Prop} {news : Led} {KF : Frag}
  {p : Program} {loose : List Str} {mean : ExcName → Option Value} {mg mb : Str → Option Value} {x : Str} {X T' : String}

/-- what the suite of an except clause starts from -/
def SuiteOk (prog : Program) (w : World) (A₀ : Around) (base g₀ : Heap) (outer : List Env) (KF : Frag) (p : Program) (loose : List Str) (mean : ExcName → Option Value) (mg mb : Str → Option Value) (name : Str) (scope : Scope) (L a : Addr) (cd : Value) (e : Addr) (X : String) (m : Str → Option Value) (news : Led)
    (body : List Stmt) (Q : Flow → Shared → Prop) (E : Value → Shared → Prop) (s' : Shared) : Prop :=
  ∀ h' g' oe vs, KtsTurn (outer.filterMap (·.frame)) g₀ g' → Fr g' L h' m → News g' L h' ((e, oe) :: news) → (∀ q ∈ news, q.1 ≠ e) → oe.data = .fields vs → vs[2]? = some .none →
    RaisedC base g' (envOf name scope L a cd :: outer) e (.type X) .none news h' → Below A₀ base outer g' → KF.In g' → Top p loose mean mg mb g' → KtsDicts (outer.filterMap (·.frame)) g' →
    wpAny (model prog w) ((A₀.deeper (envOf name scope L a cd)).mark (some (.ref e))) (execs body (envOf name scope L a cd)) Q E { s' with heap := h' }

theorem hit_core {B : Heap} (hB : base.StaysIn B) (hBG : ∀ b o, G.get? b = some o → b ∉ (envOf name scope L a cd :: outer).filterMap (·.frame) → B.get? b = some o) (hl : ∀ q ∈ news, B.get? q.1 = some q.2 ∧ g.get? q.1 = none ∧ base.get? q.1 = none)
    (F : Fr g L G m) (K : Below A₀ base outer g) (x₅ : Fly B (envOf name scope L a cd :: outer) e (.type X) .none s'.heap) (hsm : G.UpToSlots s'.heap) (XB : KF.In base) (TB : Top p loose mean mg mb base)
    (D : KtsDicts (outer.filterMap (·.frame)) g) (T0 : KtsTurn (outer.filterMap (·.frame)) g₀ g)
    (ex : nsIn KF mainGlobals x = some none) (hv : bootBuiltins x = some (.type T')) (hn' : x ≠ "__name__")
    (hexc : isSubtype (.type T') (.type "BaseException") = pure true) (hnt : isSubtype (.type ((Manifest.find? T').elim "type" fun y => y.metatype)) (.type "tuple") = pure false) (hsub : isSubtype (.type X) (.type T') = pure true)
    (k : SuiteOk prog w A₀ base g₀ outer KF p loose mean mg mb name scope L a cd e X m news (b₀ :: suite) Q E s')
    (hk : scope.kind = .function) (hx : (envOf name scope L a cd).kindOf x = some .globalImplicit) (hd : (x == ("__debug__" : Str)) = false)
    (hE : PassesOwnAt (model prog w) ((A₀.deeper (envOf name scope L a cd)).mark (some (.ref e))) (A₀.deeper (envOf name scope L a cd)) (envOf name scope L a cd) E) :
    wpAny (model prog w) (A₀.deeper (envOf name scope L a cd)) (handleBy (.ref e) (envOf name scope L a cd) (.ExceptHandler (some (.Name x np)) none (b₀ :: suite) pos :: rest)) Q E s' := by
  obtain ⟨g₅, T₅, F₅, K₅⟩ := kts_ground K F hBG x₅.stays hsm
  have X₅ : KF.In g₅ := XB.keeps K₅.stays
  have P₅ : TopRead p loose mg mb g₅ := topRead_of (TB.keeps K₅.stays)
  obtain ⟨o5, _, _, _, _, _, q1, q2, _⟩ := id x₅.trc
  refine wpAny_handleBy_builtin (X := X) (T := T') (b := true) hexc hnt hsub (name_B F₅ X₅ P₅ ex hv hn' ⟨rfl, ⟨o5, q1, q2⟩, ?_⟩ hk hx hd)
  refine fly_set none x₅ fun h₆ x₆ u₆ => ?_
  obtain ⟨g₆, T₆, F₆, K₆⟩ := kts_ground K F hBG x₆.stays (hsm.trans u₆)
  have back : ∀ b o, g₆.get? b = some o → b ∉ outer.filterMap (·.frame) → g.get? b = some o := by
    intro b o hb nm
    cases q : g.get? b with
    | none =>
      rw [T₆.none_ b q] at hb
      cases hb
    | some o' =>
      have := T₆.other b o' q nm
      rw [hb] at this
      rw [Option.some.inj this]
  obtain ⟨oe, vs, T, oT, ts, a0, e1, e2, e3, e4, e5, e6, e7⟩ := id x₆.trc
  have notFrame : e ∉ (envOf name scope L a cd :: outer).filterMap (·.frame) := by
    intro hm
    obtain ⟨_, o, ho, hno⟩ := x₆.frames.mem hm
    rw [e1] at ho
    exact hno vs ((Option.some.inj ho) ▸ e3)
  have gL : g.get? L = none := kts_self F
  have ge : g.get? e = none := by
    cases q : g.get? e with
    | none => rfl
    | some o =>
      have := hBG e o (F.keep e o q) notFrame
      rw [x₆.fresh] at this
      cases this
  have BL : B.get? L = none := by
    obtain ⟨_, ⟨L', _, hf, hn, _⟩, _⟩ := x₆.frames
    obtain rfl : L = L' := Option.some.inj hf
    exact hn
  have Nl : News g₆ L h₆ news := by
    intro q hq
    refine ⟨x₆.stays _ _ (hl q hq).1, fun z => ?_, T₆.none_ _ (hl q hq).2.1⟩
    have := (hl q hq).1
    rw [z, BL] at this
    cases this
  have Ne : News g₆ L h₆ ((e, oe) :: news) := by
    intro q hq
    rcases List.mem_cons.mp hq with rfl | hq
    · refine ⟨e1, fun z => notFrame ?_, T₆.none_ _ ge⟩
      exact List.mem_filterMap.mpr ⟨_, .head _, by rw [show e = L from z]; rfl⟩
    · exact Nl q hq
  have hne : ∀ q ∈ news, q.1 ≠ e := fun q hq z => by
    have := (hl q hq).1
    rw [z, x₆.fresh] at this
    cases this
  have R : RaisedC base g₆ (envOf name scope L a cd :: outer) e (.type X) .none news h₆ := by
    refine ⟨B, hB, fun b o hb nm => ?_, fun q hq => ⟨(hl q hq).1, T₆.none_ _ (hl q hq).2.1, (hl q hq).2.2⟩, x₆⟩
    have nm' : b ∉ outer.filterMap (·.frame) := fun z => nm (by
      obtain ⟨env, he, hf⟩ := List.mem_filterMap.mp z
      exact List.mem_filterMap.mpr ⟨env, .tail _ he, hf⟩)
    exact hBG b o (F.keep b o (back b o hb nm')) nm
  exact wpAny_passesOwnAt hE (k h₆ g₆ oe vs (T0.trans T₆) F₆ Ne hne e3 e6 R K₆ (XB.keeps K₆.stays) (TB.keeps K₆.stays) (D.turn T₆))

theorem miss_core {B : Heap} (hBG : ∀ b o, G.get? b = some o → b ∉ (envOf name scope L a cd :: outer).filterMap (·.frame) → B.get? b = some o)
    (F : Fr g L G m) (K : Below A₀ base outer g) (x₅ : Fly B (envOf name scope L a cd :: outer) e (.type X) .none s'.heap) (hsm : G.UpToSlots s'.heap) (XB : KF.In base) (TB : Top p loose mean mg mb base)
    (ex : nsIn KF mainGlobals x = some none) (hv : bootBuiltins x = some (.type T')) (hn' : x ≠ "__name__")
    (hexc : isSubtype (.type T') (.type "BaseException") = pure true) (hnt : isSubtype (.type ((Manifest.find? T').elim "type" fun y => y.metatype)) (.type "tuple") = pure false) (hsub : isSubtype (.type X) (.type T') = pure false)
    (k : wpAny (model prog w) (A₀.deeper (envOf name scope L a cd)) (handleBy (.ref e) (envOf name scope L a cd) rest) Q E s')
    (hk : scope.kind = .function) (hx : (envOf name scope L a cd).kindOf x = some .globalImplicit) (hd : (x == ("__debug__" : Str)) = false) :
    wpAny (model prog w) (A₀.deeper (envOf name scope L a cd)) (handleBy (.ref e) (envOf name scope L a cd) (.ExceptHandler (some (.Name x np)) none (b₀ :: suite) pos :: rest)) Q E s' := by
  obtain ⟨g₅, T₅, F₅, K₅⟩ := kts_ground K F hBG x₅.stays hsm
  have P₅ : TopRead p loose mg mb g₅ := topRead_of (TB.keeps K₅.stays)
  obtain ⟨o5, _, _, _, _, _, q1, q2, _⟩ := id x₅.trc
  exact wpAny_handleBy_builtin (X := X) (T := T') (b := false) hexc hnt hsub (name_B F₅ (XB.keeps K₅.stays) P₅ ex hv hn' ⟨rfl, ⟨o5, q1, q2⟩, k⟩ hk hx hd)

theorem catch_core {B : Heap} (hB : base.StaysIn B) (hBG : ∀ b o, G.get? b = some o → b ∉ (envOf name scope L a cd :: outer).filterMap (·.frame) → B.get? b = some o) (hl : ∀ q ∈ news, B.get? q.1 = some q.2 ∧ g.get? q.1 = none ∧ base.get? q.1 = none)
    (F : Fr g L G m) (K : Below A₀ base outer g) (y : Fly B (envOf name scope L a cd :: outer) e (.type X) (rawInt L) s'.heap) (hsm : G.UpToSlots s'.heap) (XB : KF.In base) (TB : Top p loose mean mg mb base)
    (D : KtsDicts (outer.filterMap (·.frame)) g) (T0 : KtsTurn (outer.filterMap (·.frame)) g₀ g)
    (ex : nsIn KF mainGlobals x = some none) (hv : bootBuiltins x = some (.type T')) (hn' : x ≠ "__name__")
    (hexc : isSubtype (.type T') (.type "BaseException") = pure true) (hnt : isSubtype (.type ((Manifest.find? T').elim "type" fun y => y.metatype)) (.type "tuple") = pure false) (hsub : isSubtype (.type X) (.type T') = pure true)
    (k : SuiteOk prog w A₀ base g₀ outer KF p loose mean mg mb name scope L a cd e X m news (b₀ :: suite) Q E s')
    (hk : scope.kind = .function) (hx : (envOf name scope L a cd).kindOf x = some .globalImplicit) (hd : (x == ("__debug__" : Str)) = false)
    (hE : PassesOwnAt (model prog w) ((A₀.deeper (envOf name scope L a cd)).mark (some (.ref e))) (A₀.deeper (envOf name scope L a cd)) (envOf name scope L a cd) E) :
    wpAny (model prog w) (A₀.deeper (envOf name scope L a cd)) (setFlight (.ref e) none) (fun _ s₃ =>
        wpAny (model prog w) (A₀.deeper (envOf name scope L a cd)) (handleBy (.ref e) (envOf name scope L a cd) (.ExceptHandler (some (.Name x np)) none (b₀ :: suite) pos :: rest)) Q E s₃) E s' := by
  refine fly_set none y fun h₅ x₅ u₅ => ?_
  exact hit_core hB hBG hl F K x₅ (hsm.trans u₅) XB TB D T0 ex hv hn' hexc hnt hsub k hk hx hd hE

theorem catch_callee (R : RaisedC base G (envOf name scope L a cd :: outer) e (.type X) .none news s'.heap) (F : Fr g L G m) (K : Below A₀ base outer g) (hsm : G.UpToSlots s'.heap) (XB : KF.In base) (TB : Top p loose mean mg mb base)
    (D : KtsDicts (outer.filterMap (·.frame)) g) (T0 : KtsTurn (outer.filterMap (·.frame)) g₀ g)
    (ex : nsIn KF mainGlobals x = some none) (hv : bootBuiltins x = some (.type T')) (hn' : x ≠ "__name__")
    (hexc : isSubtype (.type T') (.type "BaseException") = pure true) (hnt : isSubtype (.type ((Manifest.find? T').elim "type" fun y => y.metatype)) (.type "tuple") = pure false) (hsub : isSubtype (.type X) (.type T') = pure true)
    (k : SuiteOk prog w A₀ base g₀ outer KF p loose mean mg mb name scope L a cd e X m news (b₀ :: suite) Q E s')
    (hk : scope.kind = .function := by rfl) (hx : (envOf name scope L a cd).kindOf x = some .globalImplicit := by rfl) (hd : (x == ("__debug__" : Str)) = false := by decide)
    (hE : PassesOwnAt (model prog w) ((A₀.deeper (envOf name scope L a cd)).mark (some (.ref e))) (A₀.deeper (envOf name scope L a cd)) (envOf name scope L a cd) E := by passes_own) :
    wpAny (model prog w) (A₀.deeper (envOf name scope L a cd)) (noteFrame (.ref e) (envOf name scope L a cd))
      (fun _ s₂ => wpAny (model prog w) (A₀.deeper (envOf name scope L a cd)) (setFlight (.ref e) none) (fun _ s₃ =>
        wpAny (model prog w) (A₀.deeper (envOf name scope L a cd)) (handleBy (.ref e) (envOf name scope L a cd) (.ExceptHandler (some (.Name x np)) none (b₀ :: suite) pos :: rest)) Q E s₃) E s₂) E s' := by
  obtain ⟨B, b1, b2, b3, y⟩ := R
  refine fly_note_on (Around.frames_deeper K.stack) rfl y fun h₁ x₁ u₁ => ?_
  exact catch_core b1 b2 (fun q hq => ⟨(b3 q hq).1, kts_none F.keep (b3 q hq).2.1, (b3 q hq).2.2⟩) F K x₁ (hsm.trans u₁) XB TB D T0 ex hv hn' hexc hnt hsub k hk hx hd hE

/-- an IndexError behind a clause that does not fit -/
theorem catch_callee2 {x₂ : Str} {T₂ : String} {b₁ : Stmt} {suite₁ : List Stmt} {pos₁ np₁ : Pos} (R : RaisedC base G (envOf name scope L a cd :: outer) e (.type X) .none news s'.heap) (F : Fr g L G m) (K : Below A₀ base outer g) (hsm : G.UpToSlots s'.heap) (XB : KF.In base) (TB : Top p loose mean mg mb base)
    (D : KtsDicts (outer.filterMap (·.frame)) g) (T0 : KtsTurn (outer.filterMap (·.frame)) g₀ g)
    (ex₂ : nsIn KF mainGlobals x₂ = some none) (hv₂ : bootBuiltins x₂ = some (.type T₂)) (hn₂ : x₂ ≠ "__name__")
    (hexc₂ : isSubtype (.type T₂) (.type "BaseException") = pure true) (hnt₂ : isSubtype (.type ((Manifest.find? T₂).elim "type" fun y => y.metatype)) (.type "tuple") = pure false) (hsub₂ : isSubtype (.type X) (.type T₂) = pure false)
    (ex : nsIn KF mainGlobals x = some none) (hv : bootBuiltins x = some (.type T')) (hn' : x ≠ "__name__")
    (hexc : isSubtype (.type T') (.type "BaseException") = pure true) (hnt : isSubtype (.type ((Manifest.find? T').elim "type" fun y => y.metatype)) (.type "tuple") = pure false) (hsub : isSubtype (.type X) (.type T') = pure true)
    (k : SuiteOk prog w A₀ base g₀ outer KF p loose mean mg mb name scope L a cd e X m news (b₀ :: suite) Q E s')
    (hk : scope.kind = .function := by rfl) (hx : (envOf name scope L a cd).kindOf x = some .globalImplicit := by rfl) (hd : (x == ("__debug__" : Str)) = false := by decide)
    (hx₂ : (envOf name scope L a cd).kindOf x₂ = some .globalImplicit := by rfl) (hd₂ : (x₂ == ("__debug__" : Str)) = false := by decide)
    (hE : PassesOwnAt (model prog w) ((A₀.deeper (envOf name scope L a cd)).mark (some (.ref e))) (A₀.deeper (envOf name scope L a cd)) (envOf name scope L a cd) E := by passes_own) :
    wpAny (model prog w) (A₀.deeper (envOf name scope L a cd)) (noteFrame (.ref e) (envOf name scope L a cd))
      (fun _ s₂ => wpAny (model prog w) (A₀.deeper (envOf name scope L a cd)) (setFlight (.ref e) none) (fun _ s₃ =>
        wpAny (model prog w) (A₀.deeper (envOf name scope L a cd)) (handleBy (.ref e) (envOf name scope L a cd) (.ExceptHandler (some (.Name x₂ np₁)) none (b₁ :: suite₁) pos₁ :: .ExceptHandler (some (.Name x np)) none (b₀ :: suite) pos :: rest)) Q E s₃) E s₂) E s' := by
  obtain ⟨B, b1, b2, b3, y⟩ := R
  refine fly_note_on (Around.frames_deeper K.stack) rfl y fun h₁ x₁ u₁ => ?_
  refine fly_set none x₁ fun h₅ x₅ u₅ => ?_
  refine miss_core b2 F K x₅ ((hsm.trans u₁).trans u₅) XB TB ex₂ hv₂ hn₂ hexc₂ hnt₂ hsub₂ ?_ hk hx₂ hd₂
  exact hit_core b1 b2 (fun q hq => ⟨(b3 q hq).1, kts_none F.keep (b3 q hq).2.1, (b3 q hq).2.2⟩) F K x₅ ((hsm.trans u₁).trans u₅) XB TB D T0 ex hv hn' hexc hnt hsub k hk hx hd hE

theorem catch_own (hxc : Heap.NewExc h s'.heap e X) (F : Fr g L h m) (N : News g L h news) (K : Below A₀ base outer g) (XB : KF.In base) (TB : Top p loose mean mg mb base)
    (D : KtsDicts (outer.filterMap (·.frame)) g) (T0 : KtsTurn (outer.filterMap (·.frame)) g₀ g)
    (ex : nsIn KF mainGlobals x = some none) (hv : bootBuiltins x = some (.type T')) (hn' : x ≠ "__name__")
    (hexc : isSubtype (.type T') (.type "BaseException") = pure true) (hnt : isSubtype (.type ((Manifest.find? T').elim "type" fun y => y.metatype)) (.type "tuple") = pure false) (hsub : isSubtype (.type X) (.type T') = pure true)
    (k : SuiteOk prog w A₀ base g₀ outer KF p loose mean mg mb name scope L a cd e X m news (b₀ :: suite) Q E s')
    (hk : scope.kind = .function := by rfl) (hx : (envOf name scope L a cd).kindOf x = some .globalImplicit := by rfl) (hd : (x == ("__debug__" : Str)) = false := by decide)
    (hE : PassesOwnAt (model prog w) ((A₀.deeper (envOf name scope L a cd)).mark (some (.ref e))) (A₀.deeper (envOf name scope L a cd)) (envOf name scope L a cd) E := by passes_own) :
    wpAny (model prog w) (A₀.deeper (envOf name scope L a cd)) (noteFrame (.ref e) (envOf name scope L a cd))
      (fun _ s₂ => wpAny (model prog w) (A₀.deeper (envOf name scope L a cd)) (setFlight (.ref e) none) (fun _ s₃ =>
        wpAny (model prog w) (A₀.deeper (envOf name scope L a cd)) (handleBy (.ref e) (envOf name scope L a cd) (.ExceptHandler (some (.Name x np)) none (b₀ :: suite) pos :: rest)) Q E s₃) E s₂) E s' := by
  obtain ⟨B, b1, b2, b3, b4, b5, b6⟩ := over_ground (name := name) (a := a) (cd := cd) K F N hk
  obtain ⟨ob, t, he, hc, hd'⟩ := hxc.there
  have hen : B.get? e = none := by
    cases q : B.get? e with
    | none => rfl
    | some o =>
      have := b4 e o q
      rw [hxc.new] at this
      cases this
  refine fly_note_first (Around.frames_deeper K.stack) rfl (fun b o hb => hxc.keeps b o (b4 b o hb)) hen (b5.of_keeps fun b o hb _ => ⟨o, hxc.keeps b o hb, rfl⟩) he hd' rfl rfl rfl fun h₁ x₁ u₁ => ?_
  rw [hc] at x₁
  exact catch_core b1 b6 b3 F K x₁ ((Heap.UpToSlots.of_keeps hxc.keeps).trans u₁) XB TB D T0 ex hv hn' hexc hnt hsub k hk hx hd hE
end

/-- a raised exception that may bear a context -/
structure NewX (h h' : Heap) (e : Addr) (cls : String) : Prop where
  keeps : ∀ b o, h.get? b = some o → h'.get? b = some o
  new : h.get? e = none
  there : ∃ ob vs a0, h'.get? e = some ob ∧ ob.cls = .type cls ∧ ob.data = .fields vs ∧ vs[0]? = some a0 ∧ vs[1]? = some .none

theorem entry_unchain : entryFor table "proto.unchain" = some Builtin.«proto.unchain» := entryFor_of_tree (by kernel_rfl)

section
variable {prog : Program} {w : World} {A : Around} {E : Value → Shared → Prop} {s : Shared} {env : Env} {X N I : String}

theorem unchain_none {e e₁ : Addr} {o₁ : Obj} {vs₁ : Array Value} {Q : Value → Shared → Prop} (h₁ : s.heap.get? e₁ = some o₁) (d₁ : o₁.data = .fields vs₁) (v2 : vs₁[2]? = some .none) (k : ∀ v, Q v s) :
    wpAny (model prog w) A (runValue (.builtin "proto.unchain" ⟨[.ref e, .ref e₁, .ref e₁, .bool false], []⟩)) Q E s := by
  refine wpAny_runValue (codeAny_builtin entry_unchain ?_)
  show wpAny _ _ (Builtin.«proto.unchain» ⟨[.ref e, .ref e₁, .ref e₁, .bool false], []⟩) _ _ _
  unfold Builtin.«proto.unchain»
  dsimp only
  refine wpAny_bind (wpAny_field h₁ d₁ v2 ?_)
  rw [if_pos (by decide)]
  first | exact wpAny_pure (k _) | exact wpAny_bind (wpAny_pure (wpAny_pure (by exact k _))) | trace_state

/-- «raise X» within the suite of an except clause -/
theorem raise_in {x : Str} {np pos : Pos} {e₁ : Addr} {o₁ : Obj} {vs₁ : Array Value} {Q : Flow → Shared → Prop} (hh : A.handled = some (.ref e₁)) (h₁ : s.heap.get? e₁ = some o₁) (d₁ : o₁.data = .fields vs₁) (v2 : vs₁[2]? = some .none) (hc : ExcClass X N I)
    (hx : wpAny (model prog w) A (eval (.Name x np) env) (fun v s₁ => v = .type X ∧ s₁ = s) E s)
    (k : ∀ h' e, NewX s.heap h' e X → E (.ref e) { s with heap := h' }) :
    wpAny (model prog w) A (exec (.Raise (some (.Name x np)) none pos) env) Q E s := by
  show wpAny (model prog w) A (do standAt pos; raiseStmt env (some (do let v ← eval (.Name x np) env; standAt pos; pure v)) none) Q E s
  refine wpAny_bind (wpAny_standAt ?_)
  unfold raiseStmt
  dsimp only
  refine wpAny_bind (wpAny_bind (wpAny_mono hx (fun v s₁ h₁ => wpAny_bind (wpAny_standAt (wpAny_pure ?_))) fun _ _ z => z))
  obtain ⟨rfl, rfl⟩ := h₁
  refine wpAny_bind (wpAny_pure ?_)
  dsimp only
  refine wpAny_bind (wpAny_holding ?_)
  unfold excFromValue isExcClass
  refine wpAny_bind (wpAny_bind (wpAny_pure ?_))
  simp only [if_true]
  rw [hc.base]
  refine wpAny_pure ?_
  simp only [if_true]
  refine wpAny_bind (call_exc hc fun h' e hn => ?_)
  obtain ⟨ob, t, he, hcls, hd⟩ := hn.there
  have hT : ({ s₁ with heap := h' } : Shared).TypeIs (.ref e) X := ⟨ob, he, hcls⟩
  refine wpAny_bind (wpAny_isInstance hT hc.base ?_)
  simp only [Bool.not_true, Bool.false_eq_true, if_false]
  refine wpAny_pure ?_
  first | (refine wpAny_bind (m := isType (.type X)) (wpAny_pure ?_)) | (refine wpAny_bind (wpAny_pure ?_))
  first | (rw [if_pos rfl]) | (simp only [if_true]) | dsimp only
  refine wpAny_bind (wpAny_holding ?_)
  unfold raisedFor
  first | (refine wpAny_bind (wpAny_typeOf hT ?_)) | (refine wpAny_bind ?_; refine wpAny_bind (wpAny_typeOf hT ?_))
  refine wpAny_bind (call_issubclass (issubclass_self hc hc.self) ?_)
  first | (refine wpAny_bind (wpAny_truthy_bool ?_)) | (refine wpAny_truthy_bool ?_) | (dsimp only [wants]; first | (refine wpAny_bind (wpAny_truthy_bool ?_)) | (refine wpAny_truthy_bool ?_))
  first | (rw [if_pos rfl]) | (simp only [if_true]) | skip
  refine wpAny_pure ?_
  unfold setFlight raiseNew
  refine wpAny_bind (wpAny_bind (wpAny_field (i := 1) (x := Value.none) he hd rfl ?_))
  rw [if_neg (by decide)]
  refine wpAny_pure (wpAny_bind (wpAny_handled ?_))
  rw [hh]
  have up : h'.get? e₁ = some o₁ := hn.keeps _ _ ‹_›
  have ne : e₁ ≠ e := fun z => by
    have := hn.new
    rw [← z, ‹s₁.heap.get? e₁ = some o₁›] at this
    cases this
  dsimp only
  rw [if_pos (by simp [ne])]
  refine wpAny_bind (wpAny_holding (unchain_none up d₁ v2 fun v => ?_))
  refine wpAny_bind (m := setField (.ref e) 2 (.ref e₁)) (wpAny_setField he hd (by show 2 < 6; decide) (wpAny_throw (k _ e ?_)))
  have dd := Obj.data_mapFields hd (·.setIfInBounds 2 (Value.ref e₁))
  refine ⟨fun b o hb => ?_, hn.new, _, _, t, Heap.get?_update_self _ he (Obj.isFreed_of_fields dd), (Obj.cls_mapFields _ _).trans hcls, dd, rfl, rfl⟩
  refine (Heap.get?_update_other _ _ fun z => ?_).trans (hn.keeps b o hb)
  have := hn.new
  rw [z, hb] at this
  cases this

/-- a bare «raise» within the suite of an except clause -/
theorem raise_bare {base g : Heap} {outer : List Env} {e L a : Addr} {name : Str} {scope : Scope} {cd : Value} {cls : Value} {news : Led} {m : Str → Option Value} {pos : Pos} {Q : Flow → Shared → Prop} (hh : A.handled = some (.ref e))
    (R : RaisedC base g (envOf name scope L a cd :: outer) e cls .none news s.heap) (F : Fr g L s.heap m)
    (k : ∀ h', RaisedC base g (envOf name scope L a cd :: outer) e cls (rawInt L) news h' → g.UpToSlots h' → E (.ref e) { s with heap := h' }) :
    wpAny (model prog w) A (exec (.Raise none none pos) (envOf name scope L a cd)) Q E s := by
  obtain ⟨B, b1, b2, b3, x⟩ := R
  obtain ⟨oe, vs, T, oT, ts, a0, he, hc, hd, v0, v1, v2, _⟩ := id x.trc
  show wpAny (model prog w) A (do standAt pos; raiseStmt (envOf name scope L a cd) none none) Q E s
  refine wpAny_bind (wpAny_standAt ?_)
  unfold raiseStmt
  dsimp only
  refine wpAny_bind (wpAny_handled ?_)
  rw [hh]
  dsimp only
  refine wpAny_bind (wpAny_rule ?_)
  refine wpAny_bind (wpAny_field he hd v1 ?_)
  rw [if_neg (by simp)]
  refine wpAny_bind (fly_set (some L) x fun h' x' u' => wpAny_throw (k h' ⟨B, b1, b2, b3, x'⟩ ?_))
  exact (Heap.UpToSlots.of_keeps F.keep).trans u'
end

section
variable {M : Model} {A : Around} {E : Value → Shared → Prop} {s' : Shared} {base g g₀ h : Heap} {outer : List Env} {L a e : Addr} {m : Str → Option Value} {name : Str} {scope : Scope} {cd : Value} {Q : Unit → Shared → Prop} {news : Led}
theorem leaveX_first {cls : String} (K : Below A base outer g) (hx : NewX h s'.heap e cls) (F : Fr g L h m) (N : News g L h news) (T0 : KtsTurn (outer.filterMap (·.frame)) g₀ g)
    (hQ : ∀ h', RaisedSN base g₀ outer e (.type cls) news h' → RaisedN base outer e (.type cls) news h' → g₀.UpToSlots h' → Q () { s' with heap := h' }) (hk : scope.kind = .function := by rfl) :
    wpAny M (A.deeper (envOf name scope L a cd)) (leaving (envOf name scope L a cd) (.ref e)) Q E s' := by
  obtain ⟨B, b1, b2, b3, b4, b5, _⟩ := over_ground (name := name) (a := a) (cd := cd) K F N hk
  obtain ⟨ob, vs, a0, he, hc, hd, v0, v1⟩ := hx.there
  have hen : B.get? e = none := by
    cases q : B.get? e with
    | none => rfl
    | some o =>
      have := b4 e o q
      rw [hx.new] at this
      cases this
  refine wpAny_leaving_firstW (a0 := a0) (Around.frames_deeper K.stack) (b5.of_keeps fun b o hb _ => ⟨o, hx.keeps b o hb, rfl⟩) rfl he (fun b o hb => hx.keeps b o (b4 b o hb)) hen hd v1 v0 fun h' z => ?_
  obtain ⟨z1, ⟨_, _, z2⟩, z3, z4⟩ := z
  have R : RaisedSN base g₀ outer e (.type cls) news h' := raisedSN_back T0 ⟨B, a0, b1, b2, b3, z1, hen, z2, by rw [← hc]; exact z3⟩
  exact hQ h' R R.toN (upTo_back T0 <| ((Heap.UpToSlots.of_keeps F.keep).trans (Heap.UpToSlots.of_keeps hx.keeps)).trans z4)
end

theorem excClass_EOFError : ExcClass "EOFError" "EOFError.__new__" "EOFError.__init__" where
  boot := by decide +kernel
  notType := by decide +kernel
  canNew := by decide +kernel
  typeCall := fun _ => by kernel_rfl
  mroFast := by kernel_rfl
  madeBy := by kernel_rfl
  newCheck := fun _ => by kernel_rfl
  newEntry := entryFor_alias (id' := "BaseException.__new__") (by kernel_rfl) (by first | rfl | (unfold String.splitOn; simp +decide [String.splitOnAux])) (by decide +kernel) (by kernel_rfl)
  newPlain := by decide +kernel
  newEnds := by decide +kernel
  subOwner := by rw [isSubtype_type]; kernel_rfl
  madeHere := by kernel_rfl
  notAttr := by rw [isSubtype_type]; kernel_rfl
  notName := by rw [isSubtype_type]; kernel_rfl
  self := by rw [isSubtype_type]; kernel_rfl
  init := .of (owner := "EOFError") (n := "__init__") (by rw [typeLookup_type, builtinLookup_eq_fast]; kernel_rfl) (by decide +kernel) (by decide +kernel) (by decide +kernel)
    (by first | exact .inl (by decide +kernel) | exact .inr (by decide +kernel)) (by rw [isSubtype_type]; kernel_rfl)
  initEntry := entryFor_alias (id' := "BaseException.__init__") (by kernel_rfl) (by first | rfl | (unfold String.splitOn; simp +decide [String.splitOnAux])) (by decide +kernel) (by kernel_rfl)
  initKind := by decide +kernel
  initSplit := by decide +kernel
  initSig := by kernel_rfl
  notStar := by decide +kernel
  base := by rw [isSubtype_type]; kernel_rfl
  metaType := by decide +kernel
  noFirst := by decide +kernel
  noOwn := plainExc_EOFError.1
theorem notTuple_EOFError : isSubtype (.type ((Manifest.find? "EOFError").elim "type" fun x => x.metatype)) (.type "tuple") = pure false := by
  rw [show ((Manifest.find? "EOFError").elim "type" fun x => x.metatype) = "type" from by kernel_rfl, isSubtype_type]; kernel_rfl
def NeAll (e : Nat) : Led → Prop
  | [] => True
  | q :: r => (@Ne Nat q.1 e) ∧ NeAll e r
theorem neAll_of {e : Addr} : ∀ {l : Led}, (∀ q ∈ l, q.1 ≠ e) → NeAll e l
  | [], _ => trivial
  | _ :: _, h => ⟨h _ (.head _), neAll_of fun q hq => h q (.tail _ hq)⟩
end PartY
section PartZ
local macro_rules | `(tactic| ktr_enter) => `(tactic| (refine' code_def ?k1 ?k2 ?k3 ?k4 ?k5 ?kA ?kF ?kK ?k6 ?k7 ?k8 ?k9 ?kB ?_ ?c2 ?c3 ?c4 ?c5; (case kA => assumption); (case kF => exact rfl); (case kK => assumption); (case k1 => k_asm); (case k2 => k_asm); (case k3 => k_asm); (case k4 => k_asm); (case k5 => k_asm); (case k6 => k_is); (case k7 => k_is); (case k8 => first | omega | (dsimp only; omega)); (case k9 => exact BindsTo.of_eq rfl); (case c5 => decide); (case kB => exact locs rfl); (case c2 => exact rfl); (case c3 => exact rfl); (case c4 => exact rfl); k_whole; intro g' L' h' FG' F' N' B' X' T'; (try dsimp only); (try k_lift B'); (try k_fold)))
local macro_rules | `(tactic| k_all) => `(tactic| first | assumption | exact allLt_ne (by assumption))
local macro_rules | `(tactic| k_mem) => `(tactic| assumption)
local macro_rules | `(tactic| walk_at "call builtin:len") => `(tactic| (k_here; (with_reducible show wpAny _ _ (call (Value.builtin "len") [Value.ref _]) _ _ _); k_dflt (refine' rl_len ?k1 ?k2 ?k3 ?_; (case k1 => k_asm); (case k2 => k_mem); (case k3 => omega); k_whole)))
local macro_rules | `(tactic| walk_at "subscriptTail") => `(tactic| (k_here; (with_reducible show wpAny _ _ (subscriptTail _ _ (Value.ref _) (Value.int _ _)) _ _ _); k_dflt (refine' rl_item_ints ?k1 ?k2 ?k3 ?k4 ?k5 ?k6 ?_ ?k7; (case k1 => k_asm); (case k2 => k_mem); (case k3 => with_reducible assumption); (case k4 => omega); (case k5 => omega); (case k6 => omega); (case k7 => with_unfolding_all rfl); k_whole); intro _ _))
local macro_rules | `(tactic| walk_at "subscriptTail") => `(tactic| (k_here; (with_reducible show wpAny _ _ (subscriptTail _ _ (Value.ref _) (Value.int _ _)) _ _ _); k_dflt (refine' rl_item ?k1 ?k2 ?k3 ?k4 ?k6 ?_ ?k7; (case k1 => k_asm); (case k2 => k_mem); (case k4 => first | decide | omega); (case k6 => first | decide | omega); (case k3 => first | exact rfl | assumption); (case k7 => with_unfolding_all rfl); k_whole)))
local macro_rules | `(tactic| walk_at "call builtin:max") => `(tactic| (k_here; (with_reducible show wpAny _ _ (call (Value.builtin _) [Value.int _ _, Value.int _ _]) _ _ _); k_dflt (refine' max_two_N ?k1 ?k2 ?k3 ?_; (case k1 => assumption); (case k2 => k_asm); (case k3 => k_asm); k_whole); intro h' tk' F' N'; (try k_sweep)))
local macro_rules | `(tactic| walk_at "call builtin:min") => `(tactic| (k_here; (with_reducible show wpAny _ _ (call (Value.builtin _) [Value.int _ _, Value.int _ _]) _ _ _); k_dflt (refine' min_two_N ?k1 ?k2 ?k3 ?_; (case k1 => assumption); (case k2 => k_asm); (case k3 => k_asm); k_whole); intro h' tk' F' N'; (try k_sweep)))
local macro_rules | `(tactic| k_room) => `(tactic| first | ((try simp only [depth_under_make, depth_under_kw, depth_in1, depth_deeper, depth_caller]); omega) | (dsimp only [Around.mark, Around.deeper, Around.in1, Around.under]; omega))
local macro_rules | `(tactic| ktr_unf) => `(tactic| (refine' code_defS0 ?k1 ?k2 ?k3 ?k4 ?k5 ?kA ?k6 ?k7 ?k8 ?k9 ?kB ?_ ?cK ?c2 ?c3 ?c4 ?c5; (case kA => exact rfl); (case k2 => k_asm); (case k1 => k_asm); (case k3 => k_asm); (case k4 => k_asm); (case k5 => k_asm); (case k6 => k_is); (case k7 => k_is); (case k8 => first | omega | (dsimp only; omega)); (case k9 => first | exact BindsTo.of_eq rfl | exact binds_K (by k_in) rfl (by k_is) rfl rfl rfl); (case kB => exact locs rfl); (case cK => assumption); (case c2 => exact rfl); (case c3 => exact rfl); (case c4 => exact rfl); (case c5 => decide); k_whole; intro g' L' h' FG' F' N' B' X' T' D'; (try dsimp only); (try k_lift B'); (try k_fold)))
local macro_rules | `(tactic| walk_at "subscriptTail") => `(tactic| (k_here; (with_reducible show wpAny _ _ (subscriptTail _ _ (Value.ref _) (Value.int _ _)) _ _ _); k_dflt (refine' rl_item_out ?k0 ?k1 ?k2 ?k4 ?k6 ?_ ?k7; (case k0 => first | exact rfl | assumption); (case k1 => k_asm); (case k2 => k_mem); (case k4 => omega); (case k6 => omega); (case k7 => with_unfolding_all rfl); k_whole); intro h' tk' e' x'))
section
variable {prog : Program} {w : World} {A : Around} {E : Value → Shared → Prop} {s : Shared}

theorem none_no_add : typeLookup (.type "NoneType") (Str.ofString "__add__") = pure none := by rw [typeLookup_type, builtinLookup_eq_fast]; kernel_rfl
theorem none_no_radd : typeLookup (.type "NoneType") (Str.ofString "__radd__") = pure none := by rw [typeLookup_type, builtinLookup_eq_fast]; kernel_rfl
theorem none_fills : fillsNumberSlot (.type "NoneType") "add" = pure false := by
  unfold fillsNumberSlot
  have e1 : PySem.dunder "add" = Str.ofString "__add__" := by decide +kernel
  have e2 : PySem.dunderR "add" = Str.ofString "__radd__" := by decide +kernel
  simp only [e1, e2, none_no_add, none_no_radd]
  rfl
theorem none_name : PySem.typeNameOf .none = pure "NoneType" := by kernel_rfl
theorem int_name (k : Int) (t : Tok) : PySem.typeNameOf (.int k t) = pure "int" := by
  show typeName (.type "int") = pure "int"
  kernel_rfl

theorem typeIs_int (s : Shared) (k : Int) (t : Tok) : s.TypeIs (.int k t) "int" := rfl
theorem radd_none {k : Int} {t : Tok} {Q : Value → Shared → Prop} (h : Q .notImplemented s) : wpAny (model prog w) A (call (.builtin "int.__radd__") [.int k t, .none]) Q E s := by
  have tb : s.TypeIs (.int k t) "int" := rfl
  refine call_gives (m := .val .notImplemented) F.slot_int_radd tb F.entry_int_radd (F.args_int_radd_2 _ _) (AutoIntG3.int___radd___int_none_0 k t) ?_
  exact h
/-- None + an int -/
theorem add_none_int {k : Int} {t : Tok} {Q : Value → Shared → Prop} (hh : A.handled = none) (hE : ∀ h' tk e, Heap.NewExc s.heap h' e "TypeError" → E (.ref e) { s with heap := h', toks := tk }) :
    wpAny (model prog w) A (binaryOp .Add .none (.int k t)) Q E s := by
  have hi : Operator.Add.info = ("+", "add") := rfl
  have ta : s.TypeIs .none "NoneType" := rfl
  have tb : s.TypeIs (.int k t) "int" := rfl
  simp only [binaryOp, hi]
  refine wpAny_holding ?_
  refine wpAny_bind (m := binaryOp1 "add" .none (.int k t)) ?_
  unfold binaryOp1
  refine wpAny_bind (wpAny_typeOf ta (wpAny_bind (wpAny_typeOf tb (wpAny_bind (wpAny_of_eq none_fills ?_)))))
  rw [show ((Value.type "NoneType" == Value.type "int") = false) by decide +kernel]
  simp only [Bool.false_eq_true, if_false]
  refine wpAny_bind (wpAny_of_eq F.fills_int_add ?_)
  simp only [Bool.false_and, Bool.false_eq_true, if_false, pure_bind, Bool.not_false, Bool.and_self, Bool.true_and, if_true]
  refine wpAny_bind (m := tryMethod (.int k t) (PySem.dunderR "add") .none) ?_
  refine wpAny_tryMethod_declines (T := "int") (id := "int.__radd__") ?b ?a ?_
  case a => exact F.slot_int_radd
  case b => exact typeIs_int s k t
  refine radd_none (And.intro rfl ?_)
  refine wpAny_pure ?_
  dsimp only
  refine wpAny_bind (wpAny_typeOf ta ?_)
  refine wpAny_bind (m := seqSlot? (.type "NoneType") (Str.ofString "__add__")) ?_
  unfold seqSlot?
  refine wpAny_bind (wpAny_of_eq none_no_add ?_)
  rw [if_pos (by decide)]
  refine wpAny_pure ?_
  dsimp only
  unfold binopTypeError
  refine wpAny_bind (wpAny_rule ?_)
  rw [none_name, int_name]
  refine wpAny_bind (wpAny_pure (wpAny_bind (wpAny_pure ?_)))
  exact raiseError_exc excClass_TypeError hh hE (by decide +kernel)

/-- the end of a tuple's iterator, within the suite of an except clause -/
theorem next_end_in {it t e₁ : Addr} {i : Nat} {items : Array Value} {o₁ : Obj} {vs₁ : Array Value} {Q : Option Value → Shared → Prop} (hh : A.handled = some (.ref e₁)) (h₁ : s.heap.get? e₁ = some o₁) (d₁ : o₁.data = .fields vs₁) (v2 : vs₁[2]? = some .none) (hne : it ≠ e₁)
    (hit : IsTupIter s.heap it t i) (ht : IsTup s.heap t items) (hx : items[i]? = none)
    (hQ : ∀ h', Heap.ExtBut it s.heap h' → Q none { s with heap := h' }) : wpAny (model prog w) A (pyNext (.ref it)) Q E s := by
  obtain ⟨o, ho, hc, hd⟩ := id hit
  obtain ⟨ol, hol, _, nl, hdl⟩ := ht
  unfold pyNext
  refine wpAny_bind (wpAny_attempt (wpAny_callSpecial?_slot (name := Str.ofString "__next__") hit.typeIs slot_tupleiter_next
    (wpAny_call_entry slot_tupleiter_next hit.typeIs entry_tupleiter_next ?_ (args_tupleiter_next _))))
  show wpAny _ _ (field (.ref it) 0 >>= _) _ _ s
  refine wpAny_bind (wpAny_field ho hd (x := .ref t) rfl ?_)
  show wpAny _ _ (if (Value.ref t == Value.none) = true then _ else _) _ _ s
  rw [if_neg (show ¬ ((Value.ref t == Value.none) = true) from Bool.false_ne_true)]
  show wpAny _ _ (field (.ref it) 1 >>= _) _ _ s
  refine wpAny_bind (wpAny_field ho hd (x := .int i 0) rfl ?_)
  show wpAny _ _ (seqItems? (.ref t) >>= _) _ _ s
  refine wpAny_bind (wpAny_seqItems hol hdl ?_)
  simp only [Int.toNat_natCast, hx]
  refine wpAny_bind (wpAny_rule (wpAny_bind (wpAny_setField ho hd (by simp) ?_)))
  show wpAny _ _ (newExc (.type "StopIteration") [] >>= _) _ _ _
  refine wpAny_bind ?_
  simp only [newExc, newTuple]
  refine wpAny_bind (wpAny_newObj_type ?_ (by size_fits))
  refine wpAny_bind (m := firstArgMember _ _) (wpAny_of_eq (a := Value.none) (by first | rfl | (simp only [firstArgMember]; rfl)) ?_)
  refine wpAny_newObj_type ?_ (by size_fits)
  simp only [raiseNew]
  refine wpAny_bind (wpAny_handled ?_)
  rw [show A.in1.handled = some (.ref e₁) from hh]
  generalize hhp : (s.heap.update it (Obj.mapFields fun x => x.setIfInBounds 0 Value.none)).push { cls := Value.type "tuple", data := Data.seq #[] } = hp
  have keep : ∀ b o, b ≠ it → s.heap.get? b = some o → hp.get? b = some o := fun b o hb hbo => by
    rw [← hhp]
    exact Heap.get?_push_of_some _ ((Heap.get?_update_other _ _ (Ne.symm hb)).trans hbo)
  have up : hp.get? e₁ = some o₁ := keep _ _ (Ne.symm hne) h₁
  have ne : e₁ ≠ hp.objs.size := Nat.ne_of_lt (Heap.lt_size up)
  generalize ownMembersOf (Value.type "StopIteration") [] = own
  generalize hob : ({ cls := Value.type "StopIteration", data := Data.fields (#[Value.ref (s.heap.update it (Obj.mapFields fun x => x.setIfInBounds 0 Value.none)).objs.size, Value.none, Value.none, Value.none, Value.bool false, Value.none] ++ own) } : Obj) = ob
  have hobd : ∃ ts : Array Value, ob.data = .fields ts ∧ 2 < ts.size := by rw [← hob]; exact ⟨_, rfl, by simp; omega⟩
  have hobf : ob.isFreed = false := by rw [← hob]; rfl
  have hobc : ob.cls = .type "StopIteration" := by rw [← hob]
  obtain ⟨ts, td, tz⟩ := hobd
  have he : (hp.push ob).get? hp.objs.size = some ob := Heap.get?_push_size _ hobf
  dsimp only
  rw [if_pos (by simp [ne])]
  refine wpAny_bind (wpAny_holding (unchain_none (Heap.get?_push_of_some _ up) d₁ v2 fun v => ?_))
  refine wpAny_bind (m := setField (.ref hp.objs.size) 2 (.ref e₁)) (wpAny_setField he td tz (wpAny_throw ?_))
  have dd := Obj.data_mapFields td (·.setIfInBounds 2 (Value.ref e₁))
  refine wpAny_bind (wpAny_isInstance (T := "StopIteration") (b := true) ⟨_, Heap.get?_update_self _ he (Obj.isFreed_of_fields dd), (Obj.cls_mapFields _ _).trans hobc⟩ isSubtype_stop ?_)
  refine wpAny_pure (hQ _ fun b o hb hbo => ?_)
  have := keep b o hb hbo
  exact (Heap.get?_update_other _ _ (Nat.ne_of_gt (Heap.lt_size this))).trans (Heap.get?_push_of_some _ this)
theorem unpack_in {t e₁ : Addr} {items : Array Value} {o₁ : Obj} {vs₁ : Array Value} {Q : List Value → Shared → Prop} (hh : A.handled = some (.ref e₁)) (h₁ : s.heap.get? e₁ = some o₁) (d₁ : o₁.data = .fields vs₁) (v2 : vs₁[2]? = some .none) (ht : IsTup s.heap t items)
    (hQ : ∀ h', Heap.ExtBut s.heap.objs.size s.heap h' → Q items.toList { s with heap := h' }) : wpAny (model prog w) A (unpackItems (.ref t) items.size none) Q E s := by
  have away : t ≠ s.heap.objs.size := by
    obtain ⟨o, ho, _⟩ := ht
    exact Nat.ne_of_lt (Heap.lt_size ho)
  have eaway : s.heap.objs.size ≠ e₁ := Nat.ne_of_gt (Heap.lt_size h₁)
  unfold unpackItems
  refine wpAny_bind ?_
  unfold notIterableAtAll
  refine wpAny_bind (wpAny_specialOf ht.typeIs slot_tuple_iter.lookup ?_)
  refine wpAny_pure ?_
  simp only [Bool.false_eq_true, if_false]
  refine wpAny_bind (wpAny_holding (iter_tuple ht ?_))
  refine wpAny_bind (wpAny_holding (draw_tuple away items.size 0 _ _ ⟨_, Heap.get?_push_size _ rfl, rfl, rfl⟩ (ht.push _) (by omega) fun h₂ it₂ sb₂ => ?_))
  rw [List.drop_zero, List.take_of_length_le (by simp), if_neg (by simp)]
  have e₂ : h₂.get? e₁ = some o₁ := sb₂.extBut e₁ o₁ (Ne.symm eaway) (Heap.get?_push_of_some _ h₁)
  refine wpAny_bind (wpAny_holding (next_end_in hh e₂ d₁ v2 eaway it₂ ((ht.push _).extBut sb₂.extBut away) (by simp) fun h₃ x₃ => ?_))
  simp only [Option.isSome_none, Bool.false_eq_true, if_false]
  exact wpAny_pure (hQ h₃ fun b o hb hbo => x₃ b o hb (sb₂.extBut b o hb (Heap.get?_push_of_some _ hbo)))

/-- «a, b = t» within the suite of an except clause -/
theorem assign_in {env : Env} {elts : List PySem.Expr} {k : Nat} {pos : Pos} {t e₁ : Addr} {items : Array Value} {o₁ : Obj} {vs₁ : Array Value} {h₀ : Heap} {L : Addr} {m : Str → Option Value} {news : Led} {Q : Unit → Shared → Prop} (F : Fr h₀ L s.heap m) (N : News h₀ L s.heap news)
    (ht : IsTup s.heap t items) (hh : A.handled = some (.ref e₁)) (h₁ : s.heap.get? e₁ = some o₁) (d₁ : o₁.data = .fields vs₁) (v2 : vs₁[2]? = some .none)
    (hn : (assignEach elts env).length = items.size) (hstar : (assignEach elts env).findIdx? (·.1) = none)
    (h : ∀ h', Fr h₀ L h' m → News h₀ L h' news → wpAny (model prog w) A (assignInOrder ((assignEach elts env).map (·.2)) items.toList) Q E { s with heap := h' }) :
    wpAny (model prog w) A (assign (.Tuple elts k pos) env (.ref t)) Q E s := by
  rw [assign_Tuple]
  refine wpAny_bind (wpAny_standAt ?_)
  unfold unpack
  rw [hn, hstar]
  exact wpAny_bind (wpAny_holding (unpack_in hh h₁ d₁ v2 ht fun h' x => h h' (F.extBut x (Nat.le_refl _)) (N.extBut x (Nat.le_refl _))))
theorem index_no_type : isSubtype (.type "IndexError") (.type "TypeError") = pure false := by rw [isSubtype_type]; kernel_rfl
end
end PartZ
section PartD
local macro_rules | `(tactic| ktr_enter) => `(tactic| (refine' code_def ?k1 ?k2 ?k3 ?k4 ?k5 ?kA ?kF ?kK ?k6 ?k7 ?k8 ?k9 ?kB ?_ ?c2 ?c3 ?c4 ?c5; (case kA => assumption); (case kF => exact rfl); (case kK => assumption); (case k1 => k_asm); (case k2 => k_asm); (case k3 => k_asm); (case k4 => k_asm); (case k5 => k_asm); (case k6 => k_is); (case k7 => k_is); (case k8 => first | omega | (dsimp only; omega)); (case k9 => exact BindsTo.of_eq rfl); (case c5 => decide); (case kB => exact locs rfl); (case c2 => exact rfl); (case c3 => exact rfl); (case c4 => exact rfl); k_whole; intro g' L' h' FG' F' N' B' X' T'; (try dsimp only); (try k_lift B'); (try k_fold)))
local macro_rules | `(tactic| k_all) => `(tactic| first | assumption | exact allLt_ne (by assumption))
local macro_rules | `(tactic| k_mem) => `(tactic| assumption)
local macro_rules | `(tactic| walk_at "call builtin:len") => `(tactic| (k_here; (with_reducible show wpAny _ _ (call (Value.builtin "len") [Value.ref _]) _ _ _); k_dflt (refine' rl_len ?k1 ?k2 ?k3 ?_; (case k1 => k_asm); (case k2 => k_mem); (case k3 => omega); k_whole)))
local macro_rules | `(tactic| walk_at "subscriptTail") => `(tactic| (k_here; (with_reducible show wpAny _ _ (subscriptTail _ _ (Value.ref _) (Value.int _ _)) _ _ _); k_dflt (refine' rl_item_ints ?k1 ?k2 ?k3 ?k4 ?k5 ?k6 ?_ ?k7; (case k1 => k_asm); (case k2 => k_mem); (case k3 => with_reducible assumption); (case k4 => omega); (case k5 => omega); (case k6 => omega); (case k7 => with_unfolding_all rfl); k_whole); intro _ _))
local macro_rules | `(tactic| walk_at "subscriptTail") => `(tactic| (k_here; (with_reducible show wpAny _ _ (subscriptTail _ _ (Value.ref _) (Value.int _ _)) _ _ _); k_dflt (refine' rl_item ?k1 ?k2 ?k3 ?k4 ?k6 ?_ ?k7; (case k1 => k_asm); (case k2 => k_mem); (case k4 => first | decide | omega); (case k6 => first | decide | omega); (case k3 => first | exact rfl | assumption); (case k7 => with_unfolding_all rfl); k_whole)))
local macro_rules | `(tactic| walk_at "call builtin:max") => `(tactic| (k_here; (with_reducible show wpAny _ _ (call (Value.builtin _) [Value.int _ _, Value.int _ _]) _ _ _); k_dflt (refine' max_two_N ?k1 ?k2 ?k3 ?_; (case k1 => assumption); (case k2 => k_asm); (case k3 => k_asm); k_whole); intro h' tk' F' N'; (try k_sweep)))
local macro_rules | `(tactic| walk_at "call builtin:min") => `(tactic| (k_here; (with_reducible show wpAny _ _ (call (Value.builtin _) [Value.int _ _, Value.int _ _]) _ _ _); k_dflt (refine' min_two_N ?k1 ?k2 ?k3 ?_; (case k1 => assumption); (case k2 => k_asm); (case k3 => k_asm); k_whole); intro h' tk' F' N'; (try k_sweep)))
local macro_rules | `(tactic| k_room) => `(tactic| first | ((try simp only [depth_under_make, depth_under_kw, depth_in1, depth_deeper, depth_caller]); omega) | (dsimp only [Around.mark, Around.deeper, Around.in1, Around.under]; omega))
local macro_rules | `(tactic| ktr_unf) => `(tactic| (refine' code_defS0 ?k1 ?k2 ?k3 ?k4 ?k5 ?kA ?k6 ?k7 ?k8 ?k9 ?kB ?_ ?cK ?c2 ?c3 ?c4 ?c5; (case kA => exact rfl); (case k2 => k_asm); (case k1 => k_asm); (case k3 => k_asm); (case k4 => k_asm); (case k5 => k_asm); (case k6 => k_is); (case k7 => k_is); (case k8 => first | omega | (dsimp only; omega)); (case k9 => first | exact BindsTo.of_eq rfl | exact binds_K (by k_in) rfl (by k_is) rfl rfl rfl); (case kB => exact locs rfl); (case cK => assumption); (case c2 => exact rfl); (case c3 => exact rfl); (case c4 => exact rfl); (case c5 => decide); k_whole; intro g' L' h' FG' F' N' B' X' T' D'; (try dsimp only); (try k_lift B'); (try k_fold)))
local macro_rules | `(tactic| walk_at "subscriptTail") => `(tactic| (k_here; (with_reducible show wpAny _ _ (subscriptTail _ _ (Value.ref _) (Value.int _ _)) _ _ _); k_dflt (refine' rl_item_out ?k0 ?k1 ?k2 ?k4 ?k6 ?_ ?k7; (case k0 => first | exact rfl | assumption); (case k1 => k_asm); (case k2 => k_mem); (case k4 => omega); (case k6 => omega); (case k7 => with_unfolding_all rfl); k_whole); intro h' tk' e' x'))
local macro_rules | `(tactic| walk_at "leaving ref") => `(tactic| (k_here; (with_reducible rename KtsDicts _ _ => kdX); first
  | (refine' leaveC_first ?k1 ?k0 ?k2 ?k3 ?T0 ?_; (case k0 => assumption); (case k2 => assumption); (case k1 => assumption); (case k3 => k_asm); (case T0 => first | assumption | exact KtsTurn.refl); k_whole; intro h' R' S' U'; (try dsimp only at R' S' U' ⊢))
  | (refine' leaveC_held ?k1 ?k2 ?k3 ?T0 ?_; (case k2 => assumption); (case k3 => assumption); (case k1 => assumption); (case T0 => first | assumption | exact KtsTurn.refl); k_whole; intro h' R' S' U'; (try dsimp only at R' S' U' ⊢))
  | (refine' leaveX_first ?k1 ?k0 ?k2 ?k3 ?T0 ?_; (case k0 => assumption); (case k2 => assumption); (case k1 => assumption); (case k3 => k_asm); (case T0 => first | assumption | exact KtsTurn.refl); k_whole; intro h' S' R' U'; (try dsimp only at S' R' U' ⊢))))
local macro_rules | `(tactic| walk_at "noteFrame ref") => `(tactic| (k_here; (with_reducible show wpAny _ _ (noteFrame _ _) (fun _ s₂ => wpAny _ _ (setFlight _ none) (fun _ s₃ => wpAny _ _ (handleBy _ _ (ExceptHandler.ExceptHandler (some (Expr.Name ("IndexError" : Str) _)) none _ _ :: _)) _ _ s₃) _ s₂) _ _); k_dflt (first
  | (refine' catch_callee (T' := "IndexError") ?R ?F ?K ?U ?XB ?TB ?D ?T0 ?ex PyProof.Rows.Boot.«IndexError» ?hn excClass_IndexError.base PySem.F.notTuple_IndexError excClass_IndexError.self ?_; (case R => assumption); (case F => assumption); (case K => assumption); (case U => assumption); (case XB => assumption); (case TB => assumption); (case D => assumption); (case T0 => first | assumption | exact KtsTurn.refl); (case ex => k_is); (case hn => decide); k_whole)
  | (refine' catch_own (T' := "IndexError") ?xc ?F ?N ?K ?XB ?TB ?D ?T0 ?ex PyProof.Rows.Boot.«IndexError» ?hn excClass_IndexError.base PySem.F.notTuple_IndexError excClass_IndexError.self ?_; (case xc => assumption); (case F => assumption); (case N => assumption); (case K => assumption); (case XB => assumption); (case TB => assumption); (case D => assumption); (case T0 => first | assumption | exact KtsTurn.refl); (case ex => k_is); (case hn => decide); k_whole)); unfold SuiteOk; intro h' g' oe' vs' T' F' N' ne' d' v2' R' K' X' P' D'; (replace ne' := neAll_of ne'; try simp only [NeAll, and_true] at ne'); (try k_lift K'); (try k_sweep)))
local macro_rules | `(tactic| walk_at "noteFrame ref") => `(tactic| (k_here; (with_reducible show wpAny _ _ (noteFrame _ _) (fun _ s₂ => wpAny _ _ (setFlight _ none) (fun _ s₃ => wpAny _ _ (handleBy _ _ (ExceptHandler.ExceptHandler (some (Expr.Name ("EOFError" : Str) _)) none _ _ :: _)) _ _ s₃) _ s₂) _ _); k_dflt
  (refine' caught_SN0 (T' := "EOFError") ?R ?F ?K ?U ?XB ?TB ?D ?T0 ?ex PyProof.Rows.Boot.«EOFError» ?hn excClass_EOFError.base notTuple_EOFError excClass_EOFError.self ?_; (case R => assumption); (case F => assumption); (case K => assumption); (case U => assumption); (case XB => assumption); (case TB => assumption); (case D => assumption); (case T0 => first | assumption | exact KtsTurn.refl); (case ex => k_is); (case hn => decide); k_whole); intro h' g' T' F' N' K' X' P' D'; (try k_lift K'); (try k_sweep)))
local macro_rules | `(tactic| walk_at "exec Raise some none") => `(tactic| (k_here; (with_reducible show wpAny _ _ (exec (Stmt.Raise (some (Expr.Name ("EOFError" : Str) _)) none _) _) _ _ _); (with_reducible rename Fr _ _ _ _ => kF); k_dflt (refine' raise_in ?hh ?h1 ?d1 ?v2 excClass_EOFError ?hx ?_; (case hh => exact rfl); (case h1 => exact News.get (by k_asm) (by k_mem)); (case d1 => assumption); (case v2 => assumption); (case hx => (refine' name_B kF ?k1 ?k2 ?k3 ?k4 ?k5 ?_; (case k1 => k_asm); (case k2 => k_asm); (case k3 => k_is); (case k4 => exact PyProof.Rows.Boot.«EOFError»); (case k5 => decide); exact ⟨rfl, rfl⟩))); intro h' e' x'))
local macro_rules | `(tactic| walk_at "exec Raise none none") => `(tactic| (k_here; k_dflt (refine' raise_bare ?hh ?R ?F ?_; (case hh => exact rfl); (case R => assumption); (case F => k_asm)); intro h' R' U'))
section
variable {w : World} {A A₀ : Around} {E Q : Value → Shared → Prop} {s : Shared} {base h₀ : Heap} {outer : List Env} {L a : Addr} {m : Str → Option Value} {cn : Str} {cs : Scope} {ccd : Value} {prog : Program} {p : Program} {loose : List Str} {mean : ExcName → Option Value} {mg mb : Str → Option Value}

/-- the ground of a call that catches: nothing stands below its caller -/
structure GndX (K : Frag) (d : Nat) (A A₀ : Around) (base h₀ : Heap) (L a : Addr) (cn : Str) (cs : Scope) (ccd : Value) (p : Program) (loose : List Str) (mean : ExcName → Option Value) (mg mb : Str → Option Value) : Prop where
  G : Gnd K d A A₀ base h₀ L a cn cs ccd [] p loose mean mg mb
  XB : K.In base
  TB : Top p loose mean mg mb base
/-- a machine's dict -/
abbrev mDict (H : Nat → Int) (K : Nat → Tok) (sl : Addr) (b : Int) (bt : Tok) (lv : Value) (pl : Int) (pt : Tok) (X : Nat → Value) : Obj :=
  dictOf [⟨H 0, .str (Str.ofString "input_lines") (K 0), .ref sl⟩, ⟨H 1, .str (Str.ofString "input_offset") (K 1), .int b bt⟩, ⟨H 2, .str (Str.ofString "line") (K 2), lv⟩, ⟨H 3, .str (Str.ofString "line_offset") (K 3), .int pl pt⟩,
    ⟨H 4, .str (Str.ofString "debug") (K 4), X 0⟩, ⟨H 5, .str (Str.ofString "initial_state") (K 5), X 1⟩, ⟨H 6, .str (Str.ofString "current_state") (K 6), X 2⟩, ⟨H 7, .str (Str.ofString "states") (K 7), X 3⟩] 8
/-- a StringList's dict -/
abbrev sDict (H : Nat → Int) (K : Nat → Tok) (dl il : Addr) : Obj :=
  dictOf [⟨H 0, .str (Str.ofString "data") (K 0), .ref dl⟩, ⟨H 1, .str (Str.ofString "items") (K 1), .ref il⟩, ⟨H 2, .str (Str.ofString "parent") (K 2), .none⟩, ⟨H 3, .str (Str.ofString "parent_offset") (K 3), .none⟩] 4

theorem news_tail {h : Heap} {q : Addr × Obj} {l : Led} (N : News h₀ L h (q :: l)) : News h₀ L h l := fun z hz => N z (.tail _ hz)

theorem step_h {mc md sl sd dl il : Addr} {H1 H2 : Nat → Int} {K1 K2 : Nat → Tok} {X1 : Nat → Value} {nd : Nat} {b pl deed v : Int} {bt pt dt vt : Tok} {lv : Value} {rest : Led} {rv : List Value} {rs : List Str}
    (G : GndX (hd.heap_39 w.params) 20 A A₀ base h₀ L a cn cs ccd p loose mean mg mb) (F : Fr h₀ L s.heap m)
    (N : News h₀ L s.heap ((md, mDict H1 K1 sl b bt lv pl pt X1) :: rest)) (hne : ∀ p ∈ rest, p.1 ≠ md)
    (hmc : (mc, instObj 172 md) ∈ rest) (hsl : (sl, instObj 481 sd) ∈ rest) (hsd : (sd, sDict H2 K2 dl il) ∈ rest) (hdl : (dl, listOf rv.toArray nd) ∈ rest) (hs : StrsAre rv rs) (hn0 : 3 ≤ rv.length) (hn1 : rv.length ≤ 6)
    (b0 : 0 ≤ b) (b1 : b < 1000) (p0 : -1 ≤ pl) (p1 : pl < 1000) (d0 : 0 ≤ deed) (d1 : deed < 3) (am : Amt rv.length pl b deed v)
    (hq : ∀ r hv' pt' tk' h', Fr h₀ L h' m → News h₀ L h' ((md, mDict H1 K1 sl b bt hv' (newPl deed pl b v) pt' X1) :: rest) → Went rs deed (newPl deed pl b v) hv' r → Q r { s with heap := h', toks := tk' }) :
    wpAny (model prog w) A (call (.ref 614) [.ref mc, .int deed dt, .int v vt]) Q E s := by
  w_top off; refine fillK w.params _ ?_; k_fill; intro _ _
  obtain ⟨⟨hh, hA, hk, hdp, hun, B, X, T⟩, XB, TB⟩ := G
  obtain ⟨hd', dp, fr, gd, un⟩ := A
  obtain rfl : fr = _ := hA
  obtain rfl : hd' = none := hh
  dsimp only at hdp hun
  have hl := strs_len hs
  obtain ⟨a1, a2, a3⟩ := am
  rcases (show deed = 0 ∨ deed = 1 ∨ deed = 2 by omega) with e | e | e
  · subst e
    obtain ⟨a4, a5⟩ := a1 rfl
    clear a1 a2 a3
    have en : newPl 0 pl b v = pl + v := rfl
    rw [en] at hq
    by_cases c1 : pl + v < (rv.length : Nat)
    · obtain ⟨x, t, e1, e2⟩ := strs_get hs (k := (pl + v).toNat) (by omega)
      clear hs
      refine wpAny_call ?_
      k_dflt ktr_unf
      k_steps
      all_goals first | exact hq _ _ _ _ _ (by k_asm) (by k_asm) (.on (by omega) (by omega) e2) | (exfalso; omega) | (trace_state; fail)
    · clear hs
      refine wpAny_call ?_
      k_dflt ktr_unf
      k_steps
      all_goals first | exact hq _ _ _ _ _ (by k_asm) (news_tail (by k_asm)) (.off (by decide) (by omega)) | (exfalso; omega) | (trace_state; fail)
  · subst e
    obtain ⟨a4, a5⟩ := a2 rfl
    clear a1 a2 a3
    have en : newPl 1 pl b v = pl - v := rfl
    rw [en] at hq
    by_cases c0 : pl - v < 0
    · clear hs
      refine wpAny_call ?_
      k_dflt ktr_unf
      k_steps
      all_goals first | exact hq _ _ _ _ _ (by k_asm) (by k_asm) (.low rfl c0) | (exfalso; omega) | (trace_state; fail)
    · obtain ⟨x, t, e1, e2⟩ := strs_get hs (k := (pl - v).toNat) (by omega)
      clear hs
      refine wpAny_call ?_
      k_dflt ktr_unf
      k_steps
      all_goals first | exact hq _ _ _ _ _ (by k_asm) (by k_asm) (.on (by omega) (by omega) e2) | (exfalso; omega) | (trace_state; fail)
  · subst e
    obtain ⟨a4, a5⟩ := a3 rfl
    clear a1 a2 a3
    have en : newPl 2 pl b v = v - b := rfl
    rw [en] at hq
    by_cases c1 : v - b < (rv.length : Nat)
    · obtain ⟨x, t, e1, e2⟩ := strs_get hs (k := (v - b).toNat) (by omega)
      clear hs
      refine wpAny_call ?_
      k_dflt ktr_unf
      k_steps
      all_goals first | exact hq _ _ _ _ _ (by k_asm) (by k_asm) (.on (by omega) (by omega) e2) | (exfalso; omega) | (trace_state; fail)
    · clear hs
      refine wpAny_call ?_
      k_dflt ktr_unf
      k_steps
      all_goals first | exact hq _ _ _ _ _ (by k_asm) (news_tail (by k_asm)) (.off (by decide) (by omega)) | (exfalso; omega) | (trace_state; fail)

theorem step_c {mc md sl sd dl il : Addr} {H1 H2 : Nat → Int} {K1 K2 : Nat → Tok} {X1 : Nat → Value} {nd : Nat} {b pl deed v : Int} {bt pt dt vt : Tok} {lv : Value} {news : Led} {U : Obj → Led} {rv : List Value} {rs : List Str}
    (G : GndX (hd.heap_39 w.params) 20 A A₀ base h₀ L a cn cs ccd p loose mean mg mb) (F : Fr h₀ L s.heap m)
    (N : News h₀ L s.heap news) (hU : UpdF md (mDict H1 K1 sl b bt lv pl pt X1) news U) (n1 : mc ≠ md) (n2 : sl ≠ md) (n3 : sd ≠ md) (n4 : dl ≠ md)
    (hmc : (mc, instObj 172 md) ∈ news) (hsl : (sl, instObj 481 sd) ∈ news) (hsd : (sd, sDict H2 K2 dl il) ∈ news) (hdl : (dl, listOf rv.toArray nd) ∈ news) (hs : StrsAre rv rs) (hn0 : 3 ≤ rv.length) (hn1 : rv.length ≤ 6)
    (b0 : 0 ≤ b) (b1 : b < 1000) (p0 : -1 ≤ pl) (p1 : pl < 1000) (d0 : 0 ≤ deed) (d1 : deed < 3) (am : Amt rv.length pl b deed v)
    (hq : ∀ r hv' pt' tk' h', Fr h₀ L h' m → News h₀ L h' (U (mDict H1 K1 sl b bt hv' (newPl deed pl b v) pt' X1)) → Went rs deed (newPl deed pl b v) hv' r → Q r { s with heap := h', toks := tk' }) :
    wpAny (model prog w) A (call (.ref 614) [.ref mc, .int deed dt, .int v vt]) Q E s := by
  obtain ⟨pre, post, rfl, hu, m1, m2⟩ := hU.split
  refine step_h G F (news_perm N mid_in) (mid_ne m1 m2) (mid_mem hmc n1) (mid_mem hsl n2) (mid_mem hsd n3) (mid_mem hdl n4) hs hn0 hn1 b0 b1 p0 p1 d0 d1 am fun r hv' pt' tk' h' F' N' W => ?_
  exact hq r hv' pt' tk' h' F' (by rw [hu]; exact news_perm N' mid_out) W
end
end PartD
section PartE
local macro_rules | `(tactic| ktr_enter) => `(tactic| (refine' code_def ?k1 ?k2 ?k3 ?k4 ?k5 ?kA ?kF ?kK ?k6 ?k7 ?k8 ?k9 ?kB ?_ ?c2 ?c3 ?c4 ?c5; (case kA => assumption); (case kF => exact rfl); (case kK => assumption); (case k1 => k_asm); (case k2 => k_asm); (case k3 => k_asm); (case k4 => k_asm); (case k5 => k_asm); (case k6 => k_is); (case k7 => k_is); (case k8 => first | omega | (dsimp only; omega)); (case k9 => exact BindsTo.of_eq rfl); (case c5 => decide); (case kB => exact locs rfl); (case c2 => exact rfl); (case c3 => exact rfl); (case c4 => exact rfl); k_whole; intro g' L' h' FG' F' N' B' X' T'; (try dsimp only); (try k_lift B'); (try k_fold)))
local macro_rules | `(tactic| k_all) => `(tactic| first | assumption | exact allLt_ne (by assumption))
local macro_rules | `(tactic| k_mem) => `(tactic| assumption)
local macro_rules | `(tactic| walk_at "call builtin:len") => `(tactic| (k_here; (with_reducible show wpAny _ _ (call (Value.builtin "len") [Value.ref _]) _ _ _); k_dflt (refine' rl_len ?k1 ?k2 ?k3 ?_; (case k1 => k_asm); (case k2 => k_mem); (case k3 => omega); k_whole)))
local macro_rules | `(tactic| walk_at "subscriptTail") => `(tactic| (k_here; (with_reducible show wpAny _ _ (subscriptTail _ _ (Value.ref _) (Value.int _ _)) _ _ _); k_dflt (refine' rl_item_ints ?k1 ?k2 ?k3 ?k4 ?k5 ?k6 ?_ ?k7; (case k1 => k_asm); (case k2 => k_mem); (case k3 => with_reducible assumption); (case k4 => omega); (case k5 => omega); (case k6 => omega); (case k7 => with_unfolding_all rfl); k_whole); intro _ _))
local macro_rules | `(tactic| walk_at "subscriptTail") => `(tactic| (k_here; (with_reducible show wpAny _ _ (subscriptTail _ _ (Value.ref _) (Value.int _ _)) _ _ _); k_dflt (refine' rl_item ?k1 ?k2 ?k3 ?k4 ?k6 ?_ ?k7; (case k1 => k_asm); (case k2 => k_mem); (case k4 => first | decide | omega); (case k6 => first | decide | omega); (case k3 => first | exact rfl | assumption); (case k7 => with_unfolding_all rfl); k_whole)))
local macro_rules | `(tactic| walk_at "call builtin:max") => `(tactic| (k_here; (with_reducible show wpAny _ _ (call (Value.builtin _) [Value.int _ _, Value.int _ _]) _ _ _); k_dflt (refine' max_two_N ?k1 ?k2 ?k3 ?_; (case k1 => assumption); (case k2 => k_asm); (case k3 => k_asm); k_whole); intro h' tk' F' N'; (try k_sweep)))
local macro_rules | `(tactic| walk_at "call builtin:min") => `(tactic| (k_here; (with_reducible show wpAny _ _ (call (Value.builtin _) [Value.int _ _, Value.int _ _]) _ _ _); k_dflt (refine' min_two_N ?k1 ?k2 ?k3 ?_; (case k1 => assumption); (case k2 => k_asm); (case k3 => k_asm); k_whole); intro h' tk' F' N'; (try k_sweep)))
local macro_rules | `(tactic| k_room) => `(tactic| first | ((try simp only [depth_under_make, depth_under_kw, depth_in1, depth_deeper, depth_caller]); omega) | (dsimp only [Around.mark, Around.deeper, Around.in1, Around.under]; omega))
local macro_rules | `(tactic| ktr_unf) => `(tactic| (refine' code_defS0 ?k1 ?k2 ?k3 ?k4 ?k5 ?kA ?k6 ?k7 ?k8 ?k9 ?kB ?_ ?cK ?c2 ?c3 ?c4 ?c5; (case kA => exact rfl); (case k2 => k_asm); (case k1 => k_asm); (case k3 => k_asm); (case k4 => k_asm); (case k5 => k_asm); (case k6 => k_is); (case k7 => k_is); (case k8 => first | omega | (dsimp only; omega)); (case k9 => first | exact BindsTo.of_eq rfl | exact binds_K (by k_in) rfl (by k_is) rfl rfl rfl); (case kB => exact locs rfl); (case cK => assumption); (case c2 => exact rfl); (case c3 => exact rfl); (case c4 => exact rfl); (case c5 => decide); k_whole; intro g' L' h' FG' F' N' B' X' T' D'; (try dsimp only); (try k_lift B'); (try k_fold)))
local macro_rules | `(tactic| walk_at "subscriptTail") => `(tactic| (k_here; (with_reducible show wpAny _ _ (subscriptTail _ _ (Value.ref _) (Value.int _ _)) _ _ _); k_dflt (refine' rl_item_out ?k0 ?k1 ?k2 ?k4 ?k6 ?_ ?k7; (case k0 => first | exact rfl | assumption); (case k1 => k_asm); (case k2 => k_mem); (case k4 => omega); (case k6 => omega); (case k7 => with_unfolding_all rfl); k_whole); intro h' tk' e' x'))
local macro_rules | `(tactic| walk_at "leaving ref") => `(tactic| (k_here; (with_reducible rename KtsDicts _ _ => kdX); first
  | (refine' leaveC_first ?k1 ?k0 ?k2 ?k3 ?T0 ?_; (case k0 => assumption); (case k2 => assumption); (case k1 => assumption); (case k3 => k_asm); (case T0 => first | assumption | exact KtsTurn.refl); k_whole; intro h' R' S' U'; (try dsimp only at R' S' U' ⊢))
  | (refine' leaveC_held ?k1 ?k2 ?k3 ?T0 ?_; (case k2 => assumption); (case k3 => assumption); (case k1 => assumption); (case T0 => first | assumption | exact KtsTurn.refl); k_whole; intro h' R' S' U'; (try dsimp only at R' S' U' ⊢))
  | (refine' leaveX_first ?k1 ?k0 ?k2 ?k3 ?T0 ?_; (case k0 => assumption); (case k2 => assumption); (case k1 => assumption); (case k3 => k_asm); (case T0 => first | assumption | exact KtsTurn.refl); k_whole; intro h' S' R' U'; (try dsimp only at S' R' U' ⊢))))
local macro_rules | `(tactic| walk_at "noteFrame ref") => `(tactic| (k_here; (with_reducible show wpAny _ _ (noteFrame _ _) (fun _ s₂ => wpAny _ _ (setFlight _ none) (fun _ s₃ => wpAny _ _ (handleBy _ _ (ExceptHandler.ExceptHandler (some (Expr.Name ("IndexError" : Str) _)) none _ _ :: _)) _ _ s₃) _ s₂) _ _); k_dflt (first
  | (refine' catch_callee (T' := "IndexError") ?R ?F ?K ?U ?XB ?TB ?D ?T0 ?ex PyProof.Rows.Boot.«IndexError» ?hn excClass_IndexError.base PySem.F.notTuple_IndexError excClass_IndexError.self ?_; (case R => assumption); (case F => assumption); (case K => assumption); (case U => assumption); (case XB => assumption); (case TB => assumption); (case D => assumption); (case T0 => first | assumption | exact KtsTurn.refl); (case ex => k_is); (case hn => decide); k_whole)
  | (refine' catch_own (T' := "IndexError") ?xc ?F ?N ?K ?XB ?TB ?D ?T0 ?ex PyProof.Rows.Boot.«IndexError» ?hn excClass_IndexError.base PySem.F.notTuple_IndexError excClass_IndexError.self ?_; (case xc => assumption); (case F => assumption); (case N => assumption); (case K => assumption); (case XB => assumption); (case TB => assumption); (case D => assumption); (case T0 => first | assumption | exact KtsTurn.refl); (case ex => k_is); (case hn => decide); k_whole)); unfold SuiteOk; intro h' g' oe' vs' T' F' N' ne' d' v2' R' K' X' P' D'; (replace ne' := neAll_of ne'; try simp only [NeAll, and_true] at ne'); (try k_lift K'); (try k_sweep)))
local macro_rules | `(tactic| walk_at "noteFrame ref") => `(tactic| (k_here; (with_reducible show wpAny _ _ (noteFrame _ _) (fun _ s₂ => wpAny _ _ (setFlight _ none) (fun _ s₃ => wpAny _ _ (handleBy _ _ (ExceptHandler.ExceptHandler (some (Expr.Name ("EOFError" : Str) _)) none _ _ :: _)) _ _ s₃) _ s₂) _ _); k_dflt
  (refine' caught_SN0 (T' := "EOFError") ?R ?F ?K ?U ?XB ?TB ?D ?T0 ?ex PyProof.Rows.Boot.«EOFError» ?hn excClass_EOFError.base notTuple_EOFError excClass_EOFError.self ?_; (case R => assumption); (case F => assumption); (case K => assumption); (case U => assumption); (case XB => assumption); (case TB => assumption); (case D => assumption); (case T0 => first | assumption | exact KtsTurn.refl); (case ex => k_is); (case hn => decide); k_whole); intro h' g' T' F' N' K' X' P' D'; (try k_lift K'); (try k_sweep)))
local macro_rules | `(tactic| walk_at "exec Raise some none") => `(tactic| (k_here; (with_reducible show wpAny _ _ (exec (Stmt.Raise (some (Expr.Name ("EOFError" : Str) _)) none _) _) _ _ _); (with_reducible rename Fr _ _ _ _ => kF); k_dflt (refine' raise_in ?hh ?h1 ?d1 ?v2 excClass_EOFError ?hx ?_; (case hh => exact rfl); (case h1 => exact News.get (by k_asm) (by k_mem)); (case d1 => assumption); (case v2 => assumption); (case hx => (refine' name_B kF ?k1 ?k2 ?k3 ?k4 ?k5 ?_; (case k1 => k_asm); (case k2 => k_asm); (case k3 => k_is); (case k4 => exact PyProof.Rows.Boot.«EOFError»); (case k5 => decide); exact ⟨rfl, rfl⟩))); intro h' e' x'))
local macro_rules | `(tactic| walk_at "exec Raise none none") => `(tactic| (k_here; k_dflt (refine' raise_bare ?hh ?R ?F ?_; (case hh => exact rfl); (case R => assumption); (case F => k_asm)); intro h' R' U'))
section
variable {w : World} {A A₀ : Around} {E Q : Value → Shared → Prop} {s : Shared} {base h₀ : Heap} {outer : List Env} {L a : Addr} {m : Str → Option Value} {cn : Str} {cs : Scope} {ccd : Value} {prog : Program} {p : Program} {loose : List Str} {mean : ExcName → Option Value} {mg mb : Str → Option Value}

inductive HeldIs : Value → Value → Prop
  | none : HeldIs .none .none
  | str {x : Str} {t1 t2 : Tok} : HeldIs (.str x t1) (.str x t2)

theorem HeldIs.handed {v u : Value} (h : HeldIs v u) : handedIn v = true := by cases h <;> rfl
theorem held_eq {E : Value → Shared → Prop} {Q : Value → Shared → Prop} {v u : Value} (h : HeldIs v u) (k : Q (.bool true) s) : wpAny (model prog w) A (compareOp .Eq v u) Q E s := by
  cases h with
  | none => exact EqNone.eq_none_none k
  | str => exact PyProof.Rows.eq_str (by rw [beq_self_eq_true]; exact k)
local macro_rules | `(tactic| k_handed) => `(tactic| assumption)
local macro_rules | `(tactic| walk_at "compareOp Eq") => `(tactic| (k_here; refine held_eq (by assumption) ?_))
theorem end_true {b : Bool} {tk : Nat} {h' : Heap} {news : Led} (hq : ∀ tk' h', Fr h₀ L h' m → News h₀ L h' news → Q (.bool true) { s with heap := h', toks := tk' }) (e : b = true) (F : Fr h₀ L h' m) (N : News h₀ L h' news) : Q (.bool b) { s with heap := h', toks := tk } := by
  subst e
  exact hq tk h' F N
theorem one_beq {c : Prop} [Decidable c] (h : c) : ((1 : Int) == if decide c = true then 1 else 0) = true := by simp [h]
theorem strip_nil (y : Str) : ((!(((y.length : Nat) : Int) != 0)) == (y == Str.ofString "")) = true := by
  by_cases h : y.length = 0
  · have e : y = Str.empty := KWd.len0 h
    subst e
    rfl
  · have e : (y == Str.ofString "") = false := by
      rw [beq_eq_false_iff_ne]
      rintro rfl
      exact h rfl
    rw [e]
    simp [h]

theorem same_c {mc md sl sd dl il wa wr wp : Addr} {H1 H2 : Nat → Int} {K1 K2 : Nat → Tok} {X1 : Nat → Value} {nd c nr : Nat} {b pl : Int} {bt pt bt2 pt2 : Tok} {lv hv : Value} {news : Led} {rv : List Value} {rs : List Str}
    (G : GndX (hd.heap_39 w.params) 20 A A₀ base h₀ L a cn cs ccd p loose mean mg mb) (F : Fr h₀ L s.heap m)
    (N : News h₀ L s.heap news) (hmd : (md, mDict H1 K1 sl b bt lv pl pt X1) ∈ news) (hwa : (wa, wObj wr wp b bt2 pl pt2 hv c) ∈ news) (hwr : (wr, listOf rv.toArray nr) ∈ news)
    (hmc : (mc, instObj 172 md) ∈ news) (hsl : (sl, instObj 481 sd) ∈ news) (hsd : (sd, sDict H2 K2 dl il) ∈ news) (hdl : (dl, listOf rv.toArray nd) ∈ news) (hs : StrsAre rv rs) (hx : ∀ x ∈ rs, x.length ≤ 100) (hn0 : 3 ≤ rv.length) (hn1 : rv.length ≤ 6)
    (b0 : 0 ≤ b) (b1 : b < 1000) (p0 : -1 ≤ pl) (p1 : pl < 1000) (hh : HeldIs lv hv)
    (hq : ∀ tk' h', Fr h₀ L h' m → News h₀ L h' news → Q (.bool true) { s with heap := h', toks := tk' }) :
    wpAny (model prog w) A (call (.ref 628) [.ref mc, .ref wa]) Q E s := by
  w_top off; refine fillK w.params _ ?_; k_fill; intro _ _
  obtain ⟨⟨hh', hA, hk, hdp, hun, B, X, T⟩, XB, TB⟩ := G
  obtain ⟨hd', dp, fr, gd, un⟩ := A
  obtain rfl : fr = _ := hA
  obtain rfl : hd' = none := hh'
  dsimp only at hdp hun
  have hl := strs_len hs
  have hnd1 := hh.handed
  by_cases c1 : pl + 1 < (rv.length : Nat)
  · obtain ⟨x, t, e1, e2⟩ := strs_get hs (k := (pl + 1).toNat) (by omega)
    have hxl : x.length ≤ 100 := hx x (List.mem_of_getElem? e2)
    clear hs hx
    refine wpAny_call ?_
    k_dflt ktr_unf
    k_steps
    all_goals exact end_true hq (by first | exact beq_self_eq_true _ | exact beq_iff_eq.mpr (by omega) | exact strip_nil _ | exact one_beq (by omega) | exact rfl | (simp; done) | (exfalso; omega) | (trace_state; fail)) (by k_asm) (by first | k_asm | exact news_tail (by k_asm))
  · clear hs hx
    refine wpAny_call ?_
    k_dflt ktr_unf
    k_steps
    all_goals exact end_true hq (by first | exact beq_self_eq_true _ | exact beq_iff_eq.mpr (by omega) | exact one_beq (by omega) | exact rfl | (simp; done) | (exfalso; omega) | (trace_state; fail)) (by k_asm) (by first | k_asm | exact news_tail (by k_asm))
end
end PartE
section PartF
local macro_rules | `(tactic| ktr_enter) => `(tactic| (refine' code_def ?k1 ?k2 ?k3 ?k4 ?k5 ?kA ?kF ?kK ?k6 ?k7 ?k8 ?k9 ?kB ?_ ?c2 ?c3 ?c4 ?c5; (case kA => assumption); (case kF => exact rfl); (case kK => assumption); (case k1 => k_asm); (case k2 => k_asm); (case k3 => k_asm); (case k4 => k_asm); (case k5 => k_asm); (case k6 => k_is); (case k7 => k_is); (case k8 => first | omega | (dsimp only; omega)); (case k9 => exact BindsTo.of_eq rfl); (case c5 => decide); (case kB => exact locs rfl); (case c2 => exact rfl); (case c3 => exact rfl); (case c4 => exact rfl); k_whole; intro g' L' h' FG' F' N' B' X' T'; (try dsimp only); (try k_lift B'); (try k_fold)))
local macro_rules | `(tactic| k_all) => `(tactic| first | assumption | exact allLt_ne (by assumption))
local macro_rules | `(tactic| k_mem) => `(tactic| assumption)
local macro_rules | `(tactic| walk_at "call builtin:len") => `(tactic| (k_here; (with_reducible show wpAny _ _ (call (Value.builtin "len") [Value.ref _]) _ _ _); k_dflt (refine' rl_len ?k1 ?k2 ?k3 ?_; (case k1 => k_asm); (case k2 => k_mem); (case k3 => omega); k_whole)))
local macro_rules | `(tactic| walk_at "subscriptTail") => `(tactic| (k_here; (with_reducible show wpAny _ _ (subscriptTail _ _ (Value.ref _) (Value.int _ _)) _ _ _); k_dflt (refine' rl_item_ints ?k1 ?k2 ?k3 ?k4 ?k5 ?k6 ?_ ?k7; (case k1 => k_asm); (case k2 => k_mem); (case k3 => with_reducible assumption); (case k4 => omega); (case k5 => omega); (case k6 => omega); (case k7 => with_unfolding_all rfl); k_whole); intro _ _))
local macro_rules | `(tactic| walk_at "subscriptTail") => `(tactic| (k_here; (with_reducible show wpAny _ _ (subscriptTail _ _ (Value.ref _) (Value.int _ _)) _ _ _); k_dflt (refine' rl_item ?k1 ?k2 ?k3 ?k4 ?k6 ?_ ?k7; (case k1 => k_asm); (case k2 => k_mem); (case k4 => first | decide | omega); (case k6 => first | decide | omega); (case k3 => first | exact rfl | assumption); (case k7 => with_unfolding_all rfl); k_whole)))
local macro_rules | `(tactic| walk_at "call builtin:max") => `(tactic| (k_here; (with_reducible show wpAny _ _ (call (Value.builtin _) [Value.int _ _, Value.int _ _]) _ _ _); k_dflt (refine' max_two_N ?k1 ?k2 ?k3 ?_; (case k1 => assumption); (case k2 => k_asm); (case k3 => k_asm); k_whole); intro h' tk' F' N'; (try k_sweep)))
local macro_rules | `(tactic| walk_at "call builtin:min") => `(tactic| (k_here; (with_reducible show wpAny _ _ (call (Value.builtin _) [Value.int _ _, Value.int _ _]) _ _ _); k_dflt (refine' min_two_N ?k1 ?k2 ?k3 ?_; (case k1 => assumption); (case k2 => k_asm); (case k3 => k_asm); k_whole); intro h' tk' F' N'; (try k_sweep)))
local macro_rules | `(tactic| k_room) => `(tactic| first | ((try simp only [depth_under_make, depth_under_kw, depth_in1, depth_deeper, depth_caller]); omega) | (dsimp only [Around.mark, Around.deeper, Around.in1, Around.under]; omega))
local macro_rules | `(tactic| ktr_unf) => `(tactic| (refine' code_defS0 ?k1 ?k2 ?k3 ?k4 ?k5 ?kA ?k6 ?k7 ?k8 ?k9 ?kB ?_ ?cK ?c2 ?c3 ?c4 ?c5; (case kA => exact rfl); (case k2 => k_asm); (case k1 => k_asm); (case k3 => k_asm); (case k4 => k_asm); (case k5 => k_asm); (case k6 => k_is); (case k7 => k_is); (case k8 => first | omega | (dsimp only; omega)); (case k9 => first | exact BindsTo.of_eq rfl | exact binds_K (by k_in) rfl (by k_is) rfl rfl rfl); (case kB => exact locs rfl); (case cK => assumption); (case c2 => exact rfl); (case c3 => exact rfl); (case c4 => exact rfl); (case c5 => decide); k_whole; intro g' L' h' FG' F' N' B' X' T' D'; (try dsimp only); (try k_lift B'); (try k_fold)))
local macro_rules | `(tactic| walk_at "subscriptTail") => `(tactic| (k_here; (with_reducible show wpAny _ _ (subscriptTail _ _ (Value.ref _) (Value.int _ _)) _ _ _); k_dflt (refine' rl_item_out ?k0 ?k1 ?k2 ?k4 ?k6 ?_ ?k7; (case k0 => first | exact rfl | assumption); (case k1 => k_asm); (case k2 => k_mem); (case k4 => omega); (case k6 => omega); (case k7 => with_unfolding_all rfl); k_whole); intro h' tk' e' x'))
local macro_rules | `(tactic| walk_at "leaving ref") => `(tactic| (k_here; (with_reducible rename KtsDicts _ _ => kdX); first
  | (refine' leaveC_first ?k1 ?k0 ?k2 ?k3 ?T0 ?_; (case k0 => assumption); (case k2 => assumption); (case k1 => assumption); (case k3 => k_asm); (case T0 => first | assumption | exact KtsTurn.refl); k_whole; intro h' R' S' U'; (try dsimp only at R' S' U' ⊢))
  | (refine' leaveC_held ?k1 ?k2 ?k3 ?T0 ?_; (case k2 => assumption); (case k3 => assumption); (case k1 => assumption); (case T0 => first | assumption | exact KtsTurn.refl); k_whole; intro h' R' S' U'; (try dsimp only at R' S' U' ⊢))
  | (refine' leaveX_first ?k1 ?k0 ?k2 ?k3 ?T0 ?_; (case k0 => assumption); (case k2 => assumption); (case k1 => assumption); (case k3 => k_asm); (case T0 => first | assumption | exact KtsTurn.refl); k_whole; intro h' S' R' U'; (try dsimp only at S' R' U' ⊢))))
local macro_rules | `(tactic| walk_at "noteFrame ref") => `(tactic| (k_here; (with_reducible show wpAny _ _ (noteFrame _ _) (fun _ s₂ => wpAny _ _ (setFlight _ none) (fun _ s₃ => wpAny _ _ (handleBy _ _ (ExceptHandler.ExceptHandler (some (Expr.Name ("IndexError" : Str) _)) none _ _ :: _)) _ _ s₃) _ s₂) _ _); k_dflt (first
  | (refine' catch_callee (T' := "IndexError") ?R ?F ?K ?U ?XB ?TB ?D ?T0 ?ex PyProof.Rows.Boot.«IndexError» ?hn excClass_IndexError.base PySem.F.notTuple_IndexError excClass_IndexError.self ?_; (case R => assumption); (case F => assumption); (case K => assumption); (case U => assumption); (case XB => assumption); (case TB => assumption); (case D => assumption); (case T0 => first | assumption | exact KtsTurn.refl); (case ex => k_is); (case hn => decide); k_whole)
  | (refine' catch_own (T' := "IndexError") ?xc ?F ?N ?K ?XB ?TB ?D ?T0 ?ex PyProof.Rows.Boot.«IndexError» ?hn excClass_IndexError.base PySem.F.notTuple_IndexError excClass_IndexError.self ?_; (case xc => assumption); (case F => assumption); (case N => assumption); (case K => assumption); (case XB => assumption); (case TB => assumption); (case D => assumption); (case T0 => first | assumption | exact KtsTurn.refl); (case ex => k_is); (case hn => decide); k_whole)); unfold SuiteOk; intro h' g' oe' vs' T' F' N' ne' d' v2' R' K' X' P' D'; (replace ne' := neAll_of ne'; try simp only [NeAll, and_true] at ne'); (try k_lift K'); (try k_sweep)))
local macro_rules | `(tactic| walk_at "noteFrame ref") => `(tactic| (k_here; (with_reducible show wpAny _ _ (noteFrame _ _) (fun _ s₂ => wpAny _ _ (setFlight _ none) (fun _ s₃ => wpAny _ _ (handleBy _ _ (ExceptHandler.ExceptHandler (some (Expr.Name ("EOFError" : Str) _)) none _ _ :: _)) _ _ s₃) _ s₂) _ _); k_dflt
  (refine' caught_SN0 (T' := "EOFError") ?R ?F ?K ?U ?XB ?TB ?D ?T0 ?ex PyProof.Rows.Boot.«EOFError» ?hn excClass_EOFError.base notTuple_EOFError excClass_EOFError.self ?_; (case R => assumption); (case F => assumption); (case K => assumption); (case U => assumption); (case XB => assumption); (case TB => assumption); (case D => assumption); (case T0 => first | assumption | exact KtsTurn.refl); (case ex => k_is); (case hn => decide); k_whole); intro h' g' T' F' N' K' X' P' D'; (try k_lift K'); (try k_sweep)))
local macro_rules | `(tactic| walk_at "exec Raise some none") => `(tactic| (k_here; (with_reducible show wpAny _ _ (exec (Stmt.Raise (some (Expr.Name ("EOFError" : Str) _)) none _) _) _ _ _); (with_reducible rename Fr _ _ _ _ => kF); k_dflt (refine' raise_in ?hh ?h1 ?d1 ?v2 excClass_EOFError ?hx ?_; (case hh => exact rfl); (case h1 => exact News.get (by k_asm) (by k_mem)); (case d1 => assumption); (case v2 => assumption); (case hx => (refine' name_B kF ?k1 ?k2 ?k3 ?k4 ?k5 ?_; (case k1 => k_asm); (case k2 => k_asm); (case k3 => k_is); (case k4 => exact PyProof.Rows.Boot.«EOFError»); (case k5 => decide); exact ⟨rfl, rfl⟩))); intro h' e' x'))
local macro_rules | `(tactic| walk_at "exec Raise none none") => `(tactic| (k_here; k_dflt (refine' raise_bare ?hh ?R ?F ?_; (case hh => exact rfl); (case R => assumption); (case F => k_asm)); intro h' R' U'))
section
variable {w : World} {A A₀ : Around} {E Q : Value → Shared → Prop} {s : Shared} {base h₀ : Heap} {outer : List Env} {L a : Addr} {m : Str → Option Value} {cn : Str} {cs : Scope} {ccd : Value} {prog : Program} {p : Program} {loose : List Str} {mean : ExcName → Option Value} {mg mb : Str → Option Value}

theorem file_c {mc md sl sd dl il : Addr} {H1 H2 : Nat → Int} {K1 K2 : Nat → Tok} {X1 : Nat → Value} {nd ni : Nat} {b pl off : Int} {bt pt ot : Tok} {lv : Value} {news : Led} {rv pv : List Value} {ps : List (Str × Int)}
    (G : GndX (hd.heap_39 w.params) 20 A A₀ base h₀ L a cn cs ccd p loose mean mg mb) (F : Fr h₀ L s.heap m)
    (N : News h₀ L s.heap news) (hmd : (md, mDict H1 K1 sl b bt lv pl pt X1) ∈ news)
    (hmc : (mc, instObj 172 md) ∈ news) (hsl : (sl, instObj 481 sd) ∈ news) (hsd : (sd, sDict H2 K2 dl il) ∈ news) (hdl : (dl, listOf rv.toArray nd) ∈ news) (hil : (il, listOf pv.toArray ni) ∈ news) (hpl : PlAre news pv ps) (hn0 : 3 ≤ rv.length) (hn1 : rv.length ≤ 6) (hnp : pv.length = rv.length)
    (b0 : 0 ≤ b) (b1 : b < 1000) (o0 : b ≤ off) (o1 : off < b + 1000)
    (hq : ∀ f t tk' h', (off - b ≤ (ps.length : Nat) → ∃ o, ps[(min (off - b) ((ps.length : Nat) - 1)).toNat]? = some (f, o)) → ((ps.length : Nat) < off - b → f = Str.ofString "refused") → Fr h₀ L h' m → News h₀ L h' news → Q (.str f t) { s with heap := h', toks := tk' }) :
    wpAny (model prog w) A (call (.ref 642) [.ref mc, .int off ot]) Q E s := by
  w_top off; refine fillK w.params _ ?_; k_fill; intro _ _
  obtain ⟨⟨hh', hA, hk, hdp, hun, B, X, T⟩, XB, TB⟩ := G
  obtain ⟨hd', dp, fr, gd, un⟩ := A
  obtain rfl : fr = _ := hA
  obtain rfl : hd' = none := hh'
  dsimp only at hdp hun
  have hl := hpl.length
  by_cases c1 : off - b < (pv.length : Nat)
  · obtain ⟨r, f, o, t1, t2, n, e1, e2, e3, e4, e5⟩ := hpl.get (k := (off - b).toNat) (by omega)
    clear hpl
    refine wpAny_call ?_
    k_dflt ktr_unf
    k_steps
    all_goals exact hq _ _ _ _ (fun _ => ⟨o, by rw [show (min (off - b) ((ps.length : Nat) - 1)).toNat = (off - b).toNat by omega]; exact e2⟩) (fun z => absurd z (by omega)) (by k_asm) (by k_asm)
  by_cases c2 : off - b = (pv.length : Nat)
  · obtain ⟨r, f, o, t1, t2, n, e1, e2, e3, e4, e5⟩ := hpl.get (k := (off - b - 1).toNat) (by omega)
    clear hpl
    refine wpAny_call ?_
    k_dflt ktr_unf
    k_steps
    all_goals first | exact hq _ _ _ _ (fun _ => ⟨o, by rw [show (min (off - b) ((ps.length : Nat) - 1)).toNat = (off - b - 1).toNat by omega]; exact e2⟩) (fun z => absurd z (by omega)) (by k_asm) (by first | k_asm | exact news_tail (by k_asm) | exact news_tail (news_tail (by k_asm))) | (exfalso; omega) | (trace_state; fail)
  · have c3 : (pv.length : Nat) < off - b := by omega
    clear hpl c1 c2
    refine wpAny_call ?_
    k_dflt ktr_unf
    k_steps
    all_goals first | exact hq _ _ _ _ (fun z => absurd z (by omega)) (fun _ => rfl) (by k_asm) (by first | k_asm | exact news_tail (by k_asm)) | (exfalso; omega) | (trace_state; fail)
end
end PartF
section PartG
local macro_rules | `(tactic| ktr_enter) => `(tactic| (refine' code_def ?k1 ?k2 ?k3 ?k4 ?k5 ?kA ?kF ?kK ?k6 ?k7 ?k8 ?k9 ?kB ?_ ?c2 ?c3 ?c4 ?c5; (case kA => assumption); (case kF => exact rfl); (case kK => assumption); (case k1 => k_asm); (case k2 => k_asm); (case k3 => k_asm); (case k4 => k_asm); (case k5 => k_asm); (case k6 => k_is); (case k7 => k_is); (case k8 => first | omega | (dsimp only; omega)); (case k9 => exact BindsTo.of_eq rfl); (case c5 => decide); (case kB => exact locs rfl); (case c2 => exact rfl); (case c3 => exact rfl); (case c4 => exact rfl); k_whole; intro g' L' h' FG' F' N' B' X' T'; (try dsimp only); (try k_lift B'); (try k_fold)))
local macro_rules | `(tactic| k_all) => `(tactic| first | assumption | exact allLt_ne (by assumption))
local macro_rules | `(tactic| k_mem) => `(tactic| assumption)
local macro_rules | `(tactic| walk_at "call builtin:len") => `(tactic| (k_here; (with_reducible show wpAny _ _ (call (Value.builtin "len") [Value.ref _]) _ _ _); k_dflt (refine' rl_len ?k1 ?k2 ?k3 ?_; (case k1 => k_asm); (case k2 => k_mem); (case k3 => omega); k_whole)))
local macro_rules | `(tactic| walk_at "subscriptTail") => `(tactic| (k_here; (with_reducible show wpAny _ _ (subscriptTail _ _ (Value.ref _) (Value.int _ _)) _ _ _); k_dflt (refine' rl_item_ints ?k1 ?k2 ?k3 ?k4 ?k5 ?k6 ?_ ?k7; (case k1 => k_asm); (case k2 => k_mem); (case k3 => with_reducible assumption); (case k4 => omega); (case k5 => omega); (case k6 => omega); (case k7 => with_unfolding_all rfl); k_whole); intro _ _))
local macro_rules | `(tactic| walk_at "subscriptTail") => `(tactic| (k_here; (with_reducible show wpAny _ _ (subscriptTail _ _ (Value.ref _) (Value.int _ _)) _ _ _); k_dflt (refine' rl_item ?k1 ?k2 ?k3 ?k4 ?k6 ?_ ?k7; (case k1 => k_asm); (case k2 => k_mem); (case k4 => first | decide | omega); (case k6 => first | decide | omega); (case k3 => first | exact rfl | assumption); (case k7 => with_unfolding_all rfl); k_whole)))
local macro_rules | `(tactic| walk_at "call builtin:max") => `(tactic| (k_here; (with_reducible show wpAny _ _ (call (Value.builtin _) [Value.int _ _, Value.int _ _]) _ _ _); k_dflt (refine' max_two_N ?k1 ?k2 ?k3 ?_; (case k1 => assumption); (case k2 => k_asm); (case k3 => k_asm); k_whole); intro h' tk' F' N'; (try k_sweep)))
local macro_rules | `(tactic| walk_at "call builtin:min") => `(tactic| (k_here; (with_reducible show wpAny _ _ (call (Value.builtin _) [Value.int _ _, Value.int _ _]) _ _ _); k_dflt (refine' min_two_N ?k1 ?k2 ?k3 ?_; (case k1 => assumption); (case k2 => k_asm); (case k3 => k_asm); k_whole); intro h' tk' F' N'; (try k_sweep)))
local macro_rules | `(tactic| k_room) => `(tactic| first | ((try simp only [depth_under_make, depth_under_kw, depth_in1, depth_deeper, depth_caller]); omega) | (dsimp only [Around.mark, Around.deeper, Around.in1, Around.under]; omega))
local macro_rules | `(tactic| ktr_unf) => `(tactic| (refine' code_defS0 ?k1 ?k2 ?k3 ?k4 ?k5 ?kA ?k6 ?k7 ?k8 ?k9 ?kB ?_ ?cK ?c2 ?c3 ?c4 ?c5; (case kA => exact rfl); (case k2 => k_asm); (case k1 => k_asm); (case k3 => k_asm); (case k4 => k_asm); (case k5 => k_asm); (case k6 => k_is); (case k7 => k_is); (case k8 => first | omega | (dsimp only; omega)); (case k9 => first | exact BindsTo.of_eq rfl | exact binds_K (by k_in) rfl (by k_is) rfl rfl rfl); (case kB => exact locs rfl); (case cK => assumption); (case c2 => exact rfl); (case c3 => exact rfl); (case c4 => exact rfl); (case c5 => decide); k_whole; intro g' L' h' FG' F' N' B' X' T' D'; (try dsimp only); (try k_lift B'); (try k_fold)))
local macro_rules | `(tactic| walk_at "subscriptTail") => `(tactic| (k_here; (with_reducible show wpAny _ _ (subscriptTail _ _ (Value.ref _) (Value.int _ _)) _ _ _); k_dflt (refine' rl_item_out ?k0 ?k1 ?k2 ?k4 ?k6 ?_ ?k7; (case k0 => first | exact rfl | assumption); (case k1 => k_asm); (case k2 => k_mem); (case k4 => omega); (case k6 => omega); (case k7 => with_unfolding_all rfl); k_whole); intro h' tk' e' x'))
local macro_rules | `(tactic| walk_at "leaving ref") => `(tactic| (k_here; (with_reducible rename KtsDicts _ _ => kdX); first
  | (refine' leaveC_first ?k1 ?k0 ?k2 ?k3 ?T0 ?_; (case k0 => assumption); (case k2 => assumption); (case k1 => assumption); (case k3 => k_asm); (case T0 => first | assumption | exact KtsTurn.refl); k_whole; intro h' R' S' U'; (try dsimp only at R' S' U' ⊢))
  | (refine' leaveC_held ?k1 ?k2 ?k3 ?T0 ?_; (case k2 => assumption); (case k3 => assumption); (case k1 => assumption); (case T0 => first | assumption | exact KtsTurn.refl); k_whole; intro h' R' S' U'; (try dsimp only at R' S' U' ⊢))
  | (refine' leaveX_first ?k1 ?k0 ?k2 ?k3 ?T0 ?_; (case k0 => assumption); (case k2 => assumption); (case k1 => assumption); (case k3 => k_asm); (case T0 => first | assumption | exact KtsTurn.refl); k_whole; intro h' S' R' U'; (try dsimp only at S' R' U' ⊢))))
local macro_rules | `(tactic| walk_at "noteFrame ref") => `(tactic| (k_here; (with_reducible show wpAny _ _ (noteFrame _ _) (fun _ s₂ => wpAny _ _ (setFlight _ none) (fun _ s₃ => wpAny _ _ (handleBy _ _ (ExceptHandler.ExceptHandler (some (Expr.Name ("IndexError" : Str) _)) none _ _ :: _)) _ _ s₃) _ s₂) _ _); k_dflt (first
  | (refine' catch_callee (T' := "IndexError") ?R ?F ?K ?U ?XB ?TB ?D ?T0 ?ex PyProof.Rows.Boot.«IndexError» ?hn excClass_IndexError.base PySem.F.notTuple_IndexError excClass_IndexError.self ?_; (case R => assumption); (case F => assumption); (case K => assumption); (case U => assumption); (case XB => assumption); (case TB => assumption); (case D => assumption); (case T0 => first | assumption | exact KtsTurn.refl); (case ex => k_is); (case hn => decide); k_whole)
  | (refine' catch_own (T' := "IndexError") ?xc ?F ?N ?K ?XB ?TB ?D ?T0 ?ex PyProof.Rows.Boot.«IndexError» ?hn excClass_IndexError.base PySem.F.notTuple_IndexError excClass_IndexError.self ?_; (case xc => assumption); (case F => assumption); (case N => assumption); (case K => assumption); (case XB => assumption); (case TB => assumption); (case D => assumption); (case T0 => first | assumption | exact KtsTurn.refl); (case ex => k_is); (case hn => decide); k_whole)); unfold SuiteOk; intro h' g' oe' vs' T' F' N' ne' d' v2' R' K' X' P' D'; (replace ne' := neAll_of ne'; try simp only [NeAll, and_true] at ne'); (try k_lift K'); (try k_sweep)))
local macro_rules | `(tactic| walk_at "noteFrame ref") => `(tactic| (k_here; (with_reducible show wpAny _ _ (noteFrame _ _) (fun _ s₂ => wpAny _ _ (setFlight _ none) (fun _ s₃ => wpAny _ _ (handleBy _ _ (ExceptHandler.ExceptHandler (some (Expr.Name ("EOFError" : Str) _)) none _ _ :: _)) _ _ s₃) _ s₂) _ _); k_dflt
  (refine' caught_SN0 (T' := "EOFError") ?R ?F ?K ?U ?XB ?TB ?D ?T0 ?ex PyProof.Rows.Boot.«EOFError» ?hn excClass_EOFError.base notTuple_EOFError excClass_EOFError.self ?_; (case R => assumption); (case F => assumption); (case K => assumption); (case U => assumption); (case XB => assumption); (case TB => assumption); (case D => assumption); (case T0 => first | assumption | exact KtsTurn.refl); (case ex => k_is); (case hn => decide); k_whole); intro h' g' T' F' N' K' X' P' D'; (try k_lift K'); (try k_sweep)))
local macro_rules | `(tactic| walk_at "exec Raise some none") => `(tactic| (k_here; (with_reducible show wpAny _ _ (exec (Stmt.Raise (some (Expr.Name ("EOFError" : Str) _)) none _) _) _ _ _); (with_reducible rename Fr _ _ _ _ => kF); k_dflt (refine' raise_in ?hh ?h1 ?d1 ?v2 excClass_EOFError ?hx ?_; (case hh => exact rfl); (case h1 => exact News.get (by k_asm) (by k_mem)); (case d1 => assumption); (case v2 => assumption); (case hx => (refine' name_B kF ?k1 ?k2 ?k3 ?k4 ?k5 ?_; (case k1 => k_asm); (case k2 => k_asm); (case k3 => k_is); (case k4 => exact PyProof.Rows.Boot.«EOFError»); (case k5 => decide); exact ⟨rfl, rfl⟩))); intro h' e' x'))
local macro_rules | `(tactic| walk_at "exec Raise none none") => `(tactic| (k_here; k_dflt (refine' raise_bare ?hh ?R ?F ?_; (case hh => exact rfl); (case R => assumption); (case F => k_asm)); intro h' R' U'))
local macro_rules | `(tactic| walk_at "binaryOp Add none int") => `(tactic| (k_here; (refine' add_none_int ?hh ?_; (case hh => exact rfl)); intro h' tk' e' x'))
local macro_rules | `(tactic| walk_at "noteFrame ref") => `(tactic| (k_here; (with_reducible show wpAny _ _ (noteFrame _ _) (fun _ s₂ => wpAny _ _ (setFlight _ none) (fun _ s₃ => wpAny _ _ (handleBy _ _ (ExceptHandler.ExceptHandler (some (Expr.Name ("TypeError" : Str) _)) none _ _ :: ExceptHandler.ExceptHandler (some (Expr.Name ("IndexError" : Str) _)) none _ _ :: _)) _ _ s₃) _ s₂) _ _); k_dflt (first
  | (refine' catch_callee2 (T₂ := "TypeError") (T' := "IndexError") ?R ?F ?K ?U ?XB ?TB ?D ?T0 ?ex2 PyProof.Rows.Boot.«TypeError» ?hn2 excClass_TypeError.base PySem.F.notTuple_TypeError index_no_type ?ex PyProof.Rows.Boot.«IndexError» ?hn excClass_IndexError.base PySem.F.notTuple_IndexError excClass_IndexError.self ?_; (case R => assumption); (case F => assumption); (case K => assumption); (case U => assumption); (case XB => assumption); (case TB => assumption); (case D => assumption); (case T0 => first | assumption | exact KtsTurn.refl); (case ex => k_is); (case hn => decide); (case ex2 => k_is); (case hn2 => decide); k_whole)
  | (refine' catch_own (T' := "TypeError") ?xc ?F ?N ?K ?XB ?TB ?D ?T0 ?ex PyProof.Rows.Boot.«TypeError» ?hn excClass_TypeError.base PySem.F.notTuple_TypeError excClass_TypeError.self ?_; (case xc => assumption); (case F => assumption); (case N => assumption); (case K => assumption); (case XB => assumption); (case TB => assumption); (case D => assumption); (case T0 => first | assumption | exact KtsTurn.refl); (case ex => k_is); (case hn => decide); k_whole)); unfold SuiteOk; intro h' g' oe' vs' T' F' N' ne' d' v2' R' K' X' P' D'; (replace ne' := neAll_of ne'; try simp only [NeAll, and_true] at ne'); (try k_lift K'); (try k_sweep)))
local macro_rules | `(tactic| walk_at "assign Tuple") => `(tactic| (k_here; (with_reducible show wpAny _ _ (assign (Expr.Tuple _ _ _) _ (Value.ref _)) _ _ _); k_dflt (refine' assign_in ?F ?N ?ht ?hh ?h1 ?d1 ?v2 ?n ?s ?_; (case hh => exact rfl); (case F => k_asm); (case N => k_asm); (case ht => exact News.isTup (by k_asm) (by k_mem)); (case h1 => exact News.get (by k_asm) (by k_mem)); (case d1 => assumption); (case v2 => assumption); (case n => exact rfl); (case s => exact rfl); k_whole); intro h' F' N'; (try k_sweep)))
section
variable {w : World} {A A₀ : Around} {E Q : Value → Shared → Prop} {s : Shared} {base h₀ : Heap} {outer : List Env} {L a : Addr} {m : Str → Option Value} {cn : Str} {cs : Scope} {ccd : Value} {prog : Program} {p : Program} {loose : List Str} {mean : ExcName → Option Value} {mg mb : Str → Option Value}

theorem news_d1 {h : Heap} {x a1 : Addr × Obj} {l : Led} (N : News h₀ L h (x :: a1 :: l)) : News h₀ L h (x :: l) := fun z hz => N z ((List.mem_cons.mp hz).elim (fun q => q ▸ .head _) fun q => .tail _ (.tail _ q))
theorem news_d2 {h : Heap} {x a1 a2 : Addr × Obj} {l : Led} (N : News h₀ L h (x :: a1 :: a2 :: l)) : News h₀ L h (x :: l) := news_d1 (news_d1 N)
theorem news_d3 {h : Heap} {x a1 a2 a3 : Addr × Obj} {l : Led} (N : News h₀ L h (x :: a1 :: a2 :: a3 :: l)) : News h₀ L h (x :: l) := news_d1 (news_d2 N)
theorem news_d4 {h : Heap} {x a1 a2 a3 a4 : Addr × Obj} {l : Led} (N : News h₀ L h (x :: a1 :: a2 :: a3 :: a4 :: l)) : News h₀ L h (x :: l) := news_d1 (news_d3 N)
theorem news_d5 {h : Heap} {x a1 a2 a3 a4 a5 : Addr × Obj} {l : Led} (N : News h₀ L h (x :: a1 :: a2 :: a3 :: a4 :: a5 :: l)) : News h₀ L h (x :: l) := news_d1 (news_d4 N)

theorem gsl_c {mc md sl sd dl il : Addr} {H1 H2 : Nat → Int} {K1 K2 : Nat → Tok} {X1 : Nat → Value} {nd ni : Nat} {b pl off : Int} {bt pt ot : Tok} {lv : Value} {news : Led} {rv pv : List Value} {ps : List (Str × Int)}
    (G : GndX (hd.heap_39 w.params) 20 A A₀ base h₀ L a cn cs ccd p loose mean mg mb) (F : Fr h₀ L s.heap m)
    (N : News h₀ L s.heap news) (hmd : (md, mDict H1 K1 sl b bt lv pl pt X1) ∈ news)
    (hmc : (mc, instObj 172 md) ∈ news) (hsl : (sl, instObj 481 sd) ∈ news) (hsd : (sd, sDict H2 K2 dl il) ∈ news) (hdl : (dl, listOf rv.toArray nd) ∈ news) (hil : (il, listOf pv.toArray ni) ∈ news) (hpl : PlAre news pv ps) (hn0 : 3 ≤ rv.length) (hn1 : rv.length ≤ 6) (hnp : pv.length = rv.length)
    (b0 : 0 ≤ b) (b1 : b < 1000) (o0 : 0 ≤ off - b - 1 ∨ off - b - 1 < -((pv.length : Nat) : Int)) (o1 : -2000 < off) (o2 : off < 3000)
    (hq : ∀ r v1 v2 n tk' h', Fr h₀ L h' m → News h₀ L h' ((r, tupObj [v1, v2] n) :: news) → Said v1 v2 (tellAt ps (off - b - 1)) → Q (.ref r) { s with heap := h', toks := tk' }) :
    wpAny (model prog w) A (call (.ref 132) [.ref mc, .int off ot]) Q E s := by
  w_top off; refine fillK w.params _ ?_; k_fill; intro _ _
  obtain ⟨⟨hh', hA, hk, hdp, hun, B, X, T⟩, XB, TB⟩ := G
  obtain ⟨hd', dp, fr, gd, un⟩ := A
  obtain rfl : fr = _ := hA
  obtain rfl : hd' = none := hh'
  dsimp only at hdp hun
  have hl := hpl.length
  by_cases c1 : 0 ≤ off - b - 1 ∧ off - b - 1 < (pv.length : Nat)
  · obtain ⟨r, f, o, t1, t2, n, e1, e2, e3, e4, e5⟩ := hpl.get (k := (off - b - 1).toNat) (by omega)
    obtain ⟨c1, c2⟩ := c1
    have tl := tell_in c1 (by omega) e2
    clear hpl o0
    refine wpAny_call ?_
    k_dflt ktr_unf
    k_steps
    all_goals first | exact hq _ _ _ _ _ _ (by k_asm) (by first | k_asm | exact news_d1 (by k_asm) | exact news_d2 (by k_asm) | exact news_d3 (by k_asm) | exact news_d4 (by k_asm) | exact news_d5 (by k_asm)) (by rw [tl]; exact .some) | (exfalso; omega) | (trace_state; fail)
  by_cases c2 : off - b - 1 = (pv.length : Nat)
  · obtain ⟨r, f, o, t1, t2, n, e1, e2, e3, e4, e5⟩ := hpl.get (k := (off - b - 1 - 1).toNat) (by omega)
    have tl := tell_end (ps := ps) (off := off - b - 1) (by omega) (by rw [show (((ps.length : Nat) : Int) - 1).toNat = (off - b - 1 - 1).toNat by omega]; exact e2)
    rw [show o + 2 = o + 1 + 1 by omega] at tl
    have e1' : pv[(off - b - 1 + b - b - 1).toNat]? = some (.ref r) := by rw [show (off - b - 1 + b - b - 1).toNat = (off - b - 1 - 1).toNat by omega]; exact e1
    clear hpl o0 c1
    refine wpAny_call ?_
    k_dflt ktr_unf
    k_steps
    all_goals first | exact hq _ _ _ _ _ _ (by k_asm) (by first | k_asm | exact news_d1 (by k_asm) | exact news_d2 (by k_asm) | exact news_d3 (by k_asm) | exact news_d4 (by k_asm) | exact news_d5 (by k_asm)) (by rw [tl]; exact .some) | (exfalso; omega) | (trace_state; fail)
  have tl : tellAt ps (off - b - 1) = none := tell_out (by omega)
  rcases (show off - b - 1 < -((pv.length : Nat) : Int) ∨ (pv.length : Nat) < off - b - 1 by omega) with c3 | c3
  · clear hpl c1 c2 o0
    refine wpAny_call ?_
    k_dflt ktr_unf
    k_steps
    all_goals first | exact hq _ _ _ _ _ _ (by k_asm) (by first | k_asm | exact news_d1 (by k_asm) | exact news_d2 (by k_asm) | exact news_d3 (by k_asm) | exact news_d4 (by k_asm) | exact news_d5 (by k_asm)) (by rw [tl]; exact .none) | (exfalso; omega) | (trace_state; fail)
  · clear hpl c1 c2 o0
    refine wpAny_call ?_
    k_dflt ktr_unf
    k_steps
    all_goals first | exact hq _ _ _ _ _ _ (by k_asm) (by first | k_asm | exact news_d1 (by k_asm) | exact news_d2 (by k_asm) | exact news_d3 (by k_asm) | exact news_d4 (by k_asm) | exact news_d5 (by k_asm)) (by rw [tl]; exact .none) | (exfalso; omega) | (trace_state; fail)

theorem gsl0_c {mc md sl sd dl il : Addr} {H1 H2 : Nat → Int} {K1 K2 : Nat → Tok} {X1 : Nat → Value} {nd ni : Nat} {b pl : Int} {bt pt : Tok} {lv : Value} {news : Led} {rv pv : List Value} {ps : List (Str × Int)}
    (G : GndX (hd.heap_39 w.params) 20 A A₀ base h₀ L a cn cs ccd p loose mean mg mb) (F : Fr h₀ L s.heap m)
    (N : News h₀ L s.heap news) (hmd : (md, mDict H1 K1 sl b bt lv pl pt X1) ∈ news)
    (hmc : (mc, instObj 172 md) ∈ news) (hsl : (sl, instObj 481 sd) ∈ news) (hsd : (sd, sDict H2 K2 dl il) ∈ news) (hdl : (dl, listOf rv.toArray nd) ∈ news) (hil : (il, listOf pv.toArray ni) ∈ news) (hpl : PlAre news pv ps) (hn0 : 3 ≤ rv.length) (hn1 : rv.length ≤ 6) (hnp : pv.length = rv.length)
    (b0 : 0 ≤ b) (b1 : b < 1000) (o0 : 0 ≤ pl) (o2 : pl < 1000)
    (hq : ∀ r v1 v2 n tk' h', Fr h₀ L h' m → News h₀ L h' ((r, tupObj [v1, v2] n) :: news) → Said v1 v2 (tellAt ps (pl)) → Q (.ref r) { s with heap := h', toks := tk' }) :
    wpAny (model prog w) A (call (.ref 132) [.ref mc]) Q E s := by
  w_top off; refine fillK w.params _ ?_; k_fill; intro _ _
  obtain ⟨⟨hh', hA, hk, hdp, hun, B, X, T⟩, XB, TB⟩ := G
  obtain ⟨hd', dp, fr, gd, un⟩ := A
  obtain rfl : fr = _ := hA
  obtain rfl : hd' = none := hh'
  dsimp only at hdp hun
  have hl := hpl.length
  by_cases c1 : 0 ≤ pl ∧ pl < (pv.length : Nat)
  · obtain ⟨r, f, o, t1, t2, n, e1, e2, e3, e4, e5⟩ := hpl.get (k := (pl).toNat) (by omega)
    obtain ⟨c1, c2⟩ := c1
    have tl := tell_in c1 (by omega) e2
    clear hpl
    refine wpAny_call ?_
    k_dflt ktr_unf
    k_steps
    all_goals first | exact hq _ _ _ _ _ _ (by k_asm) (by first | k_asm | exact news_d1 (by k_asm) | exact news_d2 (by k_asm) | exact news_d3 (by k_asm) | exact news_d4 (by k_asm) | exact news_d5 (by k_asm)) (by rw [tl]; exact .some) | (exfalso; omega) | (trace_state; fail)
  by_cases c2 : pl = (pv.length : Nat)
  · obtain ⟨r, f, o, t1, t2, n, e1, e2, e3, e4, e5⟩ := hpl.get (k := (pl - 1).toNat) (by omega)
    have tl := tell_end (ps := ps) (off := pl) (by omega) (by rw [show (((ps.length : Nat) : Int) - 1).toNat = (pl - 1).toNat by omega]; exact e2)
    rw [show o + 2 = o + 1 + 1 by omega] at tl
    have e1' : pv[(pl + b - b - 1).toNat]? = some (.ref r) := by rw [show (pl + b - b - 1).toNat = (pl - 1).toNat by omega]; exact e1
    clear hpl c1
    refine wpAny_call ?_
    k_dflt ktr_unf
    k_steps
    all_goals first | exact hq _ _ _ _ _ _ (by k_asm) (by first | k_asm | exact news_d1 (by k_asm) | exact news_d2 (by k_asm) | exact news_d3 (by k_asm) | exact news_d4 (by k_asm) | exact news_d5 (by k_asm)) (by rw [tl]; exact .some) | (exfalso; omega) | (trace_state; fail)
  have tl : tellAt ps (pl) = none := tell_out (by omega)
  have c3 : (pv.length : Nat) < pl := by omega
  · clear hpl c1 c2
    refine wpAny_call ?_
    k_dflt ktr_unf
    k_steps
    all_goals first | exact hq _ _ _ _ _ _ (by k_asm) (by first | k_asm | exact news_d1 (by k_asm) | exact news_d2 (by k_asm) | exact news_d3 (by k_asm) | exact news_d4 (by k_asm) | exact news_d5 (by k_asm)) (by rw [tl]; exact .none) | (exfalso; omega) | (trace_state; fail)
end
end PartG
section PartH
local macro_rules | `(tactic| ktr_enter) => `(tactic| (refine' code_def ?k1 ?k2 ?k3 ?k4 ?k5 ?kA ?kF ?kK ?k6 ?k7 ?k8 ?k9 ?kB ?_ ?c2 ?c3 ?c4 ?c5; (case kA => assumption); (case kF => exact rfl); (case kK => assumption); (case k1 => k_asm); (case k2 => k_asm); (case k3 => k_asm); (case k4 => k_asm); (case k5 => k_asm); (case k6 => k_is); (case k7 => k_is); (case k8 => first | omega | (dsimp only; omega)); (case k9 => exact BindsTo.of_eq rfl); (case c5 => decide); (case kB => exact locs rfl); (case c2 => exact rfl); (case c3 => exact rfl); (case c4 => exact rfl); k_whole; intro g' L' h' FG' F' N' B' X' T'; (try dsimp only); (try k_lift B'); (try k_fold)))
local macro_rules | `(tactic| k_all) => `(tactic| first | assumption | exact allLt_ne (by assumption))
local macro_rules | `(tactic| k_mem) => `(tactic| assumption)
local macro_rules | `(tactic| walk_at "call builtin:len") => `(tactic| (k_here; (with_reducible show wpAny _ _ (call (Value.builtin "len") [Value.ref _]) _ _ _); k_dflt (refine' rl_len ?k1 ?k2 ?k3 ?_; (case k1 => k_asm); (case k2 => k_mem); (case k3 => omega); k_whole)))
local macro_rules | `(tactic| walk_at "subscriptTail") => `(tactic| (k_here; (with_reducible show wpAny _ _ (subscriptTail _ _ (Value.ref _) (Value.int _ _)) _ _ _); k_dflt (refine' rl_item_ints ?k1 ?k2 ?k3 ?k4 ?k5 ?k6 ?_ ?k7; (case k1 => k_asm); (case k2 => k_mem); (case k3 => with_reducible assumption); (case k4 => omega); (case k5 => omega); (case k6 => omega); (case k7 => with_unfolding_all rfl); k_whole); intro _ _))
local macro_rules | `(tactic| walk_at "subscriptTail") => `(tactic| (k_here; (with_reducible show wpAny _ _ (subscriptTail _ _ (Value.ref _) (Value.int _ _)) _ _ _); k_dflt (refine' rl_item ?k1 ?k2 ?k3 ?k4 ?k6 ?_ ?k7; (case k1 => k_asm); (case k2 => k_mem); (case k4 => first | decide | omega); (case k6 => first | decide | omega); (case k3 => first | exact rfl | assumption); (case k7 => with_unfolding_all rfl); k_whole)))
local macro_rules | `(tactic| walk_at "call builtin:max") => `(tactic| (k_here; (with_reducible show wpAny _ _ (call (Value.builtin _) [Value.int _ _, Value.int _ _]) _ _ _); k_dflt (refine' max_two_N ?k1 ?k2 ?k3 ?_; (case k1 => assumption); (case k2 => k_asm); (case k3 => k_asm); k_whole); intro h' tk' F' N'; (try k_sweep)))
local macro_rules | `(tactic| walk_at "call builtin:min") => `(tactic| (k_here; (with_reducible show wpAny _ _ (call (Value.builtin _) [Value.int _ _, Value.int _ _]) _ _ _); k_dflt (refine' min_two_N ?k1 ?k2 ?k3 ?_; (case k1 => assumption); (case k2 => k_asm); (case k3 => k_asm); k_whole); intro h' tk' F' N'; (try k_sweep)))
local macro_rules | `(tactic| k_room) => `(tactic| first | ((try simp only [depth_under_make, depth_under_kw, depth_in1, depth_deeper, depth_caller]); omega) | (dsimp only [Around.mark, Around.deeper, Around.in1, Around.under]; omega))
local macro_rules | `(tactic| ktr_unf) => `(tactic| (refine' code_defS0 ?k1 ?k2 ?k3 ?k4 ?k5 ?kA ?k6 ?k7 ?k8 ?k9 ?kB ?_ ?cK ?c2 ?c3 ?c4 ?c5; (case kA => exact rfl); (case k2 => k_asm); (case k1 => k_asm); (case k3 => k_asm); (case k4 => k_asm); (case k5 => k_asm); (case k6 => k_is); (case k7 => k_is); (case k8 => first | omega | (dsimp only; omega)); (case k9 => first | exact BindsTo.of_eq rfl | exact binds_K (by k_in) rfl (by k_is) rfl rfl rfl); (case kB => exact locs rfl); (case cK => assumption); (case c2 => exact rfl); (case c3 => exact rfl); (case c4 => exact rfl); (case c5 => decide); k_whole; intro g' L' h' FG' F' N' B' X' T' D'; (try dsimp only); (try k_lift B'); (try k_fold)))
local macro_rules | `(tactic| walk_at "subscriptTail") => `(tactic| (k_here; (with_reducible show wpAny _ _ (subscriptTail _ _ (Value.ref _) (Value.int _ _)) _ _ _); k_dflt (refine' rl_item_out ?k0 ?k1 ?k2 ?k4 ?k6 ?_ ?k7; (case k0 => first | exact rfl | assumption); (case k1 => k_asm); (case k2 => k_mem); (case k4 => omega); (case k6 => omega); (case k7 => with_unfolding_all rfl); k_whole); intro h' tk' e' x'))
def Stop (P : Prop) : Prop := P
theorem Stop.mk {P : Prop} (h : Stop P) : P := h
theorem updF_upd {d : Addr} {o : Obj} : ∀ {l : Led} {g : Obj → Led}, UpdF d o l g → ∀ o', Upd d o o' l (g o')
  | _, _, .head h, _ => .head h
  | _, _, .tail h r, o' => .tail h (updF_upd r o')

section
variable {prog : Program} {w : World} {A : Around} {E : Value → Shared → Prop} {s : Shared} {h₀ : Heap} {L : Addr} {m : Str → Option Value} {news : Led}
theorem rl_append {Q : Value → Shared → Prop} {D : Addr} {vs : List Value} {n : Nat} {x : Value} {g : Obj → Led} (F : Fr h₀ L s.heap m) (N : News h₀ L s.heap news) (U : UpdF D (listOf vs.toArray n) news g) (hz : vs.length ≤ 1000)
    (h : ∀ h', Fr h₀ L h' m → News h₀ L h' (g (listOf (vs ++ [x]).toArray (n + 1))) → Q .none { s with heap := h' }) : wpAny (model prog w) A (call (.builtin "list.append") [.ref D, x]) Q E s := by
  have e : vs.toArray.push x = (vs ++ [x]).toArray := by simp
  refine append_K F N (updF_upd U (listOf (vs.toArray.push x) (n + 1))) (fun h' F' N' => h h' F' (by rw [← e]; exact N')) ?_
  rw [List.size_toArray, sizeLine_eq]
  omega
theorem rl_item_strs {value slice : PySem.Expr} {Q : Value → Shared → Prop} {l : Addr} {vs : List Value} {nc : Nat} {rs : List Str} {k : Int} {u : Tok} (N : News h₀ L s.heap news) (hm : (l, listOf vs.toArray nc) ∈ news) (hs : StrsAre vs rs) (hb : ∀ y ∈ rs, y.length ≤ 100 ∧ PyData.strOk y = true)
    (h0 : 0 ≤ k) (h1 : k < (vs.length : Nat)) (hfit : k < 2 ^ 63) (h : ∀ x t, x.length ≤ 100 ∧ PyData.strOk x = true → Q (.str x t) s)
    (hsub : subscripted slice false (.ref l) (.int k u) = operate [.ref l, .int k u] (getItem (.ref l) (.int k u)) := by with_unfolding_all rfl) :
    wpAny (model prog w) A (subscriptTail value slice (.ref l) (.int k u)) Q E s := by
  obtain ⟨x, t, e1, e2⟩ := strs_get hs (k := k.toNat) (by omega)
  exact rl_item N hm e1 h0 hfit (h x t (hb x (List.mem_of_getElem? e2))) hsub

variable {env : Env} {x : Str} {body : List Stmt} {Q : Flow → Shared → Prop}
theorem range_inv {r : Addr} {a₀ b₀ : Int} {t₀ u₀ v₀ : Tok} {n : Nat} {m₀ : Str → Option Value} (J : Nat → (Str → Option Value) → Led → Prop)
    (hh : A.handled = none) (hr : IsRange s.heap r a₀ b₀ 1 t₀ u₀ v₀) (hsmall : Builtin.Range.small a₀ b₀ 1 = true) (hsz : Builtin.Range.rangeSize a₀ b₀ 1 = (n : Int)) (F : Fr h₀ env.locals s.heap m₀) (N : News h₀ env.locals s.heap news) (hj : J 0 m₀ news)
    (turn : ∀ i k t m₁ nx h tk own, i < n → OwnOff own (nx.map (·.1)) → J i m₁ nx → Fr h₀ env.locals h (fun y => if y = x then some (.int k t) else m₁ y) → News h₀ env.locals h (nx ++ own) →
      wpAny (model prog w) A (execs body env) (InvPostG h₀ env.locals (J (i + 1)) own { s with heap := h, toks := tk } Q) E { s with heap := h, toks := tk })
    (done : ∀ m₁ nx h tk, J n m₁ nx → Fr h₀ env.locals h m₁ → News h₀ env.locals h nx → Q .next { s with heap := h, toks := tk }) :
    wpAny (model prog w) A (pyIter (.ref r)) (fun it s₂ => LoopAtV prog w A h₀ env x body Q E it s₂) E s := by
  refine wpAny_pyIter_range hr hsmall ?_
  have W : Walks prog w A s.heap.objs.size [s.heap.objs.size] [s.heap.objs.size] n (fun i v => i < n ∧ ∃ t, v = .int (a₀ + i * 1) t)
      (fun i h => IsRangeIter h s.heap.objs.size (a₀ + (i : Nat) * 1) ((n : Int) - (i : Nat)) 1) := (Walks.range hh _ a₀ 1 n).bound
  have fresh : ∀ p ∈ news, p.1 ∉ [s.heap.objs.size] := fun p hp hm => absurd (Heap.lt_size (N p hp).1) ((List.mem_singleton.mp hm) ▸ Nat.lt_irrefl _)
  refine kdr_loop J W (fun _ z => z) (fun _ z => z) (fun i h hi b hb => ?_) (fun hm => ?_) (fun b hb => ?_) fresh ?_ (F.push _) (fun p hp => ⟨Heap.get?_push_of_some _ (N p hp).1, (N p hp).2⟩) hj ?_ done
  · rw [List.mem_singleton.mp hb]
    exact ⟨_, hi⟩
  · exact absurd F.ns.lt ((List.mem_singleton.mp hm) ▸ Nat.lt_irrefl _)
  · rw [List.mem_singleton.mp hb]
    exact next_is_new F
  · show IsRangeIter _ _ _ _ _
    rw [hsz]
    simpa using Heap.get?_push_size _ rfl
  · rintro i v m₁ nx h tk own hi ⟨_, t, rfl⟩ ho hJ F₁ N₁
    exact turn i _ t m₁ nx h tk own hi ho hJ F₁ N₁
end
end PartH
section PartI
local macro_rules | `(tactic| ktr_enter) => `(tactic| (refine' code_def ?k1 ?k2 ?k3 ?k4 ?k5 ?kA ?kF ?kK ?k6 ?k7 ?k8 ?k9 ?kB ?_ ?c2 ?c3 ?c4 ?c5; (case kA => assumption); (case kF => exact rfl); (case kK => assumption); (case k1 => k_asm); (case k2 => k_asm); (case k3 => k_asm); (case k4 => k_asm); (case k5 => k_asm); (case k6 => k_is); (case k7 => k_is); (case k8 => first | omega | (dsimp only; omega)); (case k9 => exact BindsTo.of_eq rfl); (case c5 => decide); (case kB => exact locs rfl); (case c2 => exact rfl); (case c3 => exact rfl); (case c4 => exact rfl); k_whole; intro g' L' h' FG' F' N' B' X' T'; (try dsimp only); (try k_lift B'); (try k_fold)))
local macro_rules | `(tactic| k_all) => `(tactic| first | assumption | exact allLt_ne (by assumption))
local macro_rules | `(tactic| k_mem) => `(tactic| assumption)
local macro_rules | `(tactic| walk_at "call builtin:len") => `(tactic| (k_here; (with_reducible show wpAny _ _ (call (Value.builtin "len") [Value.ref _]) _ _ _); k_dflt (refine' rl_len ?k1 ?k2 ?k3 ?_; (case k1 => k_asm); (case k2 => k_mem); (case k3 => omega); k_whole)))
local macro_rules | `(tactic| walk_at "subscriptTail") => `(tactic| (k_here; (with_reducible show wpAny _ _ (subscriptTail _ _ (Value.ref _) (Value.int _ _)) _ _ _); k_dflt (refine' rl_item_ints ?k1 ?k2 ?k3 ?k4 ?k5 ?k6 ?_ ?k7; (case k1 => k_asm); (case k2 => k_mem); (case k3 => with_reducible assumption); (case k4 => omega); (case k5 => omega); (case k6 => omega); (case k7 => with_unfolding_all rfl); k_whole); intro _ _))
local macro_rules | `(tactic| walk_at "subscriptTail") => `(tactic| (k_here; (with_reducible show wpAny _ _ (subscriptTail _ _ (Value.ref _) (Value.int _ _)) _ _ _); k_dflt (refine' rl_item ?k1 ?k2 ?k3 ?k4 ?k6 ?_ ?k7; (case k1 => k_asm); (case k2 => k_mem); (case k4 => first | decide | omega); (case k6 => first | decide | omega); (case k3 => first | exact rfl | assumption); (case k7 => with_unfolding_all rfl); k_whole)))
local macro_rules | `(tactic| walk_at "call builtin:max") => `(tactic| (k_here; (with_reducible show wpAny _ _ (call (Value.builtin _) [Value.int _ _, Value.int _ _]) _ _ _); k_dflt (refine' max_two_N ?k1 ?k2 ?k3 ?_; (case k1 => assumption); (case k2 => k_asm); (case k3 => k_asm); k_whole); intro h' tk' F' N'; (try k_sweep)))
local macro_rules | `(tactic| walk_at "call builtin:min") => `(tactic| (k_here; (with_reducible show wpAny _ _ (call (Value.builtin _) [Value.int _ _, Value.int _ _]) _ _ _); k_dflt (refine' min_two_N ?k1 ?k2 ?k3 ?_; (case k1 => assumption); (case k2 => k_asm); (case k3 => k_asm); k_whole); intro h' tk' F' N'; (try k_sweep)))
local macro_rules | `(tactic| k_room) => `(tactic| first | ((try simp only [depth_under_make, depth_under_kw, depth_in1, depth_deeper, depth_caller]); omega) | (dsimp only [Around.mark, Around.deeper, Around.in1, Around.under]; omega))
local macro_rules | `(tactic| ktr_unf) => `(tactic| (refine' code_defS0 ?k1 ?k2 ?k3 ?k4 ?k5 ?kA ?k6 ?k7 ?k8 ?k9 ?kB ?_ ?cK ?c2 ?c3 ?c4 ?c5; (case kA => exact rfl); (case k2 => k_asm); (case k1 => k_asm); (case k3 => k_asm); (case k4 => k_asm); (case k5 => k_asm); (case k6 => k_is); (case k7 => k_is); (case k8 => first | omega | (dsimp only; omega)); (case k9 => first | exact BindsTo.of_eq rfl | exact binds_K (by k_in) rfl (by k_is) rfl rfl rfl); (case kB => exact locs rfl); (case cK => assumption); (case c2 => exact rfl); (case c3 => exact rfl); (case c4 => exact rfl); (case c5 => decide); k_whole; intro g' L' h' FG' F' N' B' X' T' D'; (try dsimp only); (try k_lift B'); (try k_fold)))
local macro_rules | `(tactic| walk_at "subscriptTail") => `(tactic| (k_here; (with_reducible show wpAny _ _ (subscriptTail _ _ (Value.ref _) (Value.int _ _)) _ _ _); k_dflt (refine' rl_item_out ?k0 ?k1 ?k2 ?k4 ?k6 ?_ ?k7; (case k0 => first | exact rfl | assumption); (case k1 => k_asm); (case k2 => k_mem); (case k4 => omega); (case k6 => omega); (case k7 => with_unfolding_all rfl); k_whole); intro h' tk' e' x'))
local macro_rules | `(tactic| walk_at "pyIter ref") => `(tactic| (k_here; (with_reducible show wpAny _ _ (pyIter (Value.ref _)) (fun it s₂ => LoopAtV _ _ _ _ _ _ _ _ _ it s₂) _ _); refine Stop.mk ?_))
local macro_rules | `(tactic| walk_at "call builtin:list.append") => `(tactic| (k_here; (with_reducible show wpAny _ _ (call (Value.builtin _) [Value.ref _, _]) _ _ _); k_dflt (refine' rl_append ?F ?N ?U ?z ?_; (case F => k_asm); (case N => k_asm); (case U => k_updF); (case z => omega); k_whole); intro h' F' N'; (try dsimp only at N'); (try k_sweep)))
local macro_rules | `(tactic| walk_at "subscriptTail Call") => `(tactic| (k_here; (with_reducible show wpAny _ _ (subscriptTail _ _ (Value.ref _) (Value.int _ _)) _ _ _); k_dflt (refine' rl_item_strs ?k1 ?k2 ?k3 ?kb ?k4 ?k5 ?k6 ?_ ?k7; (case k1 => k_asm); (case k2 => k_mem); (case k3 => repeat (first | exact StrsAre.nil | apply StrsAre.cons)); (case kb => first | decide | with_unfolding_all decide | decide +kernel); (case k4 => first | omega | exact fmod_lo _ (by decide)); (case k5 => first | (simp only [List.length_cons, List.length_nil]; omega) | exact fmod_hi _ (by decide)); (case k6 => first | omega | exact Int.lt_of_lt_of_le (fmod_hi _ (by decide)) (by decide)); (case k7 => with_unfolding_all rfl); k_whole); intro x' t' z'))
local macro_rules | `(tactic| ktr_room) => `(tactic| (dsimp only [Around.mark, Around.deeper, Around.in1, Around.under]; omega))
local macro_rules | `(tactic| walk_at "call ref") => `(tactic| (k_here; (with_reducible show wpAny _ _ (call (Value.ref 586) [Value.ref _, Value.int _ _]) _ _ _); k_dflt (refine' next_c ?G ?F ?N ?U ?hm ?ne ?hi ?hl ?h0 ?h1 ?l0 ?l1 ?_; (case G => refine' Gnd.mk ?a1 ?a2 ?a3 ?a4 ?a5 ?a6 ?a7 ?a8; (case a1 => exact rfl); (case a2 => exact rfl); (case a3 => exact rfl); (case a4 => ktr_room); (case a5 => ktr_room); (case a6 => k_asm); (case a7 => k_asm); (case a8 => k_asm)); (case F => k_asm); (case N => k_asm); (case U => k_updF); (case hm => k_mem); (case ne => omega); (case hi => assumption); (case hl => omega); (case h0 => omega); (case h1 => omega); (case l0 => omega); (case l1 => omega); k_whole); intro v' t1' t2' tk' h' v0' v1' F' N'; (try dsimp only at N'); (try k_sweep)))
local macro_rules | `(tactic| walk_at "call type:range") => `(tactic| (k_here; (with_reducible show wpAny _ _ (call (Value.type "range") [Value.int _ _]) _ _ _); k_dflt (refine' range1_rows ?F ?N ?_; (case F => k_asm); (case N => k_asm); k_whole); intro h' tk' ta' tb' tc' rg' F' N' kp'; (try k_sweep)))
section
variable {w : World} {A A₀ : Around} {E Q : Value → Shared → Prop} {s : Shared} {base h₀ : Heap} {outer : List Env} {L a : Addr} {m : Str → Option Value} {cn : Str} {cs : Scope} {ccd : Value} {prog : Program} {p : Program} {loose : List Str} {mean : ExcName → Option Value} {mg mb : Str → Option Value}

/-- a world's rows and places, half made -/
def WJ (st sc wr wp : Addr) (c : Nat) (i₀ bs : Int) (bst : Tok) (rest : Led) (i : Nat) (m : Str → Option Value) (nx : Led) : Prop :=
  ∃ i' t' rv rs nr pv ps np tups, nx = (wp, listOf pv.toArray np) :: (wr, listOf rv.toArray nr) :: (st, stObj sc i' t' c) :: (tups ++ rest) ∧ i₀ ≤ i' ∧ i' ≤ i₀ + 2 + (i : Int) ∧ StrsAre rv rs ∧ (∀ x ∈ rs, x.length ≤ 100) ∧ rv.length = i ∧ pv.length = i ∧ PlAre tups pv ps ∧ (∀ q ∈ tups, wp < q.1) ∧ (∀ q ∈ ps, PyData.strOk q.1 = true) ∧
    m (Str.ofString "state") = some (.ref st) ∧ m (Str.ofString "rows") = some (.ref wr) ∧ m (Str.ofString "places") = some (.ref wp) ∧ m (Str.ofString "base") = some (.int bs bst)

theorem PlAre.snoc {news : Led} {vs : List Value} {ps : List (Str × Int)} {r : Addr} {f : Str} {o : Int} {t1 t2 : Tok} {n : Nat} (h : PlAre news vs ps) (hm : (r, tupObj [.str f t1, .int o t2] n) ∈ news) (h0 : 0 ≤ o) (h1 : o < 1000) : PlAre news (vs ++ [.ref r]) (ps ++ [(f, o)]) := by
  induction h with
  | nil => exact .cons hm h0 h1 .nil
  | cons a b c _ ih => exact .cons a b c ih
theorem tup_tok {g h : Heap} {L D : Addr} {f : Str} {o : Int} {t1 t2 : Tok} {n : Nat} {l : Led} (_ : News g L h ((D, tupObj [.str f t1, .int o t2] n) :: l)) : ∃ t, t = t2 := ⟨_, rfl⟩
theorem off_of {own : Led} {l : Led} (h : OwnOff own (l.map (·.1))) {q : Addr × Obj} (hq : q ∈ l) : ∀ z ∈ own, z.1 ≠ q.1 := fun z hz => h z hz q.1 (List.mem_map.mpr ⟨q, hq, rfl⟩)

theorem world_h {st sc : Addr} {i₀ : Int} {t : Tok} {c nc : Nat} {rest : Led} {vs : List Value} {ns : List Int}
    (G : Gnd (hd.heap_39 w.params) 20 A A₀ base h₀ L a cn cs ccd outer p loose mean mg mb) (F : Fr h₀ L s.heap m)
    (N : News h₀ L s.heap ((st, stObj sc i₀ t c) :: rest)) (hne : ∀ p ∈ rest, p.1 ≠ st) (hm : (sc, listOf vs.toArray nc) ∈ rest) (hi : IntsAre vs ns) (hlen : vs.length ≤ 63)
    (h0 : 0 ≤ i₀) (h1 : i₀ < 10000)
    (hq : ∀ wa wr wp nl b bt pt i' t' rv rs nr pv ps np tk' h', i₀ ≤ i' → i' ≤ i₀ + 10 → 0 ≤ b → b < 1000 → StrsAre rv rs → (∀ x ∈ rs, x.length ≤ 100) → 3 ≤ rv.length → rv.length ≤ 6 → pv.length = rv.length → PlAre nl pv ps → (∀ q ∈ ps, PyData.strOk q.1 = true) →
      (wr, listOf rv.toArray nr) ∈ nl → (wp, listOf pv.toArray np) ∈ nl → (∀ q ∈ (st, stObj sc i₀ t c) :: rest, ∀ z ∈ nl, q.1 < z.1) → (∀ z ∈ nl, z.1 < wa) → (∀ q ∈ (st, stObj sc i₀ t c) :: rest, q.1 < wa) → Fr h₀ L h' m →
      News h₀ L h' ((wa, wObj wr wp b bt (-1) pt .none 0) :: (nl ++ (st, stObj sc i' t' c) :: rest)) → Q (.ref wa) { s with heap := h', toks := tk' }) :
    wpAny (model prog w) A (call (.ref 593) [.ref st]) Q E s := by
  w_top off; refine fillK w.params _ ?_; k_fill; intro _ _
  obtain ⟨hh, hA, hk, hdp, hun, B, X, T⟩ := G
  obtain ⟨hd', dp, fr, gd, un⟩ := A
  obtain rfl : fr = _ := hA
  obtain rfl : hd' = none := hh
  dsimp only at hdp hun
  have hsn : sc ≠ st := hne _ hm
  refine wpAny_call ?_
  have hA : ({ depth := dp, frames := some (envOf cn cs L a ccd :: outer), guards := gd, units := un } : Around).frames = some (envOf cn cs L a ccd :: outer) := rfl
  k_dflt ktr_enter
  k_steps
  rename_i g L1 _ FG B1 X1 T1 _ bs _ bst _ _ bs0 bs1 _ _ wr _ l1r _ _ wp _ l1p _ vv t1v _ _ _ vv0 vv1 _ _ _ _ _ rg F1 N1 kp
  unfold Stop
  obtain ⟨l1q, l1s, l1t⟩ := l1p
  obtain ⟨l1s', l1t'⟩ := l1r
  have hrw := lt_of_all l1t'
  refine range_inv (n := (3 + vv - 0).toNat) (WJ st sc wr wp c i₀ bs bst rest) rfl rg (small_one (by omega) (by omega) (by omega) (by omega)) (rangeSize_nat _ _) F1 N1 ?_ ?_ ?_
  · exact ⟨i₀ + 1 + 1, t1v, [], [], 0, [], [], 0, [], rfl, by omega, by omega, .nil, (fun _ hx => nomatch hx), rfl, rfl, .nil, (fun _ hq => nomatch hq), (fun _ hq => nomatch hq), rfl, rfl, rfl, rfl⟩
  · rintro i k tk1 m₁ nx h tk2 own hin hoff ⟨i', t', rv, rs, nr, pv, ps, np, tups, rfl, j1, j2, hs, hx, hl1, hl2, hp, ho, hk', e1, e2, e3, e4⟩ F2 N2
    have em : m₁ = kstB m₁ [(Str.ofString "state", .ref st), (Str.ofString "rows", .ref wr), (Str.ofString "places", .ref wp), (Str.ofString "base", .int bs bst)] := funext fun z => (kstB_eq (by
      intro q hq
      simp only [List.mem_cons, List.not_mem_nil, or_false] at hq
      rcases hq with rfl | rfl | rfl | rfl <;> assumption) (fun _ => rfl)).symm
    rw [em] at F2
    have o1 : ∀ z ∈ own, z.1 ≠ wp := off_of hoff (.head _)
    have o2 : ∀ z ∈ own, z.1 ≠ wr := off_of hoff (.tail _ (.head _))
    have o3 : ∀ z ∈ own, z.1 ≠ st := off_of hoff (.tail _ (.tail _ (.head _)))
    obtain ⟨R, hR⟩ : ∃ R, R = tups ++ rest ++ own := ⟨_, rfl⟩
    have hmR : (sc, listOf vs.toArray nc) ∈ R := by
      rw [hR]
      simp [hm]
    have r1 : ∀ z ∈ R, z.1 ≠ wp := by
      intro z hz
      rw [hR] at hz
      rcases List.mem_append.mp hz with hz | hz
      · rcases List.mem_append.mp hz with hz | hz
        · exact Nat.ne_of_gt (ho z hz)
        · exact allLt_ne l1t z hz
      · exact o1 z hz
    have r2 : ∀ z ∈ R, z.1 ≠ wr := by
      intro z hz
      rw [hR] at hz
      rcases List.mem_append.mp hz with hz | hz
      · rcases List.mem_append.mp hz with hz | hz
        · exact Nat.ne_of_gt (Nat.lt_trans l1q (ho z hz))
        · exact allLt_ne l1t' z hz
      · exact o2 z hz
    have r3 : ∀ z ∈ R, z.1 ≠ st := by
      intro z hz
      rw [hR] at hz
      rcases List.mem_append.mp hz with hz | hz
      · rcases List.mem_append.mp hz with hz | hz
        · exact Nat.ne_of_gt (Nat.lt_trans l1s (ho z hz))
        · exact hne z hz
      · exact o3 z hz
    have N3 : News g L1 h ((wp, listOf pv.toArray np) :: (wr, listOf rv.toArray nr) :: (st, stObj sc i' t' c) :: R) := by
      rw [hR]
      exact news_perm N2 (by simp)
    clear N2 hm l1t l1t' N1 F1 rg kp hq hrw
    (try k_fold)
    k_steps
    rename_i v t1n _ _ _ v0 v1 _ _ _ _ _ _ _ _ _ _ _ _ _ _ _ _ _ _ x2 t2 z2 _ _ _ _ _ _ _ _ _ _ _ _ _ _ _ _ xf tf zf D _ l1d _ Ff Nf
    obtain ⟨_, _, l1d3, _, _, l1d6⟩ := l1d
    have fd : 0 ≤ v.fdiv 15 ∧ v.fdiv 15 < 1000 := by
      rw [Int.fdiv_eq_ediv_of_nonneg v (by decide)]
      omega
    subst hR
    have Dlt := lt_of_all l1d6
    obtain ⟨tD, htD⟩ := tup_tok Nf
    refine InvEndG.intro (nx := (wp, listOf (pv ++ [Value.ref D]).toArray (np + 1)) :: (wr, listOf (rv ++ [Value.str x2 t2]).toArray (nr + 1)) :: (st, stObj sc (i' + 1) t1n c) :: (((D, tupObj [.str xf tf, .int (v.fdiv 15) tD] 0) :: tups) ++ rest)) Ff Nf ?_ ?_ ?_ ?_
    · refine ⟨i' + 1, t1n, rv ++ [.str x2 t2], rs ++ [x2], nr + 1, pv ++ [.ref D], ps ++ [(xf, v.fdiv 15)], np + 1, _, rfl, by omega, by push_cast; omega, PyProof.Rows.StrsAre.append' hs (.cons _ _ .nil), ?_, by simp [hl1], by simp [hl2],
        (hp.mono fun q hq => .tail _ hq).snoc (.head _) fd.1 fd.2, ?_, ?_, by with_unfolding_all rfl, by with_unfolding_all rfl, by with_unfolding_all rfl, by with_unfolding_all rfl⟩
      · intro y hy
        rcases List.mem_append.mp hy with hy | hy
        · exact hx y hy
        · rw [List.mem_singleton.mp hy]
          exact z2.1
      · intro q hq
        rcases List.mem_cons.mp hq with rfl | hq
        · exact l1d3
        · exact ho q hq
      · intro q hq
        rcases List.mem_append.mp hq with hq | hq
        · exact hk' q hq
        · rw [List.mem_singleton.mp hq]
          exact zf.2
    · intro z hz b hb
      obtain ⟨q, hq, rfl⟩ := List.mem_map.mp hb
      simp only [List.mem_cons, List.mem_append] at hq
      rcases hq with rfl | rfl | rfl | (rfl | hq) | hq
      · exact o1 z hz
      · exact o2 z hz
      · exact o3 z hz
      · exact Nat.ne_of_lt (Dlt z (by simp [hz]))
      · exact hoff z hz _ (List.mem_map.mpr ⟨q, by simp [hq], rfl⟩)
      · exact hoff z hz _ (List.mem_map.mpr ⟨q, by simp [hq], rfl⟩)
    · intro z hz
      simp only [List.mem_cons, List.mem_append] at hz ⊢
      rcases hz with hz | hz | hz | (hz | hz) | hz <;> simp [hz, htD]
    · intro z hz
      simp [hz]
  · rintro m₁ nx h tk2 ⟨i', t', rv, rs, nr, pv, ps, np, tups, rfl, j1, j2, hs, hx, hl1, hl2, hp, ho, hk', e1, e2, e3, e4⟩ F2 N2
    have em : m₁ = kstB m₁ [(Str.ofString "state", .ref st), (Str.ofString "rows", .ref wr), (Str.ofString "places", .ref wp), (Str.ofString "base", .int bs bst)] := funext fun z => (kstB_eq (by
      intro q hq
      simp only [List.mem_cons, List.not_mem_nil, or_false] at hq
      rcases hq with rfl | rfl | rfl | rfl <;> assumption) (fun _ => rfl)).symm
    rw [em] at F2
    have hN : News g L1 h ((wp, listOf pv.toArray np) :: (wr, listOf rv.toArray nr) :: (st, stObj sc i' t' c) :: (tups ++ rest)) := N2
    clear N2 N1 F1 rg kp
    (try k_fold)
    k_steps
    rename_i wa _ _ _ lw kF kN _ _
    obtain ⟨w1, w2, w3, w4⟩ := lw
    have wl := lt_of_all w4
    refine hq wa wr wp ((wp, listOf pv.toArray np) :: (wr, listOf rv.toArray nr) :: tups) bs bst (tk2 + 1) i' t' rv rs nr pv ps np _ _ (by omega) (by omega) bs0 bs1 hs hx (by omega) (by omega) (by omega) (hp.mono fun q hq => .tail _ (.tail _ hq)) hk' (.tail _ (.head _)) (.head _) ?_ ?_ ?_ kF (news_perm kN ?_)
    · intro q hq' z hz
      have q1 : q.1 < wr := by
        rcases List.mem_cons.mp hq' with rfl | hq'
        · exact l1s'
        · exact hrw q hq'
      have q2 : q.1 < wp := Nat.lt_trans q1 l1q
      rcases List.mem_cons.mp hz with rfl | hz
      · exact q2
      · rcases List.mem_cons.mp hz with rfl | hz
        · exact q1
        · exact Nat.lt_trans q2 (ho z hz)
    · intro z hz
      rcases List.mem_cons.mp hz with rfl | hz
      · exact w1
      · rcases List.mem_cons.mp hz with rfl | hz
        · exact w2
        · exact wl z (List.mem_append.mpr (.inl hz))
    · intro q hq'
      rcases List.mem_cons.mp hq' with rfl | hq'
      · exact w3
      · exact wl q (List.mem_append.mpr (.inr hq'))
    · intro z hz
      simp only [List.mem_cons, List.mem_append, List.cons_append] at hz ⊢
      rcases hz with hz | hz | hz | hz | hz | hz <;> simp [hz]

theorem world_c {st sc : Addr} {i₀ : Int} {t : Tok} {c nc : Nat} {news : Led} {U : Obj → Led} {vs : List Value} {ns : List Int}
    (G : Gnd (hd.heap_39 w.params) 20 A A₀ base h₀ L a cn cs ccd outer p loose mean mg mb) (F : Fr h₀ L s.heap m)
    (N : News h₀ L s.heap news) (hU : UpdF st (stObj sc i₀ t c) news U) (hm : (sc, listOf vs.toArray nc) ∈ news) (hne : sc ≠ st) (hi : IntsAre vs ns) (hlen : vs.length ≤ 63)
    (h0 : 0 ≤ i₀) (h1 : i₀ < 10000)
    (hq : ∀ wa wr wp nl b bt pt i' t' rv rs nr pv ps np tk' h', i₀ ≤ i' → i' ≤ i₀ + 10 → 0 ≤ b → b < 1000 → StrsAre rv rs → (∀ x ∈ rs, x.length ≤ 100) → 3 ≤ rv.length → rv.length ≤ 6 → pv.length = rv.length → PlAre nl pv ps → (∀ q ∈ ps, PyData.strOk q.1 = true) →
      (wr, listOf rv.toArray nr) ∈ nl → (wp, listOf pv.toArray np) ∈ nl → (∀ q ∈ news, ∀ z ∈ nl, q.1 < z.1) → (∀ z ∈ nl, z.1 < wa) → (∀ q ∈ news, q.1 < wa) → Fr h₀ L h' m →
      News h₀ L h' ((wa, wObj wr wp b bt (-1) pt .none 0) :: (nl ++ U (stObj sc i' t' c))) → Q (.ref wa) { s with heap := h', toks := tk' }) :
    wpAny (model prog w) A (call (.ref 593) [.ref st]) Q E s := by
  obtain ⟨pre, post, rfl, hu, n1, n2⟩ := hU.split
  refine world_h G F (news_perm N mid_in) (mid_ne n1 n2) (mid_mem hm hne) hi hlen h0 h1 fun wa wr wp nl b bt pt i' t' rv rs nr pv ps np tk' h' a1 a2 a3 a4 a5 a6 a7 a8 a9 a10 aK a11 a12 a13 a14 a15 F' N' => ?_
  refine hq wa wr wp nl b bt pt i' t' rv rs nr pv ps np tk' h' a1 a2 a3 a4 a5 a6 a7 a8 a9 a10 aK a11 a12 (fun q hq' => a13 q (mid_out q hq')) a14 (fun q hq' => a15 q (mid_out q hq')) F' ?_
  rw [hu]
  refine news_perm N' fun z hz => ?_
  simp only [List.mem_cons, List.mem_append] at hz ⊢
  rcases hz with hz | hz | hz | hz | hz <;> simp [hz]
end
end PartI
section PartJ
local macro_rules | `(tactic| ktr_enter) => `(tactic| (refine' code_def ?k1 ?k2 ?k3 ?k4 ?k5 ?kA ?kF ?kK ?k6 ?k7 ?k8 ?k9 ?kB ?_ ?c2 ?c3 ?c4 ?c5; (case kA => assumption); (case kF => exact rfl); (case kK => assumption); (case k1 => k_asm); (case k2 => k_asm); (case k3 => k_asm); (case k4 => k_asm); (case k5 => k_asm); (case k6 => k_is); (case k7 => k_is); (case k8 => first | omega | (dsimp only; omega)); (case k9 => exact BindsTo.of_eq rfl); (case c5 => decide); (case kB => exact locs rfl); (case c2 => exact rfl); (case c3 => exact rfl); (case c4 => exact rfl); k_whole; intro g' L' h' FG' F' N' B' X' T'; (try dsimp only); (try k_lift B'); (try k_fold)))
local macro_rules | `(tactic| k_all) => `(tactic| first | assumption | exact allLt_ne (by assumption))
local macro_rules | `(tactic| k_mem) => `(tactic| assumption)
local macro_rules | `(tactic| walk_at "call builtin:len") => `(tactic| (k_here; (with_reducible show wpAny _ _ (call (Value.builtin "len") [Value.ref _]) _ _ _); k_dflt (refine' rl_len ?k1 ?k2 ?k3 ?_; (case k1 => k_asm); (case k2 => k_mem); (case k3 => omega); k_whole)))
local macro_rules | `(tactic| walk_at "subscriptTail") => `(tactic| (k_here; (with_reducible show wpAny _ _ (subscriptTail _ _ (Value.ref _) (Value.int _ _)) _ _ _); k_dflt (refine' rl_item_ints ?k1 ?k2 ?k3 ?k4 ?k5 ?k6 ?_ ?k7; (case k1 => k_asm); (case k2 => k_mem); (case k3 => with_reducible assumption); (case k4 => omega); (case k5 => omega); (case k6 => omega); (case k7 => with_unfolding_all rfl); k_whole); intro _ _))
local macro_rules | `(tactic| walk_at "subscriptTail") => `(tactic| (k_here; (with_reducible show wpAny _ _ (subscriptTail _ _ (Value.ref _) (Value.int _ _)) _ _ _); k_dflt (refine' rl_item ?k1 ?k2 ?k3 ?k4 ?k6 ?_ ?k7; (case k1 => k_asm); (case k2 => k_mem); (case k4 => first | decide | omega); (case k6 => first | decide | omega); (case k3 => first | exact rfl | assumption); (case k7 => with_unfolding_all rfl); k_whole)))
local macro_rules | `(tactic| walk_at "call builtin:max") => `(tactic| (k_here; (with_reducible show wpAny _ _ (call (Value.builtin _) [Value.int _ _, Value.int _ _]) _ _ _); k_dflt (refine' max_two_N ?k1 ?k2 ?k3 ?_; (case k1 => assumption); (case k2 => k_asm); (case k3 => k_asm); k_whole); intro h' tk' F' N'; (try k_sweep)))
local macro_rules | `(tactic| walk_at "call builtin:min") => `(tactic| (k_here; (with_reducible show wpAny _ _ (call (Value.builtin _) [Value.int _ _, Value.int _ _]) _ _ _); k_dflt (refine' min_two_N ?k1 ?k2 ?k3 ?_; (case k1 => assumption); (case k2 => k_asm); (case k3 => k_asm); k_whole); intro h' tk' F' N'; (try k_sweep)))
local macro_rules | `(tactic| k_room) => `(tactic| first | ((try simp only [depth_under_make, depth_under_kw, depth_in1, depth_deeper, depth_caller]); omega) | (dsimp only [Around.mark, Around.deeper, Around.in1, Around.under]; omega))
local macro_rules | `(tactic| ktr_unf) => `(tactic| (refine' code_defS0 ?k1 ?k2 ?k3 ?k4 ?k5 ?kA ?k6 ?k7 ?k8 ?k9 ?kB ?_ ?cK ?c2 ?c3 ?c4 ?c5; (case kA => exact rfl); (case k2 => k_asm); (case k1 => k_asm); (case k3 => k_asm); (case k4 => k_asm); (case k5 => k_asm); (case k6 => k_is); (case k7 => k_is); (case k8 => first | omega | (dsimp only; omega)); (case k9 => first | exact BindsTo.of_eq rfl | exact binds_K (by k_in) rfl (by k_is) rfl rfl rfl); (case kB => exact locs rfl); (case cK => assumption); (case c2 => exact rfl); (case c3 => exact rfl); (case c4 => exact rfl); (case c5 => decide); k_whole; intro g' L' h' FG' F' N' B' X' T' D'; (try dsimp only); (try k_lift B'); (try k_fold)))
local macro_rules | `(tactic| walk_at "subscriptTail") => `(tactic| (k_here; (with_reducible show wpAny _ _ (subscriptTail _ _ (Value.ref _) (Value.int _ _)) _ _ _); k_dflt (refine' rl_item_out ?k0 ?k1 ?k2 ?k4 ?k6 ?_ ?k7; (case k0 => first | exact rfl | assumption); (case k1 => k_asm); (case k2 => k_mem); (case k4 => omega); (case k6 => omega); (case k7 => with_unfolding_all rfl); k_whole); intro h' tk' e' x'))
section
variable {prog : Program} {w : World} {A : Around} {E : Value → Shared → Prop} {s : Shared} {h₀ : Heap} {news : Led} {env : Env} {x : Str} {body : List Stmt} {Q : Flow → Shared → Prop} {m₀ : Str → Option Value}
theorem rl_truthy {Q : Bool → Shared → Prop} {h₀ : Heap} {L : Addr} {l : Addr} {vs : List Value} {n : Nat} (N : News h₀ L s.heap news) (hm : (l, listOf vs.toArray n) ∈ news) (h1 : 0 < vs.length) (hz : vs.length ≤ 16384) (h : Q true { s with toks := s.toks + 1 + 1 }) :
    wpAny (model prog w) A (truthy (.ref l)) Q E s := by
  refine wpAny_truthy_list (News.isList N hm) (by rw [List.size_toArray]; omega) ?_
  have e : (!vs.toArray.isEmpty) = true := by
    cases vs with
    | nil => simp at h1
    | cons a b => rfl
  rw [e]
  exact h
theorem nil_iter {l : Addr} {nn : Nat} (hh : A.handled = none) (hl : (l, listOf ([] : List Value).toArray nn) ∈ news) (F : Fr h₀ env.locals s.heap m₀) (N : News h₀ env.locals s.heap news)
    (done : ∀ h tk, Fr h₀ env.locals h m₀ → News h₀ env.locals h news → Q .next { s with heap := h, toks := tk }) :
    wpAny (model prog w) A (pyIter (.ref l)) (fun it s₂ => LoopAtV prog w A h₀ env x body Q E it s₂) E s := by
  refine kdl_iter (fun _ m nx => m = m₀ ∧ nx = news) hh hl F N ⟨rfl, rfl⟩ ?_ ?_
  · intro i v m₁ nx h tk own hv
    simp at hv
  · rintro m₁ nx h tk ⟨rfl, rfl⟩ F₁ N₁
    exact done h tk F₁ N₁
end
local macro_rules | `(tactic| walk_at "exec For Name Name cons nil") => `(tactic| (k_here; (rename Fr _ _ _ _ => lF'); (with_unfolding_all refine' For_invVF lF' ?k1 ?k2 ?_; (case k1 => exact rfl); (case k2 => exact rfl); k_whole)))
local macro_rules | `(tactic| walk_at "pyIter ref") => `(tactic| (k_here; (with_reducible show wpAny _ _ (pyIter (Value.ref _)) (fun it s₂ => LoopAtV _ _ _ _ _ _ _ _ _ it s₂) _ _); with_unfolding_all (refine' nil_iter ?h ?l ?F ?N ?_; (case h => exact rfl); (case F => k_asm); (case N => k_asm); (case l => k_mem); k_whole); intro h' tk' F' N'; (try k_sweep)))
local macro_rules | `(tactic| walk_at "truthy ref") => `(tactic| (k_here; k_dflt (refine' rl_truthy ?k1 ?k2 ?k3 ?k4 ?_; (case k1 => k_asm); (case k2 => k_mem); (case k3 => omega); (case k4 => omega); k_whole)))
local macro_rules | `(tactic| walk_at "call type:list") => `(tactic| (k_here; (with_reducible show wpAny _ _ (call (Value.type "list") [Value.ref _]) _ _ _); k_dflt (refine' list_copyK ?k1 ?k2 ?k3 ?_ ?z; (case k1 => k_asm); (case k2 => k_asm); (case k3 => exact News.isList (by k_asm) (by k_mem)); (case z => (rw [List.size_toArray, sizeLine_eq]; omega)); k_whole); intro D' c' h' F' N' l1; (try k_lt l1); (try k_sweep)))
section
variable {w : World} {A A₀ : Around} {E Q : Value → Shared → Prop} {s : Shared} {base h₀ : Heap} {outer : List Env} {L a : Addr} {m : Str → Option Value} {cn : Str} {cs : Scope} {ccd : Value} {prog : Program} {p : Program} {loose : List Str} {mean : ExcName → Option Value} {mg mb : Str → Option Value}

theorem mDict_of {l : Led} {md sl : Addr} {a0 a1 a2 a3 a4 a5 a6 a7 : Int} {k0 k1 k2 k3 k4 k5 k6 k7 : Tok} {b pl : Int} {bt pt : Tok} {lv x0 x1 x2 x3 : Value}
    (hm : (md, dictOf [⟨a0, .str (Str.ofString "input_lines") k0, .ref sl⟩, ⟨a1, .str (Str.ofString "input_offset") k1, .int b bt⟩, ⟨a2, .str (Str.ofString "line") k2, lv⟩, ⟨a3, .str (Str.ofString "line_offset") k3, .int pl pt⟩,
      ⟨a4, .str (Str.ofString "debug") k4, x0⟩, ⟨a5, .str (Str.ofString "initial_state") k5, x1⟩, ⟨a6, .str (Str.ofString "current_state") k6, x2⟩, ⟨a7, .str (Str.ofString "states") k7, x3⟩] 8) ∈ l) : ∃ H K X bt' pt', (md, mDict H K sl b bt' lv pl pt' X) ∈ l :=
  ⟨fun i => [a0, a1, a2, a3, a4, a5, a6, a7].getD i 0, fun i => [k0, k1, k2, k3, k4, k5, k6, k7].getD i 0, fun i => [x0, x1, x2, x3].getD i .none, bt, pt, hm⟩
theorem sDict_of {l : Led} {sd dl il : Addr} {a0 a1 a2 a3 : Int} {k0 k1 k2 k3 : Tok}
    (hm : (sd, dictOf [⟨a0, .str (Str.ofString "data") k0, .ref dl⟩, ⟨a1, .str (Str.ofString "items") k1, .ref il⟩, ⟨a2, .str (Str.ofString "parent") k2, .none⟩, ⟨a3, .str (Str.ofString "parent_offset") k3, .none⟩] 4) ∈ l) : ∃ H K, (sd, sDict H K dl il) ∈ l :=
  ⟨fun i => [a0, a1, a2, a3].getD i 0, fun i => [k0, k1, k2, k3].getD i 0, hm⟩
theorem two_of {l l' : Led} {p q : Addr × Obj} (h : ∀ z ∈ p :: q :: l', z ∈ l) : p ∈ l ∧ q ∈ l := ⟨h _ (.head _), h _ (.tail _ (.head _))⟩

theorem machine_c {wa wr wp : Addr} {b pl : Int} {bt pt : Tok} {hv : Value} {c nr np : Nat} {news : Led} {rv pv : List Value}
    (G : Gnd (hd.heap_39 w.params) 20 A A₀ base h₀ L a cn cs ccd outer p loose mean mg mb) (F : Fr h₀ L s.heap m)
    (N : News h₀ L s.heap news) (hw : (wa, wObj wr wp b bt pl pt hv c) ∈ news) (hr : (wr, listOf rv.toArray nr) ∈ news) (hp : (wp, listOf pv.toArray np) ∈ news) (hn0 : 3 ≤ rv.length) (hn1 : rv.length ≤ 6) (hnp : pv.length = rv.length)
    (hq : ∀ mc md sl sd dl il H1 K1 H2 K2 X1 b' bt' pt' nd ni tk' h', b' = b → (∀ q ∈ news, q.1 < md) → @LT.lt Nat _ md mc → @LT.lt Nat _ md sl → @LT.lt Nat _ md sd → @LT.lt Nat _ md dl → @LT.lt Nat _ md il → Fr h₀ L h' m →
      News h₀ L h' ((md, mDict H1 K1 sl b' bt' .none (-1) pt' X1) :: (mc, instObj 172 md) :: (sl, instObj 481 sd) :: (sd, sDict H2 K2 dl il) :: (dl, listOf rv.toArray nd) :: (il, listOf pv.toArray ni) :: news) → Q (.ref mc) { s with heap := h', toks := tk' }) :
    wpAny (model prog w) A (call (.ref 600) [.ref wa]) Q E s := by
  w_top off; refine fillK w.params _ ?_; k_fill; intro _ _
  obtain ⟨hh, hA, hk, hdp, hun, B, X, T⟩ := G
  obtain ⟨hd', dp, fr, gd, un⟩ := A
  obtain rfl : fr = _ := hA
  obtain rfl : hd' = none := hh
  dsimp only at hdp hun
  refine wpAny_call ?_
  have hA : ({ depth := dp, frames := some (envOf cn cs L a ccd :: outer), guards := gd, units := un } : Around).frames = some (envOf cn cs L a ccd :: outer) := rfl
  k_dflt ktr_enter
  k_steps
  rename_i _ _ _ _ _ _ _ _ _ _ _ _ _ mc md _ lmd lmc _ _ _ _ _ _ _ _ _ _ _ _ _ _ _ _ _ _ _ _ _ _ _ _ _ _ _ _ _ _ _ _ _ _ _ _ _ _ _ _ _ _ _ _ _ _ _ _ _ _ _ _ _ _ il _ _ lil sl sd _ lsd lsl _ _ _ _ _ _ _ _ _ _ _ _ _ _ _ _ _ _ _ _ _ _ _ dl _ _ ldl _ _ _ _ _ _ _ _ _ _ _ _ _ _ kF kN _ _
  generalize hl : (_ :: _ : Led) = full at kN
  have m1 := mDict_of (md := md) (l := full) (by subst hl; exact List.Mem.tail _ (List.Mem.tail _ (List.Mem.tail _ (List.Mem.tail _ (List.Mem.tail _ (List.Mem.tail _ (List.Mem.tail _ (List.Mem.tail _ (List.Mem.tail _ (List.Mem.tail _ (List.Mem.head _)))))))))))
  have m2 := sDict_of (sd := sd) (l := full) (by subst hl; exact List.Mem.tail _ (List.Mem.tail _ (List.Mem.tail _ (List.Mem.tail _ (List.Mem.tail _ (List.Mem.head _))))))
  have m3 : (mc, instObj 172 md) ∈ full := by subst hl; exact List.Mem.tail _ (List.Mem.tail _ (List.Mem.tail _ (List.Mem.tail _ (List.Mem.tail _ (List.Mem.tail _ (List.Mem.tail _ (List.Mem.tail _ (List.Mem.tail _ (List.Mem.head _)))))))))
  have m4 : (sl, instObj 481 sd) ∈ full := by subst hl; exact List.Mem.tail _ (List.Mem.tail _ (List.Mem.tail _ (List.Mem.tail _ (List.Mem.head _))))
  obtain ⟨nd, m5⟩ : ∃ nd, (dl, listOf rv.toArray nd) ∈ full := ⟨_, by subst hl; exact List.Mem.head _⟩
  obtain ⟨ni, m6⟩ : ∃ ni, (il, listOf pv.toArray ni) ∈ full := ⟨_, by subst hl; exact List.Mem.tail _ (List.Mem.tail _ (List.Mem.tail _ (List.Mem.tail _ (List.Mem.tail _ (List.Mem.tail _ (List.Mem.head _))))))⟩
  have m7 : ∀ z ∈ news, z ∈ full := by
    subst hl
    intro z hz
    simp [hz]
  clear hl
  obtain ⟨H1, K1, X1, bt', pt', m1⟩ := m1
  obtain ⟨H2, K2, m2⟩ := m2
  obtain ⟨_, lmd⟩ := lmd
  refine hq mc md sl sd dl il H1 K1 H2 K2 X1 _ bt' pt' nd ni _ _ rfl (lt_of_all lmd) lmc ?_ ?_ ?_ ?_ kF (news_perm kN ?_)
  · omega
  · omega
  · omega
  · omega
  · intro z hz
    simp only [List.mem_cons] at hz
    rcases hz with rfl | rfl | rfl | rfl | rfl | rfl | hz
    · exact m1
    · exact m3
    · exact m4
    · exact m2
    · exact m5
    · exact m6
    · exact m7 z hz
end
end PartJ
section PartK
local macro_rules | `(tactic| ktr_enter) => `(tactic| (refine' code_def ?k1 ?k2 ?k3 ?k4 ?k5 ?kA ?kF ?kK ?k6 ?k7 ?k8 ?k9 ?kB ?_ ?c2 ?c3 ?c4 ?c5; (case kA => assumption); (case kF => exact rfl); (case kK => assumption); (case k1 => k_asm); (case k2 => k_asm); (case k3 => k_asm); (case k4 => k_asm); (case k5 => k_asm); (case k6 => k_is); (case k7 => k_is); (case k8 => first | omega | (dsimp only; omega)); (case k9 => exact BindsTo.of_eq rfl); (case c5 => decide); (case kB => exact locs rfl); (case c2 => exact rfl); (case c3 => exact rfl); (case c4 => exact rfl); k_whole; intro g' L' h' FG' F' N' B' X' T'; (try dsimp only); (try k_lift B'); (try k_fold)))
local macro_rules | `(tactic| k_all) => `(tactic| first | assumption | exact allLt_ne (by assumption))
local macro_rules | `(tactic| k_mem) => `(tactic| assumption)
local macro_rules | `(tactic| walk_at "call builtin:len") => `(tactic| (k_here; (with_reducible show wpAny _ _ (call (Value.builtin "len") [Value.ref _]) _ _ _); k_dflt (refine' rl_len ?k1 ?k2 ?k3 ?_; (case k1 => k_asm); (case k2 => k_mem); (case k3 => omega); k_whole)))
local macro_rules | `(tactic| walk_at "subscriptTail") => `(tactic| (k_here; (with_reducible show wpAny _ _ (subscriptTail _ _ (Value.ref _) (Value.int _ _)) _ _ _); k_dflt (refine' rl_item_ints ?k1 ?k2 ?k3 ?k4 ?k5 ?k6 ?_ ?k7; (case k1 => k_asm); (case k2 => k_mem); (case k3 => with_reducible assumption); (case k4 => omega); (case k5 => omega); (case k6 => omega); (case k7 => with_unfolding_all rfl); k_whole); intro _ _))
local macro_rules | `(tactic| walk_at "subscriptTail") => `(tactic| (k_here; (with_reducible show wpAny _ _ (subscriptTail _ _ (Value.ref _) (Value.int _ _)) _ _ _); k_dflt (refine' rl_item ?k1 ?k2 ?k3 ?k4 ?k6 ?_ ?k7; (case k1 => k_asm); (case k2 => k_mem); (case k4 => first | decide | omega); (case k6 => first | decide | omega); (case k3 => first | exact rfl | assumption); (case k7 => with_unfolding_all rfl); k_whole)))
local macro_rules | `(tactic| walk_at "call builtin:max") => `(tactic| (k_here; (with_reducible show wpAny _ _ (call (Value.builtin _) [Value.int _ _, Value.int _ _]) _ _ _); k_dflt (refine' max_two_N ?k1 ?k2 ?k3 ?_; (case k1 => assumption); (case k2 => k_asm); (case k3 => k_asm); k_whole); intro h' tk' F' N'; (try k_sweep)))
local macro_rules | `(tactic| walk_at "call builtin:min") => `(tactic| (k_here; (with_reducible show wpAny _ _ (call (Value.builtin _) [Value.int _ _, Value.int _ _]) _ _ _); k_dflt (refine' min_two_N ?k1 ?k2 ?k3 ?_; (case k1 => assumption); (case k2 => k_asm); (case k3 => k_asm); k_whole); intro h' tk' F' N'; (try k_sweep)))
local macro_rules | `(tactic| k_room) => `(tactic| first | ((try simp only [depth_under_make, depth_under_kw, depth_in1, depth_deeper, depth_caller]); omega) | (dsimp only [Around.mark, Around.deeper, Around.in1, Around.under]; omega))
local macro_rules | `(tactic| ktr_unf) => `(tactic| (refine' code_defS0 ?k1 ?k2 ?k3 ?k4 ?k5 ?kA ?k6 ?k7 ?k8 ?k9 ?kB ?_ ?cK ?c2 ?c3 ?c4 ?c5; (case kA => exact rfl); (case k2 => k_asm); (case k1 => k_asm); (case k3 => k_asm); (case k4 => k_asm); (case k5 => k_asm); (case k6 => k_is); (case k7 => k_is); (case k8 => first | omega | (dsimp only; omega)); (case k9 => first | exact BindsTo.of_eq rfl | exact binds_K (by k_in) rfl (by k_is) rfl rfl rfl); (case kB => exact locs rfl); (case cK => assumption); (case c2 => exact rfl); (case c3 => exact rfl); (case c4 => exact rfl); (case c5 => decide); k_whole; intro g' L' h' FG' F' N' B' X' T' D'; (try dsimp only); (try k_lift B'); (try k_fold)))
local macro_rules | `(tactic| walk_at "subscriptTail") => `(tactic| (k_here; (with_reducible show wpAny _ _ (subscriptTail _ _ (Value.ref _) (Value.int _ _)) _ _ _); k_dflt (refine' rl_item_out ?k0 ?k1 ?k2 ?k4 ?k6 ?_ ?k7; (case k0 => first | exact rfl | assumption); (case k1 => k_asm); (case k2 => k_mem); (case k4 => omega); (case k6 => omega); (case k7 => with_unfolding_all rfl); k_whole); intro h' tk' e' x'))
section
variable {prog : Program} {w : World} {A : Around} {E : Value → Shared → Prop} {s : Shared} {h₀ : Heap} {L : Addr} {m : Str → Option Value} {news : Led} {Q : Value → Shared → Prop}

theorem went_ne {rs : List Str} {deed pl : Int} {h1 r1 h2 r2 : Value} (a : Went rs deed pl h1 r1) (b : Went rs deed pl h2 r2) (k : HeldIs h1 h2 → Q (.bool false) s) : wpAny (model prog w) A (compareOp .NotEq r1 r2) Q E s := by
  cases a with
  | on a1 a2 a3 =>
    cases b with
    | on b1 b2 b3 =>
      rw [a3] at b3
      cases b3
      refine PyProof.Rows.ne_str ?_
      rw [bne_self_eq_false]
      exact k .str
    | low b1 b2 => omega
    | off b1 b2 => omega
  | low a1 a2 =>
    cases b with
    | on b1 b2 b3 => omega
    | low b1 b2 => exact EqNone.ne_none_none (k .none)
    | off b1 b2 => exact absurd a1 b1
  | off a1 a2 =>
    cases b with
    | on b1 b2 b3 => omega
    | low b1 b2 => exact absurd b1 a1
    | off b1 b2 =>
      refine PyProof.Rows.ne_str ?_
      rw [bne_self_eq_false]
      exact k .none
theorem newPl_bd {n : Nat} {pl b deed v : Int} (am : Amt n pl b deed v) (d0 : 0 ≤ deed) (d1 : deed < 3) (p0 : -1 ≤ pl) : -1 ≤ newPl deed pl b v ∧ (newPl deed pl b v ≤ pl + 3 ∨ newPl deed pl b v ≤ n + 1) := by
  obtain ⟨a1, a2, a3⟩ := am
  rcases (show deed = 0 ∨ deed = 1 ∨ deed = 2 by omega) with e | e | e
  · have := a1 e
    subst e
    show -1 ≤ pl + v ∧ (pl + v ≤ pl + 3 ∨ pl + v ≤ n + 1)
    omega
  · have := a2 e
    subst e
    show -1 ≤ pl - v ∧ (pl - v ≤ pl + 3 ∨ pl - v ≤ n + 1)
    omega
  · have := a3 e
    subst e
    show -1 ≤ v - b ∧ (v - b ≤ pl + 3 ∨ v - b ≤ n + 1)
    omega
theorem tell_ok {ps : List (Str × Int)} {x o : Int} {f : Str} (hk : ∀ q ∈ ps, PyData.strOk q.1 = true) (h : tellAt ps x = some (f, o)) : PyData.strOk f = true := by
  have key : ∀ (k : Nat) (d : Int), (ps[k]?).map (fun q => (q.1, q.2 + d)) = some (f, o) → PyData.strOk f = true := by
    intro k d e
    cases hg : ps[k]? with
    | none => rw [hg] at e; cases e
    | some q =>
      rw [hg] at e
      cases e
      exact hk q (List.mem_of_getElem? hg)
  unfold tellAt at h
  split at h
  · split at h
    · exact key _ _ h
    · split at h
      · exact key _ _ h
      · cases h
  · cases h
theorem said_ne {r r' : Addr} {v1 v2 u1 u2 : Value} {n n' : Nat} {ps : List (Str × Int)} {x y : Int} (N : News h₀ L s.heap news) (h1 : (r, tupObj [v1, v2] n) ∈ news) (h2 : (r', tupObj [u1, u2] n') ∈ news)
    (s1 : Said v1 v2 (tellAt ps x)) (s2 : Said u1 u2 (tellAt ps y)) (e : x = y) (hk : ∀ q ∈ ps, PyData.strOk q.1 = true) (hu : A.units + 64 < cLine) (k : Q (.bool false) s) : wpAny (model prog w) A (compareOp .NotEq (.ref r) (.ref r')) Q E s := by
  subst e
  have g1 := News.get N h1
  have g2 := News.get N h2
  have ok : ∀ f o, tellAt ps x = some (f, o) → PyData.strOk f = true := fun _ _ h => tell_ok hk h
  revert s1 s2 ok
  generalize tellAt ps x = o
  intro s1 s2 ok
  cases s1 with
  | some =>
    cases s2
    have ok := ok _ _ rfl
    refine ne_dataH (reads_tuple_at g1 rfl rfl (ReadsAll.cons (Reads.str _ _) (ReadsAll.cons (Reads.int _ _) ReadsAll.nil))) (reads_tuple_at g2 rfl rfl (ReadsAll.cons (Reads.str _ _) (ReadsAll.cons (Reads.int _ _) ReadsAll.nil))) ?_ ?_ hu ?_
    · (simp [SeqAt.shaped, PyData.canLay0, PyData.canLayAll0, PyData.depth, PyData.depthAll, ok])
    · (simp [SeqAt.shaped, PyData.canLay0, PyData.canLayAll0, PyData.depth, PyData.depthAll, ok])
    · simpa [PyData.eqv, PyData.eqvAll] using k
  | none =>
    cases s2
    refine ne_dataH (reads_tuple_at g1 rfl rfl (ReadsAll.cons Reads.none (ReadsAll.cons Reads.none ReadsAll.nil))) (reads_tuple_at g2 rfl rfl (ReadsAll.cons Reads.none (ReadsAll.cons Reads.none ReadsAll.nil))) ?_ ?_ hu ?_
    · (first | rfl | decide | (simp [SeqAt.shaped, PyData.canLay0, PyData.canLayAll0, PyData.depth, PyData.depthAll]; done))
    · (first | rfl | decide | (simp [SeqAt.shaped, PyData.canLay0, PyData.canLayAll0, PyData.depth, PyData.depthAll]; done))
    · simpa [PyData.eqv, PyData.eqvAll] using k
theorem str_ne {x y : Str} {t u : Tok} (e : x = y) (k : Q (.bool false) s) : wpAny (model prog w) A (compareOp .NotEq (.str x t) (.str y u)) Q E s := by
  subst e
  refine PyProof.Rows.ne_str ?_
  rw [bne_self_eq_false]
  exact k
theorem file_eq {ps : List (Str × Int)} {off b ask : Int} {f g : Str} {o' : Int} {n : Nat} (hn : ps.length = n) (a : off - b ≤ (ps.length : Nat) → ∃ o, ps[(min (off - b) ((ps.length : Nat) - 1)).toNat]? = some (f, o)) (c : ps[(if (n : Int) - 1 < ask then (n : Int) - 1 else ask).toNat]? = some (g, o')) (e : off - b = ask) (l : ask ≤ (n : Nat)) : f = g := by
  obtain ⟨o, h⟩ := a (by omega)
  have e2 : (min (off - b) ((ps.length : Nat) - 1) : Int) = (if (n : Int) - 1 < ask then (n : Int) - 1 else ask) := by
    split <;> omega
  rw [e2, c] at h
  cases h
  rfl
theorem pick_2 {value slice : PySem.Expr} {l : Addr} {a b : Value} {n : Nat} {k : Int} {u : Tok} (N : News h₀ L s.heap news) (hm : (l, listOf [a, b].toArray n) ∈ news) (hk : k = 0 ∨ k = 1) (h1 : k = 0 → Q a s) (h2 : k = 1 → Q b s)
    (hs : subscripted slice false (.ref l) (.int k u) = operate [.ref l, .int k u] (getItem (.ref l) (.int k u)) := by with_unfolding_all rfl) :
    wpAny (model prog w) A (subscriptTail value slice (.ref l) (.int k u)) Q E s := by
  rcases hk with e | e
  · exact rl_item (k := k) N hm (by rw [e]; rfl) (by omega) (by omega) (h1 e) hs
  · exact rl_item (k := k) N hm (by rw [e]; rfl) (by omega) (by omega) (h2 e) hs
theorem item_pl {value slice : PySem.Expr} {l : Addr} {pv : List Value} {ps : List (Str × Int)} {nc : Nat} {k : Int} {u : Tok} (N : News h₀ L s.heap news) (hm : (l, listOf pv.toArray nc) ∈ news) (hp : PlAre news pv ps) (h0 : 0 ≤ k) (h1 : k < (pv.length : Nat)) (hfit : k < 2 ^ 63)
    (h : ∀ r f o t1 t2 n, ps[k.toNat]? = some (f, o) → (r, tupObj [.str f t1, .int o t2] n) ∈ news → Q (.ref r) s)
    (hs : subscripted slice false (.ref l) (.int k u) = operate [.ref l, .int k u] (getItem (.ref l) (.int k u)) := by with_unfolding_all rfl) :
    wpAny (model prog w) A (subscriptTail value slice (.ref l) (.int k u)) Q E s := by
  obtain ⟨r, f, o, t1, t2, n, e1, e2, e3, _, _⟩ := hp.get (k := k.toNat) (by omega)
  exact rl_item N hm e1 h0 hfit (h r f o t1 t2 n e2 e3) hs
end
end PartK
section PartL
local macro_rules | `(tactic| ktr_enter) => `(tactic| (refine' code_def ?k1 ?k2 ?k3 ?k4 ?k5 ?kA ?kF ?kK ?k6 ?k7 ?k8 ?k9 ?kB ?_ ?c2 ?c3 ?c4 ?c5; (case kA => assumption); (case kF => exact rfl); (case kK => assumption); (case k1 => k_asm); (case k2 => k_asm); (case k3 => k_asm); (case k4 => k_asm); (case k5 => k_asm); (case k6 => k_is); (case k7 => k_is); (case k8 => first | omega | (dsimp only; omega)); (case k9 => exact BindsTo.of_eq rfl); (case c5 => decide); (case kB => exact locs rfl); (case c2 => exact rfl); (case c3 => exact rfl); (case c4 => exact rfl); k_whole; intro g' L' h' FG' F' N' B' X' T'; (try dsimp only); (try k_lift B'); (try k_fold)))
local macro_rules | `(tactic| k_all) => `(tactic| first | assumption | exact allLt_ne (by assumption))
local macro_rules | `(tactic| k_mem) => `(tactic| assumption)
local macro_rules | `(tactic| walk_at "call builtin:len") => `(tactic| (k_here; (with_reducible show wpAny _ _ (call (Value.builtin "len") [Value.ref _]) _ _ _); k_dflt (refine' rl_len ?k1 ?k2 ?k3 ?_; (case k1 => k_asm); (case k2 => k_mem); (case k3 => omega); k_whole)))
local macro_rules | `(tactic| walk_at "subscriptTail") => `(tactic| (k_here; (with_reducible show wpAny _ _ (subscriptTail _ _ (Value.ref _) (Value.int _ _)) _ _ _); k_dflt (refine' rl_item_ints ?k1 ?k2 ?k3 ?k4 ?k5 ?k6 ?_ ?k7; (case k1 => k_asm); (case k2 => k_mem); (case k3 => with_reducible assumption); (case k4 => omega); (case k5 => omega); (case k6 => omega); (case k7 => with_unfolding_all rfl); k_whole); intro _ _))
local macro_rules | `(tactic| walk_at "subscriptTail") => `(tactic| (k_here; (with_reducible show wpAny _ _ (subscriptTail _ _ (Value.ref _) (Value.int _ _)) _ _ _); k_dflt (refine' rl_item ?k1 ?k2 ?k3 ?k4 ?k6 ?_ ?k7; (case k1 => k_asm); (case k2 => k_mem); (case k4 => first | decide | omega); (case k6 => first | decide | omega); (case k3 => first | exact rfl | assumption); (case k7 => with_unfolding_all rfl); k_whole)))
local macro_rules | `(tactic| walk_at "call builtin:max") => `(tactic| (k_here; (with_reducible show wpAny _ _ (call (Value.builtin _) [Value.int _ _, Value.int _ _]) _ _ _); k_dflt (refine' max_two_N ?k1 ?k2 ?k3 ?_; (case k1 => assumption); (case k2 => k_asm); (case k3 => k_asm); k_whole); intro h' tk' F' N'; (try k_sweep)))
local macro_rules | `(tactic| walk_at "call builtin:min") => `(tactic| (k_here; (with_reducible show wpAny _ _ (call (Value.builtin _) [Value.int _ _, Value.int _ _]) _ _ _); k_dflt (refine' min_two_N ?k1 ?k2 ?k3 ?_; (case k1 => assumption); (case k2 => k_asm); (case k3 => k_asm); k_whole); intro h' tk' F' N'; (try k_sweep)))
local macro_rules | `(tactic| k_room) => `(tactic| first | ((try simp only [depth_under_make, depth_under_kw, depth_in1, depth_deeper, depth_caller]); omega) | (dsimp only [Around.mark, Around.deeper, Around.in1, Around.under]; omega))
local macro_rules | `(tactic| ktr_unf) => `(tactic| (refine' code_defS0 ?k1 ?k2 ?k3 ?k4 ?k5 ?kA ?k6 ?k7 ?k8 ?k9 ?kB ?_ ?cK ?c2 ?c3 ?c4 ?c5; (case kA => exact rfl); (case k2 => k_asm); (case k1 => k_asm); (case k3 => k_asm); (case k4 => k_asm); (case k5 => k_asm); (case k6 => k_is); (case k7 => k_is); (case k8 => first | omega | (dsimp only; omega)); (case k9 => first | exact BindsTo.of_eq rfl | exact binds_K (by k_in) rfl (by k_is) rfl rfl rfl); (case kB => exact locs rfl); (case cK => assumption); (case c2 => exact rfl); (case c3 => exact rfl); (case c4 => exact rfl); (case c5 => decide); k_whole; intro g' L' h' FG' F' N' B' X' T' D'; (try dsimp only); (try k_lift B'); (try k_fold)))
local macro_rules | `(tactic| walk_at "subscriptTail") => `(tactic| (k_here; (with_reducible show wpAny _ _ (subscriptTail _ _ (Value.ref _) (Value.int _ _)) _ _ _); k_dflt (refine' rl_item_out ?k0 ?k1 ?k2 ?k4 ?k6 ?_ ?k7; (case k0 => first | exact rfl | assumption); (case k1 => k_asm); (case k2 => k_mem); (case k4 => omega); (case k6 => omega); (case k7 => with_unfolding_all rfl); k_whole); intro h' tk' e' x'))
local macro_rules | `(tactic| walk_at "pyIter ref") => `(tactic| (k_here; (with_reducible show wpAny _ _ (pyIter (Value.ref _)) (fun it s₂ => LoopAtV _ _ _ _ _ _ _ _ _ it s₂) _ _); refine Stop.mk ?_))
local macro_rules | `(tactic| walk_at "call builtin:list.append") => `(tactic| (k_here; (with_reducible show wpAny _ _ (call (Value.builtin _) [Value.ref _, _]) _ _ _); k_dflt (refine' rl_append ?F ?N ?U ?z ?_; (case F => k_asm); (case N => k_asm); (case U => k_updF); (case z => omega); k_whole); intro h' F' N'; (try dsimp only at N'); (try k_sweep)))
local macro_rules | `(tactic| walk_at "subscriptTail Call") => `(tactic| (k_here; (with_reducible show wpAny _ _ (subscriptTail _ _ (Value.ref _) (Value.int _ _)) _ _ _); k_dflt (refine' rl_item_strs ?k1 ?k2 ?k3 ?kb ?k4 ?k5 ?k6 ?_ ?k7; (case k1 => k_asm); (case k2 => k_mem); (case k3 => repeat (first | exact StrsAre.nil | apply StrsAre.cons)); (case kb => first | decide | with_unfolding_all decide | decide +kernel); (case k4 => first | omega | exact fmod_lo _ (by decide)); (case k5 => first | (simp only [List.length_cons, List.length_nil]; omega) | exact fmod_hi _ (by decide)); (case k6 => first | omega | exact Int.lt_of_lt_of_le (fmod_hi _ (by decide)) (by decide)); (case k7 => with_unfolding_all rfl); k_whole); intro x' t' z'))
local macro_rules | `(tactic| ktr_room) => `(tactic| (dsimp only [Around.mark, Around.deeper, Around.in1, Around.under]; omega))
local macro_rules | `(tactic| walk_at "call ref") => `(tactic| (k_here; (with_reducible show wpAny _ _ (call (Value.ref 586) [Value.ref _, Value.int _ _]) _ _ _); k_dflt (refine' next_c ?G ?F ?N ?U ?hm ?ne ?hi ?hl ?h0 ?h1 ?l0 ?l1 ?_; (case G => refine' Gnd.mk ?a1 ?a2 ?a3 ?a4 ?a5 ?a6 ?a7 ?a8; (case a1 => exact rfl); (case a2 => exact rfl); (case a3 => exact rfl); (case a4 => ktr_room); (case a5 => ktr_room); (case a6 => k_asm); (case a7 => k_asm); (case a8 => k_asm)); (case F => k_asm); (case N => k_asm); (case U => k_updF); (case hm => k_mem); (case ne => omega); (case hi => assumption); (case hl => omega); (case h0 => omega); (case h1 => omega); (case l0 => omega); (case l1 => omega); k_whole); intro v' t1' t2' tk' h' v0' v1' F' N'; (try dsimp only at N'); (try k_sweep)))
local macro_rules | `(tactic| walk_at "call type:range") => `(tactic| (k_here; (with_reducible show wpAny _ _ (call (Value.type "range") [Value.int _ _]) _ _ _); k_dflt (refine' range1_rows ?F ?N ?_; (case F => k_asm); (case N => k_asm); k_whole); intro h' tk' ta' tb' tc' rg' F' N' kp'; (try k_sweep)))
local macro_rules | `(tactic| tb_rel) => `(tactic| first | decide | ktr_room | (with_unfolding_all decide) | (simp only [Around.deeper, units_caller, cLine]; decide) | (dsimp only [Around.deeper]; rw [units_caller]; unfold cLine; decide) | (show (0 : Nat) + 10 * _ < cLine; decide) | ((try simp only [depth_under_make, depth_under_kw, depth_in1, depth_deeper, depth_caller]); first | decide | omega))
local macro_rules | `(tactic| tb_start) => `(tactic| (refine' Gnd.mk ?a1 ?a2 ?a3 ?a4 ?a5 ?a6 ?a7 ?a8; (case a1 => exact rfl); (case a2 => exact rfl); (case a3 => exact rfl); (case a4 => tb_rel); (case a5 => tb_rel); (case a6 => assumption); (case a7 => assumption); (case a8 => assumption)))
local macro_rules | `(tactic| walk_at "call ref") => `(tactic| (k_here; (with_reducible show wpAny _ _ (call (Value.ref 586) [Value.ref _, Value.int _ _]) _ _ _); k_dflt (refine' next_c ?G ?F ?N ?U ?hm ?ne ?hi ?hl ?h0 ?h1 ?l0 ?l1 ?_; (case G => tb_start); (case F => k_asm); (case N => k_asm); (case U => k_updF); (case hm => k_mem); (case ne => first | assumption | omega); (case hi => assumption); (case hl => omega); (case h0 => omega); (case h1 => omega); (case l0 => omega); (case l1 => omega); k_whole); intro v' t1' t2' tk' h' v0' v1' F' N'; (try dsimp only at N'); (try k_sweep)))
local macro_rules | `(tactic| walk_at "call ref") => `(tactic| (k_here; (with_reducible show wpAny _ _ (call (Value.ref 607) [Value.ref _, Value.int _ _, Value.int _ _]) _ _ _); k_dflt (refine' amount_c ?G ?F ?N ?hw ?hr ?n1 ?b0 ?b1 ?p0 ?p1 ?d0 ?d1 ?w0 ?w1 ?_; (case G => tb_start); (case F => k_asm); (case N => k_asm); (case hw => k_mem); (case hr => k_mem); (case n1 => omega); (case b0 => omega); (case b1 => omega); (case p0 => omega); (case p1 => omega); (case d0 => omega); (case d1 => omega); (case w0 => omega); (case w1 => omega); k_whole); intro v' t' tk' h' am' F' N'; (try dsimp only at N'); (try k_sweep)))
local macro_rules | `(tactic| walk_at "call ref") => `(tactic| (k_here; (with_reducible show wpAny _ _ (call (Value.ref 635) [Value.ref _, Value.int _ _]) _ _ _); k_dflt (refine' where_c ?G ?F ?N ?hp ?hpl ?n0 ?n1 ?o0 ?o1 ?_; (case G => tb_start); (case F => k_asm); (case N => k_asm); (case hp => k_mem); (case hpl => exact PlAre.mono (by assumption) (by k_in)); (case n0 => omega); (case n1 => omega); (case o0 => omega); (case o1 => omega); k_whole); intro r' v1' v2' n' tk' h' F' N' lt' sd'; (try k_lt lt'); (try dsimp only at N'); (try k_sweep)))
local macro_rules | `(tactic| walk_at "call ref") => `(tactic| (k_here; (with_reducible show wpAny _ _ (call (Value.ref 621) [Value.ref _, Value.int _ _, Value.int _ _]) _ _ _); k_dflt (refine' moved_c ?G ?F ?N ?U ?ne ?hr ?hs ?n0 ?n1 ?b0 ?b1 ?p0 ?p1 ?d0 ?d1 ?am ?_; (case G => tb_start); (case F => k_asm); (case N => k_asm); (case U => k_updF); (case hr => k_mem); (case ne => first | assumption | omega); (case hs => assumption); (case am => assumption); (case n0 => omega); (case n1 => omega); (case b0 => omega); (case b1 => omega); (case p0 => omega); (case p1 => omega); (case d0 => omega); (case d1 => omega); k_whole); intro r' hv' pt' tk' h' F' N' w'; (try dsimp only at N'); (try k_sweep)))
local macro_rules | `(tactic| walk_at "call ref") => `(tactic| (k_here; (with_reducible show wpAny _ _ (call (Value.ref 614) [Value.ref _, Value.int _ _, Value.int _ _]) _ _ _); k_dflt (refine' step_c ?G ?F ?N ?U ?n1 ?n2 ?n3 ?n4 ?hmc ?hsl ?hsd ?hdl ?hs ?m0 ?m1 ?b0 ?b1 ?p0 ?p1 ?d0 ?d1 ?am ?_; (case G => refine' GndX.mk ?b1 ?b2 ?b3; (case b1 => tb_start); (case b2 => assumption); (case b3 => assumption)); (case F => k_asm); (case N => k_asm); (case hmc => k_mem); (case U => k_updF); (case hsl => k_mem); (case hsd => k_mem); (case hdl => k_mem); (case n1 => first | assumption | omega); (case n2 => first | assumption | omega); (case n3 => first | assumption | omega); (case n4 => first | assumption | omega); (case hs => assumption); (case am => assumption); (case m0 => omega); (case m1 => omega); (case b0 => omega); (case b1 => omega); (case p0 => omega); (case p1 => omega); (case d0 => omega); (case d1 => omega); k_whole); intro r' hv' pt' tk' h' F' N' w'; (try dsimp only at N'); (try k_sweep)))
local macro_rules | `(tactic| walk_at "call ref") => `(tactic| (k_here; (with_reducible show wpAny _ _ (call (Value.ref 628) [Value.ref _, Value.ref _]) _ _ _); k_dflt (refine' same_c ?G ?F ?N ?hmd ?hwa ?hwr ?hmc ?hsl ?hsd ?hdl ?hs ?hx ?m0 ?m1 ?b0 ?b1 ?p0 ?p1 ?hh ?_; (case G => refine' GndX.mk ?b1 ?b2 ?b3; (case b1 => tb_start); (case b2 => assumption); (case b3 => assumption)); (case F => k_asm); (case N => k_asm); (case hmc => k_mem); (case hmd => k_mem); (case hwa => k_mem); (case hwr => k_mem); (case hsl => k_mem); (case hsd => k_mem); (case hdl => k_mem); (case hs => assumption); (case hx => assumption); (case hh => first | assumption | exact HeldIs.none); (case m0 => omega); (case m1 => omega); (case b0 => omega); (case b1 => omega); (case p0 => omega); (case p1 => omega); k_whole); intro tk' h' F' N'; (try dsimp only at N'); (try k_sweep)))
local macro_rules | `(tactic| walk_at "call ref") => `(tactic| (k_here; (with_reducible show wpAny _ _ (call (Value.ref 642) [Value.ref _, Value.int _ _]) _ _ _); k_dflt (refine' file_c ?G ?F ?N ?hmd ?hmc ?hsl ?hsd ?hdl ?hil ?hpl ?m0 ?m1 ?np ?b0 ?b1 ?o0 ?o1 ?_; (case G => refine' GndX.mk ?b1 ?b2 ?b3; (case b1 => tb_start); (case b2 => assumption); (case b3 => assumption)); (case F => k_asm); (case N => k_asm); (case hmc => k_mem); (case hmd => k_mem); (case hsl => k_mem); (case hsd => k_mem); (case hdl => k_mem); (case hil => k_mem); (case hpl => exact PlAre.mono (by assumption) (by k_in)); (case m0 => omega); (case m1 => omega); (case np => assumption); (case b0 => omega); (case b1 => omega); (case o0 => omega); (case o1 => omega); k_whole); intro f' t' tk' h' a' c' F' N'; (try dsimp only at N'); (try k_sweep)))
local macro_rules | `(tactic| walk_at "call ref") => `(tactic| (k_here; (with_reducible show wpAny _ _ (call (Value.ref 132) [Value.ref _, Value.int _ _]) _ _ _); k_dflt (refine' gsl_c ?G ?F ?N ?hmd ?hmc ?hsl ?hsd ?hdl ?hil ?hpl ?m0 ?m1 ?np ?b0 ?b1 ?o0 ?o1 ?o2 ?_; (case G => refine' GndX.mk ?b1 ?b2 ?b3; (case b1 => tb_start); (case b2 => assumption); (case b3 => assumption)); (case F => k_asm); (case N => k_asm); (case hmc => k_mem); (case hmd => k_mem); (case hsl => k_mem); (case hsd => k_mem); (case hdl => k_mem); (case hil => k_mem); (case hpl => exact PlAre.mono (by assumption) (by k_in)); (case m0 => omega); (case m1 => omega); (case np => assumption); (case b0 => omega); (case b1 => omega); (case o0 => omega); (case o1 => omega); (case o2 => omega); k_whole); intro r' v1' v2' n' tk' h' F' N' sd'; (try dsimp only at N'); (try k_sweep)))
local macro_rules | `(tactic| walk_at "call ref") => `(tactic| (k_here; (with_reducible show wpAny _ _ (call (Value.ref 132) [Value.ref _]) _ _ _); k_dflt (refine' gsl0_c ?G ?F ?N ?hmd ?hmc ?hsl ?hsd ?hdl ?hil ?hpl ?m0 ?m1 ?np ?b0 ?b1 ?o0 ?o2 ?_; (case G => refine' GndX.mk ?b1 ?b2 ?b3; (case b1 => tb_start); (case b2 => assumption); (case b3 => assumption)); (case F => k_asm); (case N => k_asm); (case hmc => k_mem); (case hmd => k_mem); (case hsl => k_mem); (case hsd => k_mem); (case hdl => k_mem); (case hil => k_mem); (case hpl => exact PlAre.mono (by assumption) (by k_in)); (case m0 => omega); (case m1 => omega); (case np => assumption); (case b0 => omega); (case b1 => omega); (case o0 => omega); (case o2 => omega); k_whole); intro r' v1' v2' n' tk' h' F' N' sd'; (try dsimp only at N'); (try k_sweep)))
local macro_rules | `(tactic| walk_at "call ref") => `(tactic| (k_here; (with_reducible show wpAny _ _ (call (Value.ref 593) [Value.ref _]) _ _ _); refine Stop.mk ?_))
local macro_rules | `(tactic| walk_at "call ref") => `(tactic| (k_here; (with_reducible show wpAny _ _ (call (Value.ref 600) [Value.ref _]) _ _ _); refine Stop.mk ?_))
local macro_rules | `(tactic| walk_at "call ref") => `(tactic| (k_here; (with_reducible show wpAny _ _ (call (Value.ref 628) [Value.ref _, Value.ref _]) _ _ _); refine Stop.mk ?_))
local macro_rules | `(tactic| walk_at "call ref") => `(tactic| (k_here; (with_reducible show wpAny _ _ (call (Value.ref 586) [Value.ref _, Value.int _ _]) _ _ _); refine Stop.mk ?_))
local macro_rules | `(tactic| walk_at "subscriptTail") => `(tactic| (k_here; (with_reducible show wpAny _ _ (subscriptTail _ _ (Value.ref _) (Value.int (Int.fmod _ 2) _)) _ _ _); refine Stop.mk ?_))
local macro_rules | `(tactic| walk_at "call ref") => `(tactic| (k_here; (with_reducible first | show wpAny _ _ (call (Value.ref 132) _) _ _ _ | show wpAny _ _ (call (Value.ref 614) _) _ _ _ | show wpAny _ _ (call (Value.ref 621) _) _ _ _ | show wpAny _ _ (call (Value.ref 607) _) _ _ _ | show wpAny _ _ (call (Value.ref 635) _) _ _ _ | show wpAny _ _ (call (Value.ref 642) _) _ _ _); refine Stop.mk ?_))
local macro_rules | `(tactic| walk_at "eval IfExp") => `(tactic| (k_here; (with_reducible show wpAny _ _ (eval (Expr.IfExp _ _ _ _) _) _ _ _); refine Stop.mk ?_))
local macro_rules | `(tactic| walk_at "isTrue BoolOp") => `(tactic| (k_here; (with_reducible show wpAny _ _ (isTrue (Expr.BoolOp _ (Expr.Compare _ _ _ _ :: _ :: _) _) _ _) _ _ _); refine Stop.mk ?_))
local macro_rules | `(tactic| walk_at "compareOp NotEq ref ref") => `(tactic| (k_here; (with_reducible show wpAny _ _ (compareOp CmpOp.NotEq (Value.ref _) (Value.ref _)) _ _ _); refine Stop.mk ?_))
local macro_rules | `(tactic| k_in) => `(tactic| with_reducible assumption)
local macro_rules | `(tactic| walk_at "subscriptTail") => `(tactic| (k_here; (with_reducible show wpAny _ _ (subscriptTail _ _ (Value.ref _) (Value.int (ite _ _ _) _)) _ _ _); refine Stop.mk ?_))
theorem ne_cons {a : Addr} {q : Addr × Obj} {l : Led} (h : q.1 ≠ a) (h2 : ∀ z ∈ l, z.1 ≠ a) : ∀ z ∈ q :: l, z.1 ≠ a := fun z hz => by
  rcases List.mem_cons.mp hz with rfl | hz
  · exact h
  · exact h2 z hz
theorem ne_app {a : Addr} {l l' : Led} (h : ∀ z ∈ l, z.1 ≠ a) (h2 : ∀ z ∈ l', z.1 ≠ a) : ∀ z ∈ l ++ l', z.1 ≠ a := fun z hz => (List.mem_append.mp hz).elim (h z) (h2 z)
theorem ne_above {a : Addr} {l news : Led} {o : Obj} (h : ∀ q ∈ news, ∀ z ∈ l, q.1 < z.1) (ha : (a, o) ∈ news) : ∀ z ∈ l, z.1 ≠ a := fun z hz => Nat.ne_of_gt (h _ ha z hz)
theorem ne_below {a : Addr} {l : Led} (h : ∀ z ∈ l, z.1 < a) : ∀ z ∈ l, z.1 ≠ a := fun z hz => Nat.ne_of_lt (h z hz)
/-- the main loop's ledger and names -/
def LJ (st wa0 wa1 md0 md1 D wr0 wp0 wr1 wp1 sl0 sl1 wl ml : Addr) (b0 b1 : Int) (bt0 bt1 dt0 dt1 : Tok) (H0 H1 : Nat → Int) (K0 K1 : Nat → Tok) (X0 X1 : Nat → Value) (C : Led) (i : Nat) (m : Str → Option Value) (nx : Led) : Prop :=
  ∃ ii t pl0 pl1 pt0 pt1 qt0 qt1 lv0 lv1 hv0 hv1, nx = (st, stObj D ii t 0) :: (wa0, wObj wr0 wp0 b0 bt0 pl0 pt0 hv0 0) :: (wa1, wObj wr1 wp1 b1 bt1 pl1 pt1 hv1 0) :: (md0, mDict H0 K0 sl0 b0 dt0 lv0 pl0 qt0 X0) :: (md1, mDict H1 K1 sl1 b1 dt1 lv1 pl1 qt1 X1) :: C ∧
    0 ≤ ii ∧ ii ≤ 100 + 3 * (i : Int) ∧ -1 ≤ pl0 ∧ pl0 ≤ 10 + 3 * (i : Int) ∧ -1 ≤ pl1 ∧ pl1 ≤ 10 + 3 * (i : Int) ∧ HeldIs lv0 hv0 ∧ HeldIs lv1 hv1 ∧
    m (Str.ofString "state") = some (.ref st) ∧ m (Str.ofString "worlds") = some (.ref wl) ∧ m (Str.ofString "machines") = some (.ref ml) ∧ m (Str.ofString "same") = some (.bool true)
theorem news_d0 {h : Heap} {h₀ : Heap} {L : Addr} {a1 a2 : Addr × Obj} {l : Led} (N : News h₀ L h (a1 :: a2 :: l)) : News h₀ L h l := news_perm N fun _ hz => .tail _ (.tail _ hz)
structure Joined {α : Type} (V : α → Prop) (s : Shared) (h₀ : Heap) (L : Addr) (m : Str → Option Value) (news : Led) (v : α) (s' : Shared) : Prop where
  out : ∃ h' tk, V v ∧ s' = { s with heap := h', toks := tk } ∧ Fr h₀ L h' m ∧ News h₀ L h' news
theorem join_c {α : Type} {M : Model} {A : Around} {E : Value → Shared → Prop} {s : Shared} {h₀ : Heap} {L : Addr} {m : Str → Option Value} {news : Led} {Q : α → Shared → Prop} {x : Sem α} (V : α → Prop) (_ : Fr h₀ L s.heap m) (_ : News h₀ L s.heap news)
    (h1 : wpAny M A x (Joined V s h₀ L m news) E s)
    (h2 : ∀ v h' tk, V v → Fr h₀ L h' m → News h₀ L h' news → Q v { s with heap := h', toks := tk }) : wpAny M A x Q E s :=
  wpAny_mono h1 (fun v s' h => by
    obtain ⟨h', tk, a, b, c, d⟩ := h.out
    subst b
    exact h2 v h' tk a c d) (fun _ _ h => h)
theorem law_walk : PySem.Challenge.rw_gn5009_01.Holds := hd (by
  w_top off
  w_strict (k_go0; (all_goals try k_fold); k_steps)
  unfold Stop
  rename_i D ws _ hI hC _ _ st _ hDs _ F1 N1
  have hws : ws.length ≤ 63 := by rw [hI.length, hC]; omega
  have hDs' : D ≠ st := Nat.ne_of_lt hDs
  refine world_c (by tb_start) F1 N1 (by k_updF) (.tail _ (.head _)) hDs' hI hws (by decide) (by decide) ?_
  intro wa0 wr0 wp0 nl b0 bt0 pt0 i1 t1 rv0 rs0 nr0 pv0 ps0 np0 tk1 h1 i1a i1b b0a b0b hs0 hx0 n0a n0b hnp0 hpl0 hok0 hwr0 hwp0 o1 o2 o3 F2 N2
  obtain ⟨C1, hC1⟩ : ∃ C1 : Led, C1 = (D, listOf ws.toArray 0) :: nl := ⟨_, rfl⟩
  have hm1 : (D, listOf ws.toArray 0) ∈ C1 := by rw [hC1]; exact .head _
  have hin1 : ∀ z ∈ nl, z ∈ C1 := fun z hz => by rw [hC1]; exact .tail _ hz
  have a1 : ∀ z ∈ C1, z.1 ≠ st := by rw [hC1]; exact ne_cons hDs' (ne_above o1 (.head _))
  have a2 : ∀ z ∈ C1, z.1 ≠ wa0 := by rw [hC1]; exact ne_cons (Nat.ne_of_lt (o3 _ (.tail _ (.head _)))) (ne_below o2)
  have l10 : @LT.lt Nat _ st wa0 := o3 _ (.head _)
  have N3 := news_perm (l' := (wa0, wObj wr0 wp0 b0 bt0 (-1) pt0 .none 0) :: (st, stObj D i1 t1 0) :: C1) N2 (by
    subst hC1
    intro z hz
    simp only [List.mem_cons, List.mem_append, List.not_mem_nil, or_false] at hz ⊢
    rcases hz with hz | hz | hz | hz <;> simp [hz])
  replace hwr0 := hin1 _ hwr0
  replace hwp0 := hin1 _ hwp0
  replace hpl0 := hpl0.mono hin1
  clear N1 F1 N2 o1 o2 o3 hin1
  clear hC1
  (try k_fold)
  k_steps
  unfold Stop
  refine world_c (by tb_start) F2 N3 (by k_updF) (.tail _ (.tail _ hm1)) hDs' hI hws (by omega) (by omega) ?_
  intro wa1 wr1 wp1 nl1 b1 bt1 pt1 i2 t2 rv1 rs1 nr1 pv1 ps1 np1 tk2 h2 i2a i2b b1a b1b hs1 hx1 n1a n1b hnp1 hpl1 hok1 hwr1 hwp1 o1 o2 o3 F4 N4
  obtain ⟨C2, hC2⟩ : ∃ C2 : Led, C2 = nl1 ++ C1 := ⟨_, rfl⟩
  have hin2 : ∀ z ∈ nl1, z ∈ C2 := fun z hz => by rw [hC2]; exact List.mem_append.mpr (.inl hz)
  have hin2' : ∀ z ∈ C1, z ∈ C2 := fun z hz => by rw [hC2]; exact List.mem_append.mpr (.inr hz)
  have c1 : ∀ z ∈ C2, z.1 ≠ st := by rw [hC2]; exact ne_app (ne_above o1 (.tail _ (.head _))) a1
  have c2 : ∀ z ∈ C2, z.1 ≠ wa0 := by rw [hC2]; exact ne_app (ne_above o1 (.head _)) a2
  have c3 : ∀ z ∈ C2, z.1 ≠ wa1 := by rw [hC2]; exact ne_app (ne_below o2) (fun z hz => Nat.ne_of_lt (o3 _ (.tail _ (.tail _ hz))))
  have l21 : @LT.lt Nat _ wa0 wa1 := o3 _ (.head _)
  have l20 : @LT.lt Nat _ st wa1 := o3 _ (.tail _ (.head _))
  have N5 := news_perm (l' := (wa1, wObj wr1 wp1 b1 bt1 (-1) pt1 .none 0) :: (wa0, wObj wr0 wp0 b0 bt0 (-1) pt0 .none 0) :: (st, stObj D i2 t2 0) :: C2) N4 (by
    subst hC2
    intro z hz
    simp only [List.mem_cons, List.mem_append, List.not_mem_nil, or_false] at hz ⊢
    rcases hz with hz | hz | hz | hz | hz <;> simp [hz])
  replace hm1 := hin2' _ hm1
  replace hwr0 := hin2' _ hwr0
  replace hwp0 := hin2' _ hwp0
  replace hpl0 := hpl0.mono hin2'
  replace hwr1 := hin2 _ hwr1
  replace hwp1 := hin2 _ hwp1
  replace hpl1 := hpl1.mono hin2
  clear hDs'
  clear F2 N3 N4 o1 o2 o3 hin2 hin2' a1 a2
  clear hC2
  (try k_fold)
  k_steps
  unfold Stop
  rename_i wl _ lwl _ F5 N6
  obtain ⟨w1, w2, w3, w4⟩ := lwl
  refine machine_c (by tb_start) F5 N6 (.tail _ (.tail _ (.head _))) (.tail _ (.tail _ (.tail _ (.tail _ hwr0)))) (.tail _ (.tail _ (.tail _ (.tail _ hwp0)))) n0a n0b hnp0 ?_
  intro mc0 md0 sl0 sd0 dl0 il0 H0 K0 I0 J0 X0 d0 dt0 qt0 nd0 ni0 tk3 h3 e0 o1 p1 p2 p3 p4 p5 F6 N7
  replace e0 := e0.symm
  subst e0
  have s1 : @LT.lt Nat _ st md0 := o1 _ (.tail _ (.tail _ (.tail _ (.head _))))
  have s2 : @LT.lt Nat _ wa0 md0 := o1 _ (.tail _ (.tail _ (.head _)))
  have s3 : @LT.lt Nat _ wa1 md0 := o1 _ (.tail _ (.head _))
  have s4 : @LT.lt Nat _ wl md0 := o1 _ (.head _)
  obtain ⟨C3, hC3⟩ : ∃ C3 : Led, C3 = (mc0, instObj 172 md0) :: (sl0, instObj 481 sd0) :: (sd0, sDict I0 J0 dl0 il0) :: (dl0, listOf rv0.toArray nd0) :: (il0, listOf pv0.toArray ni0) :: (wl, listOf #[Value.ref wa0, Value.ref wa1] 0) :: C2 := ⟨_, rfl⟩
  have hin3 : ∀ z ∈ C2, z ∈ C3 := fun z hz => by rw [hC3]; exact .tail _ (.tail _ (.tail _ (.tail _ (.tail _ (.tail _ hz)))))
  have big3 : ∀ a : Addr, @LT.lt Nat _ a md0 → @LT.lt Nat _ a wl → (∀ z ∈ C2, z.1 ≠ a) → ∀ z ∈ C3, z.1 ≠ a := by
    intro a ha hb hc
    rw [hC3]
    exact ne_cons (Nat.ne_of_gt (Nat.lt_trans ha p1)) (ne_cons (Nat.ne_of_gt (Nat.lt_trans ha p2)) (ne_cons (Nat.ne_of_gt (Nat.lt_trans ha p3)) (ne_cons (Nat.ne_of_gt (Nat.lt_trans ha p4)) (ne_cons (Nat.ne_of_gt (Nat.lt_trans ha p5)) (ne_cons (Nat.ne_of_gt hb) hc)))))
  have f1 := big3 st s1 w3 c1
  have f2 := big3 wa0 s2 w2 c2
  have f3 := big3 wa1 s3 w1 c3
  have f4 : ∀ z ∈ C3, z.1 ≠ md0 := by
    rw [hC3]
    exact ne_cons (Nat.ne_of_gt p1) (ne_cons (Nat.ne_of_gt p2) (ne_cons (Nat.ne_of_gt p3) (ne_cons (Nat.ne_of_gt p4) (ne_cons (Nat.ne_of_gt p5) (ne_cons (Nat.ne_of_lt s4) (fun z hz => Nat.ne_of_lt (o1 _ (.tail _ (.tail _ (.tail _ (.tail _ hz))))))))))) 
  have N8 := news_perm (l' := (md0, mDict H0 K0 sl0 b0 dt0 .none (-1) qt0 X0) :: (wa1, wObj wr1 wp1 b1 bt1 (-1) pt1 .none 0) :: (wa0, wObj wr0 wp0 b0 bt0 (-1) pt0 .none 0) :: (st, stObj D i2 t2 0) :: C3) N7 (by
    subst hC3
    intro z hz
    simp only [List.mem_cons, List.not_mem_nil, or_false] at hz ⊢
    rcases hz with hz | hz | hz | hz | hz | hz | hz | hz | hz | hz | hz <;> simp [hz])
  replace hm1 := hin3 _ hm1
  replace hwr0 := hin3 _ hwr0
  replace hwp0 := hin3 _ hwp0
  replace hpl0 := hpl0.mono hin3
  replace hwr1 := hin3 _ hwr1
  replace hwp1 := hin3 _ hwp1
  replace hpl1 := hpl1.mono hin3
  have hmc0 : (mc0, instObj 172 md0) ∈ C3 := by rw [hC3]; exact .head _
  have hsl0 : (sl0, instObj 481 sd0) ∈ C3 := by rw [hC3]; exact .tail _ (.head _)
  have hsd0 : (sd0, sDict I0 J0 dl0 il0) ∈ C3 := by rw [hC3]; exact .tail _ (.tail _ (.head _))
  have hdl0 : (dl0, listOf rv0.toArray nd0) ∈ C3 := by rw [hC3]; exact .tail _ (.tail _ (.tail _ (.head _)))
  have hil0 : (il0, listOf pv0.toArray ni0) ∈ C3 := by rw [hC3]; exact .tail _ (.tail _ (.tail _ (.tail _ (.head _))))
  have hwl : (wl, listOf #[Value.ref wa0, Value.ref wa1] 0) ∈ C3 := by rw [hC3]; exact .tail _ (.tail _ (.tail _ (.tail _ (.tail _ (.head _)))))
  have g1 : @LT.lt Nat _ md0 mc0 := p1
  have g2 : @LT.lt Nat _ md0 sl0 := p2
  have g3 : @LT.lt Nat _ md0 sd0 := p3
  have g4 : @LT.lt Nat _ md0 dl0 := p4
  (try clear F4); (try clear N5); (try clear F5); (try clear N6); (try clear N7); (try clear o1); (try clear p1); (try clear p2); (try clear p3); (try clear p4); (try clear p5); (try clear big3); (try clear hin3); (try clear c1); (try clear c2); (try clear c3); (try clear w1); (try clear w2); (try clear w3); (try clear w4); (try clear s4)
  clear hC3
  (try k_fold)
  k_steps
  unfold Stop
  refine machine_c (by tb_start) F6 N8 (.tail _ (.head _)) (.tail _ (.tail _ (.tail _ (.tail _ hwr1)))) (.tail _ (.tail _ (.tail _ (.tail _ hwp1)))) n1a n1b hnp1 ?_
  intro mc1 md1 sl1 sd1 dl1 il1 H1 K1 I1 J1 X1 d1 dt1 qt1 nd1 ni1 tk4 h4 e1 o1 p1 p2 p3 p4 p5 F7 N9
  replace e1 := e1.symm
  subst e1
  have q1 : @LT.lt Nat _ st md1 := o1 _ (.tail _ (.tail _ (.tail _ (.head _))))
  have q2 : @LT.lt Nat _ wa0 md1 := o1 _ (.tail _ (.tail _ (.head _)))
  have q3 : @LT.lt Nat _ wa1 md1 := o1 _ (.tail _ (.head _))
  have q4 : @LT.lt Nat _ md0 md1 := o1 _ (.head _)
  obtain ⟨C4, hC4⟩ : ∃ C4 : Led, C4 = (mc1, instObj 172 md1) :: (sl1, instObj 481 sd1) :: (sd1, sDict I1 J1 dl1 il1) :: (dl1, listOf rv1.toArray nd1) :: (il1, listOf pv1.toArray ni1) :: C3 := ⟨_, rfl⟩
  have hin4 : ∀ z ∈ C3, z ∈ C4 := fun z hz => by rw [hC4]; exact .tail _ (.tail _ (.tail _ (.tail _ (.tail _ hz))))
  have big4 : ∀ a : Addr, @LT.lt Nat _ a md1 → (∀ z ∈ C3, z.1 ≠ a) → ∀ z ∈ C4, z.1 ≠ a := by
    intro a ha hc
    rw [hC4]
    exact ne_cons (Nat.ne_of_gt (Nat.lt_trans ha p1)) (ne_cons (Nat.ne_of_gt (Nat.lt_trans ha p2)) (ne_cons (Nat.ne_of_gt (Nat.lt_trans ha p3)) (ne_cons (Nat.ne_of_gt (Nat.lt_trans ha p4)) (ne_cons (Nat.ne_of_gt (Nat.lt_trans ha p5)) hc))))
  replace f1 := big4 st q1 f1
  replace f2 := big4 wa0 q2 f2
  replace f3 := big4 wa1 q3 f3
  replace f4 := big4 md0 q4 f4
  have f5 : ∀ z ∈ C4, z.1 ≠ md1 := by
    rw [hC4]
    exact ne_cons (Nat.ne_of_gt p1) (ne_cons (Nat.ne_of_gt p2) (ne_cons (Nat.ne_of_gt p3) (ne_cons (Nat.ne_of_gt p4) (ne_cons (Nat.ne_of_gt p5) (fun z hz => Nat.ne_of_lt (o1 _ (.tail _ (.tail _ (.tail _ (.tail _ hz)))))))))) 
  have N10 := news_perm (l' := (md1, mDict H1 K1 sl1 b1 dt1 .none (-1) qt1 X1) :: (md0, mDict H0 K0 sl0 b0 dt0 .none (-1) qt0 X0) :: (wa1, wObj wr1 wp1 b1 bt1 (-1) pt1 .none 0) :: (wa0, wObj wr0 wp0 b0 bt0 (-1) pt0 .none 0) :: (st, stObj D i2 t2 0) :: C4) N9 (by
    subst hC4
    intro z hz
    simp only [List.mem_cons, List.not_mem_nil, or_false] at hz ⊢
    rcases hz with hz | hz | hz | hz | hz | hz | hz | hz | hz | hz | hz <;> simp [hz])
  replace hm1 := hin4 _ hm1
  replace hwr0 := hin4 _ hwr0
  replace hwp0 := hin4 _ hwp0
  replace hpl0 := hpl0.mono hin4
  replace hwr1 := hin4 _ hwr1
  replace hwp1 := hin4 _ hwp1
  replace hpl1 := hpl1.mono hin4
  replace hmc0 := hin4 _ hmc0
  replace hsl0 := hin4 _ hsl0
  replace hsd0 := hin4 _ hsd0
  replace hdl0 := hin4 _ hdl0
  replace hil0 := hin4 _ hil0
  replace hwl := hin4 _ hwl
  have hmc1 : (mc1, instObj 172 md1) ∈ C4 := by rw [hC4]; exact .head _
  have hsl1 : (sl1, instObj 481 sd1) ∈ C4 := by rw [hC4]; exact .tail _ (.head _)
  have hsd1 : (sd1, sDict I1 J1 dl1 il1) ∈ C4 := by rw [hC4]; exact .tail _ (.tail _ (.head _))
  have hdl1 : (dl1, listOf rv1.toArray nd1) ∈ C4 := by rw [hC4]; exact .tail _ (.tail _ (.tail _ (.head _)))
  have hil1 : (il1, listOf pv1.toArray ni1) ∈ C4 := by rw [hC4]; exact .tail _ (.tail _ (.tail _ (.tail _ (.head _))))
  have g5 : @LT.lt Nat _ md1 mc1 := p1
  have g6 : @LT.lt Nat _ md1 sl1 := p2
  have g7 : @LT.lt Nat _ md1 sd1 := p3
  have g8 : @LT.lt Nat _ md1 dl1 := p4
  (try clear F6); (try clear N8); (try clear N9); (try clear o1); (try clear p1); (try clear p2); (try clear p3); (try clear p4); (try clear p5); (try clear big4); (try clear hin4)
  clear hC4
  (try k_fold)
  k_steps
  unfold Stop
  rename_i ml _ lml _ F8 N11
  obtain ⟨y1, y2, y3, y4, y5, y6⟩ := lml
  refine' same_c ?G F8 N11 (.tail _ (.tail _ (.head _))) (.tail _ (.tail _ (.tail _ (.tail _ (.head _))))) (.tail _ (.tail _ (.tail _ (.tail _ (.tail _ (.tail _ hwr0)))))) (.tail _ (.tail _ (.tail _ (.tail _ (.tail _ (.tail _ hmc0)))))) (.tail _ (.tail _ (.tail _ (.tail _ (.tail _ (.tail _ hsl0)))))) (.tail _ (.tail _ (.tail _ (.tail _ (.tail _ (.tail _ hsd0)))))) (.tail _ (.tail _ (.tail _ (.tail _ (.tail _ (.tail _ hdl0)))))) hs0 hx0 n0a n0b b0a b0b (by decide) (by decide) HeldIs.none ?_
  case G => refine' GndX.mk ?b1 ?b2 ?b3; (case b1 => tb_start); (case b2 => assumption); (case b3 => assumption)
  intro tk5 h5 F9 N12
  clear F8 N11
  (try k_fold)
  k_steps
  unfold Stop
  refine' same_c ?G F9 N12 (.tail _ (.head _)) (.tail _ (.tail _ (.tail _ (.head _)))) (.tail _ (.tail _ (.tail _ (.tail _ (.tail _ (.tail _ (hwr1))))))) (.tail _ (.tail _ (.tail _ (.tail _ (.tail _ (.tail _ (hmc1))))))) (.tail _ (.tail _ (.tail _ (.tail _ (.tail _ (.tail _ (hsl1))))))) (.tail _ (.tail _ (.tail _ (.tail _ (.tail _ (.tail _ (hsd1))))))) (.tail _ (.tail _ (.tail _ (.tail _ (.tail _ (.tail _ (hdl1))))))) hs1 hx1 n1a n1b b1a b1b (by decide) (by decide) HeldIs.none ?_
  case G => refine' GndX.mk ?b1 ?b2 ?b3; (case b1 => tb_start); (case b2 => assumption); (case b3 => assumption)
  intro tk6 h6 F10 N13
  clear F9 N12
  have y7 := lt_of_all y6
  obtain ⟨C5, hC5⟩ : ∃ C5 : Led, C5 = (ml, listOf #[Value.ref mc0, Value.ref mc1] 0) :: C4 := ⟨_, rfl⟩
  have hin5 : ∀ z ∈ C4, z ∈ C5 := fun z hz => by rw [hC5]; exact .tail _ hz
  replace f1 : ∀ z ∈ C5, z.1 ≠ st := by rw [hC5]; exact ne_cons (Nat.ne_of_gt y5) f1
  replace f2 : ∀ z ∈ C5, z.1 ≠ wa0 := by rw [hC5]; exact ne_cons (Nat.ne_of_gt y4) f2
  replace f3 : ∀ z ∈ C5, z.1 ≠ wa1 := by rw [hC5]; exact ne_cons (Nat.ne_of_gt y3) f3
  replace f4 : ∀ z ∈ C5, z.1 ≠ md0 := by rw [hC5]; exact ne_cons (Nat.ne_of_gt y2) f4
  replace f5 : ∀ z ∈ C5, z.1 ≠ md1 := by rw [hC5]; exact ne_cons (Nat.ne_of_gt y1) f5
  have N14 := news_perm (l' := (st, stObj D i2 t2 0) :: (wa0, wObj wr0 wp0 b0 bt0 (-1) pt0 .none 0) :: (wa1, wObj wr1 wp1 b1 bt1 (-1) pt1 .none 0) :: (md0, mDict H0 K0 sl0 b0 dt0 .none (-1) qt0 X0) :: (md1, mDict H1 K1 sl1 b1 dt1 .none (-1) qt1 X1) :: C5) N13 (by
    subst hC5
    intro z hz
    simp only [List.mem_cons] at hz ⊢
    rcases hz with hz | hz | hz | hz | hz | hz | hz <;> simp [hz])
  replace hm1 := hin5 _ hm1
  replace hwr0 := hin5 _ hwr0
  replace hwp0 := hin5 _ hwp0
  replace hpl0 := hpl0.mono hin5
  replace hwr1 := hin5 _ hwr1
  replace hwp1 := hin5 _ hwp1
  replace hpl1 := hpl1.mono hin5
  replace hmc0 := hin5 _ hmc0
  replace hsl0 := hin5 _ hsl0
  replace hsd0 := hin5 _ hsd0
  replace hdl0 := hin5 _ hdl0
  replace hil0 := hin5 _ hil0
  replace hwl := hin5 _ hwl
  replace hmc1 := hin5 _ hmc1
  replace hsl1 := hin5 _ hsl1
  replace hsd1 := hin5 _ hsd1
  replace hdl1 := hin5 _ hdl1
  replace hil1 := hin5 _ hil1
  have hml : (ml, listOf #[Value.ref mc0, Value.ref mc1] 0) ∈ C5 := by rw [hC5]; exact .head _
  clear N13 hin5
  clear hC5
  (try clear y1); (try clear y2); (try clear y3); (try clear y4); (try clear y5); (try clear y6); (try clear y7)
  (try k_fold)
  k_steps
  unfold Stop
  rename_i F11 N15
  refine' next_c ?G F11 N15 ?U (.tail _ (.tail _ (.tail _ (.tail _ (.tail _ hm1))))) (Nat.ne_of_lt hDs) hI hws ?h0 ?h1 ?l0 ?l1 ?_
  case G => tb_start
  case U => exact .head (ne_cons (Nat.ne_of_gt l10) (ne_cons (Nat.ne_of_gt l20) (ne_cons (Nat.ne_of_gt s1) (ne_cons (Nat.ne_of_gt q1) f1))))
  case h0 => omega
  case h1 => omega
  case l0 => decide
  case l1 => decide
  intro v3 t3 u3 tk7 h7 v3a v3b F12 N16
  (try dsimp only at N16)
  clear F11 N15
  (try k_fold)
  k_steps
  unfold Stop
  rename_i rg F13 N17 kp
  refine range_inv (n := (6 + v3 - 0).toNat) (LJ st wa0 wa1 md0 md1 D wr0 wp0 wr1 wp1 sl0 sl1 wl ml b0 b1 bt0 bt1 dt0 dt1 H0 H1 K0 K1 X0 X1 C5) rfl rg (small_one (by omega) (by omega) (by omega) (by omega)) (rangeSize_nat _ _) F13 N17 ?_ ?_ ?_
  · exact ⟨i2 + 1, t3, -1, -1, pt0, pt1, qt0, qt1, .none, .none, .none, .none, rfl, by omega, by omega, by decide, by decide, by decide, by decide, .none, .none, rfl, rfl, rfl, rfl⟩
  · rintro i k tk8 m₁ nx h tk9 own hin hoff ⟨ii, t, pl0, pl1, pu0, pu1, qu0, qu1, lv0, lv1, hv0, hv1, rfl, j0, j1, j2, j3, j4, j5, k1, k2, e1, e2, e3, e4⟩ F14 N18
    have em : m₁ = kstB m₁ [(Str.ofString "state", .ref st), (Str.ofString "worlds", .ref wl), (Str.ofString "machines", .ref ml), (Str.ofString "same", .bool true)] := funext fun z => (kstB_eq (by
      intro q hq
      simp only [List.mem_cons, List.not_mem_nil, or_false] at hq
      rcases hq with rfl | rfl | rfl | rfl <;> assumption) (fun _ => rfl)).symm
    rw [em] at F14
    obtain ⟨R, hR⟩ : ∃ R, R = C5 ++ own := ⟨_, rfl⟩
    have hinR : ∀ z ∈ C5, z ∈ R := fun z hz => by rw [hR]; exact List.mem_append.mpr (.inl hz)
    have r1 : ∀ z ∈ R, z.1 ≠ st := by rw [hR]; exact ne_app f1 (off_of hoff (.head _))
    have r2 : ∀ z ∈ R, z.1 ≠ wa0 := by rw [hR]; exact ne_app f2 (off_of hoff (.tail _ (.head _)))
    have r3 : ∀ z ∈ R, z.1 ≠ wa1 := by rw [hR]; exact ne_app f3 (off_of hoff (.tail _ (.tail _ (.head _))))
    have r4 : ∀ z ∈ R, z.1 ≠ md0 := by rw [hR]; exact ne_app f4 (off_of hoff (.tail _ (.tail _ (.tail _ (.head _)))))
    have r5 : ∀ z ∈ R, z.1 ≠ md1 := by rw [hR]; exact ne_app f5 (off_of hoff (.tail _ (.tail _ (.tail _ (.tail _ (.head _))))))
    have N19 := news_perm (l' := (st, stObj D ii t 0) :: (wa0, wObj wr0 wp0 b0 bt0 pl0 pu0 hv0 0) :: (wa1, wObj wr1 wp1 b1 bt1 pl1 pu1 hv1 0) :: (md0, mDict H0 K0 sl0 b0 dt0 lv0 pl0 qu0 X0) :: (md1, mDict H1 K1 sl1 b1 dt1 lv1 pl1 qu1 X1) :: R) N18 (fun z hz => by
      rw [hR] at hz
      simpa using hz)
    replace hm1 := hinR _ hm1
    replace hwr0 := hinR _ hwr0
    replace hwp0 := hinR _ hwp0
    replace hwr1 := hinR _ hwr1
    replace hwp1 := hinR _ hwp1
    replace hmc0 := hinR _ hmc0
    replace hsl0 := hinR _ hsl0
    replace hsd0 := hinR _ hsd0
    replace hdl0 := hinR _ hdl0
    replace hil0 := hinR _ hil0
    replace hwl := hinR _ hwl
    replace hml := hinR _ hml
    replace hmc1 := hinR _ hmc1
    replace hsl1 := hinR _ hsl1
    replace hsd1 := hinR _ hsd1
    replace hdl1 := hinR _ hdl1
    replace hil1 := hinR _ hil1
    replace hpl0 := hpl0.mono hinR
    replace hpl1 := hpl1.mono hinR
    clear N18 N17 F13 rg kp
    (try k_fold)
    k_steps
    unfold Stop
    refine' next_c ?G F14 N19 ?U (.tail _ (.tail _ (.tail _ (.tail _ (.tail _ hm1))))) (Nat.ne_of_lt hDs) hI hws ?h0 ?h1 ?l0 ?l1 ?_
    case G => tb_start
    case U => exact .head (ne_cons (Nat.ne_of_gt l10) (ne_cons (Nat.ne_of_gt l20) (ne_cons (Nat.ne_of_gt s1) (ne_cons (Nat.ne_of_gt q1) r1))))
    case h0 => omega
    case h1 => omega
    case l0 => decide
    case l1 => decide
    intro v4 t4 u4 tk10 h8 v4a v4b F15 N20
    (try dsimp only at N20)
    clear F14 N19
    (try k_fold)
    k_steps
    unfold Stop
    rename_i F16 N21
    have pick : v4.fmod 2 = 0 ∨ v4.fmod 2 = 1 := by
      have a := fmod_lo v4 (show (0 : Int) < 2 by decide)
      have b := fmod_hi v4 (show (0 : Int) < 2 by decide)
      omega
    have d0 : 0 ≤ (v4.fdiv 2).fmod 3 := fmod_lo _ (by decide)
    have d1 : (v4.fdiv 2).fmod 3 < 3 := fmod_hi _ (by decide)
    have w6 : 0 ≤ v4.fdiv 6 ∧ v4.fdiv 6 < 100 := by
      rw [Int.fdiv_eq_ediv_of_nonneg v4 (by decide)]
      omega
    rcases pick with pk | pk
    · refine' rl_item (k := v4.fmod 2) N21 (.tail _ (.tail _ (.tail _ (.tail _ (.tail _ (hwl)))))) (by rw [pk]; rfl) (by omega) (by omega) ?_ (by with_unfolding_all rfl)
      (try k_fold)
      k_steps
      unfold Stop
      rename_i F17 N22
      refine' rl_item (k := v4.fmod 2) N22 (.tail _ (.tail _ (.tail _ (.tail _ (.tail _ (hml)))))) (by rw [pk]; rfl) (by omega) (by omega) ?_ (by with_unfolding_all rfl)
      (try k_fold)
      k_steps
      unfold Stop
      rename_i F18 N23
      refine' amount_c ?G F18 N23 (.tail _ (.head _)) (.tail _ (.tail _ (.tail _ (.tail _ (.tail _ (hwr0)))))) n0b b0a b0b ?p0 ?p1 d0 d1 w6.1 w6.2 ?_
      case G => tb_start
      case p0 => omega
      case p1 => omega
      intro va ta tka ha am F19 N24
      clear F18 N23
      (try k_fold)
      k_steps
      unfold Stop
      rename_i F20 N25
      refine' step_c ?G F20 N25 ?U (Nat.ne_of_gt g1) (Nat.ne_of_gt g2) (Nat.ne_of_gt g3) (Nat.ne_of_gt g4) (.tail _ (.tail _ (.tail _ (.tail _ (.tail _ (hmc0)))))) (.tail _ (.tail _ (.tail _ (.tail _ (.tail _ (hsl0)))))) (.tail _ (.tail _ (.tail _ (.tail _ (.tail _ (hsd0)))))) (.tail _ (.tail _ (.tail _ (.tail _ (.tail _ (hdl0)))))) hs0 n0a n0b b0a b0b ?p0 ?p1 d0 d1 am ?_
      case G => refine' GndX.mk ?b1 ?b2 ?b3; (case b1 => tb_start); (case b2 => assumption); (case b3 => assumption)
      case U => exact .tail (Nat.ne_of_lt s1) (.tail (Nat.ne_of_lt s2) (.tail (Nat.ne_of_lt s3) (.head (ne_cons (Nat.ne_of_gt q4) r4))))
      case p0 => omega
      case p1 => omega
      intro ra lva qua tkb hb F21 N26 wa'
      (try dsimp only at N26)
      clear F20 N25
      (try k_fold)
      k_steps
      unfold Stop
      refine' moved_c ?G F21 N26 ?U ?hne (.tail _ (.tail _ (.tail _ (.tail _ (.tail _ (hwr0)))))) hs0 n0a n0b b0a b0b ?p0 ?p1 d0 d1 am ?_
      case G => tb_start
      case U => exact .tail (Nat.ne_of_lt l10) (.head (ne_cons (Nat.ne_of_gt l21) (ne_cons (Nat.ne_of_gt s2) (ne_cons (Nat.ne_of_gt q2) r2))))
      case hne => exact r2 _ hwr0
      case p0 => omega
      case p1 => omega
      intro rb hva pva tkc hc F22 N27 wb'
      (try dsimp only at N27)
      clear F21 N26
      (try k_fold)
      k_steps
      refine went_ne wa' wb' fun hld => ?_
      obtain ⟨np0', np1'⟩ := newPl_bd am d0 d1 j2
      (try k_fold)
      k_steps
      unfold Stop
      have np2 : newPl ((v4.fdiv 2).fmod 3) pl0 b0 va ≤ 13 + 3 * (i : Int) := by omega
      clear np1' wa' wb'
      generalize newPl ((v4.fdiv 2).fmod 3) pl0 b0 va = pn at np0' np2 N27
      refine' same_c ?G F22 N27 (.tail _ (.tail _ (.tail _ (.head _)))) (.tail _ (.head _)) (.tail _ (.tail _ (.tail _ (.tail _ (.tail _ (hwr0)))))) (.tail _ (.tail _ (.tail _ (.tail _ (.tail _ (hmc0)))))) (.tail _ (.tail _ (.tail _ (.tail _ (.tail _ (hsl0)))))) (.tail _ (.tail _ (.tail _ (.tail _ (.tail _ (hsd0)))))) (.tail _ (.tail _ (.tail _ (.tail _ (.tail _ (hdl0)))))) hs0 hx0 n0a n0b b0a b0b ?p0 ?p1 hld ?_
      case G => refine' GndX.mk ?b1 ?b2 ?b3; (case b1 => tb_start); (case b2 => assumption); (case b3 => assumption)
      case p0 => omega
      case p1 => omega
      intro tkd0 hd0 F23 N28
      clear F22 N27
      (try k_fold)
      k_steps
      unfold Stop
      refine' same_c ?G F23 N28 (.tail _ (.tail _ (.tail _ (.tail _ (.head _))))) (.tail _ (.tail _ (.head _))) (.tail _ (.tail _ (.tail _ (.tail _ (.tail _ (hwr1)))))) (.tail _ (.tail _ (.tail _ (.tail _ (.tail _ (hmc1)))))) (.tail _ (.tail _ (.tail _ (.tail _ (.tail _ (hsl1)))))) (.tail _ (.tail _ (.tail _ (.tail _ (.tail _ (hsd1)))))) (.tail _ (.tail _ (.tail _ (.tail _ (.tail _ (hdl1)))))) hs1 hx1 n1a n1b b1a b1b ?p0 ?p1 k2 ?_
      case G => refine' GndX.mk ?b1 ?b2 ?b3; (case b1 => tb_start); (case b2 => assumption); (case b3 => assumption)
      case p0 => omega
      case p1 => omega
      intro tkd1 hd1 F24 N29
      clear F23 N28
      (try k_fold)
      k_steps
      unfold Stop
      rename_i F30 N30
      refine' next_c ?G F30 N30 ?U (.tail _ (.tail _ (.tail _ (.tail _ (.tail _ (hm1)))))) (Nat.ne_of_lt hDs) hI hws ?h0 ?h1 ?l0 ?l1 ?_
      case G => tb_start
      case U => exact .head (ne_cons (Nat.ne_of_gt l10) (ne_cons (Nat.ne_of_gt l20) (ne_cons (Nat.ne_of_gt s1) (ne_cons (Nat.ne_of_gt q1) r1))))
      case h0 => omega
      case h1 => omega
      case l0 => omega
      case l1 => omega
      intro v5 t5 u5 tkn hn v5a v5b F31 N31
      (try dsimp only at N31)
      clear F30 N30
      (try k_fold)
      k_steps
      unfold Stop
      rename_i F32 N32
      refine join_c (V := fun v => ∃ off t, v = .int off t ∧ (off = v5 ∧ v5 < (rv0.length : Nat) + 2 ∨ off = -((rv0.length : Nat) : Int) - 1)) F32 N32 ?j1 ?j2
      case j1 =>
        (try k_fold)
        with_reducible refine IfExp_ ?_
        k_steps
        · exact Joined.mk ⟨_, _, ⟨_, _, rfl, .inl ⟨rfl, by omega⟩⟩, rfl, by k_asm, by k_asm⟩
        · exact Joined.mk ⟨_, _, ⟨_, _, rfl, .inr rfl⟩, rfl, by k_asm, by k_asm⟩
      rintro _ hj1 tkj1 ⟨off, toff, rfl, hoff1⟩ F33 N33
      clear F32 N32
      (try k_fold)
      k_steps
      unfold Stop
      rename_i F34 N34
      have hps := hpl0.length.trans hnp0
      have hpl0' := hpl0.mono (news' := (st, stObj D (ii + 1 + 1) t5 0) :: (wa0, wObj wr0 wp0 b0 bt0 pn pva hva 0) :: (wa1, wObj wr1 wp1 b1 bt1 pl1 pu1 hv1 0) :: (md0, mDict H0 K0 sl0 b0 dt0 lva pn qua X0) :: (md1, mDict H1 K1 sl1 b1 dt1 lv1 pl1 qu1 X1) :: R) (fun z hz => .tail _ (.tail _ (.tail _ (.tail _ (.tail _ (hz))))))
      refine' gsl_c ?G F34 N34 (.tail _ (.tail _ (.tail _ (.head _)))) (.tail _ (.tail _ (.tail _ (.tail _ (.tail _ (hmc0)))))) (.tail _ (.tail _ (.tail _ (.tail _ (.tail _ (hsl0)))))) (.tail _ (.tail _ (.tail _ (.tail _ (.tail _ (hsd0)))))) (.tail _ (.tail _ (.tail _ (.tail _ (.tail _ (hdl0)))))) (.tail _ (.tail _ (.tail _ (.tail _ (.tail _ (hil0)))))) hpl0' n0a n0b hnp0 b0a b0b ?o0 ?o1 ?o2 ?_
      case G => refine' GndX.mk ?b1 ?b2 ?b3; (case b1 => tb_start); (case b2 => assumption); (case b3 => assumption)
      case o0 => omega
      case o1 => omega
      case o2 => omega
      intro r1' v11 v12 nn1 tkg hg1 F35 N35 sd1'
      clear F34 N34
      (try dsimp only at N35)
      (try k_fold)
      k_steps
      unfold Stop
      refine' where_c ?G F35 N35 (.tail _ (.tail _ (.tail _ (.tail _ (.tail _ (.tail _ (hwp0))))))) ?pl ?n0 ?n1 ?o0 ?o1 ?_
      case G => tb_start
      case pl => exact hpl0'.mono (fun z hz => .tail _ hz)
      case n0 => omega
      case n1 => omega
      case o0 => omega
      case o1 => omega
      intro r2' v21 v22 nn2 tkw hw1 F36 N36 lt2' sd2'
      clear F35 N35 lt2'
      
      (try k_fold)
      k_steps
      unfold Stop
      refine' said_ne N36 (.tail _ (.head _)) (.head _) sd1' sd2' ?eqx hok0 ?ux ?_
      case eqx => omega
      case ux => first | (show (0 : Nat) + 64 < cLine; decide) | tb_rel
      replace N36 := news_d0 N36
      clear sd1' sd2'
      (try k_fold)
      k_steps
      unfold Stop
      refine join_c (V := fun b : Bool => b = false) F36 N36 ?j3 ?j4
      case j3 =>
        have X36 := Frag.In.keeps (by with_reducible assumption) (Fr.keep F36)
        by_cases hp0 : 0 ≤ pn
        all_goals (try k_fold)
        all_goals with_reducible refine isTrue_and ?_
        rotate_left 1
        · k_steps
          all_goals exact Joined.mk ⟨_, _, rfl, rfl, by k_asm, by k_asm⟩
        k_steps
        unfold Stop
        refine' gsl0_c ?G F36 N36 (.tail _ (.tail _ (.tail _ (.head _)))) (.tail _ (.tail _ (.tail _ (.tail _ (.tail _ (hmc0)))))) (.tail _ (.tail _ (.tail _ (.tail _ (.tail _ (hsl0)))))) (.tail _ (.tail _ (.tail _ (.tail _ (.tail _ (hsd0)))))) (.tail _ (.tail _ (.tail _ (.tail _ (.tail _ (hdl0)))))) (.tail _ (.tail _ (.tail _ (.tail _ (.tail _ (hil0)))))) hpl0' n0a n0b hnp0 b0a b0b ?o0 ?o2 ?_
        case G => refine' GndX.mk ?b1 ?b2 ?b3; (case b1 => tb_start); (case b2 => assumption); (case b3 => assumption)
        case o0 => omega
        case o2 => omega
        intro r1' v11 v12 nn1 tkg hg1 F35 N35 sd1'
        clear F36 N36
        (try k_fold)
        k_steps
        unfold Stop
        refine' where_c ?G F35 N35 (.tail _ (.tail _ (.tail _ (.tail _ (.tail _ (.tail _ (hwp0))))))) ?pl ?n0 ?n1 ?o0 ?o1 ?_
        case G => tb_start
        case pl => exact hpl0'.mono (fun z hz => .tail _ hz)
        case n0 => omega
        case n1 => omega
        case o0 => omega
        case o1 => omega
        intro r2' v21 v22 nn2 tkw hw1 F36 N36 lt2' sd2'
        clear F35 N35 lt2'
        (try k_fold)
        k_steps
        unfold Stop
        refine' said_ne N36 (.tail _ (.head _)) (.head _) sd1' sd2' ?eqx hok0 ?ux ?_
        case eqx => omega
        case ux => first | (show (0 : Nat) + 64 < cLine; decide) | tb_rel
        replace N36 := news_d0 N36
        clear sd1' sd2'
        (try k_fold)
        k_steps
        all_goals exact Joined.mk ⟨_, _, rfl, rfl, by k_asm, by k_asm⟩
      rintro _ hj2 tkj2 rfl F37 N37
      clear F36 N36
      (try k_fold)
      k_steps
      unfold Stop
      refine' file_c ?G F37 N37 (.tail _ (.tail _ (.tail _ (.head _)))) (.tail _ (.tail _ (.tail _ (.tail _ (.tail _ (hmc0)))))) (.tail _ (.tail _ (.tail _ (.tail _ (.tail _ (hsl0)))))) (.tail _ (.tail _ (.tail _ (.tail _ (.tail _ (hsd0)))))) (.tail _ (.tail _ (.tail _ (.tail _ (.tail _ (hdl0)))))) (.tail _ (.tail _ (.tail _ (.tail _ (.tail _ (hil0)))))) hpl0' n0a n0b hnp0 b0a b0b ?o0 ?o1 ?_
      case G => refine' GndX.mk ?b1 ?b2 ?b3; (case b1 => tb_start); (case b2 => assumption); (case b3 => assumption)
      case o0 => omega
      case o1 => omega
      intro fx tf tkf hf af cf F38 N38
      clear F37 N37
      (try k_fold)
      k_steps
      unfold Stop
      refine join_c (V := fun v => ∃ t, v = .str fx t) F38 N38 ?j5 ?j6
      case j5 =>
        have X38 := Frag.In.keeps (by with_reducible assumption) (Fr.keep F38)
        by_cases hv5 : v5 ≤ (rv0.length : Nat)
        rotate_left 1
        · have hfx := cf (by omega)
          subst hfx
          (try k_fold)
          with_reducible refine IfExp_ ?_
          k_steps
          all_goals exact Joined.mk ⟨_, _, ⟨_, rfl⟩, rfl, by k_asm, by k_asm⟩
        (try k_fold)
        with_reducible refine IfExp_ ?_
        k_steps
        unfold Stop
        rename_i Fy Ny
        refine' item_pl Ny (.tail _ (.tail _ (.tail _ (.tail _ (.tail _ (hwp0)))))) hpl0' ?h0 ?h1 ?hf ?_ (by with_unfolding_all rfl)
        case h0 => split <;> omega
        case h1 => split <;> omega
        case hf => split <;> omega
        intro rx gx ox tx1 tx2 nx ex1 ex2
        have hfx : fx = gx := file_eq hps af ex1 (by omega) hv5
        subst hfx
        (try k_fold)
        k_steps
        all_goals exact Joined.mk ⟨_, _, ⟨_, rfl⟩, rfl, by k_asm, by k_asm⟩
      rintro _ hj6 tkj6 ⟨tg, rfl⟩ F39 N39
      clear F38 N38
      (try k_fold)
      k_steps
      refine InvEndG.intro (nx := (st, stObj D (ii + 1 + 1) t5 0) :: (wa0, wObj wr0 wp0 b0 bt0 pn pva hva 0) :: (wa1, wObj wr1 wp1 b1 bt1 pl1 pu1 hv1 0) :: (md0, mDict H0 K0 sl0 b0 dt0 lva pn qua X0) :: (md1, mDict H1 K1 sl1 b1 dt1 lv1 pl1 qu1 X1) :: C5) F39 N39 ?_ ?_ ?_ ?_
      · exact ⟨ii + 1 + 1, t5, pn, pl1, pva, pu1, qua, qu1, lva, lv1, hva, hv1, rfl, by omega, by push_cast; omega, np0', by push_cast; omega, j4, by push_cast; omega, hld, k2, by with_unfolding_all rfl, by with_unfolding_all rfl, by with_unfolding_all rfl, by with_unfolding_all rfl⟩
      · exact hoff
      · intro z hz
        rcases List.mem_cons.mp hz with rfl | hz
        · exact .head _
        rcases List.mem_cons.mp hz with rfl | hz
        · exact .tail _ (.head _)
        rcases List.mem_cons.mp hz with rfl | hz
        · exact .tail _ (.tail _ (.head _))
        rcases List.mem_cons.mp hz with rfl | hz
        · exact .tail _ (.tail _ (.tail _ (.head _)))
        rcases List.mem_cons.mp hz with rfl | hz
        · exact .tail _ (.tail _ (.tail _ (.tail _ (.head _))))
        exact .tail _ (.tail _ (.tail _ (.tail _ (.tail _ (hinR _ hz)))))
      · intro z hz
        exact .tail _ (.tail _ (.tail _ (.tail _ (.tail _ (by rw [hR]; exact List.mem_append.mpr (.inr hz))))))
    · refine' rl_item (k := v4.fmod 2) N21 (.tail _ (.tail _ (.tail _ (.tail _ (.tail _ (hwl)))))) (by rw [pk]; rfl) (by omega) (by omega) ?_ (by with_unfolding_all rfl)
      (try k_fold)
      k_steps
      unfold Stop
      rename_i F17 N22
      refine' rl_item (k := v4.fmod 2) N22 (.tail _ (.tail _ (.tail _ (.tail _ (.tail _ (hml)))))) (by rw [pk]; rfl) (by omega) (by omega) ?_ (by with_unfolding_all rfl)
      (try k_fold)
      k_steps
      unfold Stop
      rename_i F18 N23
      refine' amount_c ?Gq F18 N23 (.tail _ (.tail _ (.head _))) (.tail _ (.tail _ (.tail _ (.tail _ (.tail _ (hwr1)))))) n1b b1a b1b ?p0q ?p1q d0 d1 w6.1 w6.2 ?_
      case Gq => tb_start
      case p0q => omega
      case p1q => omega
      intro va ta tka ha am F19 N24
      clear F18 N23
      (try k_fold)
      k_steps
      unfold Stop
      rename_i F20 N25
      refine' step_c ?Gq F20 N25 ?Uq (Nat.ne_of_gt g5) (Nat.ne_of_gt g6) (Nat.ne_of_gt g7) (Nat.ne_of_gt g8) (.tail _ (.tail _ (.tail _ (.tail _ (.tail _ (hmc1)))))) (.tail _ (.tail _ (.tail _ (.tail _ (.tail _ (hsl1)))))) (.tail _ (.tail _ (.tail _ (.tail _ (.tail _ (hsd1)))))) (.tail _ (.tail _ (.tail _ (.tail _ (.tail _ (hdl1)))))) hs1 n1a n1b b1a b1b ?p0q ?p1q d0 d1 am ?_
      case Gq => refine' GndX.mk ?b1q ?b2q ?b3q; (case b1q => tb_start); (case b2q => assumption); (case b3q => assumption)
      case Uq => exact .tail (Nat.ne_of_lt q1) (.tail (Nat.ne_of_lt q2) (.tail (Nat.ne_of_lt q3) (.tail (Nat.ne_of_lt q4) (.head r5))))
      case p0q => omega
      case p1q => omega
      intro ra lva qua tkb hb F21 N26 wa'
      (try dsimp only at N26)
      clear F20 N25
      (try k_fold)
      k_steps
      unfold Stop
      refine' moved_c ?Gq F21 N26 ?Uq ?hneq (.tail _ (.tail _ (.tail _ (.tail _ (.tail _ (hwr1)))))) hs1 n1a n1b b1a b1b ?p0q ?p1q d0 d1 am ?_
      case Gq => tb_start
      case Uq => exact .tail (Nat.ne_of_lt l20) (.tail (Nat.ne_of_lt l21) (.head (ne_cons (Nat.ne_of_gt s3) (ne_cons (Nat.ne_of_gt q3) r3))))
      case hneq => exact r3 _ hwr1
      case p0q => omega
      case p1q => omega
      intro rb hva pva tkc hc F22 N27 wb'
      (try dsimp only at N27)
      clear F21 N26
      (try k_fold)
      k_steps
      refine went_ne wa' wb' fun hld => ?_
      obtain ⟨np0', np1'⟩ := newPl_bd am d0 d1 j4
      (try k_fold)
      k_steps
      unfold Stop
      have np2 : newPl ((v4.fdiv 2).fmod 3) pl1 b1 va ≤ 13 + 3 * (i : Int) := by omega
      clear np1' wa' wb'
      generalize newPl ((v4.fdiv 2).fmod 3) pl1 b1 va = pn at np0' np2 N27
      refine' same_c ?Gq F22 N27 (.tail _ (.tail _ (.tail _ (.head _)))) (.tail _ (.head _)) (.tail _ (.tail _ (.tail _ (.tail _ (.tail _ (hwr0)))))) (.tail _ (.tail _ (.tail _ (.tail _ (.tail _ (hmc0)))))) (.tail _ (.tail _ (.tail _ (.tail _ (.tail _ (hsl0)))))) (.tail _ (.tail _ (.tail _ (.tail _ (.tail _ (hsd0)))))) (.tail _ (.tail _ (.tail _ (.tail _ (.tail _ (hdl0)))))) hs0 hx0 n0a n0b b0a b0b ?p0q ?p1q k1 ?_
      case Gq => refine' GndX.mk ?b1q ?b2q ?b3q; (case b1q => tb_start); (case b2q => assumption); (case b3q => assumption)
      case p0q => omega
      case p1q => omega
      intro tkd0 hd0 F23 N28
      clear F22 N27
      (try k_fold)
      k_steps
      unfold Stop
      refine' same_c ?Gq F23 N28 (.tail _ (.tail _ (.tail _ (.tail _ (.head _))))) (.tail _ (.tail _ (.head _))) (.tail _ (.tail _ (.tail _ (.tail _ (.tail _ (hwr1)))))) (.tail _ (.tail _ (.tail _ (.tail _ (.tail _ (hmc1)))))) (.tail _ (.tail _ (.tail _ (.tail _ (.tail _ (hsl1)))))) (.tail _ (.tail _ (.tail _ (.tail _ (.tail _ (hsd1)))))) (.tail _ (.tail _ (.tail _ (.tail _ (.tail _ (hdl1)))))) hs1 hx1 n1a n1b b1a b1b ?p0q ?p1q hld ?_
      case Gq => refine' GndX.mk ?b1q ?b2q ?b3q; (case b1q => tb_start); (case b2q => assumption); (case b3q => assumption)
      case p0q => omega
      case p1q => omega
      intro tkd1 hd1 F24 N29
      clear F23 N28
      (try k_fold)
      k_steps
      unfold Stop
      rename_i F30 N30
      refine' next_c ?Gq F30 N30 ?Uq (.tail _ (.tail _ (.tail _ (.tail _ (.tail _ (hm1)))))) (Nat.ne_of_lt hDs) hI hws ?h0q ?h1q ?l0q ?l1q ?_
      case Gq => tb_start
      case Uq => exact .head (ne_cons (Nat.ne_of_gt l10) (ne_cons (Nat.ne_of_gt l20) (ne_cons (Nat.ne_of_gt s1) (ne_cons (Nat.ne_of_gt q1) r1))))
      case h0q => omega
      case h1q => omega
      case l0q => omega
      case l1q => omega
      intro v5 t5 u5 tkn hn v5a v5b F31 N31
      (try dsimp only at N31)
      clear F30 N30
      (try k_fold)
      k_steps
      unfold Stop
      rename_i F32 N32
      refine join_c (V := fun v => ∃ off t, v = .int off t ∧ (off = v5 ∧ v5 < (rv1.length : Nat) + 2 ∨ off = -((rv1.length : Nat) : Int) - 1)) F32 N32 ?j1q ?j2q
      case j1q =>
        (try k_fold)
        with_reducible refine IfExp_ ?_
        k_steps
        · exact Joined.mk ⟨_, _, ⟨_, _, rfl, .inl ⟨rfl, by omega⟩⟩, rfl, by k_asm, by k_asm⟩
        · exact Joined.mk ⟨_, _, ⟨_, _, rfl, .inr rfl⟩, rfl, by k_asm, by k_asm⟩
      rintro _ hj1 tkj1 ⟨off, toff, rfl, hoff1⟩ F33 N33
      clear F32 N32
      (try k_fold)
      k_steps
      unfold Stop
      rename_i F34 N34
      have hps := hpl1.length.trans hnp1
      have hpl1' := hpl1.mono (news' := (st, stObj D (ii + 1 + 1) t5 0) :: (wa0, wObj wr0 wp0 b0 bt0 pl0 pu0 hv0 0) :: (wa1, wObj wr1 wp1 b1 bt1 pn pva hva 0) :: (md0, mDict H0 K0 sl0 b0 dt0 lv0 pl0 qu0 X0) :: (md1, mDict H1 K1 sl1 b1 dt1 lva pn qua X1) :: R) (fun z hz => .tail _ (.tail _ (.tail _ (.tail _ (.tail _ (hz))))))
      refine' gsl_c ?Gq F34 N34 (.tail _ (.tail _ (.tail _ (.tail _ (.head _))))) (.tail _ (.tail _ (.tail _ (.tail _ (.tail _ (hmc1)))))) (.tail _ (.tail _ (.tail _ (.tail _ (.tail _ (hsl1)))))) (.tail _ (.tail _ (.tail _ (.tail _ (.tail _ (hsd1)))))) (.tail _ (.tail _ (.tail _ (.tail _ (.tail _ (hdl1)))))) (.tail _ (.tail _ (.tail _ (.tail _ (.tail _ (hil1)))))) hpl1' n1a n1b hnp1 b1a b1b ?o0q ?o1q ?o2q ?_
      case Gq => refine' GndX.mk ?b1q ?b2q ?b3q; (case b1q => tb_start); (case b2q => assumption); (case b3q => assumption)
      case o0q => omega
      case o1q => omega
      case o2q => omega
      intro r1' v11 v12 nn1 tkg hg1 F35 N35 sd1'
      clear F34 N34
      (try dsimp only at N35)
      (try k_fold)
      k_steps
      unfold Stop
      refine' where_c ?Gq F35 N35 (.tail _ (.tail _ (.tail _ (.tail _ (.tail _ (.tail _ (hwp1))))))) ?plq ?n0q ?n1q ?o0q ?o1q ?_
      case Gq => tb_start
      case plq => exact hpl1'.mono (fun z hz => .tail _ hz)
      case n0q => omega
      case n1q => omega
      case o0q => omega
      case o1q => omega
      intro r2' v21 v22 nn2 tkw hw1 F36 N36 lt2' sd2'
      clear F35 N35 lt2'
      
      (try k_fold)
      k_steps
      unfold Stop
      refine' said_ne N36 (.tail _ (.head _)) (.head _) sd1' sd2' ?eqxq hok1 ?uxq ?_
      case eqxq => omega
      case uxq => first | (show (0 : Nat) + 64 < cLine; decide) | tb_rel
      replace N36 := news_d0 N36
      clear sd1' sd2'
      (try k_fold)
      k_steps
      unfold Stop
      refine join_c (V := fun b : Bool => b = false) F36 N36 ?j3q ?j4q
      case j3q =>
        have X36 := Frag.In.keeps (by with_reducible assumption) (Fr.keep F36)
        by_cases hp0 : 0 ≤ pn
        all_goals (try k_fold)
        all_goals with_reducible refine isTrue_and ?_
        rotate_left 1
        · k_steps
          all_goals exact Joined.mk ⟨_, _, rfl, rfl, by k_asm, by k_asm⟩
        k_steps
        unfold Stop
        refine' gsl0_c ?Gq F36 N36 (.tail _ (.tail _ (.tail _ (.tail _ (.head _))))) (.tail _ (.tail _ (.tail _ (.tail _ (.tail _ (hmc1)))))) (.tail _ (.tail _ (.tail _ (.tail _ (.tail _ (hsl1)))))) (.tail _ (.tail _ (.tail _ (.tail _ (.tail _ (hsd1)))))) (.tail _ (.tail _ (.tail _ (.tail _ (.tail _ (hdl1)))))) (.tail _ (.tail _ (.tail _ (.tail _ (.tail _ (hil1)))))) hpl1' n1a n1b hnp1 b1a b1b ?o0q ?o2q ?_
        case Gq => refine' GndX.mk ?b1q ?b2q ?b3q; (case b1q => tb_start); (case b2q => assumption); (case b3q => assumption)
        case o0q => omega
        case o2q => omega
        intro r1' v11 v12 nn1 tkg hg1 F35 N35 sd1'
        clear F36 N36
        (try k_fold)
        k_steps
        unfold Stop
        refine' where_c ?Gq F35 N35 (.tail _ (.tail _ (.tail _ (.tail _ (.tail _ (.tail _ (hwp1))))))) ?plq ?n0q ?n1q ?o0q ?o1q ?_
        case Gq => tb_start
        case plq => exact hpl1'.mono (fun z hz => .tail _ hz)
        case n0q => omega
        case n1q => omega
        case o0q => omega
        case o1q => omega
        intro r2' v21 v22 nn2 tkw hw1 F36 N36 lt2' sd2'
        clear F35 N35 lt2'
        (try k_fold)
        k_steps
        unfold Stop
        refine' said_ne N36 (.tail _ (.head _)) (.head _) sd1' sd2' ?eqxq hok1 ?uxq ?_
        case eqxq => omega
        case uxq => first | (show (0 : Nat) + 64 < cLine; decide) | tb_rel
        replace N36 := news_d0 N36
        clear sd1' sd2'
        (try k_fold)
        k_steps
        all_goals exact Joined.mk ⟨_, _, rfl, rfl, by k_asm, by k_asm⟩
      rintro _ hj2 tkj2 rfl F37 N37
      clear F36 N36
      (try k_fold)
      k_steps
      unfold Stop
      refine' file_c ?Gq F37 N37 (.tail _ (.tail _ (.tail _ (.tail _ (.head _))))) (.tail _ (.tail _ (.tail _ (.tail _ (.tail _ (hmc1)))))) (.tail _ (.tail _ (.tail _ (.tail _ (.tail _ (hsl1)))))) (.tail _ (.tail _ (.tail _ (.tail _ (.tail _ (hsd1)))))) (.tail _ (.tail _ (.tail _ (.tail _ (.tail _ (hdl1)))))) (.tail _ (.tail _ (.tail _ (.tail _ (.tail _ (hil1)))))) hpl1' n1a n1b hnp1 b1a b1b ?o0q ?o1q ?_
      case Gq => refine' GndX.mk ?b1q ?b2q ?b3q; (case b1q => tb_start); (case b2q => assumption); (case b3q => assumption)
      case o0q => omega
      case o1q => omega
      intro fx tf tkf hf af cf F38 N38
      clear F37 N37
      (try k_fold)
      k_steps
      unfold Stop
      refine join_c (V := fun v => ∃ t, v = .str fx t) F38 N38 ?j5q ?j6q
      case j5q =>
        have X38 := Frag.In.keeps (by with_reducible assumption) (Fr.keep F38)
        by_cases hv5 : v5 ≤ (rv1.length : Nat)
        rotate_left 1
        · have hfx := cf (by omega)
          subst hfx
          (try k_fold)
          with_reducible refine IfExp_ ?_
          k_steps
          all_goals exact Joined.mk ⟨_, _, ⟨_, rfl⟩, rfl, by k_asm, by k_asm⟩
        (try k_fold)
        with_reducible refine IfExp_ ?_
        k_steps
        unfold Stop
        rename_i Fy Ny
        refine' item_pl Ny (.tail _ (.tail _ (.tail _ (.tail _ (.tail _ (hwp1)))))) hpl1' ?h0q ?h1q ?hfq ?_ (by with_unfolding_all rfl)
        case h0q => split <;> omega
        case h1q => split <;> omega
        case hfq => split <;> omega
        intro rx gx ox tx1 tx2 nx ex1 ex2
        have hfx : fx = gx := file_eq hps af ex1 (by omega) hv5
        subst hfx
        (try k_fold)
        k_steps
        all_goals exact Joined.mk ⟨_, _, ⟨_, rfl⟩, rfl, by k_asm, by k_asm⟩
      rintro _ hj6 tkj6 ⟨tg, rfl⟩ F39 N39
      clear F38 N38
      (try k_fold)
      k_steps
      refine InvEndG.intro (nx := (st, stObj D (ii + 1 + 1) t5 0) :: (wa0, wObj wr0 wp0 b0 bt0 pl0 pu0 hv0 0) :: (wa1, wObj wr1 wp1 b1 bt1 pn pva hva 0) :: (md0, mDict H0 K0 sl0 b0 dt0 lv0 pl0 qu0 X0) :: (md1, mDict H1 K1 sl1 b1 dt1 lva pn qua X1) :: C5) F39 N39 ?_ ?_ ?_ ?_
      · exact ⟨ii + 1 + 1, t5, pl0, pn, pu0, pva, qu0, qua, lv0, lva, hv0, hva, rfl, by omega, by push_cast; omega, j2, by push_cast; omega, np0', by push_cast; omega, k1, hld, by with_unfolding_all rfl, by with_unfolding_all rfl, by with_unfolding_all rfl, by with_unfolding_all rfl⟩
      · exact hoff
      · intro z hz
        rcases List.mem_cons.mp hz with rfl | hz
        · exact .head _
        rcases List.mem_cons.mp hz with rfl | hz
        · exact .tail _ (.head _)
        rcases List.mem_cons.mp hz with rfl | hz
        · exact .tail _ (.tail _ (.head _))
        rcases List.mem_cons.mp hz with rfl | hz
        · exact .tail _ (.tail _ (.tail _ (.head _)))
        rcases List.mem_cons.mp hz with rfl | hz
        · exact .tail _ (.tail _ (.tail _ (.tail _ (.head _))))
        exact .tail _ (.tail _ (.tail _ (.tail _ (.tail _ (hinR _ hz)))))
      · intro z hz
        exact .tail _ (.tail _ (.tail _ (.tail _ (.tail _ (by rw [hR]; exact List.mem_append.mpr (.inr hz))))))
  · rintro m₁ nx h tk8 ⟨ii, t, pl0, pl1, pu0, pu1, qu0, qu1, lv0, lv1, hv0, hv1, rfl, j0, j1, j2, j3, j4, j5, k1, k2, e1, e2, e3, e4⟩ F14 N18
    have em : m₁ = kstB m₁ [(Str.ofString "state", .ref st), (Str.ofString "worlds", .ref wl), (Str.ofString "machines", .ref ml), (Str.ofString "same", .bool true)] := funext fun z => (kstB_eq (by
      intro q hq
      simp only [List.mem_cons, List.not_mem_nil, or_false] at hq
      rcases hq with rfl | rfl | rfl | rfl <;> assumption) (fun _ => rfl)).symm
    rw [em] at F14
    clear N17 F13 rg kp
    (try k_fold)
    k_steps)
end PartL
end Mine
theorem PySem.Challenge.cw_gn5009_01_holds : PySem.Challenge.rw_gn5009_01.Holds :=
  Mine.law_walk
