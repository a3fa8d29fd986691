import PyProof.Rows.All
import Wide.All
import OpenK.AllK
import Wide.FinOn
import Lean
import PySem.Challenge.RW_nk0012_01
set_option Elab.async false
namespace Mine

section HD
open PySem PySem.W PyProof.Rows
set_option maxRecDepth 100000 in
set_option maxHeartbeats 8000000 in
open_top hd for PySem.Challenge.rw_nk0012_01
end HD

section N1
open PySem PySem.W PyProof.Rows PySem.Spec PySem.Calls
theorem depth_top (dp un : Nat) (gd : Option (List Code)) (cn : Str) (cs : Scope) (L a : Addr) (ccd : Value) (cl : List (Str × Addr)) (outer : List Env) : (ktrTop dp un gd cn cs L a ccd cl outer).depth = dp := rfl

set_option maxRecDepth 100000 in
set_option maxHeartbeats 8000000 in
theorem next_ok {w : World} {mean : ExcName → Option Value} {mg mb : Str → Option Value} {dp un : Nat} {gd : Option (List Code)} {cn : Str} {cs : Scope} {a : Addr} {ccd : Value} {cl : List (Str × Addr)} {outer : List Env} {A₀ : Around} {base h₀ : Heap} {L : Addr} {m : Str → Option Value} {s : Shared} {Q E : Value → Shared → Prop}
    {S D : Addr} {at' many : Int} {tkA tkM : Tok} {ws : List Value} {zs : List Int} {nS nD : Nat} {own : List (Addr × Obj)}
    (B : Below A₀ base outer h₀) (F : Fr h₀ L s.heap m) (X : (hd.heap_39 w.params).In h₀)
    (N : News h₀ L s.heap ((S, listOf #[.ref D, .int at' tkA] nS) :: (D, listOf ws.toArray nD) :: own))
    (T : Top hd.view_39 (looseW hd.view_39 []) mean mg mb h₀) (hk : cs.kind = .function)
    (hI : IntsAre ws zs) (hl0 : 0 < zs.length) (hl1 : zs.length ≤ 64) (hz : ∀ z ∈ zs, 0 ≤ z ∧ z < 1000003) (ha0 : 0 ≤ at') (ha1 : at' ≤ 1000) (hm0 : 0 < many) (hm1 : many ≤ 5)
    (hne : @Ne Nat S D) (hoff : OwnOff own [S, D]) (hd : dp + 2 < recursionLimit) (hu : un + 16 < cLine)
    (ret : ∀ v t tA h' tk', 0 ≤ v → v < many → Fr h₀ L h' m → News h₀ L h' ((S, listOf #[.ref D, .int (at' + 1) tA] nS) :: (D, listOf ws.toArray nD) :: own) → Q (.int v t) { s with heap := h', toks := tk' }) :
    wpAny (model PySem.Challenge.rw_nk0012_01.row.prog w) (ktrTop dp un gd cn cs L a ccd cl outer) (call (.ref 35) [.ref S, .int many tkM]) Q E s := by
  revert X; k_fill; intro X
  refine wpAny_call ?_
  have hL0 : (0 : Int) < (zs.length : Int) := by omega
  have hq0 : 0 ≤ at'.fdiv (zs.length : Int) := Int.fdiv_nonneg ha0 (by omega)
  have hq1 : at'.fdiv (zs.length : Int) ≤ 1000 := by
    rw [Int.fdiv_eq_ediv_of_nonneg _ (by omega)]
    exact Int.le_trans (Int.ediv_le_self _ ha0) ha1
  have hr : zs.getD (at'.fmod (zs.length : Int)).toNat 0 ∈ zs := by
    have h1 : 0 ≤ at'.fmod (zs.length : Int) := Int.fmod_nonneg_of_pos _ hL0
    have h2 : at'.fmod (zs.length : Int) < (zs.length : Int) := Int.fmod_lt_of_pos _ hL0
    have h3 : (at'.fmod (zs.length : Int)).toNat < zs.length := by omega
    rw [List.getD_eq_getElem?_getD, List.getElem?_eq_getElem h3]
    exact List.getElem_mem h3
  have hr0 := (hz _ hr).1
  have hr1 := (hz _ hr).2
  clear hr
  k_dflt cell_enter
  k_steps
  exact ret _ _ _ _ _ (Int.fmod_nonneg_of_pos _ hm0) (Int.fmod_lt_of_pos _ hm0) (by assumption) (cb_drop (by assumption) (fun _ hp => List.mem_cons_of_mem _ hp))
end N1

section N2
open PySem PySem.W PyProof.Rows PySem.Spec PySem.Calls
/-- the contract of _law_next, for a ledger in any order -/
theorem next_use {w : World} {mean : ExcName → Option Value} {mg mb : Str → Option Value} {dp un : Nat} {gd : Option (List Code)} {cn : Str} {cs : Scope} {a : Addr} {ccd : Value} {cl : List (Str × Addr)} {outer : List Env} {A₀ : Around} {base h₀ : Heap} {L : Addr} {m : Str → Option Value} {s : Shared} {Q E : Value → Shared → Prop}
    {S D : Addr} {at' many : Int} {tkA tkM : Tok} {ws : List Value} {zs : List Int} {nS nD : Nat} {news : List (Addr × Obj)} {g : Obj → List (Addr × Obj)}
    (B : Below A₀ base outer h₀) (F : Fr h₀ L s.heap m) (X : (hd.heap_39 w.params).In h₀)
    (N : News h₀ L s.heap news) (U : UpdF S (listOf #[.ref D, .int at' tkA] nS) news g) (hD : (D, listOf ws.toArray nD) ∈ news) (hne : @Ne Nat S D)
    (T : Top hd.view_39 (looseW hd.view_39 []) mean mg mb h₀) (hk : cs.kind = .function)
    (hI : IntsAre ws zs) (hl0 : 0 < zs.length) (hl1 : zs.length ≤ 64) (hz : ∀ z ∈ zs, 0 ≤ z ∧ z < 1000003) (ha0 : 0 ≤ at') (ha1 : at' ≤ 1000) (hm0 : 0 < many) (hm1 : many ≤ 5)
    (hd : dp + 2 < recursionLimit) (hu : un + 16 < cLine)
    (ret : ∀ v t tA h' tk', 0 ≤ v → v < many → Fr h₀ L h' m → News h₀ L h' (g (listOf #[.ref D, .int (at' + 1) tA] nS)) → Q (.int v t) { s with heap := h', toks := tk' }) :
    wpAny (model PySem.Challenge.rw_nk0012_01.row.prog w) (ktrTop dp un gd cn cs L a ccd cl outer) (call (.ref 35) [.ref S, .int many tkM]) Q E s := by
  obtain ⟨pre, post, rfl, hg, h1, h2⟩ := U.split
  let own := (pre ++ post).filter fun p => decide (p.1 ≠ D)
  have hown : ∀ p, p ∈ own ↔ (p ∈ pre ∨ p ∈ post) ∧ p.1 ≠ D := fun p => by
    simp only [own, List.mem_filter, List.mem_append, decide_eq_true_eq]
  have hS : (S, listOf #[.ref D, .int at' tkA] nS) ∈ pre ++ (S, listOf #[.ref D, .int at' tkA] nS) :: post := List.mem_append_right _ (.head _)
  refine next_ok (own := own) (nS := nS) (tkA := tkA) B F X (N := ?_) T hk hI hl0 hl1 hz ha0 ha1 hm0 hm1 hne ?_ hd hu (nD := nD) ?_
  · intro p hp
    rcases List.mem_cons.mp hp with rfl | hp
    · exact N _ hS
    rcases List.mem_cons.mp hp with rfl | hp
    · exact N _ hD
    rcases ((hown p).mp hp).1 with q | q
    · exact N _ (List.mem_append_left _ q)
    · exact N _ (List.mem_append_right _ (.tail _ q))
  · intro p hp b hb
    obtain ⟨q, hq⟩ := (hown p).mp hp
    rcases List.mem_cons.mp hb with rfl | hb
    · exact q.elim (h1 p) (h2 p)
    · rw [List.mem_singleton.mp hb]; exact hq
  · intro v t tA h' tk' hv0 hv1 F' N'
    refine ret v t tA h' tk' hv0 hv1 F' ?_
    rw [hg]
    have other : ∀ p, (p ∈ pre ∨ p ∈ post) → h'.get? p.1 = some p.2 ∧ p.1 ≠ L ∧ h₀.get? p.1 = none := fun p hp => by
      have hpN : p ∈ pre ++ (S, listOf #[.ref D, .int at' tkA] nS) :: post := hp.elim (fun q => List.mem_append_left _ q) fun q => List.mem_append_right _ (.tail _ q)
      by_cases e : p.1 = D
      · have e1 := (N _ hpN).1
        have e2 := (N _ hD).1
        have e3 : s.heap.get? p.1 = some (listOf ws.toArray nD) := by rw [e]; exact e2
        rw [e3] at e1
        have e4 : p = (D, listOf ws.toArray nD) := Prod.ext e (Option.some.inj e1).symm
        rw [e4]
        exact N' _ (.tail _ (.head _))
      · exact N' _ (.tail _ (.tail _ ((hown p).mpr ⟨hp, e⟩)))
    intro p hp
    rcases List.mem_append.mp hp with q | q
    · exact other p (.inl q)
    rcases List.mem_cons.mp q with rfl | q
    · exact N' _ (.head _)
    · exact other p (.inr q)

/-- the pieces -/
def pieceL : List Str := [Str.ofString "a", Str.ofString "b, c", Str.ofString "(", Str.ofString "  d", Str.ofString "x as y"]


theorem updF_self {d : Addr} {o : Obj} {l : List (Addr × Obj)} {g : Obj → List (Addr × Obj)} (U : UpdF d o l g) : g o = l := by
  obtain ⟨pre, post, e, hg, _, _⟩ := U.split
  rw [hg, e]

section
variable {prog : Program} {w : World} {A : Around} {h₀ : Heap} {L : Addr} {m : Str → Option Value} {env : Env} {elt : Expr} {x : Str} {scope : Scope} {cl : List (Str × Addr)} {s : Shared} {P : Nat → Value → Prop} {Fin : List Value → List (Addr × Obj) → Prop}
theorem comp_rest {S D : Addr} {nS : Nat} {news : List (Addr × Obj)} {G : Obj → List (Addr × Obj)} {a₀ : Int} {tk₀ : Tok} {n : Nat} (U : UpdF S (listOf #[.ref D, .int a₀ tk₀] nS) news G)
    (turn : ∀ (i : Nat) v at' tA I oI C oC D' m₂ ys h tk (E' : Value → Shared → Prop), i < n → at' = a₀ + (i : Int) → m₂ x = some v → LCg.NsObj oC m₂ → Fr h₀ L h m →
      News h₀ L h ((I, oI) :: (C, oC) :: (D', LCg.lst ys) :: G (listOf #[.ref D, .int at' tA] nS)) → LCg.Off3 I C D' (G (listOf #[.ref D, .int at' tA] nS)) → ((@Ne Nat I C) ∧ (@Ne Nat I D') ∧ (@Ne Nat C D')) →
      wpAny (model prog w) A (eval elt (compEnvC scope cl C env)) (LCg.CompEnd h₀ L m { s with heap := h, toks := tk } I oI C oC D' (LCg.lst ys) (fun _ => True)
        (fun y news' => ∃ tA' p t, news' = G (listOf #[.ref D, .int (at' + 1) tA'] nS) ∧ p ∈ pieceL ∧ y = .str p t)) E' { s with heap := h, toks := tk })
    (fin : ∀ ys ps tA, StrsAre ys ps → ps.length = n → (∀ p ∈ ps, p ∈ pieceL) → Fin ys (G (listOf #[.ref D, .int (a₀ + (n : Int)) tA] nS))) :
    LCg.CompRest prog w A h₀ L m env elt x scope cl s (fun _ => True) P Fin n 0 [] news := by
  have key : ∀ (j i : Nat) (ys : List Value) (ps : List Str) (tA : Tok), i + j = n → StrsAre ys ps → ps.length = i → (∀ p ∈ ps, p ∈ pieceL) →
      LCg.CompRest prog w A h₀ L m env elt x scope cl s (fun _ => True) P Fin j i ys (G (listOf #[.ref D, .int (a₀ + (i : Int)) tA] nS)) := by
    intro j
    induction j with
    | zero =>
      intro i ys ps tA hi hy hl hp
      have e : i = n := by omega
      subst e
      exact LCg.CompRest.zero (fin ys ps tA hy hl hp)
    | succ j ih =>
      intro i ys ps tA hi hy hl hp
      refine LCg.CompRest.succ ?_
      intro v I oI C oC D' m₂ h tk E' _ hC hx F N off ne
      refine wpAny_mono (turn i v _ tA I oI C oC D' m₂ ys h tk E' (by omega) rfl hx hC F N off ne) (fun y s₂ hq => ?_) fun _ _ e => e
      obtain ⟨h', tk', nw, e, F', N', off', _, tA', p, t, hn, hpm, hy'⟩ := hq
      subst hn
      refine ⟨h', tk', _, e, F', N', off', trivial, ?_⟩
      rw [hy']
      have e1 : a₀ + (i : Int) + 1 = a₀ + ((i + 1 : Nat) : Int) := by omega
      rw [e1]
      refine ih (i + 1) _ (ps ++ [p]) tA' (by omega) (kct_snoc hy) (by simp [hl]) fun q hq => ?_
      rcases List.mem_append.mp hq with hq | hq
      · exact hp q hq
      · rw [List.mem_singleton.mp hq]; exact hpm
  have h := key n 0 [] [] tk₀ (by omega) .nil rfl (fun _ hp => nomatch hp)
  have e0 : a₀ + ((0 : Nat) : Int) = a₀ := by omega
  rw [e0, updF_self U] at h
  exact h

theorem comp_end {S D I C D' : Addr} {oI oC : Obj} {ys : List Value} {nS : Nat} (G : Obj → List (Addr × Obj)) {at' : Int} {tA' t : Tok} {p : Str} {h' : Heap} {tk : Nat} {news : List (Addr × Obj)}
    (F : Fr h₀ L h' m) (N : News h₀ L h' news) (e : news = (I, oI) :: (C, oC) :: (D', LCg.lst ys) :: G (listOf #[.ref D, .int (at' + 1) tA'] nS)) (off : LCg.Off3 I C D' (G (listOf #[.ref D, .int (at' + 1) tA'] nS))) (hp : p ∈ pieceL) :
    LCg.CompEnd h₀ L m s I oI C oC D' (LCg.lst ys) (fun _ => True) (fun y news' => ∃ tA' p t, news' = G (listOf #[.ref D, .int (at' + 1) tA'] nS) ∧ p ∈ pieceL ∧ y = .str p t) (.str p t) { s with heap := h', toks := tk } := by
  subst e
  exact ⟨h', tk, _, rfl, F, N, off, trivial, tA', p, t, rfl, hp, rfl⟩

/-- an item of a list of texts at a place within it -/
theorem str_item {E : Value → Shared → Prop} {value slice : Expr} {l : Addr} {vs : List Value} {xs : List Str} {k : Int} {u : Tok} {Q : Value → Shared → Prop} (hl : s.heap.IsList l vs.toArray) (hs : StrsAre vs xs)
    (h0 : 0 ≤ k) (h1 : k < (xs.length : Int)) (hn : xs.length ≤ 1000) (h : ∀ y t, y ∈ xs → Q (.str y t) s)
    (hsub : subscripted slice false (.ref l) (.int k u) = operate [.ref l, .int k u] (getItem (.ref l) (.int k u)) := by with_unfolding_all rfl) :
    wpAny (model prog w) A (subscriptTail value slice (.ref l) (.int k u)) Q E s := by
  have hk : k.toNat < xs.length := by omega
  obtain ⟨t, ht⟩ := hs.get k.toNat xs[k.toNat] (by simp [hk])
  refine tail_any hl.typeIs slot_list_getitem.lookup (wpAny_getItem_list hl h0 (by omega) (by simpa using ht) (h _ t (List.getElem_mem hk))) hsub
/-- glue a list of short texts -/
theorem str_join {E : Value → Shared → Prop} {x : Str} {t : Tok} {D : Addr} {vs : List Value} {ys : List Str} {Q : Value → Shared → Prop} (hl : s.heap.IsList D vs.toArray) (hs : StrsAre vs ys) (hB : ∀ y ∈ ys, y.length ≤ 1000) (hn : ys.length ≤ 100) (hx : x.length ≤ 16)
    (h : ∀ t' k, Q (.str (Txt.join x ys) t') { s with toks := k }) : wpAny (model prog w) A (call (.builtin "str.join") [.str x t, .ref D]) Q E s := by
  have hsum : ∀ l : List Str, (∀ y ∈ l, y.length ≤ 1000) → (l.map (·.length)).sum ≤ 1000 * l.length := by
    intro l
    induction l with
    | nil => intro _; simp
    | cons y r ih =>
      intro hb
      have h1 := hb y (.head _)
      have h2 := ih fun z hz => hb z (.tail _ hz)
      simp only [List.map_cons, List.sum_cons, List.length_cons]
      omega
  have := hsum ys hB
  exact join_listW hl (by simpa using hs) hx (by omega) h
end

/-- a goal that the walk leaves alone -/
def Hold (P : Prop) : Prop := P
theorem Hold.out {P : Prop} (h : Hold P) : P := h
theorem Hold.mk {P : Prop} (h : P) : Hold P := h

theorem piece_short : ∀ p ∈ pieceL, p.length ≤ 1000 := by decide +kernel
end N2

section N3
open PySem PySem.W PyProof.Rows PySem.Spec PySem.Calls
theorem off_more {own : List (Addr × Obj)} {S D L : Addr} (h : OwnOff own [S, D]) (l : ∀ p ∈ own, p.1 < L) : OwnOff own [S, D, L + 1, L + 1 + 1] := by
  intro p hp b hb e
  have hl : @LT.lt Nat _ p.1 L := l p hp
  rcases List.mem_cons.mp hb with rfl | hb
  · exact h p hp _ (.head _) e
  rcases List.mem_cons.mp hb with rfl | hb
  · exact h p hp _ (.tail _ (.head _)) e
  rcases List.mem_cons.mp hb with rfl | hb
  · exact absurd (show @Eq Nat p.1 (L + 1) from e) (Nat.ne_of_lt (Nat.lt_succ_of_lt hl))
  · rw [List.mem_singleton.mp hb] at e
    exact absurd (show @Eq Nat p.1 (L + 1 + 1) from e) (Nat.ne_of_lt (Nat.lt_succ_of_lt (Nat.lt_succ_of_lt hl)))

local macro_rules | `(tactic| walk_at "call ref") => `(tactic| (k_here; (with_reducible show wpAny _ _ (call (Value.ref 35) _) _ _ _); k_dflt (refine' next_use ?k1 ?k2 ?k3 ?k4 ?kU ?kD ?kne ?k5 ?kK ?kI ?kl0 ?kl1 ?kz ?ka0 ?ka1 ?km0 ?km1 ?kd ?ku ?_; (case k1 => k_asm); (case k2 => k_asm); (case k3 => k_asm); (case k4 => k_asm); (case kU => k_updF); (case kD => k_mem); (case kne => first | assumption | omega); (case k5 => k_asm); (case kK => first | exact rfl | assumption); (case kI => assumption); (case kl0 => omega); (case kl1 => omega); (case kz => assumption); (case ka0 => first | assumption | omega); (case ka1 => first | assumption | omega); (case km0 => decide); (case km1 => decide); (case kd => first | (simp only [depth_deeper]; omega) | ktr_room); (case ku => first | (simp only [units_deeper]; omega) | ktr_units); k_whole); intro v' t' tA' h' tk' hv0' hv1' F' N'; (try dsimp only at N'); (try k_sweep)))
local macro_rules | `(tactic| k_ne) => `(tactic| (refine neN ?_; (try dsimp only); first | assumption | (refine Ne.symm ?_; assumption)))
local macro_rules | `(tactic| walk_at "CompSrc") => `(tactic| (k_here; refine Hold.out ?_))
local macro_rules | `(tactic| walk_at "CompEnd") => `(tactic| (refine Hold.out ?_))
local macro_rules | `(tactic| walk_at "call builtin:str.join") => `(tactic| (k_here; k_dflt (refine' str_join (News.isList ?N ?m) ?S ?hB ?hn ?hx ?_; (case N => k_asm); (case m => k_mem); (case S => assumption); (case hB => (intro y hy; exact piece_short y (by solve_by_elim))); (case hn => omega); (case hx => decide)); intro t' k'))
local macro_rules | `(tactic| walk_at "subscriptTail") => `(tactic| (k_here; (with_reducible show wpAny _ _ (subscriptTail _ _ (Value.ref _) (Value.int _ _)) _ _ _); k_dflt (refine' str_item (xs := pieceL) (News.isList ?N ?m) ?S ?h0 ?h1 ?hn ?_; (case N => k_asm); (case m => k_mem); (case S => exact .cons _ _ (.cons _ _ (.cons _ _ (.cons _ _ (.cons _ _ .nil))))); (case h0 => omega); (case h1 => (simp only [pieceL, List.length_cons, List.length_nil]; omega)); (case hn => decide); k_whole); intro y' t' hy'))

set_option maxRecDepth 100000 in
set_option maxHeartbeats 8000000 in
theorem code_ok {w : World} {mean : ExcName → Option Value} {mg mb : Str → Option Value} {dp un : Nat} {gd : Option (List Code)} {cn : Str} {cs : Scope} {a : Addr} {ccd : Value} {cl : List (Str × Addr)} {outer : List Env} {A₀ : Around} {base h₀ : Heap} {L : Addr} {m : Str → Option Value} {s : Shared} {Q E : Value → Shared → Prop}
    {S D : Addr} {at' : Int} {tkA : Tok} {ws : List Value} {zs : List Int} {nS nD : Nat} {own : List (Addr × Obj)}
    (B : Below A₀ base outer h₀) (F : Fr h₀ L s.heap m) (X : (hd.heap_39 w.params).In h₀)
    (N : News h₀ L s.heap ((S, listOf #[.ref D, .int at' tkA] nS) :: (D, listOf ws.toArray nD) :: own))
    (T : Top hd.view_39 (looseW hd.view_39 []) mean mg mb h₀) (hk : cs.kind = .function)
    (hI : IntsAre ws zs) (hl0 : 0 < zs.length) (hl1 : zs.length ≤ 64) (hz : ∀ z ∈ zs, 0 ≤ z ∧ z < 1000003) (ha0 : 0 ≤ at') (ha1 : at' ≤ 900)
    (hne : @Ne Nat S D) (hoff : OwnOff own [S, D]) (hd : dp + 3 < recursionLimit) (hu : un + 32 < cLine)
    (ret : ∀ (ps : List Str) at₂ t tA h' tk', at' < at₂ → at₂ ≤ at' + 4 → 0 < ps.length → ps.length ≤ 3 → (∀ p ∈ ps, p ∈ pieceL) → Fr h₀ L h' m → News h₀ L h' ((S, listOf #[.ref D, .int at₂ tA] nS) :: (D, listOf ws.toArray nD) :: own) → Q (.str (Txt.join (Str.ofString "") ps) t) { s with heap := h', toks := tk' }) :
    wpAny (model PySem.Challenge.rw_nk0012_01.row.prog w) (ktrTop dp un gd cn cs L a ccd cl outer) (call (.ref 45) [.ref S]) Q E s := by
  revert X; k_fill; intro X
  refine wpAny_call ?_
  k_dflt (refine' code_defC ?k1 ?k2 ?k3 ?k4 ?k5 ?kA ?kF ?kK ?k6 ?k7 ?k8 ?k9 ?kB ?kD ?_ ?c2 ?c3 ?c4; (case kA => exact rfl); (case kF => exact rfl); (case kK => assumption); (case k1 => k_asm); (case k2 => k_asm); (case k3 => k_asm); (case k4 => k_asm); (case k5 => k_asm); (case k6 => k_is); (case k7 => k_is); (case k8 => ktr_room); (case k9 => exact BindsTo.of_eq rfl); (case kB => exact rfl); (case kD => decide +kernel); (case c2 => exact rfl); (case c3 => exact rfl); (case c4 => exact rfl); k_whole; intro g' L' h' tk' cells' FG' F' N' Y' B' X' T' l1)
  have hoff₂ : OwnOff own [S, D, L' + 1, L' + 1 + 1] := off_more hoff fun p hp => l1 p (List.mem_cons_of_mem _ (List.mem_cons_of_mem _ hp))
  clear hoff
  k_lt l1
  obtain ⟨o1', o2', hE', d1', d2'⟩ := CellsAre.two Y'
  subst hE'
  clear Y'
  replace d1' : o1'.data = Data.cell none := d1'
  replace d2' : o2'.data = Data.cell (some (.ref S)) := d2'
  simp only [List.cons_append, List.nil_append] at N'
  dsimp only
  try k_fold
  k_steps
  refine Hold.mk ?_
  k_dflt (refine LCg.CompSrc.range (by rfl) (by k_asm) (by k_asm) (by assumption) (small_one (by omega) (by omega) (by omega) (by omega)) (rangeSize_nat _ _) (by rw [PySem.sizeLine_eq]; omega) ?_)
  intro g₂
  k_dflt (refine' comp_rest (S := S) (D := D) (nS := nS) ?kU (fun i' v' at₂ tA' I' oI' C' oC' D' m' ys' h' tk' E' hi' hat' hx' hC' F' N' off' ne' => ?turn) ?fin; (case kU => k_updF))
  case turn =>
    try dsimp only at N' off'
    try simp only [LCg.Off3] at off'
    have hat0 : 0 ≤ at₂ := by clear off' ne'; omega
    have hat1 : at₂ ≤ 1000 := by clear off' ne'; omega
    have off₂ := off'
    obtain ⟨_, _, _, ⟨hSI, hSC, hSD⟩, _, _⟩ := off₂
    try k_unmd
    k_fold
    k_steps
    refine Hold.mk ?_
    refine ⟨_, _, _, rfl, by assumption, by assumption, ?_, trivial, _, _, _, rfl, by assumption, rfl⟩
    simp only [LCg.Off3]
    exact off'
  case fin =>
    intro ys ps tA₂ hys hps hpm
    k_steps
    refine ret ps _ _ _ _ _ ?_ ?_ ?_ ?_ hpm (by assumption) (cb_drop (by assumption) (fun p hp => .tail _ (.tail _ (.tail _ (.tail _ hp))))) <;> omega
end N3

section N4
open PySem PySem.W PyProof.Rows PySem.Spec PySem.Calls
local macro_rules | `(tactic| walk_at "call builtin:str.rpartition") => `(tactic| (k_here; k_dflt (refine' KXpa.rpartition ?k1 ?k2 ?k3 ?k4 ?k5 ?k6 ?k7 ?_; (case k1 => k_asm); (case k2 => k_asm); (case k3 => decide); (case k4 => assumption); (case k5 => assumption); (case k6 => assumption); (case k7 => (rw [PySem.sizeLine_eq]; omega))); intro D' ta' tb' tc' h' k' F' N' l1; (try k_lt l1)))
local macro_rules | `(tactic| walk_at "call builtin:str.partition") => `(tactic| (k_here; k_dflt (refine' KXpa.partition ?k1 ?k2 ?k3 ?k4 ?k5 ?k6 ?k7 ?_; (case k1 => k_asm); (case k2 => k_asm); (case k3 => decide); (case k4 => assumption); (case k5 => assumption); (case k6 => assumption); (case k7 => (rw [PySem.sizeLine_eq]; omega))); intro D' ta' tb' tc' h' k' F' N' l1; (try k_lt l1)))
local macro_rules | `(tactic| walk_at "call builtin:str.rstrip") => `(tactic| (k_here; (refine KXw.rstrip (by assumption) (by rw [PySem.sizeLine_eq]; omega) ?_); intro _ _))

set_option maxRecDepth 100000 in
set_option maxHeartbeats 8000000 in
theorem hang_ok {w : World} {mean : ExcName → Option Value} {mg mb : Str → Option Value} {dp un : Nat} {gd : Option (List Code)} {cn : Str} {cs : Scope} {a : Addr} {ccd : Value} {cl : List (Str × Addr)} {outer : List Env} {A₀ : Around} {base h₀ : Heap} {L : Addr} {m : Str → Option Value} {s : Shared} {Q E : Value → Shared → Prop}
    {x : Str} {tx : Tok} {own : List (Addr × Obj)}
    (B : Below A₀ base outer h₀) (F : Fr h₀ L s.heap m) (X : (hd.heap_39 w.params).In h₀)
    (N : News h₀ L s.heap own)
    (T : Top hd.view_39 (looseW hd.view_39 []) mean mg mb h₀) (hk : cs.kind = .function)
    (hx : x.length ≤ 1000) (hd : dp + 3 < recursionLimit) (hu : un + 32 < cLine)
    (ret : ∀ t h' tk', Fr h₀ L h' m → News h₀ L h' own → Q (.str ((if Txt.endswith x (Str.ofString " ") = true then x else x ++ Str.ofString " ") ++ Str.ofString "\\") t) { s with heap := h', toks := tk' }) :
    wpAny (model PySem.Challenge.rw_nk0012_01.row.prog w) (ktrTop dp un gd cn cs L a ccd cl outer) (call (.ref 21) [.str x tx]) Q E s := by
  revert X; k_fill; intro X
  refine wpAny_call ?_
  k_dflt cell_enter
  k_steps
  · rename_i hE _ _ _ _ _ _
    have hret := ret
    rw [if_pos (by assumption)] at hret
    exact hret _ _ _ (by assumption) (by assumption)
  · have hret := ret
    rw [if_neg (by simp only [Bool.not_eq_true]; assumption)] at hret
    exact hret _ _ _ (by assumption) (by assumption)
set_option maxRecDepth 100000 in
set_option maxHeartbeats 8000000 in
theorem add_ok {w : World} {mean : ExcName → Option Value} {mg mb : Str → Option Value} {dp un : Nat} {gd : Option (List Code)} {cn : Str} {cs : Scope} {a : Addr} {ccd : Value} {cl : List (Str × Addr)} {outer : List Env} {A₀ : Around} {base h₀ : Heap} {L : Addr} {m : Str → Option Value} {s : Shared} {Q E : Value → Shared → Prop}
    {x y h sp l c cs' cm c' : Str} {tx ty tz : Tok} {own : List (Addr × Obj)}
    (er1 : (Txt.rpartition x (Str.ofString "\n")).1 = h) (er2 : (Txt.rpartition x (Str.ofString "\n")).2.1 = sp) (er3 : (Txt.rpartition x (Str.ofString "\n")).2.2 = l)
    (ep1 : (Txt.partition l (Str.ofString "#")).1 = c) (ep2 : (Txt.partition l (Str.ofString "#")).2.1 = cs') (ep3 : (Txt.partition l (Str.ofString "#")).2.2 = cm) (es : Txt.rstrip c = c')
    (B : Below A₀ base outer h₀) (F : Fr h₀ L s.heap m) (X : (hd.heap_39 w.params).In h₀)
    (N : News h₀ L s.heap own)
    (T : Top hd.view_39 (looseW hd.view_39 []) mean mg mb h₀) (hk : cs.kind = .function)
    (hx : x.length ≤ 1000) (hy : y.length ≤ 10) (h1 : h.length ≤ 1000) (h2 : sp.length ≤ 1000) (h3 : l.length ≤ 1000) (h4 : c.length ≤ 1000) (h5 : cs'.length ≤ 1000) (h6 : cm.length ≤ 1000) (h7 : c'.length ≤ c.length) (hd : dp + 3 < recursionLimit) (hu : un + 32 < cLine)
    (ret : ∀ r t h' tk', (cs'.length = 0 → r = x ++ y) → (cs'.length ≠ 0 → r = Str.empty ++ h ++ sp ++ c' ++ y ++ (if (Txt.slice c (some (c'.length : Int)) none).length = 0 then Str.ofString "  " else Txt.slice c (some (c'.length : Int)) none) ++ cs' ++ cm) → Fr h₀ L h' m → News h₀ L h' own → Q (.str r t) { s with heap := h', toks := tk' }) :
    wpAny (model PySem.Challenge.rw_nk0012_01.row.prog w) (ktrTop dp un gd cn cs L a ccd cl outer) (call (.ref 28) [.str x tx, .str y ty, .str (Str.ofString "\n") tz]) Q E s := by
  revert X; k_fill; intro X
  refine wpAny_call ?_
  have hs2 : (Str.ofString "  ").length = 2 := by decide
  k_dflt cell_enter
  k_steps
  · refine ret _ _ _ _ (fun e => absurd e (by omega)) (fun _ => ?_) (by assumption) (cb_drop (by assumption) (fun p hp => .tail _ (.tail _ hp)))
    rw [if_neg (by omega)]
  · refine ret _ _ _ _ (fun e => absurd e (by omega)) (fun _ => ?_) (by assumption) (cb_drop (by assumption) (fun p hp => .tail _ (.tail _ hp)))
    rw [if_pos (by omega)]
  · exact ret _ _ _ _ (fun _ => rfl) (fun e => absurd e (by omega)) (by assumption) (cb_drop (by assumption) (fun p hp => .tail _ (.tail _ hp)))
end N4

section N5
open PySem PySem.W PyProof.Rows PySem.Spec PySem.Calls
section
variable {prog : Program} {w : World} {A : Around} {h₀ : Heap} {L : Addr} {m : Str → Option Value} {E : Value → Shared → Prop} {s : Shared} {Q : Value → Shared → Prop} {news : List (Addr × Obj)}
theorem strs_len {vs : List Value} {xs : List Str} (h : StrsAre vs xs) : vs.length = xs.length := h.len_eq

theorem str_len {l : Addr} {vs : List Value} {xs : List Str} {n : Nat} (hl : s.heap.IsList l vs.toArray) (hs : StrsAre vs xs) (hn : xs.length = n) (hb : n ≤ 1000)
    (h : ∀ t k, Q (.int (n : Int) t) { s with toks := k }) : wpAny (model prog w) A (call (.builtin "len") [.ref l]) Q E s := by
  have e : vs.toArray.size = n := by rw [List.size_toArray, strs_len hs, hn]
  refine Calls.call_len_list hl (by rw [e]; omega) ?_
  rw [e]
  exact h _ _

theorem str_split {x y : Str} {t u : Tok} (hF : Fr h₀ L s.heap m) (hN : News h₀ L s.heap news) (hy : (y.length == 0) = false) (hx : x.length ≤ 1000)
    (h : ∀ D vs' h' k, StrsAre vs' (Txt.split x y) → Fr h₀ L h' m → News h₀ L h' ((D, listOf vs'.toArray 0) :: news) → (∀ p ∈ news, p.1 < D) → Q (.ref D) { s with heap := h', toks := k }) :
    wpAny (model prog w) A (call (.builtin "str.split") [.str x t, .str y u]) Q E s :=
  KSpl.split1 hF hN hy (fun D l h' k e hs F N lt => h D _ h' k (e ▸ hs) F N lt) (by rw [sizeLine_eq]; omega)

theorem str_ne_self {x : Str} {t u : Tok} (h : Q (.bool false) s) : wpAny (model prog w) A (compareOp .NotEq (.str x t) (.str x u)) Q E s :=
  P.ne_str (by rw [bne_self_eq_false]; exact h)

theorem str_last {value slice : Expr} {l : Addr} {vs : List Value} {xs : List Str} {x : Str} {u : Tok} (hl : s.heap.IsList l vs.toArray) (hs : StrsAre vs xs) (hx : xs.getLast? = some x) (hn : xs.length ≤ 1000) (h : ∀ t, Q (.str x t) s)
    (hsub : subscripted slice false (.ref l) (.int (-1) u) = operate [.ref l, .int (-1) u] (getItem (.ref l) (.int (-1) u)) := by with_unfolding_all rfl) :
    wpAny (model prog w) A (subscriptTail value slice (.ref l) (.int (-1) u)) Q E s := by
  have hne : 0 < xs.length := by
    cases xs with
    | nil => cases hx
    | cons _ _ => simp
  have hlen := strs_len hs
  obtain ⟨t, ht⟩ := hs.get (xs.length - 1) x (by rw [← hx, List.getLast?_eq_getElem?])
  refine tail_any hl.typeIs slot_list_getitem.lookup (wpAny_getItem_list_neg hl (by decide) (by rw [List.size_toArray]; omega) (by decide) ?_ (h t)) hsub
  have e : ((-1 : Int) + ((vs.toArray.size : Nat) : Int)).toNat = xs.length - 1 := by
    rw [List.size_toArray]; omega
  rw [e]
  simpa using ht

theorem mul01 {v : Int} {t u : Tok} (h0 : 0 ≤ v) (h1 : v < 2) (h : ∀ z t' k, (z = Str.empty ∨ z = Str.ofString " ") → Q (.str z t') { s with toks := k }) :
    wpAny (model prog w) A (binaryOp .Mult (.str (Str.ofString " ") t) (.int v u)) Q E s := by
  have hv : v = 0 ∨ v = 1 := by omega
  rcases hv with rfl | rfl
  · exact SB.mul (by unfold MulOk; decide +kernel) fun t' k => by
      rw [show Txt.mul (Str.ofString " ") 0 = Str.empty from by decide +kernel]
      exact h _ t' k (.inl rfl)
  · exact SB.mul (by unfold MulOk; decide +kernel) fun t' k => by
      rw [show Txt.mul (Str.ofString " ") 1 = Str.ofString " " from by decide +kernel]
      exact h _ t' k (.inr rfl)
end

theorem hang_use {w : World} {mean : ExcName → Option Value} {mg mb : Str → Option Value} {dp un : Nat} {gd : Option (List Code)} {cn : Str} {cs : Scope} {a : Addr} {ccd : Value} {cl : List (Str × Addr)} {outer : List Env} {A₀ : Around} {base h₀ : Heap} {L : Addr} {m : Str → Option Value} {s : Shared} {Q E : Value → Shared → Prop}
    {x : Str} {tx : Tok} {own : List (Addr × Obj)}
    (B : Below A₀ base outer h₀) (F : Fr h₀ L s.heap m) (X : (hd.heap_39 w.params).In h₀)
    (N : News h₀ L s.heap own)
    (T : Top hd.view_39 (looseW hd.view_39 []) mean mg mb h₀) (hk : cs.kind = .function)
    (hx : x.length ≤ 1000) (hd : dp + 3 < recursionLimit) (hu : un + 32 < cLine)
    (ret : ∀ r t h' tk', r = (if Txt.endswith x (Str.ofString " ") = true then x else x ++ Str.ofString " ") ++ Str.ofString "\\" → Fr h₀ L h' m → News h₀ L h' own → Q (.str r t) { s with heap := h', toks := tk' }) :
    wpAny (model PySem.Challenge.rw_nk0012_01.row.prog w) (ktrTop dp un gd cn cs L a ccd cl outer) (call (.ref 21) [.str x tx]) Q E s :=
  hang_ok B F X N T hk hx hd hu fun t h' tk' F' N' => ret _ t h' tk' rfl F' N'

/-- what _add_syntax makes of a text, given its parts -/
def addT (x y h sp c' g cs' cm : Str) : Str := if cs'.length = 0 then x ++ y else Str.empty ++ h ++ sp ++ c' ++ y ++ (if g.length = 0 then Str.ofString "  " else g) ++ cs' ++ cm

/-- the parts of a text, as _add_syntax takes it apart -/
structure Parts (x h sp l c cs' cm c' : Str) : Prop where
  er1 : (Txt.rpartition x (Str.ofString "\n")).1 = h
  er2 : (Txt.rpartition x (Str.ofString "\n")).2.1 = sp
  er3 : (Txt.rpartition x (Str.ofString "\n")).2.2 = l
  ep1 : (Txt.partition l (Str.ofString "#")).1 = c
  ep2 : (Txt.partition l (Str.ofString "#")).2.1 = cs'
  ep3 : (Txt.partition l (Str.ofString "#")).2.2 = cm
  es : Txt.rstrip c = c'
  h1 : h.length ≤ 1000
  h2 : sp.length ≤ 1000
  h3 : l.length ≤ 1000
  h4 : c.length ≤ 1000
  h5 : cs'.length ≤ 1000
  h6 : cm.length ≤ 1000
  h7 : c'.length ≤ c.length

theorem add_use {w : World} {mean : ExcName → Option Value} {mg mb : Str → Option Value} {dp un : Nat} {gd : Option (List Code)} {cn : Str} {cs : Scope} {a : Addr} {ccd : Value} {cl : List (Str × Addr)} {outer : List Env} {A₀ : Around} {base h₀ : Heap} {L : Addr} {m : Str → Option Value} {s : Shared} {Q E : Value → Shared → Prop}
    {x y h sp l c cs' cm c' r : Str} {tx ty tz : Tok} {own : List (Addr × Obj)} (P : Parts x h sp l c cs' cm c') (er : addT x y h sp c' (Txt.slice c (some (c'.length : Int)) none) cs' cm = r)
    (B : Below A₀ base outer h₀) (F : Fr h₀ L s.heap m) (X : (hd.heap_39 w.params).In h₀)
    (N : News h₀ L s.heap own)
    (T : Top hd.view_39 (looseW hd.view_39 []) mean mg mb h₀) (hk : cs.kind = .function)
    (hx : x.length ≤ 1000) (hy : y.length ≤ 10) (hd : dp + 3 < recursionLimit) (hu : un + 32 < cLine)
    (ret : ∀ t h' tk', Fr h₀ L h' m → News h₀ L h' own → Q (.str r t) { s with heap := h', toks := tk' }) :
    wpAny (model PySem.Challenge.rw_nk0012_01.row.prog w) (ktrTop dp un gd cn cs L a ccd cl outer) (call (.ref 28) [.str x tx, .str y ty, .str (Str.ofString "\n") tz]) Q E s := by
  refine add_ok P.er1 P.er2 P.er3 P.ep1 P.ep2 P.ep3 P.es B F X N T hk hx hy P.h1 P.h2 P.h3 P.h4 P.h5 P.h6 P.h7 hd hu fun q t h' tk' e1 e2 F' N' => ?_
  have e : q = r := by
    subst er
    unfold addT
    by_cases h0 : cs'.length = 0
    · rw [if_pos h0]; exact e1 h0
    · rw [if_neg h0]; exact e2 h0
  rw [e]
  exact ret t h' tk' F' N'
end N5

section T1
open PySem PySem.W PyProof.Rows PySem.Spec PySem.Calls
def lawBody : List Stmt := match PySem.Challenge.pw_nk0012_01.main.body with
  | [_, _, _, _, _, _, _, .FunctionDef _ _ b _ _ _ _ _ _ _] => b
  | _ => []
def lawScope : Scope := match PySem.Challenge.pw_nk0012_01.main.body with
  | [_, _, _, _, _, _, _, .FunctionDef _ _ _ _ _ _ sc _ _ _] => sc
  | _ => default

theorem fr_knows {h₀ h : Heap} {L : Addr} {m : Str → Option Value} {ps : List (Str × Value)} (e : ∀ p ∈ ps, m p.1 = some p.2) (F : Fr h₀ L h m) : Fr h₀ L h (kstB m ps) := by
  have em : kstB m ps = m := by
    funext z
    exact kstB_eq e fun _ => rfl
  rw [em]
  exact F

local macro_rules | `(tactic| walk_at "call ref") => `(tactic| (k_here; (with_reducible show wpAny _ _ (call (Value.ref 35) _) _ _ _); k_dflt (refine' next_use ?k1 ?k2 ?k3 ?k4 ?kU ?kD ?kne ?k5 ?kK ?kI ?kl0 ?kl1 ?kz ?ka0 ?ka1 ?km0 ?km1 ?kd ?ku ?_; (case k1 => k_asm); (case k2 => k_asm); (case k3 => k_asm); (case k4 => k_asm); (case kU => k_updF); (case kD => k_mem); (case kne => first | assumption | omega); (case k5 => k_asm); (case kK => first | exact rfl | assumption); (case kI => assumption); (case kl0 => omega); (case kl1 => omega); (case kz => assumption); (case ka0 => omega); (case ka1 => omega); (case km0 => decide); (case km1 => decide); (case kd => ktr_room); (case ku => ktr_units); k_whole); intro v' t' tA' h' tk' hv0' hv1' F' N'; (try dsimp only at N'); (try k_sweep)))
local macro_rules | `(tactic| walk_at "call ref") => `(tactic| (k_here; (with_reducible show wpAny _ _ (call (Value.ref 28) _) _ _ _); k_dflt (refine' add_use ?kP ?kr ?k1 ?k2 ?k3 ?k4 ?k5 ?kK ?kx ?ky ?kd ?ku ?_; (case kP => assumption); (case kr => assumption); (case k1 => k_asm); (case k2 => k_asm); (case k3 => k_asm); (case k4 => k_asm); (case k5 => k_asm); (case kK => first | exact rfl | assumption); (case kx => omega); (case ky => omega); (case kd => ktr_room); (case ku => ktr_units); k_whole); intro t' h' tk' F' N'; (try k_sweep)))
local macro_rules | `(tactic| walk_at "call ref") => `(tactic| (k_here; (with_reducible show wpAny _ _ (call (Value.ref 21) _) _ _ _); k_dflt (refine' hang_use ?k1 ?k2 ?k3 ?k4 ?k5 ?kK ?kx ?kd ?ku ?_; (case k1 => k_asm); (case k2 => k_asm); (case k3 => k_asm); (case k4 => k_asm); (case k5 => k_asm); (case kK => first | exact rfl | assumption); (case kx => (simp only [Str.length_append]; omega)); (case kd => ktr_room); (case ku => ktr_units); k_whole); intro r' t' h' tk' hr' F' N'; (try k_sweep)))
local macro_rules | `(tactic| walk_at "call builtin:str.split") => `(tactic| (k_here; k_dflt (refine' str_split ?k1 ?k2 ?k3 ?k4 ?_; (case k1 => k_asm); (case k2 => k_asm); (case k3 => decide); (case k4 => omega); k_whole); intro D' vs' h' k' hs' F' N' l1; (try k_lt l1)))
local macro_rules | `(tactic| walk_at "call builtin:len") => `(tactic| (k_here; (with_reducible show wpAny _ _ (call (Value.builtin "len") [Value.ref _]) _ _ _); k_dflt (refine' str_len (News.isList ?N ?m) ?S ?hn ?hb ?_; (case N => k_asm); (case m => k_mem); (case S => assumption); (case hn => assumption); (case hb => omega); k_whole); intro t' k'))
local macro_rules | `(tactic| walk_at "compareOp NotEq str str") => `(tactic| (k_here; with_reducible refine str_ne_self ?_))
local macro_rules | `(tactic| walk_at "binaryOp Mult str int") => `(tactic| (k_here; (refine mul01 (by omega) (by omega) ?_); intro z' t' k' hz'; rcases hz' with hz' | hz' <;> subst hz'))

set_option maxRecDepth 100000 in
set_option maxHeartbeats 8000000 in
theorem tailA {w : World} {mean : ExcName → Option Value} {mg mb : Str → Option Value} {a : Addr} {ccd : Value} {h₀ : Heap} {L : Addr} {m : Str → Option Value} {s : Shared} {Q : Flow → Shared → Prop}
    {S D R : Addr} {at' : Int} {tkA : Tok} {ws vs : List Value} {zs : List Int} {rs : List Str} {n nS nD nR : Nat} {own : List (Addr × Obj)}
    {x y l d h sp c cs' cm c' : Str} {tx ty tl td : Tok}
    (B : Below callerA h₀ [] h₀) (F : Fr h₀ L s.heap m) (X : (hd.heap_39 w.params).In h₀)
    (N : News h₀ L s.heap ((S, listOf #[.ref D, .int at' tkA] nS) :: (D, listOf ws.toArray nD) :: (R, listOf vs.toArray nR) :: own))
    (T : Top hd.view_39 (looseW hd.view_39 []) mean mg mb h₀)
    (hI : IntsAre ws zs) (hl0 : 0 < zs.length) (hl1 : zs.length ≤ 64) (hz : ∀ z ∈ zs, 0 ≤ z ∧ z < 1000003) (ha0 : 0 ≤ at') (ha1 : at' ≤ 900)
    (hneD : @Ne Nat S D) (hneR : @Ne Nat S R) (hneDR : @Ne Nat D R) (hoff : OwnOff own [S, D, R])
    (hvs : StrsAre vs rs) (hrn : rs.length = n) (hn10 : n ≤ 10)
    (m1 : m (Str.ofString "state") = some (.ref S)) (m2 : m (Str.ofString "rows") = some (.ref R)) (m3 : m (Str.ofString "sign") = some (.str y ty)) (m4 : m (Str.ofString "text") = some (.str x tx)) (m5 : m (Str.ofString "last") = some (.str l tl)) (m6 : m (Str.ofString "due") = some (.str d td))
    (hx : x.length ≤ 500) (hy : y.length ≤ 10) (hl : l.length ≤ 500) (hdl : d.length ≤ 800)
    (hP : Parts x h sp l c cs' cm c') (hadd : addT x y h sp c' (Txt.slice c (some (c'.length : Int)) none) cs' cm = d) (hsplit : (Txt.split d (Str.ofString "\n")).length = n)
    (hend : Txt.endswith l (Str.ofString " ") = false)
    (ret : ∀ m' h' tk', Fr h₀ L h' m' → Q (.ret (.bool true)) { s with heap := h', toks := tk' }) :
    wpAny (model PySem.Challenge.rw_nk0012_01.row.prog w) (callerA.deeper (envOf (Str.ofString "law") lawScope L a ccd)) (execs (lawBody.drop 9) (envOf (Str.ofString "law") lawScope L a ccd)) Q (fun _ _ => False) s := by
  revert X; k_fill; intro X
  have hb1 : (Str.ofString " ").length = 1 := by decide
  have hb0 : Str.empty.length = 0 := by decide
  have hb2 : (Str.ofString "\\").length = 1 := by decide
  replace F := fr_knows (ps := [(Str.ofString "due", .str d td), (Str.ofString "last", .str l tl), (Str.ofString "text", .str x tx), (Str.ofString "sign", .str y ty), (Str.ofString "rows", .ref R), (Str.ofString "state", .ref S)]) (by
    simp only [List.forall_mem_cons]
    exact ⟨m6, m5, m4, m3, m2, m1, fun _ h => nomatch h⟩) F
  dsimp only [kstB] at F
  dsimp only [lawBody, lawScope, PySem.Challenge.pw_nk0012_01, List.drop]
  k_steps
  · exact absurd rfl (by assumption)
  · have e : ∀ r, r = (if Txt.endswith (l ++ Str.empty) (Str.ofString " ") = true then l ++ Str.empty else l ++ Str.empty ++ Str.ofString " ") ++ Str.ofString "\\" → (r == l ++ Str.ofString " " ++ Str.ofString "\\") = true := fun r er => by
      rw [Str.append_empty, hend] at er
      rw [er]
      exact beq_self_eq_true _
    rw [e _ (by assumption)]
    exact ret _ _ _ (by assumption)
  · have e : ∀ r, r = (if Txt.endswith (l ++ Str.ofString " ") (Str.ofString " ") = true then l ++ Str.ofString " " else l ++ Str.ofString " " ++ Str.ofString " ") ++ Str.ofString "\\" → (r == l ++ Str.ofString " " ++ Str.ofString "\\") = true := fun r er => by
      rw [KT.ends_app, if_pos rfl] at er
      rw [er]
      exact beq_self_eq_true _
    rw [e _ (by assumption)]
    exact ret _ _ _ (by assumption)
end T1

section N6
open PySem PySem.W PyProof.Rows PySem.Spec PySem.Calls
/-- the end of a turn of a while that changes the one int x -/
def WhPost (h₀ : Heap) (L : Addr) (s : Shared) (x : Str) (m₀ : Str → Option Value) (led : List (Addr × Obj)) (P : Int → Prop) (μ : Int → Nat) (Q : Flow → Shared → Prop) (i : Int) (f : Flow) (s₂ : Shared) : Prop :=
  match f with
  | .ret v => Q (.ret v) s₂
  | .brk => Q .next s₂
  | _ => ∃ i' t' h' tk m' news', s₂ = { s with heap := h', toks := tk } ∧ Fr h₀ L h' m' ∧ News h₀ L h' news' ∧ (∀ p ∈ led, p ∈ news') ∧ m' x = some (.int i' t') ∧ (∀ z, z ≠ x → m' z = m₀ z) ∧ P i' ∧ μ i' < μ i
theorem WhPost.intro {h₀ : Heap} {L : Addr} {s : Shared} {x : Str} {m₀ m' : Str → Option Value} {led news' : List (Addr × Obj)} {P : Int → Prop} {μ : Int → Nat} {Q : Flow → Shared → Prop} {i i' : Int} {t' : Tok} {h' : Heap} {tk : Nat}
    (F : Fr h₀ L h' m') (N : News h₀ L h' news') (hn : ∀ p ∈ led, p ∈ news') (hx : m' x = some (.int i' t')) (hm : ∀ z, z ≠ x → m' z = m₀ z) (hp : P i') (hlt : μ i' < μ i) :
    WhPost h₀ L s x m₀ led P μ Q i .next { s with heap := h', toks := tk } := ⟨i', t', h', tk, m', news', rfl, F, N, hn, hx, hm, hp, hlt⟩

theorem item_code {x : Str} {i : Int} (h0 : 0 ≤ i) (h1 : i < (x.length : Int)) : Txt.item x i = ⟨#[x.cps.getD i.toNat 0]⟩ := by
  have hk : i.toNat < x.cps.size := by
    have : x.cps.size = x.length := rfl
    omega
  have e : Txt.charAt x i = some (x.cps.getD i.toNat 0) := by
    unfold Txt.charAt
    refine StrLaws.at_nonneg h0 ?_
    rw [Array.getElem?_eq_getElem hk]
    simp [Array.getD, hk]
  unfold Txt.item
  rw [e]
  rfl
theorem item_eq {x z : Str} {c : Nat} {i : Int} (h0 : 0 ≤ i) (h1 : i < (x.length : Int)) (hz : z = ⟨#[c]⟩) (h : (Txt.item x i == z) = true) : x.cps.getD i.toNat 0 = c := by
  rw [item_code h0 h1, hz] at h
  have e := eq_of_beq h
  have e2 : (#[x.cps.getD i.toNat 0] : Array Nat) = #[c] := congrArg Str.cps e
  simpa using e2
theorem item_ne {x z : Str} {c : Nat} {i : Int} (h0 : 0 ≤ i) (h1 : i < (x.length : Int)) (hz : z = ⟨#[c]⟩) (h : (Txt.item x i == z) = false) : x.cps.getD i.toNat 0 ≠ c := by
  intro e
  rw [item_code h0 h1, hz, e] at h
  rw [beq_self_eq_true] at h
  cases h
theorem beq_of_bneF {a b : Str} (h : (a != b) = false) : (a == b) = true := by
  unfold bne at h
  rwa [Bool.not_eq_false'] at h
theorem beq_of_bneT {a b : Str} (h : (a != b) = true) : (a == b) = false := by
  unfold bne at h
  rwa [Bool.not_eq_true'] at h
theorem hash_is : Str.ofString "#" = ⟨#[35]⟩ := by decide +kernel
theorem blank_is : Str.ofString " " = ⟨#[32]⟩ := by decide +kernel

section
variable {prog : Program} {w : World} {A : Around} {E : Value → Shared → Prop} {Q : Flow → Shared → Prop} {s : Shared} {env : Env} {h₀ : Heap} {L : Addr}
theorem while_one {test : Expr} {body : List Stmt} {pos : Pos} {x : Str} {i₀ : Int} {t₀ : Tok} {m₀ : Str → Option Value} {led : List (Addr × Obj)} (P : Int → Prop) (μ : Int → Nat)
    (F : Fr h₀ L s.heap (fun z => if z = x then some (.int i₀ t₀) else m₀ z)) (N : News h₀ L s.heap led) (hp : P i₀)
    (turn : ∀ i t h tk, P i → Fr h₀ L h (fun z => if z = x then some (.int i t) else m₀ z) → News h₀ L h led →
      wpAny (model prog w) A (isTrue test env (eval test env)) (fun b s₂ =>
        if b = true then wpAny (model prog w) A (execs body env) (WhPost h₀ L s x m₀ led P μ Q i) E s₂ else Q .next s₂) E { s with heap := h, toks := tk })
    (hE : PassesOwn (model prog w) A env E := by passes_own) :
    wpAny (model prog w) A (exec (.While test body [] pos) env) Q E s := by
  refine ksw_while (σ := Int × Tok) (fun _ => led) (fun c => [(x, .int c.1 c.2)]) (fun _ => True) [x] (fun c => P c.1) (fun c => μ c.1) (i₀, t₀) F N trivial ?_ hp ?_ hE
  · intro p hp
    rw [List.mem_singleton.mp hp]
    exact if_pos rfl
  · rintro ⟨i, t⟩ u h tk _ hP F' N'
    have em : (kstB (fun z => if [x].contains z then u z else (fun z => if z = x then some (Value.int i₀ t₀) else m₀ z) z) [(x, .int i t)]) = fun z => if z = x then some (Value.int i t) else m₀ z := by
      funext z
      show (if z = x then some (Value.int i t) else if [x].contains z then u z else if z = x then some (Value.int i₀ t₀) else m₀ z) = _
      by_cases hz : z = x
      · rw [if_pos hz, if_pos hz]
      · rw [if_neg hz, if_neg hz, if_neg hz, if_neg (by simpa using hz)]
    rw [em] at F'
    refine wpAny_mono (turn i t h tk hP F' N') (fun b s₂ p => ?_) fun _ _ e => e
    cases b with
    | false => exact p
    | true =>
      simp only [if_true] at p ⊢
      refine wpAny_mono p (fun f s₃ q => ?_) fun _ _ e => e
      have key : (∃ i' t' h' tk m' news', s₃ = { s with heap := h', toks := tk } ∧ Fr h₀ L h' m' ∧ News h₀ L h' news' ∧ (∀ p ∈ led, p ∈ news') ∧ m' x = some (.int i' t') ∧ (∀ z, z ≠ x → m' z = m₀ z) ∧ P i' ∧ μ i' < μ i) →
          KswEnd h₀ L s (fun (_ : Int × Tok) => led) (fun c => [(x, .int c.1 c.2)]) (fun _ => True) [x] (fun z => if z = x then some (Value.int i₀ t₀) else m₀ z) (fun c => P c.1) (fun c => μ c.1) (i, t) s₃ := by
        rintro ⟨i', t', h', tk', m', news', e, F₂, N₂, hn, hx, hm, hP', hlt⟩
        refine ⟨(i', t'), h', tk', m', news', e, F₂, N₂, hn, trivial, ?_, ?_, hP', hlt⟩
        · intro p hp
          rw [List.mem_singleton.mp hp]
          exact hx
        · intro z hz _
          have hzx : z ≠ x := hz _ (.head _)
          show m' z = if z = x then some (Value.int i₀ t₀) else m₀ z
          rw [if_neg hzx]
          exact hm z hzx
      cases f with
      | ret v => exact q
      | brk => exact q
      | next => exact key q
      | cont => exact key q
end
end N6

section N7
open PySem PySem.W PyProof.Rows PySem.Spec PySem.Calls
section
variable {prog : Program} {w : World} {A : Around} {h₀ : Heap} {L : Addr} {m : Str → Option Value} {E : Value → Shared → Prop} {s : Shared} {Q : Value → Shared → Prop} {news : List (Addr × Obj)}
theorem strs_take {vs : List Value} {xs : List Str} (h : StrsAre vs xs) (k : Nat) : StrsAre (vs.take k) (xs.take k) := h.take' k
/-- a list of texts without its last -/
theorem str_cut_last {value slice : Expr} {l : Addr} {vs : List Value} {xs : List Str} {u : Tok} (F : Fr h₀ L s.heap m) (N : News h₀ L s.heap news) (hl : s.heap.IsList l vs.toArray) (hS : StrsAre vs xs) (hn : xs.length ≤ 1000)
    (h : ∀ D vs' h', StrsAre vs' xs.dropLast → Fr h₀ L h' m → News h₀ L h' ((D, listOf vs'.toArray 0) :: news) → (∀ p ∈ news, p.1 < D) → Q (.ref D) { s with heap := h' })
    (hs : subscripted slice false (.ref l) (.ref s.heap.objs.size) = operate [.ref s.heap.objs.size, .ref l] (getItem (.ref l) (.ref s.heap.objs.size)) := by with_unfolding_all rfl) (ht : ∀ r, letTemporaryGo value (.ref l) r = pure () := by intro _; with_unfolding_all rfl) :
    wpAny (model prog w) A (subscriptTail value slice (.ref l) (.ref s.heap.objs.size)) Q E { s with heap := s.heap.push { cls := .type "slice", data := .fields #[.none, .int (-1) u, .none] } } := by
  have hlen := strs_len hS
  have e : sliceBounds none (some (-1)) none vs.toArray.size = (((0 : Nat) : Int), ((vs.length - 1 : Nat) : Int), 1) := by
    simp only [sliceBounds, Option.getD_none, show (1 : Int) > 0 by decide, if_true, show (-1 : Int) < 0 by decide, List.size_toArray]
    congr 1
    congr 1
    omega
  have e2 : slicePick vs.toArray none (some (-1)) none = (vs.take (vs.length - 1)).toArray := by
    rw [kmk_pick_nat _ e]
    simp
  refine kmk_slice F N hl .none (.int _ _) (fun D h' F' N' l1 => h D (vs.take (vs.length - 1)) h' ?_ F' (e2 ▸ N') l1) hs ht (by rw [List.size_toArray, sizeLine_eq]; omega)
  rw [List.dropLast_eq_take, hlen]
  exact strs_take hS _

/-- two lists of texts put together -/
theorem str_cat {l b : Addr} {vs ws : List Value} {xs ys : List Str} (F : Fr h₀ L s.heap m) (N : News h₀ L s.heap news) (hl : s.heap.IsList l vs.toArray) (hb : s.heap.IsList b ws.toArray) (hS : StrsAre vs xs) (hT : StrsAre ws ys) (hn : xs.length ≤ 1000) (hm : ys.length ≤ 1000)
    (h : ∀ D vs' h', StrsAre vs' (xs ++ ys) → Fr h₀ L h' m → News h₀ L h' ((D, listOf vs'.toArray 0) :: news) → (∀ p ∈ news, p.1 < D) → Q (.ref D) { s with heap := h' }) :
    wpAny (model prog w) A (binaryOp .Add (.ref l) (.ref b)) Q E s :=
  add_lists F N hl hb (fun h' F' N' => h _ (vs ++ ws) h' (hS.append' hT) F' N' fun p hp => Heap.lt_size (N p hp).1) (by rw [strs_len hS, strs_len hT, sizeLine_eq]; omega)
theorem str_cat1 {l b : Addr} {vs : List Value} {xs : List Str} {z : Str} {t : Tok} (F : Fr h₀ L s.heap m) (N : News h₀ L s.heap news) (hl : s.heap.IsList l vs.toArray) (hb : s.heap.IsList b #[.str z t]) (hS : StrsAre vs xs) (hn : xs.length ≤ 1000)
    (h : ∀ D vs' h', StrsAre vs' (xs ++ [z]) → Fr h₀ L h' m → News h₀ L h' ((D, listOf vs'.toArray 0) :: news) → (∀ p ∈ news, p.1 < D) → Q (.ref D) { s with heap := h' }) :
    wpAny (model prog w) A (binaryOp .Add (.ref l) (.ref b)) Q E s :=
  str_cat (ws := [.str z t]) (ys := [z]) F N hl hb hS (.cons z t .nil) hn (by simp) h
end
theorem cat_short {rs : List Str} {z : Str} (hrl : ∀ r ∈ rs, r.length ≤ 1000) (hz : z.length ≤ 1000) : ∀ y ∈ rs.dropLast ++ [z], y.length ≤ 1000 := by
  intro y hy
  rcases List.mem_append.mp hy with h | h
  · exact hrl y (List.dropLast_subset _ h)
  · rw [List.mem_singleton.mp h]; exact hz

/-- the signs -/
def signL : List Str := [Str.ofString ",", Str.ofString ")", Str.ofString ",)"]
theorem sign_short : ∀ y ∈ signL, y.length ≤ 2 := by decide +kernel
theorem sign_free : ∀ y ∈ signL, 10 ∉ y.cps.toList := by decide +kernel

/-- what the law wants of the text x, the sign y, the last row l, the due text d, the rows' number n -/
def GoodD (x y l d : Str) (n : Nat) : Prop :=
  ∃ h sp c cs' cm c', Parts x h sp l c cs' cm c' ∧ addT x y h sp c' (Txt.slice c (some (c'.length : Int)) none) cs' cm = d ∧ (Txt.split d (Str.ofString "\n")).length = n ∧ d.length ≤ 800
end N7

section T2
open PySem PySem.W PyProof.Rows PySem.Spec PySem.Calls
local macro_rules | `(tactic| walk_at "call ref") => `(tactic| (k_here; (with_reducible show wpAny _ _ (call (Value.ref 35) _) _ _ _); k_dflt (refine' next_use ?k1 ?k2 ?k3 ?k4 ?kU ?kD ?kne ?k5 ?kK ?kI ?kl0 ?kl1 ?kz ?ka0 ?ka1 ?km0 ?km1 ?kd ?ku ?_; (case k1 => k_asm); (case k2 => k_asm); (case k3 => k_asm); (case k4 => k_asm); (case kU => k_updF); (case kD => k_mem); (case kne => first | assumption | omega); (case k5 => k_asm); (case kK => first | exact rfl | assumption); (case kI => assumption); (case kl0 => omega); (case kl1 => omega); (case kz => assumption); (case ka0 => omega); (case ka1 => omega); (case km0 => decide); (case km1 => decide); (case kd => ktr_room); (case ku => ktr_units); k_whole); intro v' t' tA' h' tk' hv0' hv1' F' N'; (try dsimp only at N'); (try k_sweep)))
local macro_rules | `(tactic| walk_at "subscriptTail") => `(tactic| (k_here; (with_reducible show wpAny _ _ (subscriptTail _ _ (Value.ref _) (Value.int _ _)) _ _ _); k_dflt (refine' str_item (xs := signL) (News.isList ?N ?m) ?S ?h0 ?h1 ?hn ?_; (case N => k_asm); (case m => k_mem); (case S => exact .cons _ _ (.cons _ _ (.cons _ _ .nil))); (case h0 => omega); (case h1 => (simp only [signL, List.length_cons, List.length_nil]; omega)); (case hn => decide); k_whole); intro y' t' hy'; have hy2' := sign_short _ hy'))
local macro_rules | `(tactic| walk_at "subscriptTail") => `(tactic| (k_here; (with_reducible show wpAny _ _ (subscriptTail _ _ (Value.ref _) (Value.int (-1) _)) _ _ _); k_dflt (refine' str_last (News.isList ?N ?m) ?S ?hx ?hn ?_; (case N => k_asm); (case m => k_mem); (case S => assumption); (case hx => assumption); (case hn => omega); k_whole); intro t'))
local macro_rules | `(tactic| walk_at "subscriptTail Name Slice ref ref") => `(tactic| (k_here; k_dflt (refine' str_cut_last ?F ?N (News.isList ?N2 ?m) ?S ?hn ?_; (case F => k_asm); (case N => k_asm); (case N2 => k_asm); (case m => k_mem); (case S => assumption); (case hn => omega); k_whole); intro D' vs' h' hs' F' N' l1; (try k_lt l1); (try k_sweep)))
local macro_rules | `(tactic| walk_at "binaryOp Add ref ref") => `(tactic| (k_here; k_dflt (refine' str_cat1 ?F ?N (News.isList ?N2 ?m) (News.isList ?N3 ?m2) ?S ?hn ?_; (case F => k_asm); (case N => k_asm); (case N2 => k_asm); (case N3 => k_asm); (case m => k_mem); (case m2 => k_mem); (case S => assumption); (case hn => (simp only [List.length_dropLast]; omega)); k_whole); intro D' vs' h' hs' F' N' l1; (try k_lt l1); (try k_sweep)))
local macro_rules | `(tactic| walk_at "call builtin:str.join") => `(tactic| (k_here; k_dflt (refine' str_join (News.isList ?N ?m) ?S ?hB ?hn ?hx ?_; (case N => k_asm); (case m => k_mem); (case S => assumption); (case hB => first | assumption | exact cat_short (by assumption) (by omega)); (case hn => first | omega | (simp only [List.length_append, List.length_dropLast, List.length_cons, List.length_nil]; omega)); (case hx => decide); k_whole); intro t' k'))
local macro_rules | `(tactic| walk_at "exec While") => `(tactic| (k_here; refine Hold.out ?_))
local macro_rules | `(tactic| walk_at "execs cons Assign cons") => `(tactic| (k_here; (with_reducible show wpAny _ _ (execs (Stmt.Assign [Expr.Name (Str.ofString "made") _] _ _ :: _) _) _ _ _); refine Hold.out ?_))

set_option maxRecDepth 100000 in
set_option maxHeartbeats 8000000 in
theorem tailB {w : World} {mean : ExcName → Option Value} {mg mb : Str → Option Value} {a : Addr} {ccd : Value} {h₀ : Heap} {L : Addr} {m : Str → Option Value} {s : Shared} {Q : Flow → Shared → Prop}
    {S D R : Addr} {at' : Int} {tkA : Tok} {ws vs : List Value} {zs : List Int} {rs : List Str} {l : Str} {n nS nD nR : Nat} {own : List (Addr × Obj)}
    (B : Below callerA h₀ [] h₀) (F : Fr h₀ L s.heap m) (X : (hd.heap_39 w.params).In h₀)
    (N : News h₀ L s.heap ((S, listOf #[.ref D, .int at' tkA] nS) :: (D, listOf ws.toArray nD) :: (R, listOf vs.toArray nR) :: own))
    (T : Top hd.view_39 (looseW hd.view_39 []) mean mg mb h₀)
    (hI : IntsAre ws zs) (hl0 : 0 < zs.length) (hl1 : zs.length ≤ 64) (hz : ∀ z ∈ zs, 0 ≤ z ∧ z < 1000003) (ha0 : 0 ≤ at') (ha1 : at' ≤ 800)
    (hneD : @Ne Nat S D) (hneR : @Ne Nat S R) (hneDR : @Ne Nat D R) (hoff : OwnOff own [S, D, R])
    (hvs : StrsAre vs rs) (hrn : rs.length = n) (hn10 : n ≤ 10) (hrl : ∀ r ∈ rs, r.length ≤ 1000) (hlast : rs.getLast? = some l) (hl : l.length ≤ 100) (hx : (Txt.join (Str.ofString "\n") rs).length ≤ 500)
    (m1 : m (Str.ofString "state") = some (.ref S)) (m2 : m (Str.ofString "rows") = some (.ref R)) 
    (law1 : ∀ y ∈ signL, (∀ j : Nat, j < l.length → l.cps.getD j 0 ≠ 35) → GoodD (Txt.join (Str.ofString "\n") rs) y l (Txt.join (Str.ofString "\n") rs ++ y) n)
    (law2 : ∀ y ∈ signL, ∀ (i e : Int), 0 ≤ i → i < (l.length : Int) → l.cps.getD i.toNat 0 = 35 → (∀ j : Nat, (j : Int) < i → l.cps.getD j 0 ≠ 35) → 0 ≤ e → e ≤ i → (∀ j : Nat, e ≤ (j : Int) → (j : Int) < i → l.cps.getD j 0 = 32) → (0 < e → l.cps.getD (e - 1).toNat 0 ≠ 32) →
      ∀ g, (e < i → g = Txt.slice l (some e) (some i)) → (¬ e < i → g = Str.ofString "  ") → GoodD (Txt.join (Str.ofString "\n") rs) y l (Txt.join (Str.ofString "\n") (rs.dropLast ++ [Txt.slice l none (some e) ++ y ++ g ++ Txt.slice l (some i) none])) n)
    (hend : Txt.endswith l (Str.ofString " ") = false)
    (ret : ∀ m' h' tk', Fr h₀ L h' m' → Q (.ret (.bool true)) { s with heap := h', toks := tk' }) :
    wpAny (model PySem.Challenge.rw_nk0012_01.row.prog w) (callerA.deeper (envOf (Str.ofString "law") lawScope L a ccd)) (execs (lawBody.drop 3) (envOf (Str.ofString "law") lawScope L a ccd)) Q (fun _ _ => False) s := by
  revert X; k_fill; intro X
  have hbb : (Str.ofString "  ").length = 2 := by decide
  replace F := fr_knows (ps := [(Str.ofString "rows", .ref R), (Str.ofString "state", .ref S)]) (by
    simp only [List.forall_mem_cons]
    exact ⟨m2, m1, fun _ h => nomatch h⟩) F
  dsimp only [kstB] at F
  dsimp only [lawBody, lawScope, PySem.Challenge.pw_nk0012_01, List.drop]
  k_steps
  refine Hold.mk ?_
  with_reducible rename Fr _ _ _ _ => lF
  with_reducible rename News _ _ _ _ => lN
  refine while_one (x := Str.ofString "at") (fun i => 0 ≤ i ∧ i ≤ (l.length : Int) ∧ ∀ j : Nat, (j : Int) < i → l.cps.getD j 0 ≠ 35) (fun i => l.length - i.toNat) lF lN ⟨by decide, by omega, fun j hj => absurd hj (by omega)⟩ ?_
  clear lF lN
  rintro i ti hi tki ⟨hi0, hi1, hi2⟩ F' N'
  k_fold
  k_steps
  · refine WhPost.intro (by assumption) (by assumption) (fun _ h => h) (by rfl) (fun z hz => by simp only [if_neg hz]) ⟨by omega, by omega, fun j hj => ?_⟩ (by omega)
    by_cases hji : (j : Int) < i
    · exact hi2 j hji
    · have e : j = i.toNat := by omega
      rw [e]
      exact item_ne hi0 (by omega) hash_is (beq_of_bneT (by with_reducible assumption))
  · exfalso; omega
  · refine Hold.mk ?_
    with_reducible rename Fr _ _ _ _ => lF
    with_reducible rename News _ _ _ _ => lN
    refine while_one (x := Str.ofString "end") (fun e => 0 ≤ e ∧ e ≤ i ∧ ∀ j : Nat, e ≤ (j : Int) → (j : Int) < i → l.cps.getD j 0 = 32) (fun e => e.toNat) lF lN ⟨by omega, by omega, fun j hj hk => absurd hk (by omega)⟩ ?_
    clear lF lN
    rintro e te he tke ⟨he0, he1, he2⟩ F' N'
    k_fold
    k_steps
    · refine WhPost.intro (by assumption) (by assumption) (fun _ h => h) (by rfl) (fun z hz => by simp only [if_neg hz]) ⟨by omega, by omega, fun j hj hk => ?_⟩ (by omega)
      by_cases hji : e ≤ (j : Int)
      · exact he2 j hji hk
      · have e9 : j = (e - 1).toNat := by omega
        rw [e9]
        exact item_eq (by omega) (by omega) blank_is (by with_reducible assumption)
    all_goals (
      refine Hold.mk ?_
      first
      | (have hei : e < i := by with_reducible assumption
         have q1 : i < (l.length : Int) := by omega
         have q2 := law2 _ (by with_reducible assumption) i e hi0 q1
         have q3 := item_eq hi0 q1 hash_is (beq_of_bneF (by with_reducible assumption))
         have q4 := q2 q3 hi2 he0 he1 he2
         have q5 : 0 < e → l.cps.getD (e - 1).toNat 0 ≠ 32 := by first | exact fun h0 => absurd h0 (by with_reducible assumption) | exact fun h0 => item_ne (by omega) (by omega) blank_is (by with_reducible assumption)
         have q6 := q4 q5 _ (fun _ => rfl) (fun h0 => absurd hei h0)
         obtain ⟨hh, sp, c, cs', cm, c', hP, hadd, hsplit, hdl⟩ := q6
         have q7 : 0 ≤ at' + 1 := by omega
         have q8 : at' + 1 ≤ 900 := by omega
         have q9 : l.length ≤ 500 := by omega
         have q10 := Nat.le_trans (sign_short _ (by with_reducible assumption)) (show 2 ≤ 10 by decide)
         exact tailA (own := own) B (by assumption) X (cb_drop (by assumption) (fun p hp => .tail _ (.tail _ (.tail _ (.tail _ hp))))) T hI hl0 hl1 hz q7 q8 hneD hneR hneDR hoff hvs hrn hn10 (by rfl) (by rfl) (by rfl) (by rfl) (by rfl) (by rfl) hx q10 q9 hdl hP hadd hsplit hend (fun m' h' tk' F' => ret m' h' tk' F'))
      | (have hei : ¬ e < i := by with_reducible assumption
         have q1 : i < (l.length : Int) := by omega
         have q2 := law2 _ (by with_reducible assumption) i e hi0 q1
         have q3 := item_eq hi0 q1 hash_is (beq_of_bneF (by with_reducible assumption))
         have q4 := q2 q3 hi2 he0 he1 he2
         have q5 : 0 < e → l.cps.getD (e - 1).toNat 0 ≠ 32 := by first | exact fun h0 => absurd h0 (by with_reducible assumption) | exact fun h0 => item_ne (by omega) (by omega) blank_is (by with_reducible assumption)
         have q6 := q4 q5 _ (fun h0 => absurd h0 hei) (fun _ => rfl)
         obtain ⟨hh, sp, c, cs', cm, c', hP, hadd, hsplit, hdl⟩ := q6
         have q7 : 0 ≤ at' + 1 := by omega
         have q8 : at' + 1 ≤ 900 := by omega
         have q9 : l.length ≤ 500 := by omega
         have q10 := Nat.le_trans (sign_short _ (by with_reducible assumption)) (show 2 ≤ 10 by decide)
         exact tailA (own := own) B (by assumption) X (cb_drop (by assumption) (fun p hp => .tail _ (.tail _ (.tail _ (.tail _ hp))))) T hI hl0 hl1 hz q7 q8 hneD hneR hneDR hoff hvs hrn hn10 (by rfl) (by rfl) (by rfl) (by rfl) (by rfl) (by rfl) hx q10 q9 hdl hP hadd hsplit hend (fun m' h' tk' F' => ret m' h' tk' F')))
  · refine Hold.mk ?_
    have q5 : ∀ j : Nat, j < l.length → l.cps.getD j 0 ≠ 35 := fun j hj => hi2 j (by omega)
    have q6 := law1 _ (by with_reducible assumption) q5
    obtain ⟨hh, sp, c, cs', cm, c', hP, hadd, hsplit, hdl⟩ := q6
    have q7 : 0 ≤ at' + 1 := by omega
    have q8 : at' + 1 ≤ 900 := by omega
    have q9 : l.length ≤ 500 := by omega
    have q10 := Nat.le_trans (sign_short _ (by with_reducible assumption)) (show 2 ≤ 10 by decide)
    exact tailA (own := own) B (by assumption) X (cb_drop (by assumption) (fun p hp => .tail _ hp)) T hI hl0 hl1 hz q7 q8 hneD hneR hneDR hoff hvs hrn hn10 (by rfl) (by rfl) (by rfl) (by rfl) (by rfl) (by rfl) hx q10 q9 hdl hP hadd hsplit hend (fun m' h' tk' F' => ret m' h' tk' F')
  · exfalso; omega
end T2

section L1
open PySem PySem.W PyProof.Rows PySem.Spec PySem.Calls PySem.Builtin PySem.Builtin.Str
theorem str_ext {a b : PySem.Str} (h : a.cps.toList = b.cps.toList) : a = b := PySem.Str.ext' (Array.toList_inj.mp h)
theorem mk_list (l : List Nat) : (PySem.Str.mk l.toArray).cps.toList = l := rfl
theorem len_list (x : PySem.Str) : x.length = x.cps.toList.length := (Array.length_toList (xs := x.cps)).symm
theorem app_lst (a b : PySem.Str) : (a ++ b).cps.toList = a.cps.toList ++ b.cps.toList := KT.app_list a b

/-- a sign that stands at a place -/
theorem at_one (x : PySem.Str) (c i : Nat) : StrLaws.At x ⟨#[c]⟩ x.length i ↔ x.cps.toList[i]? = some c := StrLaws.subAt_one x c i

theorem mem_of_at {l : List Nat} {i c : Nat} (h : l[i]? = some c) : c ∈ l := List.mem_of_getElem? h
theorem app_get {C M : List Nat} {c : Nat} : (C ++ c :: M)[C.length]? = some c := by simp
theorem app_get_lt {C M : List Nat} {c k : Nat} (hk : k < C.length) : (C ++ c :: M)[k]? = C[k]? := by
  rw [List.getElem?_append_left hk]
theorem app_get_gt {C M : List Nat} {c k : Nat} (hk : C.length < k) : (C ++ c :: M)[k]? = M[k - C.length - 1]? := by
  rw [List.getElem?_append_right (by omega)]
  obtain ⟨j, hj⟩ : ∃ j, k - C.length = j + 1 := ⟨k - C.length - 1, by omega⟩
  rw [hj]
  simp

theorem sub_pre {x : PySem.Str} {C M : List Nat} {c : Nat} (e : x.cps.toList = C ++ c :: M) : strSub x 0 C.length = ⟨C.toArray⟩ := by
  rw [strSub_mk, e]
  simp
theorem sub_post {x : PySem.Str} {C M : List Nat} {c : Nat} (e : x.cps.toList = C ++ c :: M) : strSub x (C.length + (⟨#[c]⟩ : PySem.Str).length) x.length = ⟨M.toArray⟩ := by
  have h1 : (⟨#[c]⟩ : PySem.Str).length = 1 := rfl
  rw [strSub_mk, len_list, e, h1]
  have h2 : (C ++ c :: M).drop (C.length + 1) = M := by
    rw [← List.drop_drop]
    simp
  rw [h2, List.take_of_length_le]
  simp
  omega

theorem partition_at {x : PySem.Str} {C M : List Nat} {c : Nat} (e : x.cps.toList = C ++ c :: M) (hC : c ∉ C) : Txt.partition x ⟨#[c]⟩ = (⟨C.toArray⟩, ⟨#[c]⟩, ⟨M.toArray⟩) := by
  unfold Txt.partition
  rcases StrLaws.occ_head_from x ⟨#[c]⟩ 0 1 (Nat.le_refl 1) with ⟨h0, hn⟩ | ⟨i, r, h0, _, ha, hn⟩
  · exact absurd ((at_one x c C.length).mpr (by rw [e]; exact app_get)) (hn _ (Nat.zero_le _))
  · have hi : i = C.length := by
      have h1 := (at_one x c i).mp ha
      rw [e] at h1
      by_cases hlt : i < C.length
      · rw [app_get_lt hlt] at h1
        exact absurd (mem_of_at h1) hC
      · by_cases hgt : C.length < i
        · exact absurd ((at_one x c C.length).mpr (by rw [e]; exact app_get)) (hn _ (Nat.zero_le _) hgt)
        · omega
    rw [h0, hi]
    show (strSub x 0 C.length, _, strSub x (C.length + _) x.length) = _
    rw [sub_pre e, sub_post e]

theorem partition_free {x : PySem.Str} {c : Nat} (hx : c ∉ x.cps.toList) : Txt.partition x ⟨#[c]⟩ = (x, PySem.Str.empty, PySem.Str.empty) := by
  unfold Txt.partition
  rcases StrLaws.occ_head_from x ⟨#[c]⟩ 0 1 (Nat.le_refl 1) with ⟨h0, hn⟩ | ⟨i, r, h0, _, ha, hn⟩
  · rw [h0]
  · exact absurd (mem_of_at ((at_one x c i).mp ha)) hx

theorem rpartition_at {x : PySem.Str} {A B : List Nat} {c : Nat} (e : x.cps.toList = A ++ c :: B) (hB : c ∉ B) : Txt.rpartition x ⟨#[c]⟩ = (⟨A.toArray⟩, ⟨#[c]⟩, ⟨B.toArray⟩) := by
  unfold Txt.rpartition
  rcases StrLaws.last_spec x ⟨#[c]⟩ with ⟨h0, hn⟩ | ⟨i, h0, ha, hn⟩
  · exact absurd ((at_one x c A.length).mpr (by rw [e]; exact app_get)) (hn _)
  · have hi : i = A.length := by
      have h1 := (at_one x c i).mp ha
      rw [e] at h1
      by_cases hlt : i < A.length
      · exact absurd ((at_one x c A.length).mpr (by rw [e]; exact app_get)) (hn _ hlt)
      · by_cases hgt : A.length < i
        · rw [app_get_gt hgt] at h1
          exact absurd (mem_of_at h1) hB
        · omega
    rw [h0, hi]
    show (strSub x 0 A.length, _, strSub x (A.length + _) x.length) = _
    rw [sub_pre e, sub_post e]

theorem rpartition_free {x : PySem.Str} {c : Nat} (hx : c ∉ x.cps.toList) : Txt.rpartition x ⟨#[c]⟩ = (PySem.Str.empty, PySem.Str.empty, x) := by
  unfold Txt.rpartition
  rcases StrLaws.last_spec x ⟨#[c]⟩ with ⟨h0, hn⟩ | ⟨i, h0, ha, hn⟩
  · rw [h0]
  · exact absurd (mem_of_at ((at_one x c i).mp ha)) hx

/-- what stands ahead of the last row -/
def ahead (c : Nat) (ds : List PySem.Str) : List Nat := ds.foldr (fun d a => d.cps.toList ++ c :: a) []
theorem join_snoc (c : Nat) (z : PySem.Str) : ∀ ds : List PySem.Str, (Txt.join ⟨#[c]⟩ (ds ++ [z])).cps.toList = ahead c ds ++ z.cps.toList := by
  intro ds
  show (glued _ _).cps.toList = _
  rw [StrLaws.glued_eq_join]
  induction ds with
  | nil => rfl
  | cons d r ih =>
    obtain ⟨a, t, et⟩ : ∃ a t, r ++ [z] = a :: t := by
      cases r with
      | nil => exact ⟨_, _, rfl⟩
      | cons a t => exact ⟨_, _, rfl⟩
    rw [List.cons_append]
    rw [et] at ih ⊢
    show (d ++ ⟨#[c]⟩ ++ PySem.Str.join ⟨#[c]⟩ (a :: t)).cps.toList = _
    rw [app_lst, app_lst, ih]
    show d.cps.toList ++ [c] ++ (ahead c r ++ z.cps.toList) = (d.cps.toList ++ c :: ahead c r) ++ z.cps.toList
    simp
/-- it is empty, or it ends with the sign -/
theorem ahead_ends (c : Nat) : ∀ ds : List PySem.Str, (ds = [] ∧ ahead c ds = []) ∨ ∃ A, ahead c ds = A ++ [c]
  | [] => .inl ⟨rfl, rfl⟩
  | d :: r => by
    refine .inr ?_
    rcases ahead_ends c r with ⟨_, h⟩ | ⟨A, h⟩
    · exact ⟨d.cps.toList, by show d.cps.toList ++ c :: ahead c r = _; rw [h]⟩
    · exact ⟨d.cps.toList ++ c :: A, by show d.cps.toList ++ c :: ahead c r = _; rw [h]; simp⟩
theorem ahead_count (c : Nat) : ∀ ds : List PySem.Str, (∀ d ∈ ds, c ∉ d.cps.toList) → (ahead c ds).count c = ds.length
  | [], _ => rfl
  | d :: r, h => by
    show (d.cps.toList ++ c :: ahead c r).count c = _
    rw [List.count_append, List.count_cons_self, ahead_count c r fun q hq => h q (.tail _ hq), List.count_eq_zero.mpr (h d (.head _)), List.length_cons]
    omega

theorem join_count (c : Nat) (ps : List PySem.Str) (hne : ps ≠ []) (h : ∀ d ∈ ps, c ∉ d.cps.toList) : (Txt.join ⟨#[c]⟩ ps).cps.toList.count c + 1 = ps.length := by
  have e : ps = ps.dropLast ++ [ps.getLast hne] := (List.dropLast_concat_getLast hne).symm
  have hl : ps.length = ps.dropLast.length + 1 := by
    have := congrArg List.length e
    simpa using this
  rw [e, join_snoc, List.count_append, ahead_count c _ (fun d hd => h d (List.dropLast_subset _ hd)), List.count_eq_zero.mpr (h _ (List.getLast_mem hne))]
  simp
theorem split_ne (x y : PySem.Str) : Txt.split x y ≠ [] := by
  unfold Txt.split
  split
  · simp
  · split
    · simp
    · intro h
      have := congrArg List.length h
      rw [length_partsBetween] at this
      simp at this
/-- a text of n rows splits into n parts -/
theorem split_count (c : Nat) (ps : List PySem.Str) (hne : ps ≠ []) (h : ∀ d ∈ ps, c ∉ d.cps.toList) : (Txt.split (Txt.join ⟨#[c]⟩ ps) ⟨#[c]⟩).length = ps.length := by
  have h1 := join_count c ps hne h
  have h2 := join_count c (Txt.split (Txt.join ⟨#[c]⟩ ps) ⟨#[c]⟩) (split_ne _ _) (StrLaws.split_free _ c)
  have h3 : Txt.join ⟨#[c]⟩ (Txt.split (Txt.join ⟨#[c]⟩ ps) ⟨#[c]⟩) = Txt.join ⟨#[c]⟩ ps := by
    show glued _ _ = _
    rw [StrLaws.glued_eq_join]
    exact StrLaws.join_split _ _
  rw [h3] at h2
  omega
end L1

section L2
open PySem PySem.W PyProof.Rows PySem.Spec PySem.Calls PySem.Builtin PySem.Builtin.Str
theorem nl_is : PySem.Str.ofString "\n" = ⟨#[10]⟩ := by decide +kernel
theorem two_is : (PySem.Str.ofString "  ").cps.toList = [32, 32] := by decide +kernel

/-- a row of the law's: no line's end, no blank but the space, none at its end -/
structure RowP (r : PySem.Str) : Prop where
  ok : ∀ c ∈ r.cps.toList, c ≠ 10 ∧ (Unicode.isSpace c = true → c = 32)
  last : r.cps.toList.getLast? ≠ some 32
  short : r.length ≤ 40

theorem row_end {l : PySem.Str} (h : RowP l) : Txt.endswith l (PySem.Str.ofString " ") = false := by
  rw [blank_is]
  cases hb : Txt.endswith l ⟨#[32]⟩ with
  | false => rfl
  | true =>
    exfalso
    unfold Txt.endswith at hb
    rw [Bool.and_eq_true, decide_eq_true_eq] at hb
    have h1 : (⟨#[32]⟩ : PySem.Str).length = 1 := rfl
    have h2 := (at_one l 32 (l.length - (⟨#[32]⟩ : PySem.Str).length)).mp ⟨by omega, hb.2⟩
    refine h.last ?_
    rw [List.getLast?_eq_getElem?, ← h2, len_list, h1]

theorem getD_mem {x : PySem.Str} {j : Nat} (h : j < x.length) : x.cps.getD j 0 ∈ x.cps.toList :=
  mem_of_at (StrLaws.getElem?_of_getD h rfl)
theorem getD_list' (x : PySem.Str) (k : Nat) : x.cps.getD k 0 = x.cps.toList.getD k 0 := (getD_list x k).symm

/-- the strip, from what stands at its end -/
theorem rstrip_to {c : PySem.Str} {e : Nat} (he : e ≤ c.length) (ok : ∀ a ∈ c.cps.toList, Unicode.isSpace a = true → a = 32)
    (h1 : ∀ j, e ≤ j → j < c.length → c.cps.getD j 0 = 32) (h2 : 0 < e → c.cps.getD (e - 1) 0 ≠ 32) : Txt.rstrip c = ⟨(c.cps.toList.take e).toArray⟩ := by
  obtain ⟨_, b0, b1, b2⟩ := hi_facts Unicode.isSpace c 0 (Nat.zero_le _)
  have hs : Unicode.isSpace 32 = true := by decide +kernel
  have e0 : stripHi Unicode.isSpace true c 0 = e := by
    by_cases hlt : stripHi Unicode.isSpace true c 0 < e
    · have q := b1 (e - 1) (by omega) (by omega)
      exact absurd (ok _ (getD_mem (by omega)) q) (h2 (by omega))
    · by_cases hgt : e < stripHi Unicode.isSpace true c 0
      · rcases b2 with b2 | b2
        · omega
        · rw [h1 _ (by omega) (by omega), hs] at b2
          cases b2
      · omega
  unfold Txt.rstrip
  rw [PyProof.Rows.stripBy_eq]
  show strSub c 0 (stripHi Unicode.isSpace true c 0) = _
  rw [e0, strSub_mk]
  simp

theorem slice_to {x : PySem.Str} {j : Int} (h0 : 0 ≤ j) (h1 : j ≤ (x.length : Int)) : (Txt.slice x none (some j)).cps.toList = x.cps.toList.take j.toNat := by
  show (StrLaws.sliceText x none (some j)).cps.toList = _
  rw [len_list] at h1
  rw [StrLaws.sliceText_to ⟨h0, h1⟩]
  simp
theorem slice_from {x : PySem.Str} {i : Int} (h0 : 0 ≤ i) (h1 : i ≤ (x.length : Int)) : (Txt.slice x (some i) none).cps.toList = x.cps.toList.drop i.toNat := by
  show (StrLaws.sliceText x (some i) none).cps.toList = _
  rw [len_list] at h1
  rw [StrLaws.sliceText_from ⟨h0, h1⟩]
  show (x.cps.toList.drop i.toNat).take _ = _
  rw [List.take_of_length_le]
  rw [List.length_drop]
  omega
theorem slice_mid {x : PySem.Str} {i j : Int} (h0 : 0 ≤ i) (h1 : i ≤ j) (h2 : j ≤ (x.length : Int)) : (Txt.slice x (some i) (some j)).cps.toList = (x.cps.toList.take j.toNat).drop i.toNat := by
  show (StrLaws.sliceText x (some i) (some j)).cps.toList = _
  rw [len_list] at h2
  rw [StrLaws.sliceText_plain ⟨h0, h1, h2⟩]
  show (x.cps.toList.drop i.toNat).take _ = _
  rw [List.drop_take]
  congr 1
  omega

section
variable {rs : List PySem.Str} {l y : PySem.Str} {n : Nat}
theorem rows_cut (hlast : rs.getLast? = some l) : rs = rs.dropLast ++ [l] := by
  have hne : rs ≠ [] := by
    intro e
    rw [e] at hlast
    cases hlast
  have e1 : rs.getLast hne = l := by
    rw [List.getLast?_eq_some_getLast hne] at hlast
    exact Option.some.inj hlast
  rw [← e1]
  exact (List.dropLast_concat_getLast hne).symm

theorem rows_rpart (hR : ∀ r ∈ rs, RowP r) (hlast : rs.getLast? = some l) :
    ∃ h sp, Txt.rpartition (Txt.join (PySem.Str.ofString "\n") rs) (PySem.Str.ofString "\n") = (h, sp, l) ∧ h.cps.toList ++ sp.cps.toList = ahead 10 rs.dropLast := by
  have hx : (Txt.join (PySem.Str.ofString "\n") rs).cps.toList = ahead 10 rs.dropLast ++ l.cps.toList := by
    have := join_snoc 10 l rs.dropLast
    rw [← rows_cut hlast] at this
    rw [nl_is]
    exact this
  have hl : (10 : Nat) ∉ l.cps.toList := fun hm => ((hR l (List.mem_of_getLast? hlast)).ok 10 hm).1 rfl
  rw [nl_is] at hx ⊢
  rcases ahead_ends 10 rs.dropLast with ⟨_, h0⟩ | ⟨A, hA⟩
  · have e : Txt.join ⟨#[10]⟩ rs = l := str_ext (by rw [hx, h0]; rfl)
    refine ⟨PySem.Str.empty, PySem.Str.empty, ?_, ?_⟩
    · rw [e]
      exact rpartition_free hl
    · rw [h0]; rfl
  · rw [hA] at hx
    refine ⟨⟨A.toArray⟩, ⟨#[10]⟩, ?_, ?_⟩
    · rw [rpartition_at (A := A) (B := l.cps.toList) (by rw [hx]; simp) hl]
    · rw [hA]

theorem rstrip_len (x : PySem.Str) : (Txt.rstrip x).length ≤ x.length := by
  obtain ⟨j, hj, e⟩ := rstrip_is_prefix x
  rw [e, StrLaws.sub_len x 0 j hj]
  omega

theorem row_free {r : PySem.Str} (h : RowP r) : (10 : Nat) ∉ r.cps.toList := fun hm => (h.ok 10 hm).1 rfl

theorem law1 (hR : ∀ r ∈ rs, RowP r) (hlast : rs.getLast? = some l) (hn : rs.length = n) (hx : (Txt.join (PySem.Str.ofString "\n") rs).length ≤ 500)
    (hy : y ∈ signL) (hfree : ∀ j : Nat, j < l.length → l.cps.getD j 0 ≠ 35) : GoodD (Txt.join (PySem.Str.ofString "\n") rs) y l (Txt.join (PySem.Str.ofString "\n") rs ++ y) n := by
  obtain ⟨h, sp, er, hP⟩ := rows_rpart hR hlast
  have hl := hR l (List.mem_of_getLast? hlast)
  have hxl : (Txt.join (PySem.Str.ofString "\n") rs).cps.toList = ahead 10 rs.dropLast ++ l.cps.toList := by
    have := join_snoc 10 l rs.dropLast
    rw [← rows_cut hlast] at this
    rw [nl_is]
    exact this
  have hlen : h.length + sp.length + l.length = (Txt.join (PySem.Str.ofString "\n") rs).length := by
    rw [len_list h, len_list sp, len_list l, len_list (Txt.join _ _), hxl, ← hP, List.length_append, List.length_append]
  have h35 : (35 : Nat) ∉ l.cps.toList := by
    intro hm
    obtain ⟨j, hj, e⟩ := List.getElem_of_mem hm
    refine hfree j (by rw [len_list]; exact hj) ?_
    rw [getD_list', List.getD_eq_getElem?_getD, List.getElem?_eq_getElem hj, e]
    rfl
  have ep := partition_free h35
  have hy2 := sign_short y hy
  refine ⟨h, sp, l, PySem.Str.empty, PySem.Str.empty, Txt.rstrip l, ⟨?_, ?_, ?_, ?_, ?_, ?_, rfl, ?_, ?_, ?_, ?_, ?_, ?_, rstrip_len l⟩, ?_, ?_, ?_⟩
  · rw [er]
  · rw [er]
  · rw [er]
  · rw [hash_is, ep]
  · rw [hash_is, ep]
  · rw [hash_is, ep]
  · omega
  · omega
  · omega
  · omega
  · exact Nat.zero_le _
  · exact Nat.zero_le _
  · exact if_pos rfl
  · have e : Txt.join (PySem.Str.ofString "\n") rs ++ y = Txt.join ⟨#[10]⟩ (rs.dropLast ++ [l ++ y]) := str_ext (by
      rw [app_lst, hxl, join_snoc, app_lst, List.append_assoc])
    rw [e, nl_is, split_count 10 _ (by simp) ?_]
    · rw [← hn]
      have := congrArg List.length (rows_cut hlast)
      simpa using this.symm
    · intro d hd
      rcases List.mem_append.mp hd with hd | hd
      · exact row_free (hR d (List.dropLast_subset _ hd))
      · rw [List.mem_singleton.mp hd, app_lst]
        intro hm
        rcases List.mem_append.mp hm with hm | hm
        · exact row_free hl hm
        · exact sign_free y hy hm
  · rw [PySem.Str.length_append]
    omega

theorem law2 (hR : ∀ r ∈ rs, RowP r) (hlast : rs.getLast? = some l) (hn : rs.length = n) (hx : (Txt.join (PySem.Str.ofString "\n") rs).length ≤ 500)
    (hy : y ∈ signL) (i e : Int) (hi0 : 0 ≤ i) (hi1 : i < (l.length : Int)) (hi : l.cps.getD i.toNat 0 = 35) (hfree : ∀ j : Nat, (j : Int) < i → l.cps.getD j 0 ≠ 35)
    (he0 : 0 ≤ e) (he1 : e ≤ i) (he : ∀ j : Nat, e ≤ (j : Int) → (j : Int) < i → l.cps.getD j 0 = 32) (hstop : 0 < e → l.cps.getD (e - 1).toNat 0 ≠ 32)
    (g : PySem.Str) (hg1 : e < i → g = Txt.slice l (some e) (some i)) (hg2 : ¬ e < i → g = PySem.Str.ofString "  ") :
    GoodD (Txt.join (PySem.Str.ofString "\n") rs) y l (Txt.join (PySem.Str.ofString "\n") (rs.dropLast ++ [Txt.slice l none (some e) ++ y ++ g ++ Txt.slice l (some i) none])) n := by
  obtain ⟨h, sp, er, hP⟩ := rows_rpart hR hlast
  have hl := hR l (List.mem_of_getLast? hlast)
  have hxl : (Txt.join (PySem.Str.ofString "\n") rs).cps.toList = ahead 10 rs.dropLast ++ l.cps.toList := by
    have := join_snoc 10 l rs.dropLast
    rw [← rows_cut hlast] at this
    rw [nl_is]
    exact this
  have hlen : h.length + sp.length + l.length = (Txt.join (PySem.Str.ofString "\n") rs).length := by
    rw [len_list h, len_list sp, len_list l, len_list (Txt.join _ _), hxl, ← hP, List.length_append, List.length_append]
  have hy2 := sign_short y hy
  have hs := hl.short
  -- the row cut at the sign
  obtain ⟨a, rfl⟩ := Int.eq_ofNat_of_zero_le hi0
  obtain ⟨b, rfl⟩ := Int.eq_ofNat_of_zero_le he0
  simp only [Int.toNat_natCast] at hi
  have hal : a < l.cps.toList.length := by rw [← len_list]; omega
  have hba : b ≤ a := by omega
  have hget : l.cps.toList[a]? = some 35 := StrLaws.getElem?_of_getD (by omega) hi
  have hdrop : l.cps.toList.drop a = 35 :: l.cps.toList.drop (a + 1) := by
    rw [List.drop_eq_getElem_cons hal]
    rw [List.getElem?_eq_getElem hal] at hget
    rw [Option.some.inj hget]
  have hcut : l.cps.toList = l.cps.toList.take a ++ 35 :: l.cps.toList.drop (a + 1) := by
    rw [← hdrop]
    exact (List.take_append_drop a _).symm
  have htl : (l.cps.toList.take a).length = a := by rw [List.length_take]; omega
  have hC : (35 : Nat) ∉ l.cps.toList.take a := by
    intro hm
    obtain ⟨j, hj, e⟩ := List.getElem_of_mem hm
    rw [htl] at hj
    refine hfree j (by omega) ?_
    rw [List.getElem_take] at e
    rw [getD_list', List.getD_eq_getElem?_getD, List.getElem?_eq_getElem (by omega), e]
    rfl
  have ep := partition_at hcut hC
  have hcg : ∀ j, j < a → (⟨(l.cps.toList.take a).toArray⟩ : PySem.Str).cps.getD j 0 = l.cps.getD j 0 := fun j hj => by
    rw [getD_list', getD_list', List.getD_eq_getElem?_getD, List.getD_eq_getElem?_getD]
    show ((l.cps.toList.take a)[j]?).getD 0 = _
    rw [List.getElem?_take_of_lt hj]
  have hcl : (⟨(l.cps.toList.take a).toArray⟩ : PySem.Str).length = a := by rw [len_list]; exact htl
  have es := rstrip_to (c := ⟨(l.cps.toList.take a).toArray⟩) (e := b) (by rw [hcl]; exact hba) (fun q hq => (hl.ok q (List.mem_of_mem_take hq)).2)
    (fun j h1 h2 => by rw [hcl] at h2; rw [hcg j h2]; exact he j (by omega) (by omega))
    (fun h0 => by
      rw [hcg _ (by omega)]
      have := hstop (by omega)
      rw [show ((b : Int) - 1).toNat = b - 1 by omega] at this
      exact this)
  have hbl : (⟨((⟨(l.cps.toList.take a).toArray⟩ : PySem.Str).cps.toList.take b).toArray⟩ : PySem.Str).length = b := by
    rw [len_list]
    show ((l.cps.toList.take a).take b).length = b
    rw [List.length_take, htl]
    omega
  have hml : (⟨(l.cps.toList.drop (a + 1)).toArray⟩ : PySem.Str).length ≤ l.length := by
    rw [len_list, len_list l]
    show (l.cps.toList.drop (a + 1)).length ≤ _
    rw [List.length_drop]
    omega
  -- the texts as lists
  have lto : (Txt.slice l none (some (b : Int))).cps.toList = l.cps.toList.take b := by
    rw [slice_to (by omega) (by omega)]; rfl
  have lfrom : (Txt.slice l (some (a : Int)) none).cps.toList = l.cps.toList.drop a := by
    rw [slice_from (by omega) (by omega)]; rfl
  have lgap : (Txt.slice (⟨(l.cps.toList.take a).toArray⟩ : PySem.Str) (some (b : Int)) none).cps.toList = (l.cps.toList.take a).drop b := by
    rw [slice_from (by omega) (by rw [hcl]; omega)]; rfl
  have lgapl : (Txt.slice (⟨(l.cps.toList.take a).toArray⟩ : PySem.Str) (some (b : Int)) none).length = a - b := by
    rw [len_list, lgap, List.length_drop, htl]
  have hgl : g.cps.toList = if a - b = 0 then [32, 32] else (l.cps.toList.take a).drop b := by
    by_cases h0 : a - b = 0
    · rw [if_pos h0, hg2 (by omega)]
      exact two_is
    · rw [if_neg h0, hg1 (by omega), slice_mid (by omega) (by omega) (by omega)]
      rfl
  have hgb : g.cps.toList.length ≤ l.length + 2 := by
    rw [hgl]
    split
    · simp
    · rw [List.length_drop, htl]; rw [len_list]; omega
  have hg10 : (10 : Nat) ∉ g.cps.toList := by
    rw [hgl]
    split
    · decide
    · intro hm
      exact row_free hl (List.mem_of_mem_take (List.mem_of_mem_drop hm))
  have hz : (Txt.slice l none (some (b : Int)) ++ y ++ g ++ Txt.slice l (some (a : Int)) none).cps.toList = l.cps.toList.take b ++ y.cps.toList ++ g.cps.toList ++ l.cps.toList.drop a := by
    rw [app_lst, app_lst, app_lst, lto, lfrom]
  have hd : (Txt.join (PySem.Str.ofString "\n") (rs.dropLast ++ [Txt.slice l none (some (b : Int)) ++ y ++ g ++ Txt.slice l (some (a : Int)) none])).cps.toList = ahead 10 rs.dropLast ++ (l.cps.toList.take b ++ y.cps.toList ++ g.cps.toList ++ l.cps.toList.drop a) := by
    rw [nl_is, join_snoc, hz]
  refine ⟨h, sp, ⟨(l.cps.toList.take a).toArray⟩, ⟨#[35]⟩, ⟨(l.cps.toList.drop (a + 1)).toArray⟩, ⟨((⟨(l.cps.toList.take a).toArray⟩ : PySem.Str).cps.toList.take b).toArray⟩, ⟨?_, ?_, ?_, ?_, ?_, ?_, es, ?_, ?_, ?_, ?_, ?_, ?_, ?_⟩, ?_, ?_, ?_⟩
  · rw [er]
  · rw [er]
  · rw [er]
  · rw [hash_is, ep]
  · rw [hash_is, ep]
  · rw [hash_is, ep]
  · omega
  · omega
  · omega
  · rw [hcl]; omega
  · show (1 : Nat) ≤ 1000
    omega
  · omega
  · rw [hbl, hcl]; omega
  · refine str_ext ?_
    unfold addT
    rw [if_neg (by show ¬ (1 : Nat) = 0; omega), hbl, lgapl, hd, ← hP, hdrop]
    simp only [app_lst]
    have e1 : (if a - b = 0 then PySem.Str.ofString "  " else Txt.slice (⟨(l.cps.toList.take a).toArray⟩ : PySem.Str) (some (b : Int)) none).cps.toList = g.cps.toList := by
      rw [hgl]
      by_cases h0 : a - b = 0
      · rw [if_pos h0, if_pos h0]; exact two_is
      · rw [if_neg h0, if_neg h0]; exact lgap
    rw [e1]
    have e2 : (l.cps.toList.take a).take b = l.cps.toList.take b := by
      rw [List.take_take, Nat.min_eq_left hba]
    rw [e2]
    show [] ++ h.cps.toList ++ sp.cps.toList ++ l.cps.toList.take b ++ y.cps.toList ++ g.cps.toList ++ [35] ++ l.cps.toList.drop (a + 1) = _
    simp
  · rw [nl_is, split_count 10 _ (by simp) ?_]
    · rw [← hn]
      have := congrArg List.length (rows_cut hlast)
      simpa using this.symm
    · intro d hdm
      rcases List.mem_append.mp hdm with hdm | hdm
      · exact row_free (hR d (List.dropLast_subset _ hdm))
      · rw [List.mem_singleton.mp hdm, hz]
        intro hm
        rcases List.mem_append.mp hm with hm | hm
        · rcases List.mem_append.mp hm with hm | hm
          · rcases List.mem_append.mp hm with hm | hm
            · exact row_free hl (List.mem_of_mem_take hm)
            · exact sign_free y hy hm
          · exact hg10 hm
        · exact row_free hl (List.mem_of_mem_drop hm)
  · rw [len_list, hd, ← hP]
    simp only [List.length_append, List.length_take, List.length_drop]
    rw [← len_list, ← len_list, ← len_list, ← len_list]
    omega
end
end L2

section L3
open PySem PySem.W PyProof.Rows PySem.Spec PySem.Calls PySem.Builtin PySem.Builtin.Str
def tailL : List PySem.Str := [PySem.Str.ofString "", PySem.Str.ofString "", PySem.Str.ofString "  # kept", PySem.Str.ofString " # a # b", PySem.Str.ofString "#"]

def OkL (l : List Nat) : Prop := (∀ c ∈ l, c ≠ 10 ∧ (Unicode.isSpace c = true → c = 32)) ∧ l.getLast? ≠ some 32
theorem okL_append {a b : List Nat} (ha : OkL a) (hb : OkL b) : OkL (a ++ b) := by
  refine ⟨fun c hc => (List.mem_append.mp hc).elim (ha.1 c) (hb.1 c), ?_⟩
  rw [List.getLast?_append]
  cases h : b.getLast? with
  | none => simpa using ha.2
  | some x =>
    have := hb.2
    rw [h] at this
    simpa using this
theorem pieces_ok : ∀ p ∈ pieceL, (∀ c ∈ p.cps.toList, c ≠ 10 ∧ (Unicode.isSpace c = true → c = 32)) ∧ p.cps.toList.getLast? ≠ some 32 ∧ p.length ≤ 6 := by decide +kernel
theorem tails_ok : ∀ p ∈ tailL, (∀ c ∈ p.cps.toList, c ≠ 10 ∧ (Unicode.isSpace c = true → c = 32)) ∧ p.cps.toList.getLast? ≠ some 32 ∧ p.length ≤ 8 := by decide +kernel
theorem tail_short : ∀ p ∈ tailL, p.length ≤ 8 := fun p hp => (tails_ok p hp).2.2

theorem join_bare : ∀ ps : List PySem.Str, (PySem.Str.join ⟨#[]⟩ ps).cps.toList = (ps.map (·.cps.toList)).flatten
  | [] => rfl
  | [p] => by simp [PySem.Str.join]
  | p :: q :: r => by
    show (p ++ ⟨#[]⟩ ++ PySem.Str.join ⟨#[]⟩ (q :: r)).cps.toList = _
    rw [app_lst, app_lst, join_bare (q :: r)]
    simp
theorem pieces_flat : ∀ ps : List PySem.Str, (∀ p ∈ ps, p ∈ pieceL) → OkL ((ps.map (·.cps.toList)).flatten) ∧ ((ps.map (·.cps.toList)).flatten).length ≤ 6 * ps.length
  | [], _ => ⟨⟨(fun _ h => absurd h (List.not_mem_nil)), (fun h => nomatch h)⟩, Nat.le_refl _⟩
  | p :: r, h => by
    have h1 := pieces_ok p (h p (.head _))
    have h2 := pieces_flat r fun q hq => h q (.tail _ hq)
    rw [List.map_cons, List.flatten_cons]
    refine ⟨okL_append ⟨h1.1, h1.2.1⟩ h2.1, ?_⟩
    rw [List.length_append, List.length_cons, ← len_list]
    omega

/-- a row's code -/
def CodeP (c : PySem.Str) : Prop := OkL c.cps.toList ∧ c.length ≤ 18
theorem code_is {ps : List PySem.Str} (h3 : ps.length ≤ 3) (h : ∀ p ∈ ps, p ∈ pieceL) : CodeP (Txt.join (PySem.Str.ofString "") ps) := by
  have e : (Txt.join (PySem.Str.ofString "") ps).cps.toList = (ps.map (·.cps.toList)).flatten := by
    rw [show PySem.Str.ofString "" = ⟨#[]⟩ from by decide +kernel]
    show (glued _ _).cps.toList = _
    rw [StrLaws.glued_eq_join]
    exact join_bare ps
  have hf := pieces_flat ps h
  refine ⟨by rw [e]; exact hf.1, ?_⟩
  rw [len_list, e]
  omega
theorem row_of {c t : PySem.Str} (hc : CodeP c) (ht : t ∈ tailL) : RowP (c ++ t) := by
  have h := tails_ok t ht
  have hk : OkL ((c ++ t).cps.toList) := by
    rw [app_lst]
    exact okL_append hc.1 ⟨h.1, h.2.1⟩
  have hc2 := hc.2
  have ht2 := h.2.2
  exact ⟨hk.1, hk.2, by rw [PySem.Str.length_append]; omega⟩

/-- rows put together are not long -/
theorem rows_len {rs : List PySem.Str} (hR : ∀ r ∈ rs, RowP r) (hn : rs.length ≤ 10) : (Txt.join (PySem.Str.ofString "\n") rs).length ≤ 500 := by
  have e : Txt.join (PySem.Str.ofString "\n") rs = PySem.Str.join (PySem.Str.ofString "\n") rs := StrLaws.glued_eq_join _ _
  have h1 := StrLaws.join_length_le (PySem.Str.ofString "\n") rs
  have h2 : (PySem.Str.ofString "\n").length = 1 := by decide +kernel
  have h3 : ∀ l : List PySem.Str, (∀ r ∈ l, RowP r) → (l.map (·.length)).sum ≤ 40 * l.length := by
    intro l
    induction l with
    | nil => intro _; simp
    | cons a r ih =>
      intro h
      have q1 := (h a (.head _)).short
      have q2 := ih fun z hz => h z (.tail _ hz)
      simp only [List.map_cons, List.sum_cons, List.length_cons]
      omega
  have h4 := h3 rs hR
  rw [e]
  rw [h2] at h1
  omega
end L3

section T3
open PySem PySem.W PyProof.Rows PySem.Spec PySem.Calls
/-- the contract of _law_code, for a ledger in any order -/
theorem code_use {w : World} {mean : ExcName → Option Value} {mg mb : Str → Option Value} {dp un : Nat} {gd : Option (List Code)} {cn : Str} {cs : Scope} {a : Addr} {ccd : Value} {cl : List (Str × Addr)} {outer : List Env} {A₀ : Around} {base h₀ : Heap} {L : Addr} {m : Str → Option Value} {s : Shared} {Q E : Value → Shared → Prop}
    {S D : Addr} {at' : Int} {tkA : Tok} {ws : List Value} {zs : List Int} {nS nD : Nat} {news : List (Addr × Obj)} {g : Obj → List (Addr × Obj)}
    (B : Below A₀ base outer h₀) (F : Fr h₀ L s.heap m) (X : (hd.heap_39 w.params).In h₀)
    (N : News h₀ L s.heap news) (U : UpdF S (listOf #[.ref D, .int at' tkA] nS) news g) (hD : (D, listOf ws.toArray nD) ∈ news) (hne : @Ne Nat S D)
    (T : Top hd.view_39 (looseW hd.view_39 []) mean mg mb h₀) (hk : cs.kind = .function)
    (hI : IntsAre ws zs) (hl0 : 0 < zs.length) (hl1 : zs.length ≤ 64) (hz : ∀ z ∈ zs, 0 ≤ z ∧ z < 1000003) (ha0 : 0 ≤ at') (ha1 : at' ≤ 900)
    (hd : dp + 3 < recursionLimit) (hu : un + 32 < cLine)
    (ret : ∀ c at₂ t tA h' tk', at' < at₂ → at₂ ≤ at' + 4 → CodeP c → c.length ≤ 18 → Fr h₀ L h' m → News h₀ L h' (g (listOf #[.ref D, .int at₂ tA] nS)) → Q (.str c t) { s with heap := h', toks := tk' }) :
    wpAny (model PySem.Challenge.rw_nk0012_01.row.prog w) (ktrTop dp un gd cn cs L a ccd cl outer) (call (.ref 45) [.ref S]) Q E s := by
  obtain ⟨pre, post, rfl, hg, h1, h2⟩ := U.split
  let own := (pre ++ post).filter fun p => decide (p.1 ≠ D)
  have hown : ∀ p, p ∈ own ↔ (p ∈ pre ∨ p ∈ post) ∧ p.1 ≠ D := fun p => by
    simp only [own, List.mem_filter, List.mem_append, decide_eq_true_eq]
  have hS : (S, listOf #[.ref D, .int at' tkA] nS) ∈ pre ++ (S, listOf #[.ref D, .int at' tkA] nS) :: post := List.mem_append_right _ (.head _)
  refine code_ok (own := own) (nS := nS) (tkA := tkA) (at' := at') B F X (N := ?_) T hk hI hl0 hl1 hz ha0 ha1 hne ?_ hd hu (nD := nD) ?_
  · intro p hp
    rcases List.mem_cons.mp hp with rfl | hp
    · exact N _ hS
    rcases List.mem_cons.mp hp with rfl | hp
    · exact N _ hD
    rcases ((hown p).mp hp).1 with q | q
    · exact N _ (List.mem_append_left _ q)
    · exact N _ (List.mem_append_right _ (.tail _ q))
  · intro p hp b hb
    obtain ⟨q, hq⟩ := (hown p).mp hp
    rcases List.mem_cons.mp hb with rfl | hb
    · exact q.elim (h1 p) (h2 p)
    · rw [List.mem_singleton.mp hb]; exact hq
  · intro ps at₂ t tA h' tk' hlt hle _ hp3 hpm F' N'
    have hc := code_is hp3 hpm
    refine ret _ at₂ t tA h' tk' hlt hle hc hc.2 F' ?_
    rw [hg]
    have other : ∀ p, (p ∈ pre ∨ p ∈ post) → h'.get? p.1 = some p.2 ∧ p.1 ≠ L ∧ h₀.get? p.1 = none := fun p hp => by
      have hpN : p ∈ pre ++ (S, listOf #[.ref D, .int at' tkA] nS) :: post := hp.elim (fun q => List.mem_append_left _ q) fun q => List.mem_append_right _ (.tail _ q)
      by_cases e : p.1 = D
      · have e1 := (N _ hpN).1
        have e2 := (N _ hD).1
        have e3 : s.heap.get? p.1 = some (listOf ws.toArray nD) := by rw [e]; exact e2
        rw [e3] at e1
        have e4 : p = (D, listOf ws.toArray nD) := Prod.ext e (Option.some.inj e1).symm
        rw [e4]
        exact N' _ (.tail _ (.head _))
      · exact N' _ (.tail _ (.tail _ ((hown p).mpr ⟨hp, e⟩)))
    intro p hp
    rcases List.mem_append.mp hp with q | q
    · exact other p (.inl q)
    rcases List.mem_cons.mp q with rfl | q
    · exact N' _ (.head _)
    · exact other p (.inr q)

local macro_rules | `(tactic| walk_at "call ref") => `(tactic| (k_here; (with_reducible show wpAny _ _ (call (Value.ref 35) _) _ _ _); k_dflt (refine' next_use ?k1 ?k2 ?k3 ?k4 ?kU ?kD ?kne ?k5 ?kK ?kI ?kl0 ?kl1 ?kz ?ka0 ?ka1 ?km0 ?km1 ?kd ?ku ?_; (case k1 => k_asm); (case k2 => k_asm); (case k3 => k_asm); (case k4 => k_asm); (case kU => k_updF); (case kD => k_mem); (case kne => first | assumption | omega); (case k5 => k_asm); (case kK => first | exact rfl | assumption); (case kI => assumption); (case kl0 => omega); (case kl1 => omega); (case kz => assumption); (case ka0 => omega); (case ka1 => omega); (case km0 => decide); (case km1 => decide); (case kd => ktr_room); (case ku => ktr_units); k_whole); intro v' t' tA' h' tk' hv0' hv1' F' N'; (try dsimp only at N'); (try k_sweep)))
local macro_rules | `(tactic| walk_at "call ref") => `(tactic| (k_here; (with_reducible show wpAny _ _ (call (Value.ref 45) _) _ _ _); k_dflt (refine' code_use ?k1 ?k2 ?k3 ?k4 ?kU ?kD ?kne ?k5 ?kK ?kI ?kl0 ?kl1 ?kz ?ka0 ?ka1 ?kd ?ku ?_; (case k1 => k_asm); (case k2 => k_asm); (case k3 => k_asm); (case k4 => k_asm); (case kU => k_updF); (case kD => k_mem); (case kne => first | assumption | omega); (case k5 => k_asm); (case kK => first | exact rfl | assumption); (case kI => assumption); (case kl0 => omega); (case kl1 => omega); (case kz => assumption); (case ka0 => omega); (case ka1 => omega); (case kd => ktr_room); (case ku => ktr_units); k_whole); intro c' at2' t' tA' h' tk' hlt' hle' hc' hcl' F' N'; (try dsimp only at N'); (try k_sweep)))
local macro_rules | `(tactic| walk_at "subscriptTail") => `(tactic| (k_here; (with_reducible show wpAny _ _ (subscriptTail _ _ (Value.ref _) (Value.int _ _)) _ _ _); k_dflt (refine' str_item (xs := tailL) (News.isList ?N ?m) ?S ?h0 ?h1 ?hn ?_; (case N => k_asm); (case m => k_mem); (case S => exact .cons _ _ (.cons _ _ (.cons _ _ (.cons _ _ (.cons _ _ .nil))))); (case h0 => omega); (case h1 => (simp only [tailL, List.length_cons, List.length_nil]; omega)); (case hn => decide); k_whole); intro y' t' hy'; have hy2' := tail_short _ hy'))
local macro_rules | `(tactic| walk_at "execs cons Assign cons") => `(tactic| (k_here; (with_reducible show wpAny _ _ (execs (Stmt.Assign [Expr.Name (Str.ofString "rows") _] _ _ :: _) _) _ _ _); (with_reducible refine wpAny_execs_cons ?_); (try dsimp only)))
local macro_rules | `(tactic| walk_at "execs cons Assign cons") => `(tactic| (k_here; (with_reducible show wpAny _ _ (execs (Stmt.Assign [Expr.Name (Str.ofString "sign") _] _ _ :: _) _) _ _ _); refine Hold.out ?_))
local macro_rules | `(tactic| walk_at "exec For Name Call cons nil") => `(tactic| (k_here; (rename Fr _ _ _ _ => lF'); (with_unfolding_all refine' For_invVF lF' ?k1 ?k2 ?_; (case k1 => exact rfl); (case k2 => exact rfl); k_whole)))
local macro_rules | `(tactic| walk_at "call type:range") => `(tactic| (k_here; (rename Fr _ _ _ _ => lF'); (rename News _ _ _ _ => lN'); (with_unfolding_all refine range1_rows lF' lN' ?_); intro h' tk' t' u' v' hR' F' N' hk'))
local macro_rules | `(tactic| walk_at "pyIter ref") => `(tactic| (k_here; refine Hold.out ?_))

local macro_rules | `(tactic| walk_at "InvPostN") => `(tactic| (refine Hold.out ?_))

def forBody : List Stmt := match lawBody with
  | _ :: _ :: .For _ _ b _ _ :: _ => b
  | _ => []

set_option maxRecDepth 100000 in
set_option maxHeartbeats 8000000 in
theorem rows_loop {w : World} {mean : ExcName → Option Value} {mg mb : Str → Option Value} {a : Addr} {ccd : Value} {h₀ : Heap} {L : Addr} {m : Str → Option Value} {s : Shared} {Q : Flow → Shared → Prop}
    {S D R r : Addr} {at' b : Int} {tkA t₀ u₀ v₀ : Tok} {ws : List Value} {zs : List Int} {nS nD : Nat}
    (B : Below callerA h₀ [] h₀) (F : Fr h₀ L s.heap (fun y => if y = Str.ofString "rows" then some (Value.ref R) else if y = Str.ofString "state" then some (Value.ref S) else m y)) (X : (hd.heap_39 w.params).In h₀)
    (N : News h₀ L s.heap [(R, listOf #[] 0), (S, listOf #[.ref D, .int at' tkA] nS), (D, listOf ws.toArray nD)])
    (T : Top hd.view_39 (looseW hd.view_39 []) mean mg mb h₀)
    (hI : IntsAre ws zs) (hl0 : 0 < zs.length) (hl1 : zs.length ≤ 64) (hz : ∀ z ∈ zs, 0 ≤ z ∧ z < 1000003)
    (hneD : @Ne Nat S D) (hneR : @Ne Nat S R) (hneDR : @Ne Nat D R) (ha0 : 0 ≤ at') (ha1 : at' ≤ 100)
    (hr : IsRange s.heap r 0 b 1 t₀ u₀ v₀) (hb0 : 0 ≤ b) (hb1 : b ≤ 10)
    (done : ∀ (vs : List Value) (rs : List Str) (nR : Nat) (at₂ : Int) (tA : Tok) (u : Str → Option Value) (h : Heap) (tk : Nat), StrsAre vs rs → rs.length = b.toNat → (∀ q ∈ rs, RowP q) → 0 ≤ at₂ → at₂ ≤ 200 →
      Fr h₀ L h (fun y => if y = Str.ofString "turn" then u y else if y = Str.ofString "rows" then some (Value.ref R) else if y = Str.ofString "state" then some (Value.ref S) else m y) →
      News h₀ L h [(R, listOf vs.toArray nR), (S, listOf #[.ref D, .int at₂ tA] nS), (D, listOf ws.toArray nD)] → Q .next { s with heap := h, toks := tk }) :
    wpAny (model PySem.Challenge.rw_nk0012_01.row.prog w) (callerA.deeper (envOf (Str.ofString "law") lawScope L a ccd)) (pyIter (.ref r))
      (fun it s₂ => LoopAtV PySem.Challenge.rw_nk0012_01.row.prog w (callerA.deeper (envOf (Str.ofString "law") lawScope L a ccd)) h₀ (envOf (Str.ofString "law") lawScope L a ccd) (Str.ofString "turn") forBody Q (fun _ _ => False) it s₂) (fun _ _ => False) s := by
  revert X; k_fill; intro X
  refine kst_range (n := b.toNat) (σ := Int × Tok × List Value × List Str × Nat) (fun c => [(R, listOf c.2.2.1.toArray c.2.2.2.2), (S, listOf #[.ref D, .int c.1 c.2.1] nS), (D, listOf ws.toArray nD)]) (fun _ => []) (fun c => StrsAre c.2.2.1 c.2.2.2.1) []
    (fun pre c => c.2.2.2.1.length = pre.length ∧ (∀ q ∈ c.2.2.2.1, RowP q) ∧ 0 ≤ c.1 ∧ c.1 ≤ 100 + 5 * (pre.length : Int)) (at', tkA, [], [], 0) rfl hr (small_one (by decide) (by decide) (by omega) (by omega)) (by rw [rangeSize_nat]; congr 2; omega) F N .nil (fun _ h => nomatch h) ⟨rfl, (fun _ h => nomatch h), ha0, by simpa using ha1⟩ ?_ ?_
  · rintro ⟨at₁, tA₁, vs, rs, nR⟩ pre k t u h tk own hk hlt hoff hf ⟨hp1, hp2, hp3, hp4⟩ F' N'
    dsimp only at hf hp1 hp2 hp3 hp4 N'
    simp only [List.map_cons, List.map_nil] at hoff
    simp only [List.cons_append, List.nil_append] at N'
    simp only [kstB, List.contains_nil, Bool.false_eq_true, if_false] at F'
    have hsz : rs.length ≤ 10 := by omega
    have hvl := strs_len hf
    dsimp only [forBody, lawBody, lawScope, PySem.Challenge.pw_nk0012_01] at F' N' ⊢
    try k_unmd
    try k_fold
    k_steps
    refine Hold.mk ?_
    with_reducible rename News _ _ _ _ => lN
    simp only [List.push_toArray] at lN
    refine kst_end (_, _, vs ++ [_], rs ++ [_], _) (by assumption) lN (List.forall_mem_cons.mpr ⟨.tail _ (.head _), List.forall_mem_cons.mpr ⟨.tail _ (.tail _ (.head _)), List.forall_mem_cons.mpr ⟨.tail _ (.tail _ (.tail _ (.head _))), fun _ h => nomatch h⟩⟩⟩)
      (fun p hp => .tail _ (.tail _ (.tail _ (.tail _ hp)))) rfl (kct_snoc hf) (fun _ h => nomatch h) (fun z hz _ _ => if_neg hz) ⟨?_, fun q hq => ?_, ?_, ?_⟩
    · simp only [List.length_append, List.length_cons, List.length_nil, hp1]
    · rcases List.mem_append.mp hq with hq | hq
      · exact hp2 q hq
      · rw [List.mem_singleton.mp hq]
        exact row_of (by assumption) (by assumption)
    · dsimp only; omega
    · simp only [List.length_append, List.length_cons, List.length_nil]; omega
  · rintro ⟨at₁, tA₁, vs, rs, nR⟩ u h tk hf ⟨hp1, hp2, hp3, hp4⟩ F' N'
    dsimp only at hf hp1 hp2 hp3 hp4 N'
    simp only [kstB, List.contains_nil, Bool.false_eq_true, if_false] at F'
    rw [rangeKs_length] at hp1 hp4
    exact done vs rs nR at₁ tA₁ u h tk hf hp1 hp2 hp3 (by omega) F' N'

set_option maxRecDepth 100000 in
set_option maxHeartbeats 8000000 in
theorem tailC {w : World} {mean : ExcName → Option Value} {mg mb : Str → Option Value} {a : Addr} {ccd : Value} {h₀ : Heap} {L : Addr} {m : Str → Option Value} {s : Shared} {Q : Flow → Shared → Prop}
    {S D : Addr} {tkA : Tok} {ws : List Value} {zs : List Int} {nS nD : Nat}
    (B : Below callerA h₀ [] h₀) (F : Fr h₀ L s.heap m) (X : (hd.heap_39 w.params).In h₀)
    (N : News h₀ L s.heap [(S, listOf #[.ref D, .int 0 tkA] nS), (D, listOf ws.toArray nD)])
    (T : Top hd.view_39 (looseW hd.view_39 []) mean mg mb h₀)
    (hI : IntsAre ws zs) (hl0 : 0 < zs.length) (hl1 : zs.length ≤ 64) (hz : ∀ z ∈ zs, 0 ≤ z ∧ z < 1000003)
    (hneD : @Ne Nat S D)
    (m1 : m (Str.ofString "state") = some (.ref S))
    (ret : ∀ m' h' tk', Fr h₀ L h' m' → Q (.ret (.bool true)) { s with heap := h', toks := tk' }) :
    wpAny (model PySem.Challenge.rw_nk0012_01.row.prog w) (callerA.deeper (envOf (Str.ofString "law") lawScope L a ccd)) (execs (lawBody.drop 1) (envOf (Str.ofString "law") lawScope L a ccd)) Q (fun _ _ => False) s := by
  revert X; k_fill; intro X
  replace F := fr_knows (ps := [(Str.ofString "state", .ref S)]) (by
    simp only [List.forall_mem_cons]
    exact ⟨m1, fun _ h => nomatch h⟩) F
  dsimp only [kstB] at F
  dsimp only [lawBody, lawScope, PySem.Challenge.pw_nk0012_01, List.drop]
  k_steps
  refine Hold.mk ?_
  have hRS : ∀ R : Addr, @LT.lt Nat _ S R ∧ @LT.lt Nat _ D R → @Ne Nat S R ∧ @Ne Nat D R := fun R h => ⟨Nat.ne_of_lt h.1, Nat.ne_of_lt h.2⟩
  obtain ⟨hneR, hneDR⟩ := hRS _ (by assumption)
  refine rows_loop (at' := 0 + 1) B (by assumption) X (by assumption) T hI hl0 hl1 hz hneD hneR hneDR (by decide) (by decide) (by assumption) (by omega) (by omega) ?_
  intro vs rs nR at₂ tA u h tk hvs hlen hR ha0 ha1 F' N'
  dsimp only
  k_steps
  refine Hold.mk ?_
  obtain ⟨l, hlast⟩ : ∃ l, rs.getLast? = some l := by
    cases hq : rs.getLast? with
    | some l => exact ⟨l, rfl⟩
    | none =>
      rw [List.getLast?_eq_none_iff.mp hq] at hlen
      rw [List.length_nil] at hlen
      omega
  have hrow := hR l (List.mem_of_getLast? hlast)
  have hx := rows_len hR (by omega)
  exact tailB (own := []) B F' X (fun p hp => N' p (by
      rcases List.mem_cons.mp hp with rfl | hp
      · exact .tail _ (.head _)
      rcases List.mem_cons.mp hp with rfl | hp
      · exact .tail _ (.tail _ (.head _))
      · rw [List.mem_singleton.mp hp]; exact .head _)) T hI hl0 hl1 hz ha0 (by omega) hneD hneR hneDR (fun _ h => nomatch h) hvs rfl (by omega) (fun r hr => Nat.le_trans (hR r hr).short (by decide)) hlast (Nat.le_trans hrow.short (by decide)) hx (by rfl) (by rfl)
    (fun y hy hfree => law1 hR hlast rfl hx hy hfree)
    (fun y hy i e q1 q2 q3 q4 q5 q6 q7 q8 g q9 q10 => law2 hR hlast rfl hx hy i e q1 q2 q3 q4 q5 q6 q7 q8 g q9 q10)
    (row_end hrow) (fun m' h' tk' F' => ret m' h' tk' F')
end T3

section F1
open PySem PySem.W PyProof.Rows PySem.Spec PySem.Calls
theorem numbers_len (ns : List Int) (h : ns.length ≤ 63) : (List.map (fun k' : Int => (if k' < 0 then -k' else k').fmod 1000003) (List.take 24 ns) ++ [5, 0, 11]).length ≤ 64 := by
  simp only [List.length_append, List.length_map, List.length_take, List.length_cons, List.length_nil]
  omega
theorem numbers_pos (ns : List Int) : 0 < (List.map (fun k' : Int => (if k' < 0 then -k' else k').fmod 1000003) (List.take 24 ns) ++ [5, 0, 11]).length := by
  simp
theorem numbers_in (ns : List Int) : ∀ z ∈ List.map (fun k' : Int => (if k' < 0 then -k' else k').fmod 1000003) (List.take 24 ns) ++ [5, 0, 11], 0 ≤ z ∧ z < 1000003 := by
  intro z hz
  rcases List.mem_append.mp hz with hz | hz
  · obtain ⟨k, _, rfl⟩ := List.mem_map.mp hz
    exact ⟨Int.fmod_nonneg_of_pos _ (by decide), Int.fmod_lt_of_pos _ (by decide)⟩
  · simp only [List.mem_cons, List.not_mem_nil, or_false] at hz
    omega

theorem news_two {h₀ h : Heap} {L : Addr} {p q : Addr × Obj} {r : List (Addr × Obj)} (N : News h₀ L h (p :: q :: r)) : News h₀ L h [p, q] := fun x hx => N x (by
  rcases List.mem_cons.mp hx with rfl | hx
  · exact .head _
  · rw [List.mem_singleton.mp hx]; exact .tail _ (.head _))

local macro_rules | `(tactic| walk_at "execs cons Assign cons") => `(tactic| (k_here; (with_reducible show wpAny _ _ (execs (Stmt.Assign [Expr.Name (Str.ofString "rows") _] _ _ :: _) _) _ _ _); refine Hold.out ?_))
set_option maxRecDepth 100000 in
set_option maxHeartbeats 8000000 in
theorem fin : PySem.Challenge.rw_nk0012_01.Holds := hd (by
  k_go0
  all_goals try k_fold
  k_steps
  refine Hold.mk ?_
  with_reducible rename Fr _ _ _ _ => lF
  with_reducible rename News _ _ _ _ => lN
  refine wpAny_noRaise (tailC (by assumption) lF (by assumption) (news_two lN) (by assumption) (by assumption) (numbers_pos _) (numbers_len _ (by omega)) (numbers_in _) (by omega) (by rfl) ?_)
  intro m9 h9 tk9 F9
  k_steps)
end F1

end Mine

theorem PySem.Challenge.cw_nk0012_01_holds : PySem.Challenge.rw_nk0012_01.Holds :=
  Mine.fin
