import PyProof.Rows.All
import Wide.All
import OpenK.AllK
import Wide.FinOn
import PySem.Challenge.RW_ph0015_01
set_option Elab.async false
section
open PySem PySem.W PyProof.Rows
set_option Elab.async false
namespace Mine
set_option maxRecDepth 100000 in
set_option maxHeartbeats 8000000 in
open_top hd for PySem.Challenge.rw_ph0015_01
end Mine
end
section
open PySem PySem.W PyProof.Rows PySem.Spec PySem.Calls
set_option Elab.async false
set_option maxRecDepth 100000
namespace Mine

/-- the end of a def's body: what comes back, the heap and the count of tokens behind it -/
def Done (g : Heap) (L : Addr) (s : Shared) (P : Value → Heap → Nat → Prop) (fl : Flow) (s' : Shared) : Prop :=
  ∃ v h' tk m', fl = .ret v ∧ s' = { s with heap := h', toks := tk } ∧ s.toks ≤ tk ∧ Fr g L h' m' ∧ P v h' tk
theorem Done.intro {g h' : Heap} {L : Addr} {s : Shared} {P : Value → Heap → Nat → Prop} {v : Value} {tk : Nat} {m' : Str → Option Value} (F : Fr g L h' m') (ht : s.toks ≤ tk) (p : P v h' tk) :
    Done g L s P (.ret v) { s with heap := h', toks := tk } := ⟨v, h', tk, m', rfl, rfl, ht, F, p⟩

theorem enter_def {prog : Program} {w : World} {A₀ A : Around} {E : Value → Shared → Prop} {s : Shared} {base h₀ : Heap} {outer : List Env} {L : Addr} {m : Str → Option Value} {env : Env}
    {K : Frag} {p : Program} {loose : List Str} {mean : ExcName → Option Value} {mg mb : Str → Option Value} {Q : Value → Shared → Prop} {P : Value → Heap → Nat → Prop} {name qual : Str} {params : Arguments} {body : List Stmt} {scope : Scope} {dV kV doc pm cdv ct oc : Value} {an od : Option Addr} {osl : Array (Option Value)} {f : Addr} {vs : List Value} {binds : List (Str × Value)}
    (B : Below A₀ base outer h₀) (F : Fr h₀ L s.heap m) (X₀ : K.In h₀) (T : Top p loose mean mg mb h₀) (hA : A.frames = some (env :: outer)) (hf : env.frame = some L) (hke : env.scope.kind = .function)
    (ret : ∀ v h' tk', s.heap.StaysIn h' → s.toks ≤ tk' → P v h' tk' → Q v { s with heap := h', toks := tk' })
    (ho : K.lookup f = some ⟨oc, od, .func (fnOf name qual params body scope dV kV doc pm an cdv ct), osl⟩) (hcd : codeIn K cdv qual = true) (hroom : A.depth < recursionLimit)
    (hbind : BindsTo s (fnOf name qual params body scope dV kV doc pm an cdv ct) ⟨vs, []⟩ binds) (hloc : ∀ y ∈ binds, scope.names.lookup y.1 = some .local)
    (h : ∀ g L' h₁ tk, s.heap.StaysIn g → Fr h₀ L g m → Fr g L' h₁ (fun y => binds.reverse.lookup y) → News g L' h₁ [] → Below A base (env :: outer) g → K.In g → Top p loose mean mg mb g → tk = s.toks + binds.length →
      wpAny (model prog w) (A.deeper (envOf qual scope L' f cdv)) (execs body (envOf qual scope L' f cdv))
        (Done g L' { s with heap := h₁, toks := tk } P)
        (fun _ _ => False)
        { s with heap := h₁, toks := tk })
    (hco : scope.isCoroutine = false) (hgen : scope.isGenerator = false) (hk : scope.kind = .function)
    (hcell : ∀ x ∈ scope.names, x.2 ≠ .cell) : wpAny (model prog w) A (call (.ref f) vs) Q E s := by
  refine wpAny_call ?_
  refine code_defG B F X₀ News.nil T hA hf hke ho hcd hroom hbind hloc ?_ hco hgen hk hcell
  intro g L' h₁ FG F' N' B' X' T' G
  refine wpAny_mono (h g L' h₁ _ (fun b o e => G b o e (by simp)) FG F' N' B' X' T' rfl) ?_ (fun _ _ y => y.elim)
  rintro fl s' ⟨v, h', tk, m', rfl, rfl, ht, F₂, p⟩
  exact leaveK_ F₂ News.nil fun _ _ => ret v h' tk (fun b o e => F₂.keep b o (G b o e (by simp))) (Nat.le_trans (Nat.le_add_right _ _) ht) p

/-- a def's contract: called with vs upon a state of which Pre holds it comes back, the heap only grown, with P -/
def Tells (w : World) (f : Addr) (vs : List Value) (Pre : Shared → Prop) (P : Shared → Value → Heap → Nat → Prop) : Prop :=
  ∀ (mean : ExcName → Option Value) (mg mb : Str → Option Value) (dp un : Nat) (gd : Option (List Code)) (env : Env) (outer : List Env) (A₀ : Around) (base h₀ : Heap) (L : Addr) (m : Str → Option Value) (s : Shared) (Q E : Value → Shared → Prop),
    Below A₀ base outer h₀ → Fr h₀ L s.heap m → (Mine.hd.heap_39 w.params).In h₀ → Top Mine.hd.view_39 (looseW Mine.hd.view_39 []) mean mg mb h₀ → env.frame = some L → env.scope.kind = .function →
    dp + 20 < recursionLimit → un + 100 < cLine → Pre s →
    (∀ v h' tk', s.heap.StaysIn h' → s.toks ≤ tk' → P s v h' tk' → Q v { s with heap := h', toks := tk' }) →
    wpAny (model PySem.Challenge.rw_ph0015_01.row.prog w) { handled := none, depth := dp, frames := some (env :: outer), guards := gd, units := un } (call (.ref f) vs) Q E s

theorem Tells.use {w : World} {f : Addr} {vs : List Value} {Pre : Shared → Prop} {P : Shared → Value → Heap → Nat → Prop} {mean : ExcName → Option Value} {mg mb : Str → Option Value} {A : Around} {env : Env} {outer : List Env} {A₀ : Around} {base h₀ : Heap} {L : Addr} {m : Str → Option Value} {s : Shared} {Q E : Value → Shared → Prop}
    (C : Tells w f vs Pre P) (B : Below A₀ base outer h₀) (F : Fr h₀ L s.heap m) (X : (Mine.hd.heap_39 w.params).In h₀) (T : Top Mine.hd.view_39 (looseW Mine.hd.view_39 []) mean mg mb h₀)
    (hA : A.frames = some (env :: outer)) (hh : A.handled = none) (hf : env.frame = some L) (hk : env.scope.kind = .function) (hd : A.depth + 20 < recursionLimit) (hu : A.units + 100 < cLine) (pre : Pre s)
    (ret : ∀ v h' tk', s.heap.StaysIn h' → s.toks ≤ tk' → P s v h' tk' → Q v { s with heap := h', toks := tk' }) :
    wpAny (model PySem.Challenge.rw_ph0015_01.row.prog w) A (call (.ref f) vs) Q E s := by
  obtain ⟨h, d, fr, g, u⟩ := A
  dsimp only at hA hh hd hu
  subst hA hh
  exact C _ _ _ _ _ _ _ _ _ _ _ _ _ _ _ _ B F X T hf hk hd hu pre ret

/-- a contract used in a frame with a ledger -/
theorem Tells.useN {w : World} {f : Addr} {vs : List Value} {Pre : Shared → Prop} {P : Shared → Value → Heap → Nat → Prop} {mean : ExcName → Option Value} {mg mb : Str → Option Value} {A : Around} {env : Env} {outer : List Env} {A₀ : Around} {base h₀ : Heap} {L : Addr} {m : Str → Option Value} {news : List (Addr × Obj)} {s : Shared} {Q E : Value → Shared → Prop}
    (C : Tells w f vs Pre P) (B : Below A₀ base outer h₀) (F : Fr h₀ L s.heap m) (X : (Mine.hd.heap_39 w.params).In h₀) (T : Top Mine.hd.view_39 (looseW Mine.hd.view_39 []) mean mg mb h₀) (N : News h₀ L s.heap news)
    (hA : A.frames = some (env :: outer)) (hh : A.handled = none) (hf : env.frame = some L) (hk : env.scope.kind = .function) (hd : A.depth + 20 < recursionLimit) (hu : A.units + 100 < cLine) (pre : Pre s)
    (ret : ∀ v h' tk', s.heap.StaysIn h' → s.toks ≤ tk' → P s v h' tk' → Fr h₀ L h' m → News h₀ L h' news → Q v { s with heap := h', toks := tk' }) :
    wpAny (model PySem.Challenge.rw_ph0015_01.row.prog w) A (call (.ref f) vs) Q E s :=
  C.use B F X T hA hh hf hk hd hu pre fun v h' tk' st ht p => ret v h' tk' st ht p (F.keeps st) (N.grown st)

/-- a turn's end in a for loop: the state between the turns -/
def TurnEnd (h₀ : Heap) (L : Addr) (s : Shared) (own : List (Addr × Obj)) (J : (Str → Option Value) → List (Addr × Obj) → Nat → Prop) (Q : Flow → Shared → Prop) (f : Flow) (s₂ : Shared) : Prop :=
  match f with
  | .ret v => Q (.ret v) s₂
  | .brk => Q .next s₂
  | _ => ∃ h' tk m' nw all, s₂ = { s with heap := h', toks := tk } ∧ Fr h₀ L h' m' ∧ News h₀ L h' all ∧ (∀ p ∈ nw, p ∈ all) ∧ (∀ p ∈ own, p ∈ all) ∧ OwnOff own (nw.map (·.1)) ∧ J m' nw tk
theorem TurnEnd.next {h₀ : Heap} {L : Addr} {s : Shared} {own nw all : List (Addr × Obj)} {J : (Str → Option Value) → List (Addr × Obj) → Nat → Prop} {Q : Flow → Shared → Prop} {h' : Heap} {tk : Nat} {m' : Str → Option Value}
    (F : Fr h₀ L h' m') (N : News h₀ L h' all) (hn : ∀ p ∈ nw, p ∈ all) (ho : ∀ p ∈ own, p ∈ all) (off : OwnOff own (nw.map (·.1))) (hJ : J m' nw tk) : TurnEnd h₀ L s own J Q .next { s with heap := h', toks := tk } :=
  ⟨h', tk, m', nw, all, rfl, F, N, hn, ho, off, hJ⟩

section
variable {prog : Program} {w : World} {A : Around} {E : Value → Shared → Prop} {s : Shared} {env : Env} {h₀ : Heap}
/-- a for loop over a list, by what holds between the turns of the frame, the ledger and the tokens -/
theorem for_list {target iter : Expr} {body : List Stmt} {pos : Pos} {Q : Flow → Shared → Prop} {l : Addr} {vs : List Value} {m₀ : Str → Option Value} {news : List (Addr × Obj)}
    (J : Nat → (Str → Option Value) → List (Addr × Obj) → Nat → Prop) (hh : A.handled = none) (hE : PassesOwn (model prog w) A env E)
    (hl : ∀ i m nw tk h, J i m nw tk → Fr h₀ env.locals h m → News h₀ env.locals h nw → h.IsList l vs.toArray)
    (F : Fr h₀ env.locals s.heap m₀) (N : News h₀ env.locals s.heap news) (h0 : J 0 m₀ news s.toks)
    (hev : ∀ Q' : Value → Shared → Prop, Q' (.ref l) s → wpAny (model prog w) A (eval iter env) Q' E s)
    (turn : ∀ i v m₁ nw h tk own, vs[i]? = some v → J i m₁ nw tk → OwnOff own (nw.map (·.1)) → Fr h₀ env.locals h m₁ → News h₀ env.locals h (nw ++ own) →
      wpAny (model prog w) A (assign target env v) (fun _ s₂ => wpAny (model prog w) A (execs body env) (TurnEnd h₀ env.locals s own (J (i + 1)) Q) E s₂) E { s with heap := h, toks := tk })
    (done : ∀ m₁ nw h tk, J vs.length m₁ nw tk → Fr h₀ env.locals h m₁ → News h₀ env.locals h nw → Q .next { s with heap := h, toks := tk })
    (ht : ∀ it v, letOwnedTupleGo target it v = pure () := by intro _ _; rfl)
    (hs : ∀ x, foldedSetIterable iter env x = pure x := by intro _; rfl) :
    wpAny (model prog w) A (exec (.For target iter body [] pos) env) Q E s := by
  refine wpAny_For (hev _ ?_) hs
  have hls := hl _ _ _ _ _ h0 F N
  refine wpAny_pyIter_list hls ?_
  generalize hI : s.heap.objs.size = I
  have hIn : s.heap.get? I = none := by
    cases e : s.heap.get? I with
    | none => rfl
    | some o => exact absurd (Heap.lt_size e) (by rw [hI]; exact Nat.lt_irrefl _)
  have hI₀ : h₀.get? I = none := by
    cases e : h₀.get? I with
    | none => rfl
    | some o => have := F.keep _ _ e; rw [hIn] at this; cases this
  have hLI : env.locals ≠ I := by
    intro e
    have := F.ns.lt
    rw [e, ← hI] at this
    exact Nat.lt_irrefl _ this
  refine codeAny_forLoop
    (fun k s' => ∃ h' tk m' nw i, s' = { s with heap := h', toks := tk } ∧ h'.IsListIter I l i ∧ Fr h₀ env.locals h' m' ∧ News h₀ env.locals h' nw ∧ (∀ p ∈ nw, p.1 ≠ I) ∧ J i m' nw tk ∧ i ≤ vs.length ∧ k = vs.length + 1 - i)
    ?_ (vs.length + 1) ⟨_, _, m₀, news, 0, rfl, ⟨_, by rw [← hI]; exact Heap.get?_push_size _ rfl, rfl, rfl⟩, F.push _, (fun p hp => ⟨Heap.get?_push_of_some _ (N p hp).1, (N p hp).2⟩),
      (fun p hp e => by have := (N p hp).1; rw [e, hIn] at this; cases this), h0, Nat.zero_le _, rfl⟩ (ht _)
  rintro k s' ⟨h', tk, m', nw, i, rfl, hit, F', N', hoff, hJ, hi, rfl⟩
  have hl' := hl _ _ _ _ _ hJ F' N'
  cases hv : vs[i]? with
  | none =>
    have hin : i = vs.length := Nat.le_antisymm hi (by simpa using hv)
    subst hin
    refine wpAny_pyNext_list_end hh hit hl' (by simpa using hv) fun h₁ he => wpAny_execs_nil ?_
    refine done m' nw h₁ tk hJ ⟨F'.ns.at' fun o e => he _ o hLI e, fun b o e => he b o (fun q => by rw [q, hI₀] at e; cases e) (F'.keep b o e), F'.above⟩ fun p hp => ⟨he _ _ (hoff p hp) (N' p hp).1, (N' p hp).2⟩
  | some v =>
    have hlt : i < vs.length := by
      have := (List.getElem?_eq_some_iff.mp hv).1
      exact this
    refine wpAny_pyNext_list_item hit hl' (by simpa using hv) fun h₁ hit₁ hs₁ => ?_
    have ex : ∀ b o, b ≠ I → h'.get? b = some o → h₁.get? b = some o := fun b o hb e => (hs₁.2 b hb).trans e
    have F₁ : Fr h₀ env.locals h₁ m' := ⟨F'.ns.at' fun o e => ex _ o hLI e, fun b o e => ex b o (fun q => by rw [q, hI₀] at e; cases e) (F'.keep b o e), F'.above⟩
    obtain ⟨oI, hoI, hoc, hod⟩ := id hit₁
    have N₁ : News h₀ env.locals h₁ (nw ++ [(I, oI)]) := fun p hp => by
      rcases List.mem_append.mp hp with hp | hp
      · exact ⟨ex _ _ (hoff p hp) (N' p hp).1, (N' p hp).2⟩
      · rw [List.mem_singleton.mp hp]
        exact ⟨hoI, Ne.symm hLI, hI₀⟩
    have off₁ : OwnOff [(I, oI)] (nw.map (·.1)) := fun p hp b hb e => by
      rw [List.mem_singleton.mp hp] at e
      obtain ⟨q, hq, rfl⟩ := List.mem_map.mp hb
      exact hoff q hq e.symm
    refine wpAny_passesOwn hE (wpAny_mono (turn i v m' nw h₁ tk [(I, oI)] hv hJ off₁ F₁ N₁) (fun _ s₂ h₂ => wpAny_passesOwn hE (wpAny_mono h₂ (fun f s₃ h₃ => ?_) fun _ _ e => e)) fun _ _ e => e)
    have fin : (∃ h' tk m' nw all, s₃ = { s with heap := h', toks := tk } ∧ Fr h₀ env.locals h' m' ∧ News h₀ env.locals h' all ∧ (∀ p ∈ nw, p ∈ all) ∧ (∀ p ∈ [(I, oI)], p ∈ all) ∧ OwnOff [(I, oI)] (nw.map (·.1)) ∧ J (i + 1) m' nw tk) →
        ∃ m, m < vs.length + 1 - i ∧ ∃ h' tk m' nw i, s₃ = { s with heap := h', toks := tk } ∧ h'.IsListIter I l i ∧ Fr h₀ env.locals h' m' ∧ News h₀ env.locals h' nw ∧ (∀ p ∈ nw, p.1 ≠ I) ∧ J i m' nw tk ∧ i ≤ vs.length ∧ m = vs.length + 1 - i := by
      rintro ⟨h₄, tk₄, m₄, nw₄, all₄, e, F₄, N₄, hn₄, ho₄, off₄, hJ₄⟩
      refine ⟨vs.length + 1 - (i + 1), by omega, h₄, tk₄, m₄, nw₄, i + 1, e, ⟨oI, (N₄ _ (ho₄ _ (List.mem_singleton.mpr rfl))).1, hoc, hod⟩, F₄, fun p hp => N₄ p (hn₄ p hp), ?_, hJ₄, hlt, rfl⟩
      intro p hp e
      exact off₄ (I, oI) (List.mem_singleton.mpr rfl) p.1 (List.mem_map_of_mem hp) e.symm
    cases f with
    | ret v => exact h₃
    | brk => exact h₃
    | next => exact fin h₃
    | cont => exact fin h₃
end
end Mine
end
section
open PySem PySem.W PyProof.Rows PySem.Spec PySem.Calls
set_option Elab.async false
set_option maxRecDepth 100000
namespace Mine
local macro_rules | `(tactic| k_room) => `(tactic| ((try simp only [depth_under_make, depth_under_kw, depth_in1, depth_deeper, depth_caller]); omega))
local macro_rules | `(tactic| walk_at "execs cons") => `(tactic| (k_here; (with_reducible refine wpAny_execs_cons ?_); try dsimp only))
local macro_rules | `(tactic| walk_at "eval Constant int") => `(tactic| (k_here; refine wpAny_Constant_int ?_; dsimp only))
local macro_rules | `(tactic| walk_at "execs nil") => `(tactic| (k_here; (with_reducible refine wpAny_execs_nil ?_); try dsimp only))
set_option maxHeartbeats 8000000 in
theorem t_isctrl (w : World) (c : Int) (t : Tok) : Tells w 63 [.int c t] (fun _ => True) (fun _ v _ _ => v = .bool (decide (0 ≤ c ∧ c < 32))) := by
  unfold Tells
  w_on
  k_fill
  intro mean mg mb dp un gd env outer A₀ base h₀ L m s Q E B F X T hf hk hd hu pre ret
  refine' enter_def B F X T rfl hf hk ret ?k6 ?k7 ?k8 ?k9 ?kB ?_ ?c2 ?c3 ?c4 ?c5
  (case k6 => k_is)
  (case k7 => k_is)
  (case k8 => (show dp < recursionLimit); omega)
  (case k9 => exact BindsTo.of_eq rfl)
  (case c5 => decide)
  (case kB => exact locs rfl)
  (case c2 => exact rfl)
  (case c3 => exact rfl)
  (case c4 => exact rfl)
  k_whole
  intro g' L' h' tk' st' FG' F' N' B' X' T' htk'
  have htk2 : s.toks + 1 ≤ tk' := by rw [htk']; exact Nat.add_le_add_left (Nat.le_of_ble_eq_true rfl) _
  clear htk'
  (try dsimp only)
  (try k_fold)
  clear B F X T FG' hf hk ret
  k_steps
  all_goals refine Done.intro (by k_asm) (by first | omega | (dsimp only; omega)) ?_
  all_goals (congr 1; simp_all <;> omega)
set_option maxHeartbeats 8000000 in
theorem t_isctrlS (w : World) (c : Nat) (t : Tok) : Tells w 63 [.str (Str.mk #[c]) t] (fun _ => True) (fun _ v _ _ => v = .bool (decide (c < 32))) := by
  unfold Tells
  w_on
  k_fill
  intro mean mg mb dp un gd env outer A₀ base h₀ L m s Q E B F X T hf hk hd hu pre ret
  refine' enter_def B F X T rfl hf hk ret ?k6 ?k7 ?k8 ?k9 ?kB ?_ ?c2 ?c3 ?c4 ?c5
  (case k6 => k_is)
  (case k7 => k_is)
  (case k8 => (show dp < recursionLimit); omega)
  (case k9 => exact BindsTo.of_eq rfl)
  (case c5 => decide)
  (case kB => exact locs rfl)
  (case c2 => exact rfl)
  (case c3 => exact rfl)
  (case c4 => exact rfl)
  k_whole
  intro g' L' h' tk' st' FG' F' N' B' X' T' htk'
  have htk2 : s.toks + 1 ≤ tk' := by rw [htk']; exact Nat.add_le_add_left (Nat.le_of_ble_eq_true rfl) _
  clear htk'
  (try dsimp only)
  (try k_fold)
  clear B F X T FG' hf hk ret
  k_steps
  all_goals refine Done.intro (by k_asm) (by first | omega | (dsimp only; omega)) ?_
  all_goals (first | (exfalso; omega) | (congr 1; simp only [decide_eq_decide]; omega))
set_option maxHeartbeats 8000000 in
theorem t_ctrl (w : World) (c : Int) (t : Tok) : Tells w 70 [.int c t] (fun _ => True) (fun _ v _ _ => ∃ t', v = .int (c % 32) t') := by
  unfold Tells
  w_on
  k_fill
  intro mean mg mb dp un gd env outer A₀ base h₀ L m s Q E B F X T hf hk hd hu pre ret
  refine' enter_def B F X T rfl hf hk ret ?k6 ?k7 ?k8 ?k9 ?kB ?_ ?c2 ?c3 ?c4 ?c5
  (case k6 => k_is)
  (case k7 => k_is)
  (case k8 => (show dp < recursionLimit); omega)
  (case k9 => exact BindsTo.of_eq rfl)
  (case c5 => decide)
  (case kB => exact locs rfl)
  (case c2 => exact rfl)
  (case c3 => exact rfl)
  (case c4 => exact rfl)
  k_whole
  intro g' L' h' tk' st' FG' F' N' B' X' T' htk'
  have htk2 : s.toks + 1 ≤ tk' := by rw [htk']; exact Nat.add_le_add_left (Nat.le_of_ble_eq_true rfl) _
  clear htk'
  (try dsimp only)
  (try k_fold)
  clear B F X T FG' hf hk ret
  k_steps
  all_goals (refine Done.intro (by k_asm) (by first | omega | (dsimp only; omega)) ?_)
  all_goals (rw [bitAnd_m5]; exact ⟨_, rfl⟩)
set_option maxHeartbeats 8000000 in
theorem t_ctrlS (w : World) (c : Nat) (t : Tok) : Tells w 70 [.str (Str.mk #[c]) t] (fun _ => True) (fun _ v _ _ => ∃ t', v = .str (Str.mk #[c % 32]) t') := by
  unfold Tells
  w_on
  k_fill
  intro mean mg mb dp un gd env outer A₀ base h₀ L m s Q E B F X T hf hk hd hu pre ret
  refine' enter_def B F X T rfl hf hk ret ?k6 ?k7 ?k8 ?k9 ?kB ?_ ?c2 ?c3 ?c4 ?c5
  (case k6 => k_is)
  (case k7 => k_is)
  (case k8 => (show dp < recursionLimit); omega)
  (case k9 => exact BindsTo.of_eq rfl)
  (case c5 => decide)
  (case kB => exact locs rfl)
  (case c2 => exact rfl)
  (case c3 => exact rfl)
  (case c4 => exact rfl)
  k_whole
  intro g' L' h' tk' st' FG' F' N' B' X' T' htk'
  have htk2 : s.toks + 1 ≤ tk' := by rw [htk']; exact Nat.add_le_add_left (Nat.le_of_ble_eq_true rfl) _
  clear htk'
  (try dsimp only)
  (try k_fold)
  clear B F X T FG' hf hk ret
  k_steps
  all_goals (refine chr_of_range (by rw [bitAnd_m5]; omega) (by rw [bitAnd_m5]; omega) ?_)
  k_steps
  all_goals (refine Done.intro (by k_asm) (by first | omega | (dsimp only; omega)) ?_)
  all_goals (rw [bitAnd_m5, show ((c : Int) % 32).toNat = c % 32 by omega]; exact ⟨_, rfl⟩)
set_option maxHeartbeats 8000000 in
theorem t_add (w : World) (a b : Int) (t u : Tok) : Tells w 28 [.int a t, .int b u] (fun _ => True) (fun s v _ tk => ∃ t' : Nat, v = .int (a + b) t' ∧ s.toks < t' ∧ t' < tk) := by
  unfold Tells
  w_on
  k_fill
  intro mean mg mb dp un gd env outer A₀ base h₀ L m s Q E B F X T hf hk hd hu pre ret
  refine' enter_def B F X T rfl hf hk ret ?k6 ?k7 ?k8 ?k9 ?kB ?_ ?c2 ?c3 ?c4 ?c5
  (case k6 => k_is)
  (case k7 => k_is)
  (case k8 => (show dp < recursionLimit); omega)
  (case k9 => exact BindsTo.of_eq rfl)
  (case c5 => decide)
  (case kB => exact locs rfl)
  (case c2 => exact rfl)
  (case c3 => exact rfl)
  (case c4 => exact rfl)
  k_whole
  intro g' L' h' tk' st' FG' F' N' B' X' T' htk'
  have htk2 : s.toks + 1 ≤ tk' := by rw [htk']; exact Nat.add_le_add_left (Nat.le_of_ble_eq_true rfl) _
  clear htk'
  (try dsimp only)
  (try k_fold)
  clear B F X T FG' hf hk ret
  k_steps
  all_goals (refine Done.intro (by k_asm) (by first | omega | (dsimp only; omega)) ⟨_, rfl, ?_, ?_⟩ <;> first | omega | (dsimp only; omega) | (show _ < _ + 1; dsimp only; omega) | exact Nat.lt_succ_self _)
set_option maxHeartbeats 8000000 in
theorem t_mul (w : World) (a b : Int) (t u : Tok) (ha : a.natAbs < 1000) : Tells w 35 [.int a t, .int b u] (fun _ => True) (fun _ v _ _ => ∃ t', v = .int (a * b) t') := by
  unfold Tells
  w_on
  k_fill
  intro mean mg mb dp un gd env outer A₀ base h₀ L m s Q E B F X T hf hk hd hu pre ret
  refine' enter_def B F X T rfl hf hk ret ?k6 ?k7 ?k8 ?k9 ?kB ?_ ?c2 ?c3 ?c4 ?c5
  (case k6 => k_is)
  (case k7 => k_is)
  (case k8 => (show dp < recursionLimit); omega)
  (case k9 => exact BindsTo.of_eq rfl)
  (case c5 => decide)
  (case kB => exact locs rfl)
  (case c2 => exact rfl)
  (case c3 => exact rfl)
  (case c4 => exact rfl)
  k_whole
  intro g' L' h' tk' st' FG' F' N' B' X' T' htk'
  have htk2 : s.toks + 1 ≤ tk' := by rw [htk']; exact Nat.add_le_add_left (Nat.le_of_ble_eq_true rfl) _
  clear htk'
  (try dsimp only)
  (try k_fold)
  clear B F X T FG' hf hk ret
  k_steps
  all_goals refine Done.intro (by k_asm) (by first | omega | (dsimp only; omega)) ⟨_, rfl⟩
set_option maxHeartbeats 8000000 in
theorem t_ne (w : World) (a b : Int) (t u : Tok) : Tells w 21 [.int a t, .int b u] (fun _ => True) (fun _ v _ _ => v = .bool (a != b)) := by
  unfold Tells
  w_on
  k_fill
  intro mean mg mb dp un gd env outer A₀ base h₀ L m s Q E B F X T hf hk hd hu pre ret
  refine' enter_def B F X T rfl hf hk ret ?k6 ?k7 ?k8 ?k9 ?kB ?_ ?c2 ?c3 ?c4 ?c5
  (case k6 => k_is)
  (case k7 => k_is)
  (case k8 => (show dp < recursionLimit); omega)
  (case k9 => exact BindsTo.of_eq rfl)
  (case c5 => decide)
  (case kB => exact locs rfl)
  (case c2 => exact rfl)
  (case c3 => exact rfl)
  (case c4 => exact rfl)
  k_whole
  intro g' L' h' tk' st' FG' F' N' B' X' T' htk'
  have htk2 : s.toks + 1 ≤ tk' := by rw [htk']; exact Nat.add_le_add_left (Nat.le_of_ble_eq_true rfl) _
  clear htk'
  (try dsimp only)
  (try k_fold)
  clear B F X T FG' hf hk ret
  k_steps
  all_goals refine Done.intro (by k_asm) (by first | omega | (dsimp only; omega)) rfl
set_option maxHeartbeats 8000000 in
theorem t_neS (w : World) (a b : Str) (t u : Tok) : Tells w 21 [.str a t, .str b u] (fun _ => True) (fun _ v _ _ => v = .bool (a != b)) := by
  unfold Tells
  w_on
  k_fill
  intro mean mg mb dp un gd env outer A₀ base h₀ L m s Q E B F X T hf hk hd hu pre ret
  refine' enter_def B F X T rfl hf hk ret ?k6 ?k7 ?k8 ?k9 ?kB ?_ ?c2 ?c3 ?c4 ?c5
  (case k6 => k_is)
  (case k7 => k_is)
  (case k8 => (show dp < recursionLimit); omega)
  (case k9 => exact BindsTo.of_eq rfl)
  (case c5 => decide)
  (case kB => exact locs rfl)
  (case c2 => exact rfl)
  (case c3 => exact rfl)
  (case c4 => exact rfl)
  k_whole
  intro g' L' h' tk' st' FG' F' N' B' X' T' htk'
  have htk2 : s.toks + 1 ≤ tk' := by rw [htk']; exact Nat.add_le_add_left (Nat.le_of_ble_eq_true rfl) _
  clear htk'
  (try dsimp only)
  (try k_fold)
  clear B F X T FG' hf hk ret
  k_steps
  all_goals refine Done.intro (by k_asm) (by first | omega | (dsimp only; omega)) rfl
end Mine
end
section
open PySem PySem.W PyProof.Rows PySem.Spec PySem.Calls
set_option Elab.async false
set_option maxRecDepth 100000
namespace Mine
local macro_rules | `(tactic| k_room) => `(tactic| ((try simp only [depth_under_make, depth_under_kw, depth_in1, depth_deeper, depth_caller]); omega))
local macro_rules | `(tactic| walk_at "execs cons") => `(tactic| (k_here; (with_reducible refine wpAny_execs_cons ?_); try dsimp only))
local macro_rules | `(tactic| walk_at "eval Constant int") => `(tactic| (k_here; refine wpAny_Constant_int ?_; dsimp only))
local macro_rules | `(tactic| walk_at "execs nil") => `(tactic| (k_here; (with_reducible refine wpAny_execs_nil ?_); try dsimp only))
local macro_rules | `(tactic| walk_at "eval Name") => `(tactic| (k_here; k_dflt (refine' ld ?k1 ?k2 ?_; (case k1 => k_asm); (case k2 => (first | exact rfl | assumption | ((repeat rw [if_neg (by decide)]); (try rw [if_pos rfl]); first | rfl | assumption))); k_whole)))
local macro_rules | `(tactic| walk_at "loadName") => `(tactic| (k_here; k_dflt (refine' ldn ?k1 ?k2 ?_; (case k1 => k_asm); (case k2 => (first | exact rfl | assumption | ((repeat rw [if_neg (by decide)]); (try rw [if_pos rfl]); first | rfl | assumption))); k_whole)))
set_option maxHeartbeats 8000000 in
theorem t_countOf (w : World) (l : Addr) (bs : List Bool) (b : Bool) : Tells w 42 [.ref l, .bool b] (fun s => s.heap.IsList l (bs.map Value.bool).toArray) (fun _ v _ _ => ∃ t, v = .int (bs.count b) t) := by
  unfold Tells
  w_on
  k_fill
  intro mean mg mb dp un gd env outer A₀ base h₀ L m s Q E B F X T hf hk hd hu pre ret
  refine' enter_def B F X T rfl hf hk ret ?k6 ?k7 ?k8 ?k9 ?kB ?_ ?c2 ?c3 ?c4 ?c5
  (case k6 => k_is)
  (case k7 => k_is)
  (case k8 => (show dp < recursionLimit); omega)
  (case k9 => exact BindsTo.of_eq rfl)
  (case c5 => decide)
  (case kB => exact locs rfl)
  (case c2 => exact rfl)
  (case c3 => exact rfl)
  (case c4 => exact rfl)
  k_whole
  intro g' L' h' tk' st' FG' F' N' B' X' T' htk'
  have htk2 : s.toks + 1 ≤ tk' := by rw [htk']; exact Nat.add_le_add_left (Nat.le_of_ble_eq_true rfl) _
  clear htk'
  (try dsimp only)
  (try k_fold)
  clear B F X T FG' hf hk ret
  repeat' (first | (k_unfold; (try dsimp only)) | ((fail_if_success (with_reducible show wpAny _ _ (exec (Stmt.For _ _ _ _ _) _) _ _ _)); walk1) | ((fail_if_success (with_reducible show wpAny _ _ (exec (Stmt.For _ _ _ _ _) _) _ _ _)); dsimp only; walk1))
  have hl' : g'.IsList l (bs.map Value.bool).toArray := pre.at fun o e => st' _ _ e
  refine for_list (h₀ := g') (l := l) (vs := bs.map Value.bool) (J := fun i m nw tk => tk' ≤ tk ∧ nw = [] ∧ m (Str.ofString "b") = some (.bool b) ∧ ∃ t, m (Str.ofString "count") = some (.int ((bs.take i).count b : Nat) t)) rfl PassesOwn.never ?hl (by k_asm) (by k_asm) ?h0 ?hev ?turn ?done
  case hl =>
    rintro i m nw tk h _ F N
    exact hl'.at fun o e => F.keep _ _ e
  case h0 => exact ⟨(by first | omega | (dsimp only; omega)), rfl, rfl, _, rfl⟩
  case hev =>
    intro Q' hQ'
    k_steps
    exact hQ'
  case turn =>
    rintro i v m₁ nw h tk own hv ⟨ht, rfl, hb, t, hc⟩ off F N
    obtain ⟨b', hb', rfl⟩ : ∃ b', bs[i]? = some b' ∧ Value.bool b' = v := by simpa using hv
    have hc' : ((bs.take (i + 1)).count b : Int) = ((bs.take i).count b : Nat) + (if b' = b then 1 else 0) := by
      rw [List.take_add_one, hb', List.count_append]
      cases b <;> cases b' <;> simp
    refine wpAny_assign_Name ?_
    k_steps
    · have e : b' = b := by simpa using (by assumption : (b' == b) = true)
      subst e
      refine TurnEnd.next (nw := []) (by k_asm) (by k_asm) (fun p hp => nomatch hp) (fun p hp => by simpa using hp) off ⟨(by first | omega | (dsimp only; omega)), rfl, ?_, ?_⟩
      · rw [if_neg (by decide), if_neg (by decide)]; exact hb
      · rw [if_pos rfl, hc', if_pos rfl]; exact ⟨_, rfl⟩
    · have e : ¬ b' = b := by simpa using (by assumption : (b' == b) = false)
      refine TurnEnd.next (nw := []) (by k_asm) (by k_asm) (fun p hp => nomatch hp) (fun p hp => by simpa using hp) off ⟨(by first | omega | (dsimp only; omega)), rfl, ?_, ?_⟩
      · rw [if_neg (by decide)]; exact hb
      · rw [if_neg (by decide), hc', if_neg e, Int.add_zero]; exact ⟨_, hc⟩
  case done =>
    rintro m₁ nw h tk ⟨ht, rfl, hb, t, hc⟩ F N
    dsimp only
    k_steps
    refine Done.intro (by k_asm) (by first | omega | (dsimp only; omega)) ?_
    rw [List.length_map, List.take_length]
    exact ⟨_, rfl⟩
end Mine
end
section
open PySem PySem.W PyProof.Rows PySem.Spec PySem.Calls
set_option Elab.async false
set_option maxRecDepth 100000
namespace Mine
local macro_rules | `(tactic| k_room) => `(tactic| ((try simp only [depth_under_make, depth_under_kw, depth_in1, depth_deeper, depth_caller]); omega))
local macro_rules | `(tactic| walk_at "execs cons") => `(tactic| (k_here; (with_reducible refine wpAny_execs_cons ?_); try dsimp only))
local macro_rules | `(tactic| walk_at "eval Constant int") => `(tactic| (k_here; refine wpAny_Constant_int ?_; dsimp only))
local macro_rules | `(tactic| walk_at "execs nil") => `(tactic| (k_here; (with_reducible refine wpAny_execs_nil ?_); try dsimp only))
local macro_rules | `(tactic| walk_at "eval Name") => `(tactic| (k_here; k_dflt (refine' ld ?k1 ?k2 ?_; (case k1 => k_asm); (case k2 => (first | exact rfl | assumption | ((repeat rw [if_neg (by decide)]); (try rw [if_pos rfl]); first | rfl | assumption))); k_whole)))
local macro_rules | `(tactic| walk_at "loadName") => `(tactic| (k_here; k_dflt (refine' ldn ?k1 ?k2 ?_; (case k1 => k_asm); (case k2 => (first | exact rfl | assumption | ((repeat rw [if_neg (by decide)]); (try rw [if_pos rfl]); first | rfl | assumption))); k_whole)))
theorem sub_last {prog : Program} {w : World} {A : Around} {E : Value → Shared → Prop} {s : Shared} {h₀ : Heap} {L : Addr} {value slice : PySem.Expr} {l : Addr} {us : List Value} {n : Nat} {k : Int} {u : Tok} {v : Value} {news : List (Addr × Obj)} {Q : Value → Shared → Prop}
    (N : News h₀ L s.heap news) (hm : (l, listOf (us ++ [v]).toArray n) ∈ news) (hk : k = -1) (h : Q v s)
    (hs : subscripted slice false (.ref l) (.int k u) = operate [.ref l, .int k u] (getItem (.ref l) (.int k u)) := by with_unfolding_all rfl) :
    wpAny (model prog w) A (subscriptTail value slice (.ref l) (.int k u)) Q E s := by
  have hl : s.heap.IsList l (us ++ [v]).toArray := ⟨_, (N _ hm).1, rfl, n, rfl⟩
  subst hk
  exact tail_any hl.typeIs slot_list_getitem.lookup (wpAny_getItem_list_neg hl (by decide) (by simp; omega) (by decide) (by simp [show ((-1 : Int) + ((us.length : Int) + 1)).toNat = us.length by omega]) h) hs

theorem append_hd {prog : Program} {w : World} {A : Around} {E : Value → Shared → Prop} {s : Shared} {h₀ : Heap} {L : Addr} {m : Str → Option Value} {d : Addr} {us : List Value} {n : Nat} {x : Value} {own : List (Addr × Obj)} {Q : Value → Shared → Prop}
    (F : Fr h₀ L s.heap m) (N : News h₀ L s.heap ((d, listOf us.toArray n) :: own)) (off : ∀ p ∈ own, p.1 ≠ d) (hsz : us.length ≤ 1000)
    (h : ∀ h', Fr h₀ L h' m → News h₀ L h' ((d, listOf (us ++ [x]).toArray (n + 1)) :: own) → Q .none { s with heap := h' }) :
    wpAny (model prog w) A (call (.builtin "list.append") [.ref d, x]) Q E s := by
  refine append_K F N (Upd.head off) (fun h' F' N' => h h' F' ?_) (by rw [List.size_toArray, sizeLine_eq]; omega)
  simpa using N'

/-- one more number: the mask of the sums of the numbers so far -/
def frontI (f x : Int) : Int :=
  (Builtin.bitOr (Builtin.bitOr f (Builtin.bitOr (f * 2 ^ (x.fmod 32).toNat) (1 * 2 ^ (x.fmod 32).toNat))) ((Builtin.bitOr (f * 2 ^ (x.fmod 32).toNat) (1 * 2 ^ (x.fmod 32).toNat)).fdiv (2 ^ (32 : Int).toNat))).fmod (2 ^ (32 : Int).toNat)
theorem frontI_range (f x : Int) : 0 ≤ frontI f x ∧ frontI f x < 4294967296 := by
  unfold frontI
  have e : (2 : Int) ^ (32 : Int).toNat = 4294967296 := by decide
  rw [e]
  generalize Builtin.bitOr _ _ = y
  rw [Int.fmod_eq_emod_of_nonneg _ (by decide)]
  omega
def frontAt (ns : List Int) (j : Nat) : Int := (ns.take j).foldl frontI 0
theorem frontAt_range (ns : List Int) (j : Nat) : 0 ≤ frontAt ns j ∧ frontAt ns j < 4294967296 := by
  unfold frontAt
  rcases List.eq_nil_or_concat (ns.take j) with h | ⟨l, x, h⟩
  · rw [h]; decide
  · rw [h, List.concat_eq_append, List.foldl_append]; exact frontI_range _ _
theorem frontAt_succ (ns : List Int) (j : Nat) (x : Int) (h : ns[j]? = some x) : frontAt ns (j + 1) = frontI (frontAt ns j) x := by
  unfold frontAt
  rw [List.take_add_one, h, List.foldl_append]; rfl
def frontsOf (ns : List Int) (j : Nat) : List Int := (List.range (j + 1)).map (frontAt ns)
theorem frontsOf_succ (ns : List Int) (j : Nat) : frontsOf ns (j + 1) = frontsOf ns j ++ [frontAt ns (j + 1)] := by
  unfold frontsOf
  rw [List.range_succ, List.map_append]; rfl

local macro_rules | `(tactic| walk_at "subscriptTail") => `(tactic| (k_here; (with_reducible show wpAny _ _ (subscriptTail _ _ (Value.ref _) (Value.int _ _)) _ _ _); (with_unfolding_all refine' sub_last ?k1 ?k2 ?k3 ?_ ?k6; (case k1 => k_asm); (case k2 => k_mem); (case k3 => rfl); (case k6 => with_unfolding_all rfl); k_whole)))
local macro_rules | `(tactic| walk_at "binaryOp LShift") => `(tactic| (k_here; refine lshift_int_small (by first | assumption | omega) (by omega) (by first | assumption | decide) ?_; try dsimp only))
local macro_rules | `(tactic| walk_at "binaryOp BitOr") => `(tactic| (k_here; refine or_int ?_; try dsimp only))
local macro_rules | `(tactic| walk_at "binaryOp Mod") => `(tactic| (k_here; refine mod_int' (by decide) ?_; try dsimp only))
local macro_rules | `(tactic| walk_at "binaryOp Pow") => `(tactic| (k_here; refine pow_int_small (by decide) (by decide) (by decide) ?_; try dsimp only))
local macro_rules | `(tactic| walk_at "binaryOp RShift") => `(tactic| (k_here; refine rshift_int (by decide) ?_; try dsimp only))
local macro_rules | `(tactic| walk_at "call builtin:list.append") => `(tactic| (k_here; k_dflt (refine' append_hd ?k1 ?k2 ?k3 ?k4 ?_; (case k1 => k_asm); (case k2 => k_asm); (case k3 => (first | assumption | exact fun p hp => OwnOff.ne (by assumption) (List.mem_cons_self) p hp)); (case k4 => ((try simp only [List.length_append, List.length_cons, List.length_nil]); omega)); k_whole; intro h' F' N'; (try dsimp only))))
set_option maxHeartbeats 8000000 in
theorem t_fronts (w : World) (l : Addr) (vs : List Value) (ns : List Int) (hi : IntsAre vs ns) (hn : ns.length ≤ 64) : Tells w 82 [.ref l] (fun s => s.heap.IsList l vs.toArray)
    (fun s v h' _ => ∃ d us n, v = .ref d ∧ s.heap.get? d = none ∧ h'.get? d = some (listOf us.toArray n) ∧ IntsAre us (frontsOf ns ns.length)) := by
  unfold Tells
  w_on
  k_fill
  intro mean mg mb dp un gd env outer A₀ base h₀ L m s Q E B F X T hf hk hd hu pre ret
  refine' enter_def B F X T rfl hf hk ret ?k6 ?k7 ?k8 ?k9 ?kB ?_ ?c2 ?c3 ?c4 ?c5
  (case k6 => k_is)
  (case k7 => k_is)
  (case k8 => (show dp < recursionLimit); omega)
  (case k9 => exact BindsTo.of_eq rfl)
  (case c5 => decide)
  (case kB => exact locs rfl)
  (case c2 => exact rfl)
  (case c3 => exact rfl)
  (case c4 => exact rfl)
  k_whole
  intro g' L' h' tk' st' FG' F' N' B' X' T' htk'
  have htk2 : s.toks + 1 ≤ tk' := by rw [htk']; exact Nat.add_le_add_left (Nat.le_of_ble_eq_true rfl) _
  clear htk'
  (try dsimp only)
  (try k_fold)
  clear B F X T FG' hf hk ret
  repeat' (first | (k_unfold; (try dsimp only)) | ((fail_if_success (with_reducible show wpAny _ _ (exec (Stmt.For _ _ _ _ _) _) _ _ _)); walk1) | ((fail_if_success (with_reducible show wpAny _ _ (exec (Stmt.For _ _ _ _ _) _) _ _ _)); dsimp only; walk1))
  have hl' : g'.IsList l vs.toArray := pre.at fun o e => st' _ _ e
  refine for_list (h₀ := g') (l := l) (vs := vs) (J := fun i m nw tk => tk' ≤ tk ∧ ∃ d us n t, m (Str.ofString "fronts") = some (.ref d) ∧ nw = [(d, listOf (us ++ [.int (frontAt ns i) t]).toArray n)] ∧ us.length ≤ i ∧ IntsAre (us ++ [.int (frontAt ns i) t]) (frontsOf ns i)) rfl PassesOwn.never ?hl (by k_asm) (by k_asm) ?h0 ?hev ?turn ?done
  case hl =>
    rintro i m nw tk h _ F N
    exact hl'.at fun o e => F.keep _ _ e
  case h0 => exact ⟨(by first | omega | (dsimp only; omega)), _, [], _, _, rfl, rfl, Nat.le_refl _, .cons _ _ .nil⟩
  case hev =>
    intro Q' hQ'
    k_steps
    exact hQ'
  case turn =>
    rintro i v m₁ nw h tk own hv ⟨ht, d, us, n, t, hfr, rfl, hlen, hints⟩ off F N
    obtain ⟨x, tx, rfl, hx⟩ := IntsAre.at hi i v hv
    have hx0 : 0 ≤ x.fmod 32 := by rw [Int.fmod_eq_emod_of_nonneg _ (by decide)]; omega
    have hx1 : x.fmod 32 < 32 := by rw [Int.fmod_eq_emod_of_nonneg _ (by decide)]; omega
    have hf : (frontAt ns i).natAbs < 2 ^ 64 := by have := frontAt_range ns i; omega
    have hil : i < ns.length := (List.getElem?_eq_some_iff.mp hx).1
    simp only [List.cons_append, List.nil_append] at N
    refine wpAny_assign_Name ?_
    k_steps
    rename News _ _ _ _ => NN
    refine TurnEnd.next (nw := [_]) (by k_asm) NN (fun p hp => List.mem_cons.mpr (Or.inl (List.mem_singleton.mp hp))) (fun p hp => List.mem_cons_of_mem _ hp) (by exact off) ?_
    rw [frontAt_succ ns i x hx]
    refine ⟨(by first | omega | (dsimp only; omega)), d, us ++ [.int (frontAt ns i) t], n + 1, _, (by (try dsimp only); (repeat rw [if_neg (by decide)]); (try rw [if_pos rfl]); first | rfl | assumption), rfl, ?_, ?_⟩
    · simp; omega
    · rw [frontsOf_succ, frontAt_succ ns i x hx]
      exact IntsAre.append hints (.cons _ _ .nil)
  case done =>
    rintro m₁ nw h tk ⟨ht, d, us, n, t, hfr, rfl, hlen, hints⟩ F N
    dsimp only
    k_steps
    refine Done.intro (by k_asm) (by first | omega | (dsimp only; omega)) ?_
    have hvl := hi.length
    rw [← hvl]
    have hd := N _ (List.mem_cons_self)
    refine ⟨d, _, n, rfl, ?_, hd.1, hints⟩
    cases e : s.heap.get? d with
    | none => rfl
    | some o => have := st' _ _ e; rw [hd.2.2] at this; cases this
end Mine
end
section
open PySem PySem.W PyProof.Rows PySem.Spec PySem.Calls
set_option Elab.async false
set_option maxRecDepth 100000
namespace Mine
/-- a turn's end in a loop over enumerate(list) whose body stores nothing -/
def EnumEnd (s : Shared) (h : Heap) (J : Prop) (Q : Flow → Shared → Prop) (f : Flow) (s₂ : Shared) : Prop :=
  match f with
  | .ret v => Q (.ret v) s₂
  | .brk => Q .next s₂
  | _ => ∃ tk, s₂ = { s with heap := h, toks := tk } ∧ s.toks ≤ tk ∧ J
section
variable {prog : Program} {w : World} {A : Around} {E : Value → Shared → Prop} {s : Shared} {env : Env} {h₀ : Heap}
theorem for_enum {xi xv : Str} {pi pv pt : Pos} {x1} {iter : Expr} {body orelse : List Stmt} {pos : Pos} {Q : Flow → Shared → Prop} {l : Addr} {vs : List Value} {m₀ : Str → Option Value} {news : List (Addr × Obj)}
    (J : Nat → (Str → Option Value) → Prop) (hh : A.handled = none) (hE : PassesOwn (model prog w) A env E) (hxi : env.kindOf xi = some .local) (hxv : env.kindOf xv = some .local)
    (hp : (env.scope.kind == .class || (env.scope.kind == .module && env.locals != env.globals)) = false)
    (hl : ∀ h m, Fr h₀ env.locals h m → News h₀ env.locals h news → h.IsList l vs.toArray) (F : Fr h₀ env.locals s.heap m₀) (N : News h₀ env.locals s.heap news) (h0 : J 0 m₀)
    (hev : ∀ Q' : Value → Shared → Prop, wpAny (model prog w) A (call (.type "enumerate") [.ref l]) Q' E s → wpAny (model prog w) A (eval iter env) Q' E s)
    (turn : ∀ i v m₁ h tk t, vs[i]? = some v → J i m₁ → s.toks ≤ tk → Fr h₀ env.locals h (fun y => if y = xv then some v else if y = xi then some (.int (i : Nat) t) else m₁ y) → News h₀ env.locals h news →
      wpAny (model prog w) A (execs body env) (EnumEnd s h (J (i + 1) (fun y => if y = xv then some v else if y = xi then some (.int (i : Nat) t) else m₁ y)) Q) E { s with heap := h, toks := tk })
    (done : ∀ m₁ h tk, J vs.length m₁ → s.toks ≤ tk → Fr h₀ env.locals h m₁ → News h₀ env.locals h news → wpAny (model prog w) A (execs orelse env) Q E { s with heap := h, toks := tk })
    (hs : ∀ x, foldedSetIterable iter env x = pure x := by intro _; rfl) :
    wpAny (model prog w) A (exec (.For (.Tuple [.Name xi pi, .Name xv pv] x1 pt) iter body orelse pos) env) Q E s := by
  refine wpAny_For (hev _ ?_) hs
  have hls : s.heap.IsList l vs.toArray := hl _ _ F N
  refine call_enumerate_list hls fun h' hEn hIt hsz hk => wpAny_pyIter_enum hEn ?_
  have hLz : env.locals < s.heap.objs.size := F.ns.lt
  have hNz : ∀ p ∈ news, p.1 < s.heap.objs.size := fun p hp => Heap.lt_size (N p hp).1
  generalize hei : s.heap.objs.size = z at *
  have f₀ : ∀ a, z ≤ a → h₀.get? a = none := fun a ha => by
    cases e : h₀.get? a with
    | none => rfl
    | some o => exact absurd (Heap.lt_size (F.keep _ _ e)) (by rw [hei]; exact Nat.not_lt.mpr ha)
  have n1 : env.locals ≠ z := Nat.ne_of_lt hLz
  have n2 : env.locals ≠ z + 1 := Nat.ne_of_lt (Nat.lt_succ_of_lt hLz)
  have n3 : z + 1 ≠ z := Nat.succ_ne_self z
  refine codeAny_forLoop_any
    (fun k s' => ∃ H tk m' i old, s' = { s with heap := H, toks := tk } ∧ s.toks ≤ tk ∧ IsEnum H (z + 1) z ((i : Nat) : Int) old ∧ H.IsListIter z l i ∧ Fr h₀ env.locals H m' ∧ News h₀ env.locals H news ∧ J i m' ∧ i ≤ vs.length ∧ k = vs.length + 1 - i)
    ?_ (vs.length + 1) ⟨h', s.toks, m₀, 0, .none, rfl, Nat.le_refl _, hEn, hIt, F.keeps hk, N.grown hk, h0, Nat.zero_le _, rfl⟩
  rintro k s' ⟨H, tk, m', i, old, rfl, htk, he', hit', F', N', hJ, hi, rfl⟩
  have hl' : H.IsList l vs.toArray := hl _ _ F' N'
  have p1 : ∀ p ∈ news, p.1 ≠ z := fun p hp => Nat.ne_of_lt (hNz p hp)
  have p2 : ∀ p ∈ news, p.1 ≠ z + 1 := fun p hp => Nat.ne_of_lt (Nat.lt_succ_of_lt (hNz p hp))
  cases hv : vs[i]? with
  | none =>
    have hin : i = vs.length := Nat.le_antisymm hi (by simpa using hv)
    subst hin
    refine wpAny_pyNext_enum_end hh he' hit' hl' (by simp) fun h₁ he₁ => ?_
    refine wpAny_passesOwn hE (done m' h₁ tk hJ htk ⟨F'.ns.at' fun o e => he₁ _ o n1 e, fun b o e => he₁ b o (fun q => by rw [q, f₀ z (Nat.le_refl _)] at e; cases e) (F'.keep b o e), F'.above⟩ fun p hp => ⟨he₁ _ _ (p1 p hp) (N' p hp).1, (N' p hp).2⟩)
  | some v =>
    have hlt : i < vs.length := (List.getElem?_eq_some_iff.mp hv).1
    have heH : z + 1 < H.objs.size := Heap.lt_size he'
    have hLH : env.locals < H.objs.size := F'.ns.lt
    refine wpAny_pyNext_enum_item he' hit' hl' (by simpa using hv) n3 fun h₁ heo hit₁ ht₁ hz₁ hk₁ => ?_
    refine wpAny_letOwnedTupleGo_enum heo fun h₂ he₂ hs₂ => ?_
    replace hs₂ : Heap.SameBut (z + 1) h₁ h₂ := hs₂
    have ht₂ : h₂.IsTuple H.objs.size #[.int i tk, v] := ⟨_, (hs₂.2 _ (Nat.ne_of_gt heH)).trans ht₁, rfl, _, rfl⟩
    have hz₂ : h₂.objs.size = H.objs.size + 1 := hs₂.1.trans hz₁
    refine wpAny_assign_Tuple hh ht₂ rfl rfl fun h₃ hx₃ => ?_
    replace hx₃ : Heap.ExtBut h₂.objs.size h₂ h₃ := hx₃
    have old₃ : ∀ b o, b < H.objs.size → h₂.get? b = some o → h₃.get? b = some o := fun b o hb x => hx₃ b o (by rw [hz₂]; exact Nat.ne_of_lt (Nat.lt_succ_of_lt hb)) x
    have up₃ : ∀ b o, b ≠ z + 1 → b ≠ z → H.get? b = some o → h₃.get? b = some o := fun b o b1 b2 e =>
      old₃ b o (Heap.lt_size e) (hs₂.extBut b o b1 (hk₁ b o b1 b2 e))
    have F₃ : Fr h₀ env.locals h₃ m' := ⟨F'.ns.at' fun o e => up₃ _ o n2 n1 e, fun b o e => up₃ b o (fun q => by rw [q, f₀ _ (Nat.le_succ _)] at e; cases e) (fun q => by rw [q, f₀ z (Nat.le_refl _)] at e; cases e) (F'.keep b o e), F'.above⟩
    have N₃ : News h₀ env.locals h₃ news := fun p hp => ⟨up₃ _ _ (p2 p hp) (p1 p hp) (N' p hp).1, (N' p hp).2⟩
    show wpAny _ A (do holding [v] (assign (.Name xi pi) env (.int i tk)); do holding [] (assign (.Name xv pv) env v); pure ()) _ _ _
    refine wpAny_bind (wpAny_holding (wpAny_assign_Name (wpAny_storeName_local hxi F₃.ns (fun h₄ hn₄ hs₄ => ?_) hp)))
    replace hs₄ : Heap.SameBut env.locals h₃ h₄ := hs₄
    have F₄ := F₃.set hn₄ hs₄
    refine wpAny_bind (wpAny_holding (wpAny_assign_Name (wpAny_storeName_local hxv F₄.ns (fun h₅ hn₅ hs₅ => wpAny_pure ?_) hp)))
    replace hs₅ : Heap.SameBut env.locals h₄ h₅ := hs₅
    have F₅ := F₄.set hn₅ hs₅
    have N₅ : News h₀ env.locals h₅ news := (N₃.set hs₄).set hs₅
    have up : ∀ b o, b ≠ env.locals → b < H.objs.size → h₂.get? b = some o → h₅.get? b = some o := fun b o hbL hb x =>
      hs₅.extBut b o hbL (hs₄.extBut b o hbL (old₃ b o hb x))
    refine wpAny_passesOwn hE (wpAny_mono (turn i v m' h₅ _ tk hv hJ (by dsimp only; omega) F₅ N₅) (fun f s₃ h₆ => ?_) fun _ _ x => x)
    have fin' : (∃ tk₁, s₃ = { s with heap := h₅, toks := tk₁ } ∧ s.toks ≤ tk₁ ∧ J (i + 1) (fun y => if y = xv then some v else if y = xi then some (.int (i : Nat) tk) else m' y)) →
        ∃ m, m < vs.length + 1 - i ∧ ∃ H tk m' i old, s₃ = { s with heap := H, toks := tk } ∧ s.toks ≤ tk ∧ IsEnum H (z + 1) z ((i : Nat) : Int) old ∧ H.IsListIter z l i ∧ Fr h₀ env.locals H m' ∧ News h₀ env.locals H news ∧ J i m' ∧ i ≤ vs.length ∧ m = vs.length + 1 - i := by
      rintro ⟨tk₆, e, ht₆, hJ₆⟩
      refine ⟨vs.length + 1 - (i + 1), by omega, h₅, tk₆, _, i + 1, v, e, ht₆, ?_, ?_, F₅, N₅, hJ₆, hlt, rfl⟩
      · have : ((i + 1 : Nat) : Int) = (i : Int) + 1 := by push_cast; rfl
        rw [this]; exact up (z + 1) _ n2.symm heH he₂
      · exact (hit₁.extBut hs₂.extBut n3.symm).at fun o x => up z o n1.symm (Nat.lt_of_succ_lt heH) x
    cases f with
    | ret v => exact h₆
    | brk => exact h₆
    | next => exact fin' h₆
    | cont => exact fin' h₆
end
end Mine
end
section
open PySem PySem.W PyProof.Rows PySem.Spec PySem.Calls
set_option Elab.async false
set_option maxRecDepth 100000
namespace Mine
local macro_rules | `(tactic| k_room) => `(tactic| ((try simp only [depth_under_make, depth_under_kw, depth_in1, depth_deeper, depth_caller]); omega))
local macro_rules | `(tactic| walk_at "execs cons") => `(tactic| (k_here; (with_reducible refine wpAny_execs_cons ?_); try dsimp only))
local macro_rules | `(tactic| walk_at "eval Constant int") => `(tactic| (k_here; refine wpAny_Constant_int ?_; dsimp only))
local macro_rules | `(tactic| walk_at "execs nil") => `(tactic| (k_here; (with_reducible refine wpAny_execs_nil ?_); try dsimp only))
local macro_rules | `(tactic| walk_at "eval Name") => `(tactic| (k_here; k_dflt (refine' ld ?k1 ?k2 ?_; (case k1 => k_asm); (case k2 => (first | exact rfl | assumption | ((repeat rw [if_neg (by decide)]); (try rw [if_pos rfl]); first | rfl | assumption))); k_whole)))
local macro_rules | `(tactic| walk_at "loadName") => `(tactic| (k_here; k_dflt (refine' ldn ?k1 ?k2 ?_; (case k1 => k_asm); (case k2 => (first | exact rfl | assumption | ((repeat rw [if_neg (by decide)]); (try rw [if_pos rfl]); first | rfl | assumption))); k_whole)))
theorem is_int_ne {M : Model} {A : Around} {E : Value → Shared → Prop} {s : Shared} {p q : Int} {t u : Tok} {Q : Value → Shared → Prop} (hpq : p ≠ q) (ht : t ≠ 0) (hu : u ≠ 0) (htu : t ≠ u) (h : Q (.bool false) s) :
    wpAny M A (compareOp .Is (.int p t) (.int q u)) Q E s := by
  show wpAny M A (do return .bool (← isSame (.int p t) (.int q u))) Q E s
  have e : isSame (.int p t) (.int q u) = pure false := by
    show (if (p == q && smallInt p) = true then _ else (if (t == 0 || u == 0) = true then _ else if (t == u) = true then _ else if (!(p == q)) = true then pure false else _) : Sem Bool) = _
    rw [show (p == q) = false from beq_eq_false_iff_ne.mpr hpq, show (t == 0) = false from beq_eq_false_iff_ne.mpr ht, show (u == 0) = false from beq_eq_false_iff_ne.mpr hu, show (t == u) = false from beq_eq_false_iff_ne.mpr htu]
    rfl
  rw [e]
  exact wpAny_bind (wpAny_pure (wpAny_pure h))
theorem is_int_eq {M : Model} {A : Around} {E : Value → Shared → Prop} {s : Shared} {q : Int} {t u : Tok} {Q : Value → Shared → Prop} (hq : smallInt q = true) (ht : t ≠ 0) (hu : u ≠ 0) (h : Q (.bool true) s) :
    wpAny M A (compareOp .Is (.int q t) (.int q u)) Q E s := by
  show wpAny M A (do return .bool (← isSame (.int q t) (.int q u))) Q E s
  refine wpAny_bind ?_
  show wpAny M A (if (q == q && smallInt q) = true then (if (t == 0 || u == 0) = true then _ else (do rule "is.small-int-cache"; pure true)) else _) _ E s
  rw [if_pos (by simp [hq]), if_neg (by simp [ht, hu])]
  exact wpAny_bind (wpAny_rule (wpAny_pure (wpAny_pure h)))
local macro_rules | `(tactic| walk_at "compareOp Is") => `(tactic| (k_here; first | refine is_int_ne (by assumption) (by assumption) (by assumption) (by assumption) ?_ | refine is_int_eq (by assumption) (by assumption) (by assumption) ?_))

set_option maxHeartbeats 8000000 in
theorem t_indexOfI (w : World) (l : Addr) (vs : List Value) (q : Int) (u u0 : Tok) (i0 : Nat) (hu : u ≠ 0) (hu0 : u0 ≠ 0) (hq : smallInt q = true) (h0 : vs[i0]? = some (.int q u0))
    (hb : ∀ i v, i < i0 → vs[i]? = some v → ∃ p t, v = .int p t ∧ p ≠ q ∧ t ≠ 0 ∧ t ≠ u) :
    Tells w 49 [.ref l, .int q u] (fun s => s.heap.IsList l vs.toArray) (fun _ v _ _ => ∃ t, v = .int i0 t) := by
  unfold Tells
  w_on
  k_fill
  intro mean mg mb dp un gd env outer A₀ base h₀ L m s Q E B F X T hf hk hd hu pre ret
  refine' enter_def B F X T rfl hf hk ret ?k6 ?k7 ?k8 ?k9 ?kB ?_ ?c2 ?c3 ?c4 ?c5
  (case k6 => k_is)
  (case k7 => k_is)
  (case k8 => (show dp < recursionLimit); omega)
  (case k9 => exact BindsTo.of_eq rfl)
  (case c5 => decide)
  (case kB => exact locs rfl)
  (case c2 => exact rfl)
  (case c3 => exact rfl)
  (case c4 => exact rfl)
  k_whole
  intro g' L' h' tk' st' FG' F' N' B' X' T' htk'
  have htk2 : s.toks + 1 ≤ tk' := by rw [htk']; exact Nat.add_le_add_left (Nat.le_of_ble_eq_true rfl) _
  clear htk'
  (try dsimp only)
  (try k_fold)
  clear B F X T FG' hf hk ret
  repeat' (first | (k_unfold; (try dsimp only)) | ((fail_if_success (with_reducible show wpAny _ _ (exec (Stmt.For _ _ _ _ _) _) _ _ _)); walk1) | ((fail_if_success (with_reducible show wpAny _ _ (exec (Stmt.For _ _ _ _ _) _) _ _ _)); dsimp only; walk1))
  have hl' : g'.IsList l vs.toArray := pre.at fun o e => st' _ _ e
  refine for_enum (h₀ := g') (l := l) (vs := vs) (J := fun i m => i ≤ i0 ∧ m (Str.ofString "b") = some (.int q u)) rfl PassesOwn.never rfl rfl rfl (fun h m F _ => hl'.at fun o e => F.keep _ _ e) (by k_asm) News.nil ?h0 ?hev ?turn ?done
  case h0 => exact ⟨Nat.zero_le _, rfl⟩
  case hev =>
    intro Q' hQ'
    k_steps
    exact hQ'
  case turn =>
    rintro i v m₁ h tk t hv ⟨hi, hb1⟩ htk F NN
    rcases Nat.lt_or_eq_of_le hi with hlt | rfl
    · obtain ⟨p, t', rfl, hpq, ht1, ht2⟩ := hb i v hlt hv
      have hpq' : decide (p = q) = false := by simpa using hpq
      k_steps
      · exact absurd (by assumption) hpq
      · exact ⟨_, rfl, (by first | omega | (dsimp only; omega)), hlt, (by (try dsimp only); (repeat rw [if_neg (by decide)]); (try rw [if_pos rfl]); first | rfl | assumption)⟩
    · rw [h0] at hv
      cases hv
      k_steps
      refine Done.intro (by k_asm) (by first | omega | (dsimp only; omega)) ?_
      exact ⟨_, rfl⟩
  case done =>
    rintro m₁ h tk ⟨hi, hb1⟩ htk F NN
    exfalso
    have := (List.getElem?_eq_some_iff.mp h0).1
    omega

set_option maxHeartbeats 8000000 in
theorem t_indexOfB (w : World) (l : Addr) (bs : List Bool) (b : Bool) (i0 : Nat) (h0 : bs[i0]? = some b) (hb : ∀ i, i < i0 → bs[i]? ≠ some b) :
    Tells w 49 [.ref l, .bool b] (fun s => s.heap.IsList l (bs.map Value.bool).toArray) (fun _ v _ _ => ∃ t, v = .int i0 t) := by
  unfold Tells
  w_on
  k_fill
  intro mean mg mb dp un gd env outer A₀ base h₀ L m s Q E B F X T hf hk hd hu pre ret
  refine' enter_def B F X T rfl hf hk ret ?k6 ?k7 ?k8 ?k9 ?kB ?_ ?c2 ?c3 ?c4 ?c5
  (case k6 => k_is)
  (case k7 => k_is)
  (case k8 => (show dp < recursionLimit); omega)
  (case k9 => exact BindsTo.of_eq rfl)
  (case c5 => decide)
  (case kB => exact locs rfl)
  (case c2 => exact rfl)
  (case c3 => exact rfl)
  (case c4 => exact rfl)
  k_whole
  intro g' L' h' tk' st' FG' F' N' B' X' T' htk'
  have htk2 : s.toks + 1 ≤ tk' := by rw [htk']; exact Nat.add_le_add_left (Nat.le_of_ble_eq_true rfl) _
  clear htk'
  (try dsimp only)
  (try k_fold)
  clear B F X T FG' hf hk ret
  repeat' (first | (k_unfold; (try dsimp only)) | ((fail_if_success (with_reducible show wpAny _ _ (exec (Stmt.For _ _ _ _ _) _) _ _ _)); walk1) | ((fail_if_success (with_reducible show wpAny _ _ (exec (Stmt.For _ _ _ _ _) _) _ _ _)); dsimp only; walk1))
  have hl' : g'.IsList l (bs.map Value.bool).toArray := pre.at fun o e => st' _ _ e
  refine for_enum (h₀ := g') (l := l) (vs := bs.map Value.bool) (J := fun i m => i ≤ i0 ∧ m (Str.ofString "b") = some (.bool b)) rfl PassesOwn.never rfl rfl rfl (fun h m F _ => hl'.at fun o e => F.keep _ _ e) (by k_asm) News.nil ?h0 ?hev ?turn ?done
  case h0 => exact ⟨Nat.zero_le _, rfl⟩
  case hev =>
    intro Q' hQ'
    k_steps
    exact hQ'
  case turn =>
    rintro i v m₁ h tk t hv ⟨hi, hb1⟩ htk F NN
    obtain ⟨b', hb', rfl⟩ : ∃ b', bs[i]? = some b' ∧ Value.bool b' = v := by simpa using hv
    rcases Nat.lt_or_eq_of_le hi with hlt | rfl
    · have hne : (b' == b) = false := by
        have := hb i hlt
        rw [hb'] at this
        simpa using this
      k_steps
      all_goals first
        | exact absurd (by assumption : (b' == b) = true) (by rw [hne]; decide)
        | exact ⟨_, rfl, (by first | omega | (dsimp only; omega)), hlt, (by (try dsimp only); (repeat rw [if_neg (by decide)]); (try rw [if_pos rfl]); first | rfl | assumption)⟩
    · rw [h0] at hb'
      cases hb'
      have hne : (b == b) = true := by simp
      k_steps
      all_goals first
        | (refine Done.intro (by k_asm) (by first | omega | (dsimp only; omega)) ?_; exact ⟨_, rfl⟩)
        | exact absurd (by assumption : (b == b) = false) (by rw [hne]; decide)
  case done =>
    rintro m₁ h tk ⟨hi, hb1⟩ htk F NN
    exfalso
    have := (List.getElem?_eq_some_iff.mp h0).1
    rw [List.length_map] at hi
    omega
end Mine
end
section
open PySem PySem.W PyProof.Rows PySem.Spec PySem.Calls
set_option Elab.async false
set_option maxRecDepth 100000
namespace Mine
local macro_rules | `(tactic| k_room) => `(tactic| ((try simp only [depth_under_make, depth_under_kw, depth_in1, depth_deeper, depth_caller]); omega))
local macro_rules | `(tactic| walk_at "execs cons") => `(tactic| (k_here; (with_reducible refine wpAny_execs_cons ?_); try dsimp only))
local macro_rules | `(tactic| walk_at "eval Constant int") => `(tactic| (k_here; refine wpAny_Constant_int ?_; dsimp only))
local macro_rules | `(tactic| walk_at "execs nil") => `(tactic| (k_here; (with_reducible refine wpAny_execs_nil ?_); try dsimp only))
local macro_rules | `(tactic| walk_at "eval Name") => `(tactic| (k_here; k_dflt (refine' ld ?k1 ?k2 ?_; (case k1 => k_asm); (case k2 => (first | exact rfl | assumption | ((repeat rw [if_neg (by decide)]); (try rw [if_pos rfl]); first | rfl | assumption))); k_whole)))
local macro_rules | `(tactic| walk_at "loadName") => `(tactic| (k_here; k_dflt (refine' ldn ?k1 ?k2 ?_; (case k1 => k_asm); (case k2 => (first | exact rfl | assumption | ((repeat rw [if_neg (by decide)]); (try rw [if_pos rfl]); first | rfl | assumption))); k_whole)))
def noWords : Str := Str.ofString "sequence.index(x): x not in sequence"
set_option maxHeartbeats 8000000 in
theorem r_indexOf (w : World) (l : Addr) (bs : List Bool) (b : Bool) (n : Nat) (hb : ∀ i : Nat, bs[i]? ≠ some b) :
  ∀ (mean : ExcName → Option Value) (mg mb : Str → Option Value) (dp un : Nat) (gd : Option (List Code)) (env : Env) (outer : List Env) (A₀ : Around) (base h₀ : Heap) (L : Addr) (m : Str → Option Value) (news : List (Addr × Obj)) (s : Shared) (Q E : Value → Shared → Prop),
    Below A₀ base outer h₀ → Fr h₀ L s.heap m → (Mine.hd.heap_39 w.params).In h₀ → News h₀ L s.heap news → Top Mine.hd.view_39 (looseW Mine.hd.view_39 []) mean mg mb h₀ → env.frame = some L → env.scope.kind = .function →
    dp + 20 < recursionLimit → un + 100 < cLine → (l, listOf (bs.map Value.bool).toArray n) ∈ news →
    (∀ G e t tk' u h', Fr h₀ L G m → RaisedS base G (env :: outer) e (.type "ValueError") t [.str noWords u] news h' → G.UpToSlots h' → s.toks ≤ tk' → E (.ref e) { s with heap := h', toks := tk' }) →
    wpAny (model PySem.Challenge.rw_ph0015_01.row.prog w) { handled := none, depth := dp, frames := some (env :: outer), guards := gd, units := un } (call (.ref 49) [.ref l, .bool b]) Q E s := by
  w_on
  k_fill
  intro mean mg mb dp un gd env outer A₀ base h₀ L m news s Q E B F X N T hf hk hd hu hm hE
  refine wpAny_call ?_
  refine' code_defG B F X N T rfl hf hk ?k6 ?k7 ?k8 ?k9 ?kB ?_ ?c2 ?c3 ?c4 ?c5
  (case k6 => k_is)
  (case k7 => k_is)
  (case k8 => (show dp < recursionLimit); omega)
  (case k9 => exact BindsTo.of_eq rfl)
  (case c5 => decide)
  (case kB => exact locs rfl)
  (case c2 => exact rfl)
  (case c3 => exact rfl)
  (case c4 => exact rfl)
  k_whole
  intro g' L' h' FG' F' N' B' X' T' GS'
  dsimp only
  (try k_fold)
  clear B X T hf hk F N
  repeat' (first | (k_unfold; (try dsimp only)) | ((fail_if_success (with_reducible show wpAny _ _ (exec (Stmt.For _ _ _ _ _) _) _ _ _)); walk1) | ((fail_if_success (with_reducible show wpAny _ _ (exec (Stmt.For _ _ _ _ _) _) _ _ _)); dsimp only; walk1))
  refine for_enum (h₀ := g') (l := l) (vs := bs.map Value.bool) (J := fun i m => m (Str.ofString "b") = some (.bool b)) rfl (by passes_own) rfl rfl rfl (fun h m F N => ⟨_, (N _ hm).1, rfl, n, rfl⟩) (by k_asm) (by k_asm) ?h0 ?hev ?turn ?done
  case h0 => exact rfl
  case hev =>
    intro Q' hQ'
    k_steps
    exact hQ'
  case turn =>
    rintro i v m₁ h tk t hv hb1 htk F NN
    obtain ⟨b', hb', rfl⟩ : ∃ b', bs[i]? = some b' ∧ Value.bool b' = v := by simpa using hv
    have hne : (b' == b) = false := by
      have := hb i
      rw [hb'] at this
      simpa using this
    k_steps
    all_goals first
      | exact absurd (by assumption : (b' == b) = true) (by rw [hne]; decide)
      | exact ⟨_, rfl, (by first | omega | (dsimp only; omega)), (by (try dsimp only); (repeat rw [if_neg (by decide)]); (try rw [if_pos rfl]); first | rfl | assumption)⟩
  case done =>
    rintro m₁ h tk hb1 htk F NN
    repeat' (first | (k_unfold; (try dsimp only)) | ((fail_if_success (with_reducible show wpAny _ _ (leaving _ _) _ _ _)); walk1) | ((fail_if_success (with_reducible show wpAny _ _ (leaving _ _) _ _ _)); dsimp only; walk1))
    rename Heap.MadeExc _ _ _ _ _ => hx
    dsimp only at hx
    refine leave_raiseS B' (Heap.MadeExc.of hx) F NN ?_
    intro h₂ t₂ RS _ US
    exact hE g' _ t₂ _ _ h₂ FG' RS US (by dsimp only at htk ⊢; omega)
end Mine
end
section
open PySem PySem.W PyProof.Rows PySem.Spec PySem.Calls
set_option Elab.async false
set_option maxRecDepth 100000
namespace Mine
/-- a turn's end in a loop that may break: both ends meet in D -/
def TurnEndB (h₀ : Heap) (L : Addr) (s : Shared) (own : List (Addr × Obj)) (J : (Str → Option Value) → List (Addr × Obj) → Nat → Prop) (D : (Str → Option Value) → List (Addr × Obj) → Nat → Prop) (Q : Flow → Shared → Prop) (f : Flow) (s₂ : Shared) : Prop :=
  match f with
  | .ret v => Q (.ret v) s₂
  | .brk => ∃ h' tk m' nw all, s₂ = { s with heap := h', toks := tk } ∧ Fr h₀ L h' m' ∧ News h₀ L h' all ∧ (∀ p ∈ nw, p ∈ all) ∧ D m' nw tk
  | _ => ∃ h' tk m' nw all, s₂ = { s with heap := h', toks := tk } ∧ Fr h₀ L h' m' ∧ News h₀ L h' all ∧ (∀ p ∈ nw, p ∈ all) ∧ (∀ p ∈ own, p ∈ all) ∧ OwnOff own (nw.map (·.1)) ∧ J m' nw tk
section
variable {prog : Program} {w : World} {A : Around} {E : Value → Shared → Prop} {s : Shared} {env : Env} {h₀ : Heap}
theorem for_listB {target iter : Expr} {body : List Stmt} {pos : Pos} {Q : Flow → Shared → Prop} {l : Addr} {vs : List Value} {m₀ : Str → Option Value} {news : List (Addr × Obj)}
    (J : Nat → (Str → Option Value) → List (Addr × Obj) → Nat → Prop) (D : (Str → Option Value) → List (Addr × Obj) → Nat → Prop) (hh : A.handled = none) (hE : PassesOwn (model prog w) A env E)
    (hl : ∀ i m nw tk h, J i m nw tk → Fr h₀ env.locals h m → News h₀ env.locals h nw → h.IsList l vs.toArray)
    (F : Fr h₀ env.locals s.heap m₀) (N : News h₀ env.locals s.heap news) (h0 : J 0 m₀ news s.toks)
    (hev : ∀ Q' : Value → Shared → Prop, Q' (.ref l) s → wpAny (model prog w) A (eval iter env) Q' E s)
    (turn : ∀ i v m₁ nw h tk own, vs[i]? = some v → J i m₁ nw tk → OwnOff own (nw.map (·.1)) → Fr h₀ env.locals h m₁ → News h₀ env.locals h (nw ++ own) →
      wpAny (model prog w) A (assign target env v) (fun _ s₂ => wpAny (model prog w) A (execs body env) (TurnEndB h₀ env.locals s own (J (i + 1)) D Q) E s₂) E { s with heap := h, toks := tk })
    (fin : ∀ m nw tk, J vs.length m nw tk → D m nw tk)
    (rest : ∀ m₁ nw h tk, D m₁ nw tk → Fr h₀ env.locals h m₁ → News h₀ env.locals h nw → Q .next { s with heap := h, toks := tk })
    (ht : ∀ it v, letOwnedTupleGo target it v = pure () := by intro _ _; rfl)
    (hs : ∀ x, foldedSetIterable iter env x = pure x := by intro _; rfl) :
    wpAny (model prog w) A (exec (.For target iter body [] pos) env) Q E s := by
  refine for_list J hh hE hl F N h0 hev (fun i v m₁ nw h tk own hv hJ off F' N' => wpAny_mono (turn i v m₁ nw h tk own hv hJ off F' N') (fun _ s₂ h₂ => wpAny_mono h₂ (fun f s₃ h₃ => ?_) fun _ _ e => e) fun _ _ e => e)
    (fun m₁ nw h tk hJ F' N' => rest m₁ nw h tk (fin _ _ _ hJ) F' N') ht hs
  cases f with
  | ret v => exact h₃
  | brk =>
    obtain ⟨h', tk, m', nw', all, rfl, F₃, N₃, hn, hD⟩ := h₃
    exact rest m' nw' h' tk hD F₃ fun p hp => N₃ p (hn p hp)
  | next => exact h₃
  | cont => exact h₃
end

/-- the end of a def's body that may have caught: the frames below may have turned in their slots -/
def DoneS (fs : List Addr) (g : Heap) (L : Addr) (s : Shared) (P : Value → Heap → Nat → Prop) (fl : Flow) (s' : Shared) : Prop :=
  ∃ v h' tk m' g₂, fl = .ret v ∧ s' = { s with heap := h', toks := tk } ∧ KtsTurn fs g g₂ ∧ Fr g₂ L h' m' ∧ P v h' tk
theorem DoneS.intro {fs : List Addr} {g g₂ h' : Heap} {L : Addr} {s : Shared} {P : Value → Heap → Nat → Prop} {v : Value} {tk : Nat} {m' : Str → Option Value} (T : KtsTurn fs g g₂) (F : Fr g₂ L h' m') (p : P v h' tk) :
    DoneS fs g L s P (.ret v) { s with heap := h', toks := tk } := ⟨v, h', tk, m', g₂, rfl, rfl, T, F, p⟩

theorem enter_defS {prog : Program} {w : World} {A₀ A : Around} {E : Value → Shared → Prop} {s : Shared} {base h₀ : Heap} {L : Addr} {m : Str → Option Value} {env : Env}
    {K : Frag} {p : Program} {loose : List Str} {mean : ExcName → Option Value} {mg mb : Str → Option Value} {Q : Value → Shared → Prop} {P : Value → Heap → Nat → Prop} {name qual : Str} {params : Arguments} {body : List Stmt} {scope : Scope} {dV kV doc pm cdv ct oc : Value} {an od : Option Addr} {osl : Array (Option Value)} {f : Addr} {vs : List Value} {binds : List (Str × Value)}
    (B : Below A₀ base [] h₀) (F : Fr h₀ L s.heap m) (X₀ : K.In h₀) (T : Top p loose mean mg mb h₀) (hA : A.frames = some [env]) (hf : env.frame = some L) (hke : env.scope.kind = .function)
    (ret : ∀ v h' tk', (∀ b o, s.heap.get? b = some o → b ≠ L → h'.get? b = some o) → Fr h₀ L h' m → P v h' tk' → Q v { s with heap := h', toks := tk' })
    (ho : K.lookup f = some ⟨oc, od, .func (fnOf name qual params body scope dV kV doc pm an cdv ct), osl⟩) (hcd : codeIn K cdv qual = true) (hroom : A.depth < recursionLimit)
    (hbind : BindsTo s (fnOf name qual params body scope dV kV doc pm an cdv ct) ⟨vs, []⟩ binds) (hloc : ∀ y ∈ binds, scope.names.lookup y.1 = some .local)
    (h : ∀ g L' h₁ tk, s.heap.StaysIn g → g.StaysIn s.heap → Fr h₀ L g m → Fr g L' h₁ (fun y => binds.reverse.lookup y) → News g L' h₁ [] → Below A base [env] g → K.In g → Top p loose mean mg mb g → KtsDicts ([env].filterMap (·.frame)) g → tk = s.toks + binds.length →
      wpAny (model prog w) (A.deeper (envOf qual scope L' f cdv)) (execs body (envOf qual scope L' f cdv))
        (DoneS ([env].filterMap (·.frame)) g L' { s with heap := h₁, toks := tk } P)
        (fun _ _ => False)
        { s with heap := h₁, toks := tk })
    (hco : scope.isCoroutine = false) (hgen : scope.isGenerator = false) (hk : scope.kind = .function)
    (hcell : ∀ x ∈ scope.names, x.2 ≠ .cell) : wpAny (model prog w) A (call (.ref f) vs) Q E s := by
  refine wpAny_call ?_
  have N : News h₀ L s.heap [] := News.nil
  obtain ⟨FG, BG, st, lv⟩ := groundX (R := fun _ _ => True) B F N hA hf hke
  refine codeAny_call_def (fd := fnX name qual params body scope [] dV kV doc pm an cdv ct) (body := body) (binds := binds) hroom ((X₀.keeps F.keep) _ _ ho) rfl (T.nolimit.keeps F.keep) (codeRec_of (X₀.keeps F.keep) hcd) rfl hbind hcell hloc (fun h₁ hns hk₁ => ?_) hco hgen hk
  have hfs : [env].filterMap (·.frame) = [L] := by simp [hf]
  obtain ⟨oL, es, ep, hL, hLd, hLk, hLf⟩ := F.ns
  refine wpAny_mono (h _ s.heap.objs.size h₁ _ (fun b o e => hideAll_get _ e (by simp)) (fun b o e => of_hideAll _ e) FG ⟨hns, fun b o e => hk₁ b o (of_hideAll _ e), Nat.le_of_eq (hideAll_size _ _)⟩
    (fun p hp => nomatch hp) BG (X₀.keeps st) (T.keeps st) (fun b hb => by
      rw [hfs] at hb
      rw [List.mem_singleton.mp hb]
      exact ⟨oL, es, ep, hideAll_get _ hL (by simp), hLd⟩) rfl) (fun fl s' hl => ?_) fun _ _ y => y.elim
  obtain ⟨v, h', tk, m', g₂, rfl, rfl, TT, F₂, hp⟩ := hl
  rw [hfs] at TT
  have kept : ∀ b o, s.heap.get? b = some o → b ≠ L → h'.get? b = some o := fun b o e hb => F₂.keep b o (TT.other b o (hideAll_get _ e (by simp)) (by simpa using hb))
  obtain ⟨sl, hs⟩ := TT.frame L oL (hideAll_get _ hL (by simp)) (by simp)
  refine ret v h' tk kept ⟨⟨_, es, ep, F₂.keep _ _ hs, hLd, hLk, hLf⟩, fun b o e => kept b o (F.keep b o e) (fun q => by rw [q] at e; rw [kts_self F] at e; cases e), F.above⟩ hp

/-- the contract of a def that catches: its caller is the outermost frame -/
def TellsS (w : World) (f : Addr) (vs : List Value) (Pre : Shared → Prop) (P : Shared → Value → Heap → Nat → Prop) : Prop :=
  ∀ (mean : ExcName → Option Value) (mg mb : Str → Option Value) (dp un : Nat) (gd : Option (List Code)) (env : Env) (A₀ : Around) (h₀ : Heap) (L : Addr) (m : Str → Option Value) (s : Shared) (Q E : Value → Shared → Prop),
    Below A₀ h₀ [] h₀ → Fr h₀ L s.heap m → (Mine.hd.heap_39 w.params).In h₀ → Top Mine.hd.view_39 (looseW Mine.hd.view_39 []) mean mg mb h₀ → env.frame = some L → env.scope.kind = .function →
    dp + 60 < recursionLimit → un + 300 < cLine → Pre s →
    (∀ v h' tk', (∀ b o, s.heap.get? b = some o → b ≠ L → h'.get? b = some o) → Fr h₀ L h' m → P s v h' tk' → Q v { s with heap := h', toks := tk' }) →
    wpAny (model PySem.Challenge.rw_ph0015_01.row.prog w) { handled := none, depth := dp, frames := some [env], guards := gd, units := un } (call (.ref f) vs) Q E s

theorem TellsS.useN {w : World} {f : Addr} {vs : List Value} {Pre : Shared → Prop} {P : Shared → Value → Heap → Nat → Prop} {mean : ExcName → Option Value} {mg mb : Str → Option Value} {A : Around} {env : Env} {A₀ : Around} {h₀ : Heap} {L : Addr} {m : Str → Option Value} {news : List (Addr × Obj)} {s : Shared} {Q E : Value → Shared → Prop}
    (C : TellsS w f vs Pre P) (B : Below A₀ h₀ [] h₀) (F : Fr h₀ L s.heap m) (X : (Mine.hd.heap_39 w.params).In h₀) (T : Top Mine.hd.view_39 (looseW Mine.hd.view_39 []) mean mg mb h₀) (N : News h₀ L s.heap news)
    (hA : A.frames = some [env]) (hh : A.handled = none) (hf : env.frame = some L) (hk : env.scope.kind = .function) (hd : A.depth + 60 < recursionLimit) (hu : A.units + 300 < cLine) (pre : Pre s)
    (ret : ∀ v h' tk', (∀ b o, s.heap.get? b = some o → b ≠ L → h'.get? b = some o) → P s v h' tk' → Fr h₀ L h' m → News h₀ L h' news → Q v { s with heap := h', toks := tk' }) :
    wpAny (model PySem.Challenge.rw_ph0015_01.row.prog w) A (call (.ref f) vs) Q E s := by
  obtain ⟨h, d, fr, g, u⟩ := A
  dsimp only at hA hh hd hu
  subst hA hh
  exact C _ _ _ _ _ _ _ _ _ _ _ _ _ _ B F X T hf hk hd hu pre fun v h' tk' st F' p => ret v h' tk' st p F' fun q hq => ⟨st _ _ (N q hq).1 (N q hq).2.1, (N q hq).2⟩
end Mine
end
section
open PySem PySem.W PyProof.Rows PySem.Spec PySem.Calls
set_option Elab.async false
set_option maxRecDepth 100000
namespace Mine
local macro_rules | `(tactic| k_room) => `(tactic| ((try simp only [depth_under_make, depth_under_kw, depth_in1, depth_deeper, depth_caller]); omega))
local macro_rules | `(tactic| walk_at "execs cons") => `(tactic| (k_here; (with_reducible refine wpAny_execs_cons ?_); try dsimp only))
local macro_rules | `(tactic| walk_at "eval Constant int") => `(tactic| (k_here; refine wpAny_Constant_int ?_; dsimp only))
local macro_rules | `(tactic| walk_at "execs nil") => `(tactic| (k_here; (with_reducible refine wpAny_execs_nil ?_); try dsimp only))
local macro_rules | `(tactic| walk_at "eval Name") => `(tactic| (k_here; k_dflt (refine' ld ?k1 ?k2 ?_; (case k1 => k_asm); (case k2 => (first | exact rfl | assumption | ((repeat rw [if_neg (by decide)]); (try rw [if_pos rfl]); first | rfl | assumption))); k_whole)))
local macro_rules | `(tactic| walk_at "loadName") => `(tactic| (k_here; k_dflt (refine' ldn ?k1 ?k2 ?_; (case k1 => k_asm); (case k2 => (first | exact rfl | assumption | ((repeat rw [if_neg (by decide)]); (try rw [if_pos rfl]); first | rfl | assumption))); k_whole)))
def ctl (mm : Int) (ns : List Int) (j : Nat) : Int := (mm * ns.getD j 0) % 32
def sumAt (mm : Int) (ns : List Int) : Nat → Int
  | 0 => 0
  | j + 1 => sumAt mm ns j + ctl mm ns j
def okAt (mm : Int) (ns : List Int) (j : Nat) : Bool := (ctl mm ns j != 0) && decide (sumAt mm ns (j + 1) < 32)
theorem ctl_range (mm : Int) (ns : List Int) (j : Nat) : 0 ≤ ctl mm ns j ∧ ctl mm ns j < 32 := by unfold ctl; omega
theorem sumAt_nonneg (mm : Int) (ns : List Int) : ∀ j, 0 ≤ sumAt mm ns j
  | 0 => Int.le_refl _
  | j + 1 => by
    have := sumAt_nonneg mm ns j
    have := ctl_range mm ns j
    show 0 ≤ sumAt mm ns j + ctl mm ns j
    omega
theorem ctl_at {mm : Int} {ns : List Int} {j : Nat} {x : Int} (h : ns[j]? = some x) : ctl mm ns j = (mm * x) % 32 := by
  unfold ctl
  rw [List.getD_eq_getElem?_getD, h]; rfl
/-- the sums' list: its ints, and tokens that grow -/
def SumsOk (mm : Int) (ns : List Int) (us : List Value) (i tk : Nat) : Prop :=
  us.length = i + 1 ∧ (∀ j, j ≤ i → ∃ t : Nat, us[j]? = some (.int (sumAt mm ns j) t) ∧ 0 < t ∧ t < tk) ∧ ∀ (j k : Nat) x y (t t' : Nat), j < k → us[j]? = some (.int x t) → us[k]? = some (.int y t') → t < t'
theorem SumsOk.start {mm : Int} {ns : List Int} {t tk : Nat} (h0 : 0 < t) (h1 : t < tk) : SumsOk mm ns ([] ++ [.int 0 t]) 0 tk := by
  refine ⟨rfl, fun j hj => ?_, fun j k x y t t' hjk _ hk => ?_⟩
  · obtain rfl : j = 0 := by omega
    exact ⟨t, rfl, h0, h1⟩
  · have := (List.getElem?_eq_some_iff.mp hk).1
    simp at this
    omega
theorem SumsOk.mono {mm : Int} {ns : List Int} {us : List Value} {i tk tk' : Nat} (h : SumsOk mm ns us i tk) (ht : tk ≤ tk') : SumsOk mm ns us i tk' :=
  ⟨h.1, fun j hj => by obtain ⟨t, a, b, c⟩ := h.2.1 j hj; exact ⟨t, a, b, by omega⟩, h.2.2⟩
theorem SumsOk.more {mm : Int} {ns : List Int} {us : List Value} {i tk tk' t : Nat} (h : SumsOk mm ns us i tk) (h1 : tk ≤ t) (h2 : t < tk') : SumsOk mm ns (us ++ [.int (sumAt mm ns (i + 1)) t]) (i + 1) tk' := by
  obtain ⟨hl, hv, hm⟩ := h
  have key : ∀ (j : Nat) y (t' : Nat), us[j]? = some (.int y t') → t' < tk := fun j y t' hj => by
    have hji : j ≤ i := by have := (List.getElem?_eq_some_iff.mp hj).1; omega
    obtain ⟨t₀, a, b, c⟩ := hv j hji
    rw [hj] at a
    cases a
    exact c
  refine ⟨by simp [hl], fun j hj => ?_, fun j k x y t₁ t₂ hjk h₁ h₂ => ?_⟩
  · rcases Nat.lt_or_eq_of_le hj with hlt | rfl
    · obtain ⟨t₀, a, b, c⟩ := hv j (by omega)
      exact ⟨t₀, by rw [List.getElem?_append_left (by omega)]; exact a, b, by omega⟩
    · obtain ⟨t₀, a, b, c⟩ := hv 0 (by omega)
      refine ⟨t, ?_, by omega, h2⟩
      rw [List.getElem?_append_right (by omega)]
      simp [hl]
  · have hk : k < i + 2 := by have := (List.getElem?_eq_some_iff.mp h₂).1; simp [hl] at this; omega
    rw [List.getElem?_append_left (by omega)] at h₁
    rcases Nat.lt_or_ge k us.length with hlt | hge
    · rw [List.getElem?_append_left hlt] at h₂
      exact hm j k x y t₁ t₂ hjk h₁ h₂
    · rw [List.getElem?_append_right hge] at h₂
      have e : k - us.length = 0 := by omega
      rw [e] at h₂
      have q : Value.int (sumAt mm ns (i + 1)) t = .int y t₂ := by simpa using h₂
      cases q
      have := key j x t₁ h₁
      omega
theorem app1 {prog : Program} {w : World} {A : Around} {E : Value → Shared → Prop} {s : Shared} {h₀ : Heap} {L : Addr} {m : Str → Option Value} {a b : Addr} {us : List Value} {n : Nat} {ob : Obj} {x : Value} {own : List (Addr × Obj)} {Q : Value → Shared → Prop}
    (F : Fr h₀ L s.heap m) (N : News h₀ L s.heap ((a, listOf us.toArray n) :: (b, ob) :: own)) (hne : a ≠ b) (off : OwnOff own [a, b]) (hsz : us.length ≤ 1000)
    (h : ∀ h', Fr h₀ L h' m → News h₀ L h' ((a, listOf (us ++ [x]).toArray (n + 1)) :: (b, ob) :: own) → Q .none { s with heap := h' }) :
    wpAny (model prog w) A (call (.builtin "list.append") [.ref a, x]) Q E s :=
  append_hd F N (fun p hp => by
    rcases List.mem_cons.mp hp with rfl | hp
    · exact hne.symm
    · exact off p hp a (by simp)) hsz h
theorem app2 {prog : Program} {w : World} {A : Around} {E : Value → Shared → Prop} {s : Shared} {h₀ : Heap} {L : Addr} {m : Str → Option Value} {a b : Addr} {us : List Value} {n : Nat} {oa : Obj} {x : Value} {own : List (Addr × Obj)} {Q : Value → Shared → Prop}
    (F : Fr h₀ L s.heap m) (N : News h₀ L s.heap ((a, oa) :: (b, listOf us.toArray n) :: own)) (hne : a ≠ b) (off : OwnOff own [a, b]) (hsz : us.length ≤ 1000)
    (h : ∀ h', Fr h₀ L h' m → News h₀ L h' ((a, oa) :: (b, listOf (us ++ [x]).toArray (n + 1)) :: own) → Q .none { s with heap := h' }) :
    wpAny (model prog w) A (call (.builtin "list.append") [.ref b, x]) Q E s := by
  refine append_K F N (Upd.tail hne (Upd.head fun p hp => off p hp b (by simp))) (fun h' F' N' => h h' F' ?_) (by rw [List.size_toArray, sizeLine_eq]; omega)
  simpa using N'
theorem isList_led {h₀ h : Heap} {L l : Addr} {us : List Value} {n : Nat} {news : List (Addr × Obj)} (N : News h₀ L h news) (hm : (l, listOf us.toArray n) ∈ news) : h.IsList l us.toArray := ⟨_, (N _ hm).1, rfl, n, rfl⟩
theorem tup_ne {h : Heap} {a d : Addr} {its us : Array Value} {n : Nat} (h1 : h.get? a = some { cls := .type "tuple", data := .seq its }) (h2 : h.get? d = some (listOf us n)) : a ≠ d := by
  rintro rfl
  rw [h1] at h2
  have e : Value.type "tuple" = Value.type "list" := congrArg Obj.cls (Option.some.inj h2)
  exact absurd e (by decide)
theorem len_led {prog : Program} {w : World} {A : Around} {E : Value → Shared → Prop} {s : Shared} {h₀ : Heap} {L l : Addr} {us : List Value} {n : Nat} {news : List (Addr × Obj)} {Q : Value → Shared → Prop}
    (N : News h₀ L s.heap news) (hm : (l, listOf us.toArray n) ∈ news) (hsz : us.length ≤ 1000) (h : Q (.int (us.length : Nat) (s.toks + 1)) { s with toks := s.toks + 1 + 1 }) : wpAny (model prog w) A (call (.builtin "len") [.ref l]) Q E s := by
  have hl : s.heap.IsList l us.toArray := ⟨_, (N _ hm).1, rfl, n, rfl⟩
  refine Calls.call_len_list hl (by rw [List.size_toArray]; omega) ?_
  rw [List.size_toArray]; exact h
local macro_rules | `(tactic| walk_at "call builtin:len") => `(tactic| (k_here; k_dflt (refine' len_led ?k1 ?k2 ?k3 ?_; (case k1 => k_asm); (case k2 => k_mem); (case k3 => ((try simp only [List.length_append, List.length_cons, List.length_nil]); omega)); k_whole); (try simp only [List.length_append, List.length_cons, List.length_nil]); (try dsimp only)))
local macro_rules | `(tactic| walk_at "call builtin:chr") => `(tactic| (k_here; refine chr_of_range (by omega) (by omega) ?_; (try dsimp only)))
local macro_rules | `(tactic| walk_at "subscriptTail") => `(tactic| (k_here; (with_reducible show wpAny _ _ (subscriptTail _ _ (Value.ref _) (Value.int _ _)) _ _ _); (with_unfolding_all refine' sub_last ?k1 ?k2 ?k3 ?_ ?k6; (case k1 => k_asm); (case k2 => k_mem); (case k3 => rfl); (case k6 => with_unfolding_all rfl); k_whole)))
local macro_rules | `(tactic| walk_at "call builtin:list.append") => `(tactic| (k_here; k_dflt (first
  | (refine' app1 ?k1 ?k2 ?k3 ?k5 ?k4 ?_; (case k1 => k_asm); (case k2 => k_asm); (case k3 => assumption); (case k5 => assumption); (case k4 => ((try simp only [List.length_append, List.length_cons, List.length_nil, List.length_map, List.length_range]); omega)); k_whole; intro h' F' N'; (try dsimp only))
  | (refine' app2 ?k1 ?k2 ?k3 ?k5 ?k4 ?_; (case k1 => k_asm); (case k2 => k_asm); (case k3 => assumption); (case k5 => assumption); (case k4 => ((try simp only [List.length_append, List.length_cons, List.length_nil, List.length_map, List.length_range]); omega)); k_whole; intro h' F' N'; (try dsimp only)))))
local macro_rules | `(tactic| walk_at "call ref") => `(tactic| (k_here; k_dflt (refine' Tells.useN ?C ?kB ?kF ?kX ?kT ?kN ?hA ?hh ?hf ?hk ?hd ?hu ?pre ?_; (case C => first | with_reducible assumption | exact t_mul _ _ _ _ _ (by assumption) | exact t_add _ _ _ _ _ | exact t_ctrl _ _ _ | exact t_ne _ _ _ _ _ | exact t_isctrl _ _ _ | exact t_isctrlS _ _ _); (case hA => exact rfl); (case hh => exact rfl); (case hf => exact rfl); (case hk => exact rfl); (case kB => k_asm); (case kF => k_asm); (case kX => k_asm); (case kT => k_asm); (case kN => k_asm); (case hd => (show _ + 1 + 20 < _; dsimp only; omega)); (case hu => (show _ + 100 < _; dsimp only [Around.deeper]; omega)); (case pre => first | trivial | exact isList_led (by k_asm) (by k_mem)); k_whole); (intro v9 h9 tk9 st9 ht9 p9 F9 N9); (try dsimp only at p9); (try dsimp only at ht9); (first | subst p9 | (obtain ⟨t9, e9⟩ := p9; subst e9) | (obtain ⟨t9, e9, a9, b9⟩ := p9; subst e9)); (try dsimp only)))

theorem least_false (p : Nat → Bool) : ∀ T : Nat, (∃ j, j < T ∧ p j = false) → ∃ i, i < T ∧ p i = false ∧ ∀ j, j < i → p j = true
  | 0, ⟨j, hj, _⟩ => absurd hj (Nat.not_lt_zero _)
  | T + 1, ⟨j, hj, hp⟩ => by
    by_cases h : ∃ j, j < T ∧ p j = false
    · obtain ⟨i, a, b, c⟩ := least_false p T h
      exact ⟨i, by omega, b, c⟩
    · have hjT : j = T := by
        rcases Nat.lt_or_ge j T with q | q
        · exact absurd ⟨j, q, hp⟩ h
        · omega
      subst hjT
      refine ⟨j, by omega, hp, fun k hk => ?_⟩
      cases e : p k with
      | true => rfl
      | false => exact absurd ⟨k, hk, e⟩ h
theorem turn_next2 {h₀ h' : Heap} {L : Addr} {s : Shared} {own : List (Addr × Obj)} {J D : (Str → Option Value) → List (Addr × Obj) → Nat → Prop} {Q : Flow → Shared → Prop} {p q : Addr × Obj} {m' : Str → Option Value} {tk : Nat}
    (F : Fr h₀ L h' m') (N : News h₀ L h' (p :: q :: own)) (off : OwnOff own [p.1, q.1]) (hJ : J m' [p, q] tk) : TurnEndB h₀ L s own J D Q .next { s with heap := h', toks := tk } :=
  ⟨h', tk, m', [p, q], _, rfl, F, N, (fun r hr => by
    rcases List.mem_cons.mp hr with rfl | hr
    · simp
    · rw [List.mem_singleton.mp hr]; simp), (fun r hr => List.mem_cons_of_mem _ (List.mem_cons_of_mem _ hr)), off, hJ⟩
theorem turn_brk2 {h₀ h' : Heap} {L : Addr} {s : Shared} {own : List (Addr × Obj)} {J D : (Str → Option Value) → List (Addr × Obj) → Nat → Prop} {Q : Flow → Shared → Prop} {p q : Addr × Obj} {m' : Str → Option Value} {tk : Nat}
    (F : Fr h₀ L h' m') (N : News h₀ L h' (p :: q :: own)) (hD : D m' [p, q] tk) : TurnEndB h₀ L s own J D Q .brk { s with heap := h', toks := tk } :=
  ⟨h', tk, m', [p, q], _, rfl, F, N, (fun r hr => by
    rcases List.mem_cons.mp hr with rfl | hr
    · simp
    · rw [List.mem_singleton.mp hr]; simp), hD⟩

set_option maxHeartbeats 8000000 in
theorem t_lasting (w : World) (l : Addr) (mm : Int) (tm : Tok) (vs : List Value) (ns : List Int) (hi : IntsAre vs ns) (hn : ns.length ≤ 64) (hmm : mm.natAbs < 1000) :
    TellsS w 89 [.int mm tm, .ref l] (fun s => s.heap.IsList l vs.toArray)
    (fun s v h' _ => ∃ (last T tkb : Nat) (a d : Addr) (us : List Value) (n₂ : Nat) (t₁ t₂ : Tok), v = .ref a ∧ s.heap.get? a = none ∧ s.heap.get? d = none ∧ a ≠ d ∧ h'.get? a = some { cls := .type "tuple", data := .seq #[.int (last : Nat) t₁, .str (if last < ns.length then Str.ofString "" else noWords) t₂, .ref d] } ∧
      h'.get? d = some (listOf us.toArray n₂) ∧ last ≤ T ∧ T ≤ ns.length ∧ (∀ j, j < last → okAt mm ns j = true) ∧ (last < ns.length → okAt mm ns last = false) ∧ SumsOk mm ns us T tkb) := by
  unfold TellsS
  w_on
  k_fill
  intro mean mg mb dp un gd env A₀ h₀ L m s Q E B F X T hf hk hd hu pre ret
  refine' enter_defS B F X T rfl hf hk ret ?k6 ?k7 ?k8 ?k9 ?kB ?_ ?c2 ?c3 ?c4 ?c5
  (case k6 => k_is)
  (case k7 => k_is)
  (case k8 => (show dp < recursionLimit); omega)
  (case k9 => exact BindsTo.of_eq rfl)
  (case c5 => decide)
  (case kB => exact locs rfl)
  (case c2 => exact rfl)
  (case c3 => exact rfl)
  (case c4 => exact rfl)
  k_whole
  intro g' L' h' tk' st' ts' FG' F' N' B' X' T' D' htk'
  have htk2 : s.toks + 1 ≤ tk' := by rw [htk']; exact Nat.add_le_add_left (Nat.le_of_ble_eq_true rfl) _
  clear htk'
  have XB := X
  have TB := T
  (try dsimp only)
  (try k_fold)
  clear B F X T FG' hf hk ret
  repeat' (first | (k_unfold; (try dsimp only)) | ((fail_if_success (with_reducible show wpAny _ _ (exec (Stmt.For _ _ _ _ _) _) _ _ _)); walk1) | ((fail_if_success (with_reducible show wpAny _ _ (exec (Stmt.For _ _ _ _ _) _) _ _ _)); dsimp only; walk1))
  have hl' : g'.IsList l vs.toArray := pre.at fun o e => st' _ _ e
  have hvl : vs.length = ns.length := hi.length
  refine for_listB (h₀ := g') (l := l) (vs := vs)
    (J := fun i m nw tk => tk' < tk ∧ sumAt mm ns i ≤ 63 ∧ m (Str.ofString "multiplier") = some (.int mm tm) ∧ m (Str.ofString "numbers") = some (.ref l) ∧ ∃ ds dr us t n2 nr, m (Str.ofString "sums") = some (.ref ds) ∧ m (Str.ofString "right") = some (.ref dr) ∧ ds ≠ dr ∧
      nw = [(ds, listOf (us ++ [.int (sumAt mm ns i) t]).toArray n2), (dr, listOf ((List.range i).map fun j => Value.bool (okAt mm ns j)).toArray nr)] ∧ SumsOk mm ns (us ++ [.int (sumAt mm ns i) t]) i tk)
    (D := fun m nw tk => ∃ T : Nat, tk' < tk ∧ m (Str.ofString "numbers") = some (.ref l) ∧ T ≤ ns.length ∧ (T = ns.length ∨ ∃ j, j < T ∧ okAt mm ns j = false) ∧ ∃ ds dr us n2 nr, m (Str.ofString "sums") = some (.ref ds) ∧ m (Str.ofString "right") = some (.ref dr) ∧ ds ≠ dr ∧
      nw = [(ds, listOf us.toArray n2), (dr, listOf ((List.range T).map fun j => Value.bool (okAt mm ns j)).toArray nr)] ∧ SumsOk mm ns us T tk)
    rfl PassesOwn.never ?hl (by k_asm) (by k_asm) ?h0 ?hev ?turn ?fin ?rest
  case hl =>
    rintro i m nw tk h _ F N
    exact hl'.at fun o e => F.keep _ _ e
  case h0 =>
    refine ⟨(by first | omega | (dsimp only; omega)), by show (0 : Int) ≤ 63; decide, rfl, rfl, _, _, [], _, _, _, rfl, rfl, ?_, rfl, SumsOk.start (by first | omega | (dsimp only; omega)) (by first | omega | (dsimp only; omega))⟩
    exact Nat.ne_of_gt (by first | assumption | omega)
  case hev =>
    intro Q' hQ'
    k_steps
    exact hQ'
  case fin =>
    rintro m nw tk ⟨ht, h63, hm1, hm2, ds, dr, us, t, n2, nr, hs, hr, hne, rfl, hok⟩
    rw [hvl] at hok ⊢
    exact ⟨ns.length, ht, hm2, Nat.le_refl _, Or.inl rfl, ds, dr, _, n2, nr, hs, hr, hne, rfl, hok⟩
  case turn =>
    rintro i v m₁ nw h tk own hv ⟨ht, h63, hm1, hm2, ds, dr, us, t, n2, nr, hs, hr, hne, rfl, hok⟩ off F N
    obtain ⟨x, tx, rfl, hx⟩ := IntsAre.at hi i v hv
    have off2 : OwnOff own [ds, dr] := off
    have hil : i < ns.length := (List.getElem?_eq_some_iff.mp hx).1
    have hlen : us.length = i := by have := hok.1; simp at this; exact this
    have hc := ctl_at (mm := mm) hx
    have hcr := ctl_range mm ns i
    have hsn := sumAt_nonneg mm ns i
    have hss : sumAt mm ns (i + 1) = sumAt mm ns i + mm * x % 32 := by rw [← hc]; rfl
    clear off
    simp only [List.cons_append, List.nil_append] at N
    refine wpAny_assign_Name ?_
    have key : ∀ b : Bool, b = okAt mm ns i → ((List.range i).map fun j => Value.bool (okAt mm ns j)) ++ [Value.bool b] = (List.range (i + 1)).map fun j => Value.bool (okAt mm ns j) := by
      rintro b rfl
      rw [List.range_succ, List.map_append]; rfl
    have hok1 : okAt mm ns i = ((mm * x % 32 != 0) && decide (sumAt mm ns i + mm * x % 32 < 32)) := by unfold okAt; rw [hc, hss]
    have hokm : ∀ t' tk₂ : Nat, tk ≤ t' → t' < tk₂ → SumsOk mm ns (us ++ [.int (sumAt mm ns i) t] ++ [.int (sumAt mm ns (i + 1)) t']) (i + 1) tk₂ := fun t' tk₂ a b => hok.more a b
    k_steps
    all_goals (rename News _ _ _ _ => NN; rw [key, ← hss] at NN)
    all_goals first
      | (rw [hok1, Bool.eq_iff_iff]; simp; omega)
      | (rw [hok1]; simp_all; done)
      | skip
    all_goals first
      | (refine turn_next2 (by k_asm) NN off2 ?_; refine ⟨(by first | omega | (dsimp only; omega)), by omega, (by (try dsimp only); (repeat rw [if_neg (by decide)]); (try rw [if_pos rfl]); first | rfl | assumption), (by (try dsimp only); (repeat rw [if_neg (by decide)]); (try rw [if_pos rfl]); first | rfl | assumption), ds, dr, us ++ [.int (sumAt mm ns i) t], _, _, _, (by (try dsimp only); (repeat rw [if_neg (by decide)]); (try rw [if_pos rfl]); first | rfl | assumption), (by (try dsimp only); (repeat rw [if_neg (by decide)]); (try rw [if_pos rfl]); first | rfl | assumption), hne, rfl, hokm _ _ (by first | omega | (dsimp only; omega)) (by first | omega | (dsimp only; omega))⟩)
      | (refine turn_brk2 (by k_asm) NN ?_; refine ⟨i + 1, (by first | omega | (dsimp only; omega)), (by (try dsimp only); (repeat rw [if_neg (by decide)]); (try rw [if_pos rfl]); first | rfl | assumption), hil, Or.inr ⟨i, by omega, by rw [hok1]; simp; omega⟩, ds, dr, _, _, _, (by (try dsimp only); (repeat rw [if_neg (by decide)]); (try rw [if_pos rfl]); first | rfl | assumption), (by (try dsimp only); (repeat rw [if_neg (by decide)]); (try rw [if_pos rfl]); first | rfl | assumption), hne, rfl, hokm _ _ (by first | omega | (dsimp only; omega)) (by first | omega | (dsimp only; omega))⟩)
  case rest =>
    rintro m₁ nw h tk ⟨T, ht, hm2, hT, hend, ds, dr, us, n2, nr, hs, hr, hne, rfl, hok⟩ F N
    have emap : ((List.range T).map fun j => Value.bool (okAt mm ns j)) = ((List.range T).map (okAt mm ns)).map Value.bool := by rw [List.map_map]; rfl
    rw [emap] at N
    have hg : ∀ j, j < T → ((List.range T).map (okAt mm ns))[j]? = some (okAt mm ns j) := fun j hj => by simp [hj]
    by_cases hex : ∃ j, j < T ∧ okAt mm ns j = false
    · obtain ⟨i0, h1, h2, h3⟩ := least_false _ _ hex
      have C := t_indexOfB w dr ((List.range T).map (okAt mm ns)) false i0 (by rw [hg i0 h1, h2]) (fun i hi => by rw [hg i (by omega), h3 i hi]; simp)
      dsimp only
      k_steps
      rename News _ _ _ _ => NN
      have hg0 : ∀ b, g'.get? b = none → s.heap.get? b = none := fun b e => by
        cases q : s.heap.get? b with
        | none => rfl
        | some o => rw [st' _ _ q] at e; cases e
      have hif : (if i0 < ns.length then Str.ofString "" else noWords) = Str.ofString "" := if_pos (by omega)
      rw [← hif] at NN
      have q1 := NN _ (List.mem_cons_self)
      have q2 := NN _ (List.mem_cons_of_mem _ List.mem_cons_self)
      refine DoneS.intro KtsTurn.refl (by k_asm) ?_
      refine ⟨i0, T, tk, _, ds, us, n2, _, _, rfl, hg0 _ q1.2.2, hg0 _ q2.2.2, ?_, q1.1, q2.1, by omega, hT, h3, fun _ => h2, hok⟩
      exact tup_ne q1.1 q2.1
    · have hTn : T = ns.length := hend.resolve_right hex
      subst hTn
      have hall : ∀ j, j < ns.length → okAt mm ns j = true := fun j hj => by
        cases e : okAt mm ns j with
        | true => rfl
        | false => exact absurd ⟨j, hj, e⟩ hex
      dsimp only
      repeat' (first | (k_unfold; (try dsimp only)) | ((fail_if_success (with_reducible show wpAny _ _ (call (Value.ref _) _) _ _ _)); walk1) | ((fail_if_success (with_reducible show wpAny _ _ (call (Value.ref _) _) _ _ _)); dsimp only; walk1))
      refine r_indexOf w dr ((List.range ns.length).map (okAt mm ns)) false nr ?_ mean mg mb _ _ _ _ _ _ _ _ _ _ _ _ _ _ B' (by k_asm) X' N T' rfl rfl ?_ ?_ (by k_mem) ?_
      · intro i
        rcases Nat.lt_or_ge i ns.length with q | q
        · rw [hg i q, hall i q]; simp
        · rw [List.getElem?_eq_none (by simpa using q)]; simp
      · (show _ + 1 + 20 < _; dsimp only; omega)
      · (show _ + 100 < _; dsimp only [Around.deeper]; omega)
      intro G e t tk₂ u h₂ FG RS US htk₂
      dsimp only
      refine caught_SB (T' := "ValueError") RS FG B' US XB TB D' KtsTurn.refl ?ex PyProof.Rows.Boot.«ValueError» ?hn PySem.F.isExc_ValueError PySem.F.notTuple_ValueError ?hs ?_
      (case hs => kts_sub)
      (case ex => k_is)
      (case hn => decide)
      intro h₃ g₃ news₃ tk₃ TT₃ F₃ N₃ GG₃ NL₃ B₃ X₃ T₃ D₃
      have hl3 : g₃.IsList l vs.toArray := by
        obtain ⟨o, ho, hc, nn, hdd⟩ := hl'
        refine ⟨o, TT₃.other _ _ ho (fun hm => ?_), hc, nn, hdd⟩
        obtain ⟨o', es, n', ho', hd'⟩ := D' _ hm
        rw [ho] at ho'
        cases ho'
        rw [hdd] at hd'
        cases hd'
      k_steps
      rename News _ _ _ _ => NN
      have hg0 : ∀ b, g₃.get? b = none → s.heap.get? b = none := fun b e => by
        cases q : s.heap.get? b with
        | none => rfl
        | some o =>
          obtain ⟨sl, hs'⟩ := TT₃.up (st' _ _ q)
          rw [hs'] at e; cases e
      have hif : (if ns.length < ns.length then Str.ofString "" else noWords) = noWords := if_neg (Nat.lt_irrefl _)
      rw [← hif] at NN
      have q1 := NN _ (List.mem_cons_self)
      have q2 := NN _ (List.mem_cons_of_mem _ List.mem_cons_self)
      refine DoneS.intro TT₃ (by k_asm) ?_
      refine ⟨ns.length, ns.length, tk, _, ds, us, n2, _, _, rfl, hg0 _ q1.2.2, hg0 _ q2.2.2, ?_, q1.1, q2.1, Nat.le_refl _, Nat.le_refl _, hall, fun q => absurd q (Nat.lt_irrefl _), hok⟩
      exact tup_ne q1.1 q2.1
end Mine
end
section
open PySem PySem.W PyProof.Rows PySem.Spec PySem.Calls
set_option Elab.async false
set_option maxRecDepth 100000
namespace Mine
/-- an element's end in a comprehension: the ledger is as it was -/
def ElEnd (h₀ : Heap) (L : Addr) (m : Str → Option Value) (s₁ : Shared) (nw : List (Addr × Obj)) (G : Value → Prop) (y : Value) (s₂ : Shared) : Prop :=
  ∃ h' tk, s₂ = { s₁ with heap := h', toks := tk } ∧ Fr h₀ L h' m ∧ News h₀ L h' nw ∧ G y
theorem ElEnd.intro {h₀ : Heap} {L : Addr} {m : Str → Option Value} {s₁ : Shared} {nw all : List (Addr × Obj)} {G : Value → Prop} {y : Value} {h' : Heap} {tk : Nat}
    (F : Fr h₀ L h' m) (N : News h₀ L h' all) (sub : ∀ p ∈ nw, p ∈ all) (g : G y) : ElEnd h₀ L m s₁ nw G y { s₁ with heap := h', toks := tk } := ⟨h', tk, rfl, F, fun p hp => N p (sub p hp), g⟩
section
variable {prog : Program} {w : World} {A : Around} {h₀ : Heap} {L : Addr} {m : Str → Option Value} {env : Env} {elt ct : Expr} {x : Str} {scope : Scope} {cl : List (Str × Addr)} {s : Shared} {S : List (Addr × Obj) → Prop} {P : Nat → Value → Prop} {Fin : List Value → List (Addr × Obj) → Prop} {news : List (Addr × Obj)}
/-- a comprehension without a test, whose elements leave the ledger as it was -/
theorem comp_rest {n : Nat} (G : Nat → Value → Prop) (hS : S news)
    (turn : ∀ i v I oI C oC D m₂ ys h tk (E' : Value → Shared → Prop), i < n → P i v → LCg.NsObj oC m₂ → m₂ x = some v → Fr h₀ L h m → News h₀ L h ((I, oI) :: (C, oC) :: (D, LCg.lst ys) :: news) →
      wpAny (model prog w) A (eval elt (compEnvC scope cl C env)) (ElEnd h₀ L m { s with heap := h, toks := tk } ((I, oI) :: (C, oC) :: (D, LCg.lst ys) :: news) (G i)) E' { s with heap := h, toks := tk })
    (fin : ∀ ys : List Value, ys.length = n → (∀ i y, ys[i]? = some y → G i y) → Fin ys news) : LCg.CompRest prog w A h₀ L m env elt x scope cl s S P Fin n 0 [] news := by
  have key : ∀ (j i : Nat) (ys : List Value), i + j = n → ys.length = i → (∀ i y, ys[i]? = some y → G i y) → LCg.CompRest prog w A h₀ L m env elt x scope cl s S P Fin j i ys news := by
    intro j
    induction j with
    | zero =>
      intro i ys hi hy hg
      exact LCg.CompRest.zero (fin ys (by omega) hg)
    | succ j ih =>
      intro i ys hi hy hg
      refine LCg.CompRest.succ ?_
      intro v I oI C oC D m₂ h tk E' hv hC hx F N off ne
      refine wpAny_mono (turn i v I oI C oC D m₂ ys h tk E' (by omega) hv hC hx F N) (fun y s₂ hq => ?_) fun _ _ e => e
      obtain ⟨h', tk', e, F', N', g⟩ := hq
      refine ⟨h', tk', news, e, F', N', off, hS, ih (i + 1) _ (by omega) (by simp [hy]) fun k z hz => ?_⟩
      rcases Nat.lt_or_ge k ys.length with hlt | hge
      · rw [List.getElem?_append_left hlt] at hz
        exact hg k z hz
      · rw [List.getElem?_append_right hge] at hz
        have hk : k = i := by
          have := (List.getElem?_eq_some_iff.mp hz).1
          simp at this; omega
        subst hk
        have : z = y := by rw [hy, Nat.sub_self] at hz; simpa using hz.symm
        subst this
        exact g
  exact key n 0 [] (by omega) rfl (fun i y h => by simp at h)

/-- a comprehension without a test, whose elements bring new objects onto the ledger -/
def ElEndG (h₀ : Heap) (L : Addr) (m : Str → Option Value) (s₁ : Shared) (three news : List (Addr × Obj)) (R : Addr × Obj → Prop) (G : Value → List (Addr × Obj) → Prop) (y : Value) (s₂ : Shared) : Prop :=
  ∃ h' tk add, s₂ = { s₁ with heap := h', toks := tk } ∧ Fr h₀ L h' m ∧ News h₀ L h' (three ++ (add ++ news)) ∧ (∀ p ∈ add, ∀ q ∈ three, p.1 ≠ q.1) ∧ (∀ p ∈ add, R p) ∧ G y add
theorem comp_restG {n : Nat} (R : Addr × Obj → Prop) (G : Nat → Value → List (Addr × Obj) → Prop) (hS : ∀ add, S (add ++ news))
    (turn : ∀ i v I oI C oC D m₂ ys add h tk (E' : Value → Shared → Prop), i < n → P i v → LCg.NsObj oC m₂ → m₂ x = some v → Fr h₀ L h m → News h₀ L h ((I, oI) :: (C, oC) :: (D, LCg.lst ys) :: (add ++ news)) → (∀ p ∈ add, R p) →
      wpAny (model prog w) A (eval elt (compEnvC scope cl C env)) (ElEndG h₀ L m { s with heap := h, toks := tk } [(I, oI), (C, oC), (D, LCg.lst ys)] (add ++ news) R (G i)) E' { s with heap := h, toks := tk })
    (hG : ∀ i y a b c, G i y b → (∀ p ∈ b, p ∈ c) → a = c → G i y a)
    (fin : ∀ (ys : List Value) (add : List (Addr × Obj)), ys.length = n → (∀ p ∈ add, R p) → (∀ i y, ys[i]? = some y → G i y add) → Fin ys (add ++ news)) : LCg.CompRest prog w A h₀ L m env elt x scope cl s S P Fin n 0 [] news := by
  have key : ∀ (j i : Nat) (ys : List Value) (add : List (Addr × Obj)), i + j = n → ys.length = i → (∀ p ∈ add, R p) → (∀ i y, ys[i]? = some y → G i y add) → LCg.CompRest prog w A h₀ L m env elt x scope cl s S P Fin j i ys (add ++ news) := by
    intro j
    induction j with
    | zero =>
      intro i ys add hi hy hR hg
      exact LCg.CompRest.zero (fin ys add (by omega) hR hg)
    | succ j ih =>
      intro i ys add hi hy hR hg
      refine LCg.CompRest.succ ?_
      intro v I oI C oC D m₂ h tk E' hv hC hx F N off ne
      refine wpAny_mono (turn i v I oI C oC D m₂ ys add h tk E' (by omega) hv hC hx F N hR) (fun y s₂ hq => ?_) fun _ _ e => e
      obtain ⟨h', tk', ad, e, F', N', hoff, hR', g⟩ := hq
      have e2 : ad ++ (add ++ news) = (ad ++ add) ++ news := (List.append_assoc _ _ _).symm
      rw [e2] at N'
      refine ⟨h', tk', (ad ++ add) ++ news, e, F', N', ?_, hS _, ih (i + 1) _ (ad ++ add) (by omega) (by simp [hy]) (fun p hp => (List.mem_append.mp hp).elim (hR' p) (hR p)) fun k z hz => ?_⟩
      · refine LCg.Off3.of fun p hp => ?_
        rw [← e2] at hp
        rcases List.mem_append.mp hp with hp | hp
        · exact ⟨hoff p hp (I, oI) (by simp), hoff p hp (C, oC) (by simp), hoff p hp (D, LCg.lst ys) (by simp)⟩
        · exact off.mem p hp
      · rcases Nat.lt_or_ge k ys.length with hlt | hge
        · rw [List.getElem?_append_left hlt] at hz
          exact hG k z _ _ _ (hg k z hz) (fun p hp => List.mem_append_right _ hp) rfl
        · rw [List.getElem?_append_right hge] at hz
          have hk : k = i := by
            have := (List.getElem?_eq_some_iff.mp hz).1
            simp at this; omega
          subst hk
          have : z = y := by rw [hy, Nat.sub_self] at hz; simpa using hz.symm
          subst this
          exact hG k z _ _ _ g (fun p hp => List.mem_append_left _ hp) rfl
  exact key n 0 [] [] (by omega) rfl (fun p hp => nomatch hp) (fun i y h => by simp at h)

/-- a comprehension with a test: its elements leave the ledger as it was -/
theorem comp_restT {n : Nat} (p : Nat → Bool) (G : Nat → Value → Prop) (hS : S news)
    (turn : ∀ i v I oI C oC D m₂ ys h tk (E' : Value → Shared → Prop), i < n → P i v → LCg.NsObj oC m₂ → m₂ x = some v → Fr h₀ L h m → News h₀ L h ((I, oI) :: (C, oC) :: (D, LCg.lst ys) :: news) →
      wpAny (model prog w) A (isTrue ct (compEnvC scope cl C env) (eval ct (compEnvC scope cl C env))) (fun ok s' => ok = p i ∧ ElEnd h₀ L m { s with heap := h, toks := tk } ((I, oI) :: (C, oC) :: (D, LCg.lst ys) :: news) (fun _ => True) Value.none s') E' { s with heap := h, toks := tk })
    (el : ∀ i v I oI C oC D m₂ ys h tk (E' : Value → Shared → Prop), i < n → P i v → p i = true → LCg.NsObj oC m₂ → m₂ x = some v → Fr h₀ L h m → News h₀ L h ((I, oI) :: (C, oC) :: (D, LCg.lst ys) :: news) →
      wpAny (model prog w) A (eval elt (compEnvC scope cl C env)) (ElEnd h₀ L m { s with heap := h, toks := tk } ((I, oI) :: (C, oC) :: (D, LCg.lst ys) :: news) (G i)) E' { s with heap := h, toks := tk })
    (fin : ∀ ys : List Value, ys.length = ((List.range n).filter p).length → (∀ (j i : Nat) (y : Value), ((List.range n).filter p)[j]? = some i → ys[j]? = some y → G i y) → Fin ys news) : LCt.CompRestT prog w A h₀ L m env ct elt x scope cl s S P Fin n 0 [] news := by
  have key : ∀ (j i : Nat) (ys : List Value), i + j = n → ys.length = ((List.range i).filter p).length → (∀ (j k : Nat) (y : Value), ((List.range i).filter p)[j]? = some k → ys[j]? = some y → G k y) → LCt.CompRestT prog w A h₀ L m env ct elt x scope cl s S P Fin j i ys news := by
    intro j
    induction j with
    | zero =>
      intro i ys hi hy hg
      have : i = n := by omega
      subst this
      exact LCt.CompRestT.zero (fin ys hy hg)
    | succ j ih =>
      intro i ys hi hy hg
      refine LCt.CompRestT.succ ?_
      intro v I oI C oC D m₂ h tk E' hv hC hx F N off ne
      refine wpAny_mono (turn i v I oI C oC D m₂ ys h tk E' (by omega) hv hC hx F N) (fun ok s₂ hq => ?_) fun _ _ e => e
      obtain ⟨rfl, h', tk', e, F', N', -⟩ := hq
      have e' : s₂ = { s with heap := h', toks := tk' } := e
      subst e'
      cases hp : p i with
      | true =>
        rw [if_pos rfl]
        refine wpAny_mono (el i v I oI C oC D m₂ ys h' tk' E' (by omega) hv hp hC hx F' N') (fun y s₃ hq => ?_) fun _ _ e => e
        obtain ⟨h₃, tk₃, e₃, F₃, N₃, g⟩ := hq
        refine ⟨h₃, tk₃, news, e₃, F₃, N₃, off, hS, ih (i + 1) _ (by omega) ?_ ?_⟩
        · rw [List.range_succ, List.filter_append]
          simp [hp, hy]
        · intro a k z ha hz
          rw [List.range_succ, List.filter_append] at ha
          have hf : List.filter p [i] = [i] := by simp [hp]
          rw [hf] at ha
          rcases Nat.lt_or_ge a ys.length with hlt | hge
          · rw [List.getElem?_append_left (by omega)] at ha
            rw [List.getElem?_append_left hlt] at hz
            exact hg a k z ha hz
          · rw [List.getElem?_append_right (by omega)] at ha
            rw [List.getElem?_append_right hge] at hz
            have h1 : a - ((List.range i).filter p).length = 0 := by
              have := (List.getElem?_eq_some_iff.mp ha).1
              simp at this; omega
            have h2 : a - ys.length = 0 := by omega
            rw [h1] at ha
            rw [h2] at hz
            have hk : i = k := by simpa using ha
            have hzz : y = z := by simpa using hz
            subst hk hzz
            exact g
      | false =>
        rw [if_neg (by simp)]
        refine ⟨h', tk', news, rfl, F', N', off, hS, ih (i + 1) _ (by omega) ?_ ?_⟩
        · rw [List.range_succ, List.filter_append]
          simp [hp, hy]
        · intro a k z ha hz
          rw [List.range_succ, List.filter_append] at ha
          have hf : List.filter p [i] = [] := by simp [hp]
          rw [hf, List.append_nil] at ha
          exact hg a k z ha hz
  exact key n 0 [] (by omega) rfl (fun j k y h => by simp at h)
end
end Mine
end
section
open PySem PySem.W PyProof.Rows PySem.Spec PySem.Calls
set_option Elab.async false
set_option maxRecDepth 100000
namespace Mine
local macro_rules | `(tactic| k_room) => `(tactic| ((try simp only [depth_under_make, depth_under_kw, depth_in1, depth_deeper, depth_caller]); omega))
local macro_rules | `(tactic| walk_at "execs cons") => `(tactic| (k_here; (with_reducible refine wpAny_execs_cons ?_); try dsimp only))
local macro_rules | `(tactic| walk_at "eval Constant int") => `(tactic| (k_here; refine wpAny_Constant_int ?_; dsimp only))
local macro_rules | `(tactic| walk_at "execs nil") => `(tactic| (k_here; (with_reducible refine wpAny_execs_nil ?_); try dsimp only))
section
variable {prog : Program} {w : World} {A₀ A : Around} {s : Shared} {base h₀ : Heap} {outer : List Env} {L : Addr} {m : Str → Option Value} {env : Env} {news : List (Addr × Obj)} {K : Frag} {p : Program} {loose : List Str} {mean : ExcName → Option Value} {mg mb : Str → Option Value}
theorem code_defCS {R : Result → Shared → Prop} {name qual : Str} {params : Arguments} {body : List Stmt} {scope : Scope} {dV kV doc pm cdv ct oc : Value} {an od : Option Addr} {osl : Array (Option Value)} {f : Addr} {args : Args} {binds : List (Str × Value)}
    (B : Below A₀ base outer h₀) (F : Fr h₀ L s.heap m) (X₀ : K.In h₀) (N : News h₀ L s.heap news) (T : Top p loose mean mg mb h₀) (hA : A.frames = some (env :: outer)) (hf : env.frame = some L) (hke : env.scope.kind = .function)
    (ho : K.lookup f = some ⟨oc, od, .func (fnOf name qual params body scope dV kV doc pm an cdv ct), osl⟩) (hcd : codeIn K cdv qual = true) (hroom : A.depth < recursionLimit)
    (hbind : BindsTo s (fnOf name qual params body scope dV kV doc pm an cdv ct) args binds) (hkind : (binds.all fun y => scope.names.lookup y.1 == some .local || scope.names.lookup y.1 == some .cell) = true)
    (hnd : ((cellsFrom 0 scope.names []).map (·.1)).Nodup)
    (h : ∀ g L' h₁ tk cells, Fr h₀ L g m → Fr g L' h₁ (bindL (envOfC qual scope L' f cdv).kindOf binds fun _ => none) → News g L' h₁ (cells ++ news) →
      CellsAre (bindC (envOfC qual scope L' f cdv).kindOf binds fun _ => none) (cellsFrom (L' + 1) scope.names []) cells → Below A base (env :: outer) g → h₀.StaysIn g → K.In g → Top p loose mean mg mb g → (∀ p ∈ news, p.1 < L') →
      wpAny (model prog w) (A.deeper (envOfC qual scope L' f cdv)) (execs body (envOfC qual scope L' f cdv))
        (fun fl s' => LeaveK h₀ L m g R (match fl with | .ret v => v | _ => .none) s')
        (fun e s' => wpAny (model prog w) (A.deeper (envOfC qual scope L' f cdv)) (leaving (envOfC qual scope L' f cdv) e) (fun _ s'' => R (.error e) s'') (fun e' s'' => R (.error e') s'') s')
        { s with heap := h₁, toks := tk })
    (hco : scope.isCoroutine = false) (hgen : scope.isGenerator = false) (hk : scope.kind = .function) : codeAny (model prog w) A (.call (.ref f) args) R s :=
  callX_cells B F N T.nolimit hA hf hke ((X₀.keeps F.keep) _ _ ho) rfl (codeRec_of (X₀.keeps F.keep) hcd) hroom hbind (kindsX hkind) hnd (fun g L' h₁ tk cells FG F' N' Y B' st l => h g L' h₁ tk cells FG F' N' Y B' st (X₀.keeps st) (T.keeps st) l) hco hgen hk
end
theorem gen_row {h₀ h : Heap} {L l : Addr} {arr : Array Value} {rows : List Int} {rest : List (Addr × Obj)} (N : News h₀ L h ((l, listOf arr 0) :: rest)) (hr : IntsAre arr.toList rows) :
    ∃ rs, IntsAre rs rows ∧ News h₀ L h ((l, listOf rs.toArray 0) :: rest) := ⟨arr.toList, hr, by simpa using N⟩
theorem intsAre_of {f : Int → Int} : ∀ {ys : List Value} {ks : List Int}, ys.length = ks.length → (∀ (i : Nat) y, ys[i]? = some y → ∃ x t, ks[i]? = some x ∧ y = .int (f x) t) → IntsAre ys (ks.map f)
  | [], [], _, _ => .nil
  | y :: ys, k :: ks, hl, h => by
    obtain ⟨x, t, hx, rfl⟩ := h 0 y rfl
    have : k = x := by simpa using hx
    subst this
    exact .cons _ _ (intsAre_of (by simpa using hl) fun i y hy => h (i + 1) y (by simpa using hy))
  | [], _ :: _, hl, _ => by simp at hl
  | _ :: _, [], hl, _ => by simp at hl
theorem all_off {news : List (Addr × Obj)} {L c : Nat} (h : ∀ p ∈ news, p.1 < L) (hc : L ≤ c) : ∀ p ∈ news, p.1 ≠ c := fun p hp e => by
  have h1 : p.1 < L := h p hp
  rw [e] at h1
  exact absurd hc (Nat.not_le.mpr h1)
theorem sum_between : ∀ (l : List Int), (∀ x ∈ l, -1024 ≤ x ∧ x ≤ 1023) → -(1024 * (l.length : Int)) ≤ l.sum ∧ l.sum ≤ 1024 * (l.length : Int)
  | [], _ => by decide
  | a :: l, h => by
    have ih := sum_between l fun x hx => h x (List.mem_cons_of_mem _ hx)
    have ha := h a (by simp)
    rw [List.sum_cons, List.length_cons]
    omega
theorem small_range {n : Int} (h0 : 0 < n) (h1 : n ≤ 1000) : Builtin.Range.small 0 n 1 = true := by
  have e : Builtin.Range.rangeSize 0 n 1 = n := by
    unfold Builtin.Range.rangeSize
    rw [if_pos (by decide), if_pos h0]
    omega
  unfold Builtin.Range.small
  rw [e]
  unfold Builtin.Range.rangeFitsLong
  simp
  omega
theorem intsAre_some : ∀ (ys : List Value), (∀ (i : Nat) y, ys[i]? = some y → ∃ x t, y = Value.int x t) → ∃ ns : List Int, IntsAre ys ns ∧ ns.length = ys.length
  | [], _ => ⟨[], .nil, rfl⟩
  | y :: ys, h => by
    obtain ⟨x, t, rfl⟩ := h 0 y rfl
    obtain ⟨ns, hn, hl⟩ := intsAre_some ys fun i z hz => h (i + 1) z (by simpa using hz)
    exact ⟨x :: ns, .cons _ _ hn, by simp [hl]⟩
local macro_rules | `(tactic| k_all) => `(tactic| exact all_off (by assumption) (by (try dsimp only); omega))
set_option maxHeartbeats 8000000 in
theorem t_numbers (w : World) (l : Addr) (vs : List Value) (ss : List Int) (hi : IntsAre vs ss) (hn : ss.length ≤ 63) :
    ∀ (mean : ExcName → Option Value) (mg mb : Str → Option Value) (dp un : Nat) (gd : Option (List Code)) (env : Env) (outer : List Env) (A₀ : Around) (base h₀ : Heap) (L : Addr) (m : Str → Option Value) (news : List (Addr × Obj)) (s : Shared) (Q E : Value → Shared → Prop)
    (_ : Below A₀ base outer h₀) (_ : Fr h₀ L s.heap m) (_ : (Mine.hd.heap_39 w.params).In h₀) (_ : News h₀ L s.heap news) (_ : Top Mine.hd.view_39 (looseW Mine.hd.view_39 []) mean mg mb h₀) (_ : env.frame = some L) (_ : env.scope.kind = .function)
    (_ : dp + 20 < recursionLimit) (_ : un + 100 < cLine) (_ : h₀.IsList l vs.toArray)
    (_ : ∀ d us ns h' tk', Fr h₀ L h' m → News h₀ L h' ((d, LCg.lst us) :: news) → LCg.Off1 d news → IntsAre us ns → 20 ≤ ns.length → ns.length ≤ 24 → Q (.ref d) { s with heap := h', toks := tk' }),
    wpAny (model PySem.Challenge.rw_ph0015_01.row.prog w) { handled := none, depth := dp, frames := some (env :: outer), guards := gd, units := un } (call (.ref 75) [.ref l]) Q E s := by
  w_on
  k_fill
  intro mean mg mb dp un gd env outer A₀ base h₀ L m news s Q E B F X N T hf hk hd hu hl ret
  refine wpAny_call ?_
  refine' code_defCS (f := 75) B F X N T rfl hf hk ?ho ?hcd (?k8 : dp < recursionLimit) ?k9 ?kB ?kD ?_ ?c2 ?c3 ?c4
  (case ho => k_is)
  (case hcd => k_is)
  (case k8 => omega)
  (case k9 => exact BindsTo.of_eq rfl)
  (case kB => exact rfl)
  (case kD => decide +kernel)
  (case c2 => exact rfl)
  (case c3 => exact rfl)
  (case c4 => exact rfl)
  k_whole
  intro g' L' h' tk' cells FG' F' N' Y' B' st' X' T' lt'
  k_cells Y'
  have hl' : g'.IsList l vs.toArray := hl.at fun o e => st' _ _ e
  dsimp only [List.cons_append, List.nil_append] at N'
  (try dsimp only)
  (try k_fold)
  clear B X T hf hk F N FG'
  have F1 : Fr g' L' h' (fun y => if y = Str.ofString "script" then some (.ref l) else none) := F'
  clear F'
  rename_i o1 o2 o3 d1 d2 d3
  replace d1 : o1.data = .cell none := d1
  replace d2 : o2.data = .cell none := d2
  replace d3 : o3.data = .cell none := d3
  repeat' (first | (k_unfold; (try dsimp only)) | ((fail_if_success (with_reducible show wpAny _ _ (eval (Expr.ListComp _ _ _ _) _) _ _ _)); walk1) | ((fail_if_success (with_reducible show wpAny _ _ (eval (Expr.ListComp _ _ _ _) _) _ _ _)); dsimp only; walk1))
  rename News _ _ _ _ => NN
  rename Fr _ _ _ _ => FF
  obtain ⟨rs, hrs, N2⟩ := gen_row NN (rows := [5, 1, 2, 1, 1, 3, 1, 1, 2, 1, 1, 2, 1, 1, 2, 1, 1, 1, 2, 4, 1, 1, 3, 1]) (by repeat' constructor)
  clear NN
  refine LCg.ListComp_U (F₀ := FF) (by with_unfolding_all rfl) (by decide) (by rfl) (by decide) (by rfl) ?_
  repeat' (first | (k_unfold; (try dsimp only)) | ((fail_if_success (with_reducible show LCg.CompSrc _ _ _ _ _ _ _ _ _ _ _ _ _ _)); walk1) | ((fail_if_success (with_reducible show LCg.CompSrc _ _ _ _ _ _ _ _ _ _ _ _ _ _)); dsimp only; walk1))
  dsimp only
  rename News _ _ _ _ => NN
  rename Fr _ _ _ _ => FF
  rename IntsAre _ (List.take 24 ss) => hI
  rename (_ < _) ∧ (_ < _) ∧ (_ < _) ∧ (_ < _) ∧ AllLt _ news => lts
  refine LCg.CompSrc.ledger (by rfl) FF NN (List.mem_cons_self) ?hsz ?_
  case hsz =>
    have := hI.length
    simp only [List.size_toArray, sizeLine_eq, List.length_take] at this ⊢
    omega
  intro g
  refine comp_rest (fun i y => ∃ x t, (ss.take 24)[i]? = some x ∧ y = .int (x.fmod 2048 - 1024) t) (Or.inr ⟨_, List.mem_cons_self, rfl, _, rfl⟩) ?turn ?fin
  case turn =>
    intro i v I oI C oC D m₂ ys h tk E' hin hv hC hx F N
    obtain ⟨x, t, rfl, hx'⟩ := IntsAre.at hI i v (by simpa using hv)
    repeat' (first | (k_unfold; (try dsimp only)) | ((fail_if_success (with_reducible show ElEnd _ _ _ _ _ _ _ _)); walk1) | ((fail_if_success (with_reducible show ElEnd _ _ _ _ _ _ _ _)); dsimp only; walk1))
    exact ElEnd.intro (by k_asm) (by k_asm) (fun p hp => hp) ⟨x, _, hx', rfl⟩
  case fin =>
    intro ys hlen hg
    have hY : IntsAre ys ((ss.take 24).map fun x => x.fmod 2048 - 1024) := intsAre_of (by rw [hlen, List.size_toArray, hI.length]) hg
    intro D h tk F N off
    clear hg NN FF
    generalize hdr : ((ss.take 24).map fun x => x.fmod 2048 - 1024) = dr at hY
    have hdl : dr.length ≤ 24 := by rw [← hdr, List.length_map, List.length_take]; omega
    have hdb : ∀ x ∈ dr, -1024 ≤ x ∧ x ≤ 1023 := by
      intro x hx
      rw [← hdr] at hx
      obtain ⟨y, _, rfl⟩ := List.mem_map.mp hx
      rw [Int.fmod_eq_emod_of_nonneg _ (by decide)]
      omega
    dsimp only
    simp only [LCg.Off1, and_true] at off
    repeat' (first | (k_unfold; (try dsimp only)) | ((fail_if_success (with_reducible show wpAny _ _ (eval (Expr.ListComp _ _ _ _) _) _ _ _)); walk1) | ((fail_if_success (with_reducible show wpAny _ _ (eval (Expr.ListComp _ _ _ _) _) _ _ _)); dsimp only; walk1))
    have hdl2 := hY.length
    have hds := sum_between dr hdb
    have hds0 : -24576 ≤ dr.sum := by omega
    have hds1 : dr.sum ≤ 24576 := by omega
    clear hds
    have hrl := hrs.length
    rename News _ _ _ _ => NN
    rename Fr _ _ _ _ => FF
    refine LCg.ListComp_U (F₀ := FF) (by with_unfolding_all rfl) (by decide) (by rfl) (by decide) (by rfl) ?_
    repeat' (first | (k_unfold; (try dsimp only)) | ((fail_if_success (with_reducible show LCg.CompSrc _ _ _ _ _ _ _ _ _ _ _ _ _ _)); walk1) | ((fail_if_success (with_reducible show LCg.CompSrc _ _ _ _ _ _ _ _ _ _ _ _ _ _)); dsimp only; walk1))
    rename IsRange _ _ _ _ _ _ _ _ => hR
    rename News _ _ _ _ => NN2
    rename Fr _ _ _ _ => FF2
    generalize hM : (if (dr.length : Int) > 20 then (dr.length : Int) else 20) = M at hR
    have hM0 : 20 ≤ M := by rw [← hM]; split <;> omega
    have hM1 : M ≤ 24 := by rw [← hM]; split <;> omega
    have hM2 : (dr.length : Int) ≤ M := by rw [← hM]; split <;> omega
    obtain ⟨n, rfl⟩ : ∃ n : Nat, M = n := ⟨M.toNat, by omega⟩
    refine LCg.CompSrc.range (n := n) (by rfl) FF2 NN2 hR ?hsm ?hrs ?hsz ?_
    case hsm =>
      exact small_range (by omega) (by omega)
    case hrs =>
      unfold Builtin.Range.rangeSize
      rw [if_pos (by decide), if_pos (by omega)]
      omega
    case hsz => rw [sizeLine_eq]; omega
    intro g2
    refine comp_rest (fun i y => ∃ x t, y = .int x t) trivial ?turn ?fin
    case turn =>
      intro i v I oI C oC D' m₂ ys' h tk E' hin hv hC hx F N
      obtain ⟨t, rfl⟩ := hv
      repeat' (first | (k_unfold; (try dsimp only)) | ((fail_if_success (with_reducible show ElEnd _ _ _ _ _ _ _ _)); walk1) | ((fail_if_success (with_reducible show ElEnd _ _ _ _ _ _ _ _)); dsimp only; walk1))
      rename News _ _ _ _ => NN3
      exact ElEnd.intro (by k_asm) NN3 (fun p hp => List.mem_cons_of_mem _ hp) ⟨_, _, rfl⟩
    case fin =>
      intro ys' hlen' hg D' h tk F N off'
      obtain ⟨ns, hns, hnl⟩ := intsAre_some ys' hg
      dsimp only
      repeat' (first | (k_unfold; (try dsimp only)) | ((fail_if_success (with_reducible show LeaveK _ _ _ _ _ _ _)); walk1) | ((fail_if_success (with_reducible show LeaveK _ _ _ _ _ _ _)); dsimp only; walk1))
      refine leaveK_ (news' := (D', LCg.lst ys') :: news) (by k_asm) (fun p hp => N p (by
        rcases List.mem_cons.mp hp with rfl | hp
        · exact List.mem_cons_self
        · exact List.mem_cons_of_mem _ (List.mem_cons_of_mem _ (List.mem_cons_of_mem _ (List.mem_cons_of_mem _ (List.mem_cons_of_mem _ (List.mem_cons_of_mem _ (List.mem_cons_of_mem _ hp)))))))) fun F1 N1 => ?_
      simp only [LCg.Off1] at off'
      exact ret D' ys' ns h tk F1 N1 (by simp only [off']) hns (by omega) (by omega)
end Mine
end
section
open PySem PySem.W PyProof.Rows PySem.Spec PySem.Calls
set_option Elab.async false
set_option maxRecDepth 100000
namespace Mine
local macro_rules | `(tactic| k_room) => `(tactic| ((try simp only [depth_under_make, depth_under_kw, depth_in1, depth_deeper, depth_caller]); omega))
local macro_rules | `(tactic| walk_at "execs cons") => `(tactic| (k_here; (with_reducible refine wpAny_execs_cons ?_); try dsimp only))
local macro_rules | `(tactic| walk_at "eval Constant int") => `(tactic| (k_here; refine wpAny_Constant_int ?_; dsimp only))
local macro_rules | `(tactic| walk_at "execs nil") => `(tactic| (k_here; (with_reducible refine wpAny_execs_nil ?_); try dsimp only))
local macro_rules | `(tactic| walk_at "eval Name") => `(tactic| (k_here; k_dflt (refine' nameX_L ?F ?v ?_ ?a ?b; (case F => k_asm); (case a => rfl); (case b => rfl); (case v => (first | exact rfl | assumption | ((repeat rw [if_neg (by decide)]); (try rw [if_pos rfl]); first | rfl | assumption))); k_whole)))
def lawFn : List Stmt × Scope := match ((PySem.Challenge.pw_ph0015_01.main.body)[15]? : Option Stmt) with
  | some (Stmt.FunctionDef _ _ b _ _ _ sc _ _ _) => (b, sc)
  | _ => ([], { kind := .function, names := [], isGenerator := false, isCoroutine := false })
def lawBody : List Stmt := lawFn.1
abbrev asIt {a : Scope} (s : Scope) (_ : a = s) : Scope := s
abbrev lawScope : Scope := by
  refine asIt (a := lawFn.2) ?s ?h
  case h =>
    conv => lhs; whnf
set_option maxHeartbeats 8000000 in
theorem s0
(w : World) (mean : ExcName → Option Value) (mg mb : Str → Option Value) (dp un : Nat) (gd : Option (List Code)) (A₀ : Around) (h₀ : Heap) (L fa : Addr) (cd : Value) (m : Str → Option Value) (s : Shared) (Q : Flow → Shared → Prop) (E : Value → Shared → Prop)
    (B : Below A₀ h₀ [] h₀) (F : Fr h₀ L s.heap m) (X : (Mine.hd.heap_39 w.params).In h₀) (T : Top Mine.hd.view_39 (looseW Mine.hd.view_39 []) mean mg mb h₀) (hd : dp + 80 < recursionLimit) (hu : un + 400 < cLine)
    (l : Addr) (vs : List Value) (ss : List Int) (hl : h₀.IsList l vs.toArray) (hi : IntsAre vs ss) (hn : ss.length ≤ 63) (hm : m (Str.ofString "script") = some (.ref l))
    (o1 o2 o3 o4 o5 o6 : Obj) (d1 : o1.data = .cell none) (N : News h₀ L s.heap [(L + 1 + 1 + 1 + 1 + 1 + 1, o6), (L + 1 + 1 + 1 + 1 + 1, o5), (L + 1 + 1 + 1 + 1, o4), (L + 1 + 1 + 1, o3), (L + 1 + 1, o2), (L + 1, o1)])
    (ret : ∀ h tk m' o1' d ns us, Fr h₀ L h m' → News h₀ L h [(d, LCg.lst us), (L + 1 + 1 + 1 + 1 + 1 + 1, o6), (L + 1 + 1 + 1 + 1 + 1, o5), (L + 1 + 1 + 1 + 1, o4), (L + 1 + 1 + 1, o3), (L + 1 + 1, o2), (L + 1, o1')] → LCg.Off1 d [(L + 1 + 1 + 1 + 1 + 1 + 1, o6), (L + 1 + 1 + 1 + 1 + 1, o5), (L + 1 + 1 + 1 + 1, o4), (L + 1 + 1 + 1, o3), (L + 1 + 1, o2), (L + 1, o1)] →
      o1'.data = .cell (some (.ref d)) → IntsAre us ns → 20 ≤ ns.length → ns.length ≤ 24 → wpAny (model PySem.Challenge.rw_ph0015_01.row.prog w) { handled := none, depth := dp, frames := some [envOfC (Str.ofString "law") lawScope L fa cd], guards := gd, units := un } (execs (lawBody.drop 1) (envOfC (Str.ofString "law") lawScope L fa cd)) Q E { s with heap := h, toks := tk }) :
    wpAny (model PySem.Challenge.rw_ph0015_01.row.prog w) { handled := none, depth := dp, frames := some [envOfC (Str.ofString "law") lawScope L fa cd], guards := gd, units := un } (execs (lawBody.drop 0) (envOfC (Str.ofString "law") lawScope L fa cd)) Q E s := by
  w_on
  revert X
  k_fill
  intro X
  rw [show lawBody.drop 0 = lawBody[0]'(by decide) :: lawBody.drop (0 + 1) from List.drop_eq_getElem_cons (by decide)]
  conv in (lawBody[0]'_) => whnf
  generalize lawBody.drop (0 + 1) = rest at ret ⊢
  repeat' (first | (k_unfold; (try dsimp only)) | ((fail_if_success (with_reducible show wpAny _ _ (call (Value.ref _) _) _ _ _)); walk1) | ((fail_if_success (with_reducible show wpAny _ _ (call (Value.ref _) _) _ _ _)); dsimp only; walk1))
  refine t_numbers w l vs ss hi hn mean mg mb _ _ _ _ _ _ _ _ _ _ _ _ _ _ B (by k_asm) X (by k_asm) T rfl rfl (by omega) (by omega) hl ?_
  intro d us ns h' tk' F1 N1 off hints h20 h24
  clear F N
  simp only [LCg.Off1, and_true] at off
  repeat' (first | (k_unfold; (try dsimp only)) | ((fail_if_success (with_reducible show wpAny _ _ (execs rest _) _ _ _)); walk1) | ((fail_if_success (with_reducible show wpAny _ _ (execs rest _) _ _ _)); dsimp only; walk1))
  rename News _ _ _ _ => NN
  exact ret _ _ _ _ _ _ _ (by k_asm) NN (by simp only [LCg.Off1, and_true]; exact off) (by k_asm) hints h20 h24
end Mine
end
section
open PySem PySem.W PyProof.Rows PySem.Spec PySem.Calls
set_option Elab.async false
set_option maxRecDepth 100000
namespace Mine
local macro_rules | `(tactic| k_room) => `(tactic| ((try simp only [depth_under_make, depth_under_kw, depth_in1, depth_deeper, depth_caller]); omega))
local macro_rules | `(tactic| walk_at "execs cons") => `(tactic| (k_here; (with_reducible refine wpAny_execs_cons ?_); try dsimp only))
local macro_rules | `(tactic| walk_at "eval Constant int") => `(tactic| (k_here; refine wpAny_Constant_int ?_; dsimp only))
local macro_rules | `(tactic| walk_at "execs nil") => `(tactic| (k_here; (with_reducible refine wpAny_execs_nil ?_); try dsimp only))
local macro_rules | `(tactic| walk_at "eval Name") => `(tactic| (k_here; k_dflt (refine' nameX_L ?F ?v ?_ ?a ?b; (case F => k_asm); (case a => rfl); (case b => rfl); (case v => (first | exact rfl | assumption | ((repeat rw [if_neg (by decide)]); (try rw [if_pos rfl]); first | rfl | assumption))); k_whole)))
theorem carried_bools : ∀ bs : List Bool, CarriedAll (bs.map Value.bool) (bs.map PyData.bool)
  | [] => .nil
  | b :: bs => .cons (.bool b) (carried_bools bs)
theorem canLay_bools : ∀ bs : List Bool, PyData.canLayAll0 (bs.map PyData.bool) = true
  | [] => rfl
  | b :: bs => by simp [PyData.canLayAll0, PyData.canLay0, canLay_bools bs]
theorem depth_bools : ∀ bs : List Bool, PyData.depthAll (bs.map PyData.bool) = 0
  | [] => rfl
  | b :: bs => by simp [PyData.depthAll, PyData.depth, depth_bools bs]
theorem eqv_bools : ∀ bs : List Bool, PyData.eqvAll (bs.map PyData.bool) (bs.map PyData.bool) = true
  | [] => by simp [PyData.eqvAll]
  | b :: bs => by simp [PyData.eqvAll, PyData.eqv, eqv_bools bs]
theorem shaped_bools (bs : List Bool) : SeqAt.shaped (.list (bs.map PyData.bool)) = true := by
  simp [SeqAt.shaped, PyData.canLay0, PyData.depth, canLay_bools, depth_bools]
theorem ne_bools_same {prog : Program} {w : World} {A : Around} {E : Value → Shared → Prop} {s : Shared} {a b : Addr} {bs : List Bool} {Q : Value → Shared → Prop}
    (ha : s.heap.IsList a (bs.map Value.bool).toArray) (hb : s.heap.IsList b (bs.map Value.bool).toArray) (hu : A.units + 64 < cLine) (h : Q (.bool false) s) :
    wpAny (model prog w) A (compareOp .NotEq (.ref a) (.ref b)) Q E s :=
  ne_dataH (reads_newData ha (carried_bools bs)) (reads_newData hb (carried_bools bs)) (shaped_bools bs) (shaped_bools bs) hu (by
    have e : PyData.eqv (.list (bs.map PyData.bool)) (.list (bs.map PyData.bool)) = true := by simp [PyData.eqv, eqv_bools]
    rw [e]; exact h)
theorem bools_of {f : Nat → Bool} : ∀ {n : Nat} {ys : List Value}, ys.length = n → (∀ (i : Nat) y, ys[i]? = some y → y = .bool (f i)) → ys = ((List.range n).map f).map Value.bool := by
  intro n ys hl h
  apply List.ext_getElem?
  intro i
  rcases Nat.lt_or_ge i n with q | q
  · have e : ys[i]? = some (ys[i]'(by omega)) := List.getElem?_eq_getElem (by omega)
    have := h i _ e
    rw [e, this]
    simp [q]
  · rw [List.getElem?_eq_none (by omega), List.getElem?_eq_none (by simp; omega)]
theorem shr5 (x : Int) : (x.fdiv (2 ^ Int.toNat 5) == 0) = decide (0 ≤ x ∧ x < 32) := by
  have e : (2 : Int) ^ Int.toNat 5 = 32 := by decide
  rw [e, Int.fdiv_eq_ediv_of_nonneg _ (by decide), Bool.eq_iff_iff]
  simp
  omega
local macro_rules | `(tactic| walk_at "call ref") => `(tactic| (k_here; k_dflt (refine' Tells.useN ?C ?kB ?kF ?kX ?kT ?kN ?hA ?hh ?hf ?hk ?hd ?hu ?pre ?_; (case C => first | with_reducible assumption | exact t_isctrl _ _ _); (case hA => exact rfl); (case hh => exact rfl); (case hf => exact rfl); (case hk => exact rfl); (case kB => k_asm); (case kF => k_asm); (case kX => k_asm); (case kT => k_asm); (case kN => k_asm); (case hd => first | (dsimp only; omega) | (show _ + 1 + 20 < _; dsimp only; omega)); (case hu => first | (dsimp only; omega) | (show _ + 100 < _; dsimp only [Around.deeper]; omega)); (case pre => first | trivial | assumption | exact isList_led (by k_asm) (by k_mem)); k_whole); (intro v9 h9 tk9 st9 ht9 p9 F9 N9); (try dsimp only at p9); (try dsimp only at ht9); (first | subst p9 | (obtain ⟨t9, e9⟩ := p9; subst e9) | (obtain ⟨t9, e9, a9, b9⟩ := p9; subst e9)); (try dsimp only)))
local macro_rules | `(tactic| walk_at "binaryOp RShift") => `(tactic| (k_here; refine rshift_int (by decide) ?_; try dsimp only))
local macro_rules | `(tactic| walk_at "compareOp NotEq ref ref") => `(tactic| (k_here; k_dflt (refine ne_bools_same (isList_led (by k_asm) (by k_mem)) (isList_led (by k_asm) (by k_mem)) (by dsimp only; omega) ?_)))
set_option maxHeartbeats 8000000 in
theorem s1
(w : World) (mean : ExcName → Option Value) (mg mb : Str → Option Value) (dp un : Nat) (gd : Option (List Code)) (A₀ : Around) (h₀ : Heap) (L fa : Addr) (cd : Value) (m : Str → Option Value) (s : Shared) (Q : Flow → Shared → Prop) (E : Value → Shared → Prop)
    (B : Below A₀ h₀ [] h₀) (F : Fr h₀ L s.heap m) (X : (Mine.hd.heap_39 w.params).In h₀) (T : Top Mine.hd.view_39 (looseW Mine.hd.view_39 []) mean mg mb h₀) (hd : dp + 80 < recursionLimit) (hu : un + 400 < cLine)
    (d : Addr) (us : List Value) (ns : List Int) (o1 o2 o3 o4 o5 o6 : Obj) (hi : IntsAre us ns) (hn : ns.length ≤ 24) (d1 : o1.data = .cell (some (.ref d))) (N : News h₀ L s.heap [(d, LCg.lst us), (L + 1 + 1 + 1 + 1 + 1 + 1, o6), (L + 1 + 1 + 1 + 1 + 1, o5), (L + 1 + 1 + 1 + 1, o4), (L + 1 + 1 + 1, o3), (L + 1 + 1, o2), (L + 1, o1)])
    (off : LCg.Off1 d [(L + 1 + 1 + 1 + 1 + 1 + 1, o6), (L + 1 + 1 + 1 + 1 + 1, o5), (L + 1 + 1 + 1 + 1, o4), (L + 1 + 1 + 1, o3), (L + 1 + 1, o2), (L + 1, o1)])
    (ret : ∀ h tk, Fr h₀ L h m → News h₀ L h [(d, LCg.lst us), (L + 1 + 1 + 1 + 1 + 1 + 1, o6), (L + 1 + 1 + 1 + 1 + 1, o5), (L + 1 + 1 + 1 + 1, o4), (L + 1 + 1 + 1, o3), (L + 1 + 1, o2), (L + 1, o1)] → wpAny (model PySem.Challenge.rw_ph0015_01.row.prog w) { handled := none, depth := dp, frames := some [envOfC (Str.ofString "law") lawScope L fa cd], guards := gd, units := un } (execs (lawBody.drop 2) (envOfC (Str.ofString "law") lawScope L fa cd)) Q E { s with heap := h, toks := tk }) :
    wpAny (model PySem.Challenge.rw_ph0015_01.row.prog w) { handled := none, depth := dp, frames := some [envOfC (Str.ofString "law") lawScope L fa cd], guards := gd, units := un } (execs (lawBody.drop 1) (envOfC (Str.ofString "law") lawScope L fa cd)) Q E s := by
  simp only [LCg.Off1, and_true] at off
  have hul := hi.length
  w_on
  revert X
  k_fill
  intro X
  rw [show lawBody.drop 1 = lawBody[1]'(by decide) :: lawBody.drop (1 + 1) from List.drop_eq_getElem_cons (by decide)]
  conv in (lawBody[1]'_) => whnf
  generalize lawBody.drop (1 + 1) = rest at ret ⊢
  repeat' (first | (k_unfold; (try dsimp only)) | ((fail_if_success (with_reducible show wpAny _ _ (eval (Expr.ListComp _ _ _ _) _) _ _ _)); walk1) | ((fail_if_success (with_reducible show wpAny _ _ (eval (Expr.ListComp _ _ _ _) _) _ _ _)); dsimp only; walk1))
  rename Fr _ _ _ _ => FF
  refine LCg.ListComp_U (F₀ := FF) (by with_unfolding_all rfl) (by decide) (by rfl) (by decide) (by rfl) ?_
  repeat' (first | (k_unfold; (try dsimp only)) | ((fail_if_success (with_reducible show LCg.CompSrc _ _ _ _ _ _ _ _ _ _ _ _ _ _)); walk1) | ((fail_if_success (with_reducible show LCg.CompSrc _ _ _ _ _ _ _ _ _ _ _ _ _ _)); dsimp only; walk1))
  rename News _ _ _ _ => NN
  rename Fr _ _ _ _ => FF
  refine LCg.CompSrc.ledger (by rfl) FF NN (List.mem_cons_self) (by rw [List.size_toArray, sizeLine_eq]; omega) ?_
  intro g
  refine comp_rest (fun i y => y = .bool (decide (0 ≤ ns.getD i 0 ∧ ns.getD i 0 < 32))) (Or.inr ⟨_, List.mem_cons_self, rfl, _, rfl⟩) ?turn ?fin
  case turn =>
    intro i v I oI C oC D m₂ ys h tk E' hin hv hC hx F N
    obtain ⟨x, t, rfl, hx'⟩ := IntsAre.at hi i v (by simpa using hv)
    have hxd : ns.getD i 0 = x := by rw [List.getD_eq_getElem?_getD, hx']; rfl
    repeat' (first | (k_unfold; (try dsimp only)) | ((fail_if_success (with_reducible show ElEnd _ _ _ _ _ _ _ _)); walk1) | ((fail_if_success (with_reducible show ElEnd _ _ _ _ _ _ _ _)); dsimp only; walk1))
    exact ElEnd.intro (by k_asm) (by k_asm) (fun p hp => hp) (by show Value.bool _ = Value.bool _; rw [hxd])
  case fin =>
    intro ys hlen hg
    have hys := bools_of hlen hg
    subst hys
    intro D h tk F N off2
    simp only [LCg.Off1, and_true] at off2
    dsimp only
    clear hg
    repeat' (first | (k_unfold; (try dsimp only)) | ((fail_if_success (with_reducible show wpAny _ _ (eval (Expr.ListComp _ _ _ _) _) _ _ _)); walk1) | ((fail_if_success (with_reducible show wpAny _ _ (eval (Expr.ListComp _ _ _ _) _) _ _ _)); dsimp only; walk1))
    rename Fr _ _ _ _ => FF
    refine LCg.ListComp_U (F₀ := FF) (by with_unfolding_all rfl) (by decide) (by rfl) (by decide) (by rfl) ?_
    repeat' (first | (k_unfold; (try dsimp only)) | ((fail_if_success (with_reducible show LCg.CompSrc _ _ _ _ _ _ _ _ _ _ _ _ _ _)); walk1) | ((fail_if_success (with_reducible show LCg.CompSrc _ _ _ _ _ _ _ _ _ _ _ _ _ _)); dsimp only; walk1))
    rename News _ _ _ _ => NN
    rename Fr _ _ _ _ => FF
    refine LCg.CompSrc.ledger (by rfl) FF NN (List.mem_cons_of_mem _ List.mem_cons_self) (by rw [List.size_toArray, sizeLine_eq]; omega) ?_
    intro g3
    refine comp_rest (fun i y => y = .bool (decide (0 ≤ ns.getD i 0 ∧ ns.getD i 0 < 32))) (Or.inr ⟨_, List.mem_cons_of_mem _ List.mem_cons_self, rfl, _, rfl⟩) ?turn2 ?fin2
    case turn2 =>
      intro i v I oI C oC D' m₂ ys h tk E' hin hv hC hx F N
      obtain ⟨x, t, rfl, hx'⟩ := IntsAre.at hi i v (by simpa using hv)
      have hxd : ns.getD i 0 = x := by rw [List.getD_eq_getElem?_getD, hx']; rfl
      repeat' (first | (k_unfold; (try dsimp only)) | ((fail_if_success (with_reducible show ElEnd _ _ _ _ _ _ _ _)); walk1) | ((fail_if_success (with_reducible show ElEnd _ _ _ _ _ _ _ _)); dsimp only; walk1))
      exact ElEnd.intro (by k_asm) (by k_asm) (fun p hp => hp) (by show Value.bool _ = Value.bool _; rw [hxd, shr5])
    case fin2 =>
      intro ys hlen2 hg
      have hys := bools_of hlen2 hg
      subst hys
      intro D2 h tk F N off3
      simp only [LCg.Off1, and_true] at off3
      dsimp only
      clear hg
      repeat' (first | (k_unfold; (try dsimp only)) | ((fail_if_success (with_reducible show wpAny _ _ (execs rest _) _ _ _)); walk1) | ((fail_if_success (with_reducible show wpAny _ _ (execs rest _) _ _ _)); dsimp only; walk1))
      exact ret _ _ (by k_asm) (fun p hp => N p (List.mem_cons_of_mem _ (List.mem_cons_of_mem _ hp)))
end Mine
end
section
open PySem PySem.W PyProof.Rows PySem.Spec PySem.Calls
set_option Elab.async false
set_option maxRecDepth 100000
namespace Mine
local macro_rules | `(tactic| k_room) => `(tactic| ((try simp only [depth_under_make, depth_under_kw, depth_in1, depth_deeper, depth_caller]); omega))
local macro_rules | `(tactic| walk_at "execs cons") => `(tactic| (k_here; (with_reducible refine wpAny_execs_cons ?_); try dsimp only))
local macro_rules | `(tactic| walk_at "eval Constant int") => `(tactic| (k_here; refine wpAny_Constant_int ?_; dsimp only))
local macro_rules | `(tactic| walk_at "execs nil") => `(tactic| (k_here; (with_reducible refine wpAny_execs_nil ?_); try dsimp only))
local macro_rules | `(tactic| walk_at "eval Name") => `(tactic| (k_here; k_dflt (refine' nameX_L ?F ?v ?_ ?a ?b; (case F => k_asm); (case a => rfl); (case b => rfl); (case v => (first | exact rfl | assumption | ((repeat rw [if_neg (by decide)]); (try rw [if_pos rfl]); first | rfl | assumption))); k_whole)))
theorem fresh_in {h₀ h h' : Heap} {L f : Addr} {o : Obj} {m : Str → Option Value} {news : List (Addr × Obj)} (F : Fr h₀ L h m) (hn : h.get? f = none) (hg : h'.get? f = some o) (N : News h₀ L h' news) : News h₀ L h' ((f, o) :: news) := fun p hp => by
  rcases List.mem_cons.mp hp with rfl | hp
  · refine ⟨hg, fun e => ?_, ?_⟩
    · obtain ⟨o, _, _, ho, _⟩ := F.ns
      have e' : f = L := e
      rw [e', ho] at hn
      cases hn
    · show h₀.get? f = none
      cases e : h₀.get? f with
      | none => rfl
      | some o =>
        have := F.keep _ _ e
        rw [hn] at this
        cases this
  · exact N p hp
theorem fresh_off {h₀ h : Heap} {L f : Addr} {news : List (Addr × Obj)} (N : News h₀ L h news) (hn : h.get? f = none) : ∀ p ∈ news, p.1 ≠ f := fun p hp e => by
  have := (N p hp).1
  rw [e, hn] at this
  cases this
set_option maxHeartbeats 8000000 in
theorem s2
(w : World) (mean : ExcName → Option Value) (mg mb : Str → Option Value) (dp un : Nat) (gd : Option (List Code)) (A₀ : Around) (h₀ : Heap) (L fa : Addr) (cd : Value) (m : Str → Option Value) (s : Shared) (Q : Flow → Shared → Prop) (E : Value → Shared → Prop)
    (B : Below A₀ h₀ [] h₀) (F : Fr h₀ L s.heap m) (X : (Mine.hd.heap_39 w.params).In h₀) (T : Top Mine.hd.view_39 (looseW Mine.hd.view_39 []) mean mg mb h₀) (hd : dp + 80 < recursionLimit) (hu : un + 400 < cLine)
    (d : Addr) (us : List Value) (ns : List Int) (o1 o2 o3 o4 o5 o6 : Obj) (hi : IntsAre us ns) (hn : ns.length ≤ 24) (d1 : o1.data = .cell (some (.ref d))) (d2 : o2.data = .cell none) (N : News h₀ L s.heap [(d, LCg.lst us), (L + 1 + 1 + 1 + 1 + 1 + 1, o6), (L + 1 + 1 + 1 + 1 + 1, o5), (L + 1 + 1 + 1 + 1, o4), (L + 1 + 1 + 1, o3), (L + 1 + 1, o2), (L + 1, o1)])
    (off : LCg.Off1 d [(L + 1 + 1 + 1 + 1 + 1 + 1, o6), (L + 1 + 1 + 1 + 1 + 1, o5), (L + 1 + 1 + 1 + 1, o4), (L + 1 + 1 + 1, o3), (L + 1 + 1, o2), (L + 1, o1)])
    (ret : ∀ h tk f fs nf o2', Fr h₀ L h m → News h₀ L h [(f, listOf fs.toArray nf), (d, LCg.lst us), (L + 1 + 1 + 1 + 1 + 1 + 1, o6), (L + 1 + 1 + 1 + 1 + 1, o5), (L + 1 + 1 + 1 + 1, o4), (L + 1 + 1 + 1, o3), (L + 1 + 1, o2'), (L + 1, o1)] → o2'.data = .cell (some (.ref f)) → LCg.Off1 f [(d, LCg.lst us), (L + 1 + 1 + 1 + 1 + 1 + 1, o6), (L + 1 + 1 + 1 + 1 + 1, o5), (L + 1 + 1 + 1 + 1, o4), (L + 1 + 1 + 1, o3), (L + 1 + 1, o2), (L + 1, o1)] → IntsAre fs (frontsOf ns ns.length) → wpAny (model PySem.Challenge.rw_ph0015_01.row.prog w) { handled := none, depth := dp, frames := some [envOfC (Str.ofString "law") lawScope L fa cd], guards := gd, units := un } (execs (lawBody.drop 3) (envOfC (Str.ofString "law") lawScope L fa cd)) Q E { s with heap := h, toks := tk }) :
    wpAny (model PySem.Challenge.rw_ph0015_01.row.prog w) { handled := none, depth := dp, frames := some [envOfC (Str.ofString "law") lawScope L fa cd], guards := gd, units := un } (execs (lawBody.drop 2) (envOfC (Str.ofString "law") lawScope L fa cd)) Q E s := by
  simp only [LCg.Off1, and_true] at off
  w_on
  revert X
  k_fill
  intro X
  rw [show lawBody.drop 2 = lawBody[2]'(by decide) :: lawBody.drop (2 + 1) from List.drop_eq_getElem_cons (by decide)]
  conv in (lawBody[2]'_) => whnf
  generalize lawBody.drop (2 + 1) = rest at ret ⊢
  repeat' (first | (k_unfold; (try dsimp only)) | ((fail_if_success (with_reducible show wpAny _ _ (call (Value.ref _) _) _ _ _)); walk1) | ((fail_if_success (with_reducible show wpAny _ _ (call (Value.ref _) _) _ _ _)); dsimp only; walk1))
  refine Tells.useN (t_fronts w d us ns hi (by omega)) B (by k_asm) X T (by k_asm) rfl rfl rfl rfl (by dsimp only; omega) (by dsimp only; omega) (isList_led (by k_asm) (by k_mem)) ?_
  rintro v h' tk' st ht ⟨f, fs, nf, rfl, hnone, hget, hfs⟩ F1 N1
  have hf : LCg.Off1 f [(d, LCg.lst us), (L + 1 + 1 + 1 + 1 + 1 + 1, o6), (L + 1 + 1 + 1 + 1 + 1, o5), (L + 1 + 1 + 1 + 1, o4), (L + 1 + 1 + 1, o3), (L + 1 + 1, o2), (L + 1, o1)] := by
    have key := fresh_off N hnone
    simpa [LCg.Off1] using key
  have N2 := fresh_in F hnone hget N1
  clear F N N1
  have hf2 := hf
  simp only [LCg.Off1, and_true] at hf
  repeat' (first | (k_unfold; (try dsimp only)) | ((fail_if_success (with_reducible show wpAny _ _ (execs rest _) _ _ _)); walk1) | ((fail_if_success (with_reducible show wpAny _ _ (execs rest _) _ _ _)); dsimp only; walk1))
  rename News _ _ _ _ => NN
  exact ret _ _ _ _ _ _ (by k_asm) NN (by k_asm) hf2 hfs
end Mine
end
section
open PySem PySem.W PyProof.Rows PySem.Spec PySem.Calls
set_option Elab.async false
set_option maxRecDepth 100000
namespace Mine
local macro_rules | `(tactic| k_room) => `(tactic| ((try simp only [depth_under_make, depth_under_kw, depth_in1, depth_deeper, depth_caller]); omega))
local macro_rules | `(tactic| walk_at "execs cons") => `(tactic| (k_here; (with_reducible refine wpAny_execs_cons ?_); try dsimp only))
local macro_rules | `(tactic| walk_at "eval Constant int") => `(tactic| (k_here; refine wpAny_Constant_int ?_; dsimp only))
local macro_rules | `(tactic| walk_at "execs nil") => `(tactic| (k_here; (with_reducible refine wpAny_execs_nil ?_); try dsimp only))
local macro_rules | `(tactic| walk_at "eval Name") => `(tactic| (k_here; k_dflt (refine' nameX_L ?F ?v ?_ ?a ?b; (case F => k_asm); (case a => rfl); (case b => rfl); (case v => (first | exact rfl | assumption | ((repeat rw [if_neg (by decide)]); (try rw [if_pos rfl]); first | rfl | assumption))); k_whole)))
def evenAt (ns : List Int) (i : Nat) : Bool := frontAt ns (i + 1) % 2 == 0
def freeOf (ns : List Int) : Nat := ((List.range ns.length).filter (evenAt ns)).length
theorem frontsOf_at {ns : List Int} {n i : Nat} {x : Int} (h : (List.drop 1 (frontsOf ns n))[i]? = some x) : x = frontAt ns (i + 1) := by
  rw [List.getElem?_drop] at h
  unfold frontsOf at h
  rw [List.getElem?_map] at h
  cases e : (List.range (n + 1))[1 + i]? with
  | none => rw [e] at h; cases h
  | some j =>
    rw [e] at h
    have hj : j = 1 + i := by
      have := List.getElem?_eq_some_iff.mp e
      obtain ⟨hlt, hh⟩ := this
      simpa using hh.symm
    cases h
    rw [hj, Nat.add_comm]
theorem fmod2 (x : Int) : (x.fmod 2 == 0) = (x % 2 == 0) := by rw [Int.fmod_eq_emod_of_nonneg _ (by decide)]
set_option maxHeartbeats 8000000 in
theorem s3
(w : World) (mean : ExcName → Option Value) (mg mb : Str → Option Value) (dp un : Nat) (gd : Option (List Code)) (A₀ : Around) (h₀ : Heap) (L fa : Addr) (cd : Value) (m : Str → Option Value) (s : Shared) (Q : Flow → Shared → Prop) (E : Value → Shared → Prop)
    (B : Below A₀ h₀ [] h₀) (F : Fr h₀ L s.heap m) (X : (Mine.hd.heap_39 w.params).In h₀) (T : Top Mine.hd.view_39 (looseW Mine.hd.view_39 []) mean mg mb h₀) (hd : dp + 80 < recursionLimit) (hu : un + 400 < cLine)
    (d f : Addr) (us fs : List Value) (nf : Nat) (ns : List Int) (o1 o2 o3 o4 o5 o6 : Obj) (hfs : IntsAre fs (frontsOf ns ns.length)) (hn : ns.length ≤ 24) (d2 : o2.data = .cell (some (.ref f))) (N : News h₀ L s.heap [(f, listOf fs.toArray nf), (d, LCg.lst us), (L + 1 + 1 + 1 + 1 + 1 + 1, o6), (L + 1 + 1 + 1 + 1 + 1, o5), (L + 1 + 1 + 1 + 1, o4), (L + 1 + 1 + 1, o3), (L + 1 + 1, o2), (L + 1, o1)])
    (off : LCg.Off1 f [(d, LCg.lst us), (L + 1 + 1 + 1 + 1 + 1 + 1, o6), (L + 1 + 1 + 1 + 1 + 1, o5), (L + 1 + 1 + 1 + 1, o4), (L + 1 + 1 + 1, o3), (L + 1 + 1, o2), (L + 1, o1)]) (offd : LCg.Off1 d [(L + 1 + 1 + 1 + 1 + 1 + 1, o6), (L + 1 + 1 + 1 + 1 + 1, o5), (L + 1 + 1 + 1 + 1, o4), (L + 1 + 1 + 1, o3), (L + 1 + 1, o2), (L + 1, o1)])
    (ret : ∀ h tk m' t, Fr h₀ L h m' → News h₀ L h [(f, listOf fs.toArray nf), (d, LCg.lst us), (L + 1 + 1 + 1 + 1 + 1 + 1, o6), (L + 1 + 1 + 1 + 1 + 1, o5), (L + 1 + 1 + 1 + 1, o4), (L + 1 + 1 + 1, o3), (L + 1 + 1, o2), (L + 1, o1)] → m' (Str.ofString "free") = some (.int (freeOf ns : Nat) t) → wpAny (model PySem.Challenge.rw_ph0015_01.row.prog w) { handled := none, depth := dp, frames := some [envOfC (Str.ofString "law") lawScope L fa cd], guards := gd, units := un } (execs (lawBody.drop 4) (envOfC (Str.ofString "law") lawScope L fa cd)) Q E { s with heap := h, toks := tk }) :
    wpAny (model PySem.Challenge.rw_ph0015_01.row.prog w) { handled := none, depth := dp, frames := some [envOfC (Str.ofString "law") lawScope L fa cd], guards := gd, units := un } (execs (lawBody.drop 3) (envOfC (Str.ofString "law") lawScope L fa cd)) Q E s := by
  simp only [LCg.Off1, and_true] at off offd
  have hfl := hfs.length
  have hfr : (frontsOf ns ns.length).length = ns.length + 1 := by simp [frontsOf]
  w_on
  revert X
  k_fill
  intro X
  rw [show lawBody.drop 3 = lawBody[3]'(by decide) :: lawBody.drop (3 + 1) from List.drop_eq_getElem_cons (by decide)]
  conv in (lawBody[3]'_) => whnf
  generalize lawBody.drop (3 + 1) = rest at ret ⊢
  repeat' (first | (k_unfold; (try dsimp only)) | ((fail_if_success (with_reducible show wpAny _ _ (eval (Expr.ListComp _ _ _ _) _) _ _ _)); walk1) | ((fail_if_success (with_reducible show wpAny _ _ (eval (Expr.ListComp _ _ _ _) _) _ _ _)); dsimp only; walk1))
  rename Fr _ _ _ _ => FF
  refine LCt.ListComp_T (F₀ := FF) (by with_unfolding_all rfl) (by decide) (by rfl) (by decide) (by rfl) ?_
  repeat' (first | (k_unfold; (try dsimp only)) | ((fail_if_success (with_reducible show LCt.CompSrcT _ _ _ _ _ _ _ _ _ _ _ _ _ _ _)); walk1) | ((fail_if_success (with_reducible show LCt.CompSrcT _ _ _ _ _ _ _ _ _ _ _ _ _ _ _)); dsimp only; walk1))
  rename News _ _ _ _ => NN
  rename Fr _ _ _ _ => FF
  rename IntsAre _ (List.drop 1 _) => hI
  rename_i _ ws _ _ _ l1
  have hsz : ws.toArray.size = ns.length := by have := hI.length; simp only [List.length_drop] at this; rw [List.size_toArray]; omega
  refine LCt.CompSrcT.ledger (by rfl) FF NN (List.mem_cons_self) (by rw [hsz, sizeLine_eq]; omega) ?_
  intro g
  rw [hsz]
  refine comp_restT (evenAt ns) (fun _ _ => True) (Or.inr ⟨_, List.mem_cons_self, rfl, _, rfl⟩) ?turn ?el ?fin
  case turn =>
    intro i v I oI C oC D m₂ ys h tk E' hin hv hC hx F N
    obtain ⟨x, t, rfl, hx'⟩ := IntsAre.at hI i v (by simpa using hv)
    have hxx := frontsOf_at hx'
    repeat' (first | (k_unfold; (try dsimp only)) | ((fail_if_success (with_reducible show (_ ∧ ElEnd _ _ _ _ _ _ _ _))); walk1) | ((fail_if_success (with_reducible show (_ ∧ ElEnd _ _ _ _ _ _ _ _))); dsimp only; walk1))
    refine ⟨?_, ElEnd.intro (by k_asm) (by k_asm) (fun p hp => hp) trivial⟩
    rw [fmod2, hxx]
    rfl
  case el =>
    intro i v I oI C oC D m₂ ys h tk E' hin hv hp hC hx F N
    obtain ⟨x, t, rfl, hx'⟩ := IntsAre.at hI i v (by simpa using hv)
    repeat' (first | (k_unfold; (try dsimp only)) | ((fail_if_success (with_reducible show ElEnd _ _ _ _ _ _ _ _)); walk1) | ((fail_if_success (with_reducible show ElEnd _ _ _ _ _ _ _ _)); dsimp only; walk1))
    exact ElEnd.intro (by k_asm) (by k_asm) (fun p hp => hp) trivial
  case fin =>
    intro ys hlen hg
    have hyl : ys.length = freeOf ns := hlen
    have hyl2 : ys.length ≤ 24 := by
      rw [hlen]
      refine Nat.le_trans (List.length_filter_le _ _) ?_
      rw [List.length_range]; exact hn
    clear hg
    intro D h tk F N off2
    simp only [LCg.Off1, and_true] at off2
    dsimp only
    repeat' (first | (k_unfold; (try dsimp only)) | ((fail_if_success (with_reducible show wpAny _ _ (call (Value.builtin _) _) _ _ _)); walk1) | ((fail_if_success (with_reducible show wpAny _ _ (call (Value.builtin _) _) _ _ _)); dsimp only; walk1))
    refine len_led (by k_asm) List.mem_cons_self (by omega) ?_
    repeat' (first | (k_unfold; (try dsimp only)) | ((fail_if_success (with_reducible show wpAny _ _ (execs rest _) _ _ _)); walk1) | ((fail_if_success (with_reducible show wpAny _ _ (execs rest _) _ _ _)); dsimp only; walk1))
    rename News _ _ _ _ => NN3
    rename Fr _ _ _ _ => FF3
    rw [hyl] at FF3
    exact ret _ _ _ _ FF3 (fun p hp => NN3 p (List.mem_cons_of_mem _ (List.mem_cons_of_mem _ hp))) (if_pos rfl)
end Mine
end
section
open PySem PySem.W PyProof.Rows PySem.Spec PySem.Calls
set_option Elab.async false
set_option maxRecDepth 100000
namespace Mine
local macro_rules | `(tactic| k_room) => `(tactic| ((try simp only [depth_under_make, depth_under_kw, depth_in1, depth_deeper, depth_caller]); omega))
local macro_rules | `(tactic| walk_at "execs cons") => `(tactic| (k_here; (with_reducible refine wpAny_execs_cons ?_); try dsimp only))
local macro_rules | `(tactic| walk_at "eval Constant int") => `(tactic| (k_here; refine wpAny_Constant_int ?_; dsimp only))
local macro_rules | `(tactic| walk_at "execs nil") => `(tactic| (k_here; (with_reducible refine wpAny_execs_nil ?_); try dsimp only))
local macro_rules | `(tactic| walk_at "eval Name") => `(tactic| (k_here; k_dflt (refine' nameX_L ?F ?v ?_ ?a ?b; (case F => k_asm); (case a => rfl); (case b => rfl); (case v => (first | exact rfl | assumption | ((repeat rw [if_neg (by decide)]); (try rw [if_pos rfl]); first | rfl | assumption))); k_whole)))
section
variable {prog : Program} {w : World} {A : Around} {E : Value → Shared → Prop} {s : Shared} {h₀ : Heap} {L : Addr} {m : Str → Option Value} {env : Env}
/-- the source of a comprehension is a range of any step -/
def SrcStep (prog : Program) (w : World) (A : Around) (h₀ : Heap) (L : Addr) (m : Str → Option Value) (env : Env) (elt : Expr) (x : Str) (scope : Scope) (cl : List (Str × Addr)) (Fin : Shared → List Value → List (Addr × Obj) → Prop) (xv : Value) (s₁ : Shared) : Prop :=
  ∃ r a b c t u v n news, xv = .ref r ∧ A.handled = none ∧ Fr h₀ L s₁.heap m ∧ News h₀ L s₁.heap news ∧ IsRange s₁.heap r a b c t u v ∧ Builtin.Range.small a b c = true ∧ Builtin.Range.rangeSize a b c = ((n : Nat) : Int) ∧ n ≤ sizeLine ∧
    ∀ s₂ : Shared, (∃ h, s₂ = { s₁ with heap := h }) → LCg.CompRest prog w A h₀ L m env elt x scope cl s₂ (fun _ => True) (fun i v => i < n ∧ ∃ t, v = .int (a + (i : Int) * c) t) (Fin s₂) n 0 [] news
theorem ListComp_step {elt iter : Expr} {x : Str} {px : Pos} {scope : Scope} {cl : List (Str × Addr)} {pos : Pos} {Q : Value → Shared → Prop} (F₀ : Fr h₀ L s.heap m)
    (hclos : closureFor scope env = pure cl) (hcell : ∀ y ∈ scope.names, y.2 ≠ .cell) (hkind : scope.kind = .function)
    (hnames : ∀ y ∈ scope.names, y.2 = .local → scope.names.lookup y.1 = some .local) (hx : scope.names.lookup x = some .local)
    (h : wpAny (model prog w) A (eval iter env) (SrcStep prog w A h₀ L m env elt x scope cl (fun s₂ => LCg.FinE h₀ L m s₂ Q)) E s)
    (hs : ∀ x, foldedSetIterable iter env x = pure x := by intro _; rfl) :
    wpAny (model prog w) A (eval (.ListComp elt [⟨.Name x px, iter, [], 0⟩] scope pos) env) Q E s := by
  rw [eval_ListComp]
  refine wpAny_comprehension_free (use := none) rfl hs hclos hkind hnames (wpAny_mono h (fun xv s₁ h₁ => ?_) fun _ _ e => e)
  obtain ⟨r, a, b, c, t, u, v, n, news, rfl, hh, F, N, hr, hsm, hn, hsz, R⟩ := h₁
  refine wpAny_pyIter_range hr hsm ?_
  have st : ∀ i (h h' : Heap) (o : Obj) (nw : List (Addr × Obj)), IsRangeIter h s₁.heap.objs.size (a + (i : Nat) * c) ((n : Int) - (i : Nat)) c → h.get? s₁.heap.objs.size = some o → h'.get? s₁.heap.objs.size = some o →
      (∀ b o, h₀.get? b = some o → h'.get? b = some o) → News h₀ L h' nw → True → IsRangeIter h' s₁.heap.objs.size (a + (i : Nat) * c) ((n : Int) - (i : Nat)) c :=
    fun i h h' o nw q e e' _ _ _ => by
      have q' : h.get? s₁.heap.objs.size = some _ := q
      show h'.get? _ = some _
      rw [e', ← e]
      exact q'
  refine LCg.block_U (Walks.range hh s₁.heap.objs.size a c n).bound hsz (fun i h q => ⟨_, q⟩) st hcell hkind hx (by show IsRangeIter _ _ _ _ _; rw [hn]; simpa using Heap.get?_push_size _ rfl) (fun b hb => ?_)
    (F.keeps fun _ _ e => Heap.get?_push_of_some _ e) (N.grown fun _ _ e => Heap.get?_push_of_some _ e) (Nat.ne_of_lt F.ns.lt) (next_is_new F) (fun p hp => Nat.ne_of_lt (Heap.lt_size (N p hp).1)) trivial (R _ ⟨_, rfl⟩) ?_
  · rw [List.mem_singleton.mp hb]
    show s₁.heap.objs.size < (s₁.heap.push _).objs.size
    rw [Heap.size_push]
    exact Nat.lt_succ_self _
  · intro D C h tk m' ys news' F' N' o1 hn' hC₀ hD₀ hCL hDL hCD offC fin
    refine ⟨m', hn', fun h'' hs'' => fin D h'' tk (F'.change hs'' hCL hC₀) (fun p hp => ?_) o1⟩
    refine ⟨hs''.extBut _ _ ?_ (N' p hp).1, (N' p hp).2⟩
    rcases List.mem_cons.mp hp with rfl | hp
    · exact Ne.symm hCD
    · exact offC p hp
end
/-- what _law_lasting told of the multiplier mm: a tuple, and the list of its sums -/
def ToldAt (ns : List Int) (mm : Int) (y : Value) (add : List (Addr × Obj)) : Prop :=
  ∃ (last T tkb : Nat) (a d : Addr) (us : List Value) (n₂ : Nat) (t₁ t₂ : Tok), y = .ref a ∧ (a, ({ cls := .type "tuple", data := .seq #[.int (last : Nat) t₁, .str (if last < ns.length then Str.ofString "" else noWords) t₂, .ref d] } : Obj)) ∈ add ∧ (d, listOf us.toArray n₂) ∈ add ∧
    last ≤ T ∧ T ≤ ns.length ∧ (∀ j, j < last → okAt mm ns j = true) ∧ (last < ns.length → okAt mm ns last = false) ∧ SumsOk mm ns us T tkb
theorem ToldAt.more {ns : List Int} {mm : Int} {y : Value} {b c : List (Addr × Obj)} (h : ToldAt ns mm y b) (hs : ∀ p ∈ b, p ∈ c) : ToldAt ns mm y c := by
  obtain ⟨last, T, tkb, a, d, us, n₂, t₁, t₂, e, h1, h2, r⟩ := h
  exact ⟨last, T, tkb, a, d, us, n₂, t₁, t₂, e, hs _ h1, hs _ h2, r⟩
theorem swap3 {α : Type} {a b c : α} {x y : List α} {p : α} (h : p ∈ a :: b :: c :: (y ++ x)) : p ∈ a :: b :: c :: (x ++ y) := by
  simp only [List.mem_cons, List.mem_append] at h ⊢
  rcases h with h | h | h | h | h
  · exact .inl h
  · exact .inr (.inl h)
  · exact .inr (.inr (.inl h))
  · exact .inr (.inr (.inr (.inr h)))
  · exact .inr (.inr (.inr (.inl h)))
theorem swap1 {α : Type} {a : α} {x y : List α} {p : α} (h : p ∈ a :: (y ++ x)) : p ∈ a :: (x ++ y) := by
  simp only [List.mem_cons, List.mem_append] at h ⊢
  rcases h with h | h | h
  · exact .inl h
  · exact .inr (.inr h)
  · exact .inr (.inl h)
theorem off_mem {D : Addr} : ∀ {l : List (Addr × Obj)}, LCg.Off1 D l → ∀ p ∈ l, p.1 ≠ D
  | [], _, _, h => nomatch h
  | _ :: _, x, p, h => by
    rcases List.mem_cons.mp h with rfl | h
    · exact x.1
    · exact off_mem x.2 p h
local macro_rules | `(tactic| k_all) => `(tactic| assumption)
set_option maxHeartbeats 8000000 in
theorem s4
(w : World) (mean : ExcName → Option Value) (mg mb : Str → Option Value) (dp un : Nat) (gd : Option (List Code)) (A₀ : Around) (h₀ : Heap) (L fa : Addr) (cd : Value) (m : Str → Option Value) (s : Shared) (Q : Flow → Shared → Prop) (E : Value → Shared → Prop)
    (B : Below A₀ h₀ [] h₀) (F : Fr h₀ L s.heap m) (X : (Mine.hd.heap_39 w.params).In h₀) (T : Top Mine.hd.view_39 (looseW Mine.hd.view_39 []) mean mg mb h₀) (hd : dp + 80 < recursionLimit) (hu : un + 400 < cLine)
    (d f : Addr) (us fs : List Value) (nf : Nat) (ns : List Int) (o1 o2 o3 o4 o5 o6 : Obj) (hi : IntsAre us ns) (hn : ns.length ≤ 24) (d1 : o1.data = .cell (some (.ref d))) (d3 : o3.data = .cell none) (N : News h₀ L s.heap [(f, listOf fs.toArray nf), (d, LCg.lst us), (L + 1 + 1 + 1 + 1 + 1 + 1, o6), (L + 1 + 1 + 1 + 1 + 1, o5), (L + 1 + 1 + 1 + 1, o4), (L + 1 + 1 + 1, o3), (L + 1 + 1, o2), (L + 1, o1)])
    (off : LCg.Off1 f [(d, LCg.lst us), (L + 1 + 1 + 1 + 1 + 1 + 1, o6), (L + 1 + 1 + 1 + 1 + 1, o5), (L + 1 + 1 + 1 + 1, o4), (L + 1 + 1 + 1, o3), (L + 1 + 1, o2), (L + 1, o1)]) (offd : LCg.Off1 d [(L + 1 + 1 + 1 + 1 + 1 + 1, o6), (L + 1 + 1 + 1 + 1 + 1, o5), (L + 1 + 1 + 1 + 1, o4), (L + 1 + 1 + 1, o3), (L + 1 + 1, o2), (L + 1, o1)])
    (ret : ∀ h tk tl ys add o3', Fr h₀ L h m → News h₀ L h ((tl, LCg.lst ys) :: (f, listOf fs.toArray nf) :: (d, LCg.lst us) :: (L + 1 + 1 + 1 + 1 + 1 + 1, o6) :: (L + 1 + 1 + 1 + 1 + 1, o5) :: (L + 1 + 1 + 1 + 1, o4) :: (L + 1 + 1 + 1, o3') :: (L + 1 + 1, o2) :: (L + 1, o1) :: add) →
      o3'.data = .cell (some (.ref tl)) → ys.length = 16 → (∀ (i : Nat) y, ys[i]? = some y → ToldAt ns (1 + (i : Int) * 2) y add) → (∀ p ∈ add, ∀ q ∈ [(f, listOf fs.toArray nf), (d, LCg.lst us), (L + 1 + 1 + 1 + 1 + 1 + 1, o6), (L + 1 + 1 + 1 + 1 + 1, o5), (L + 1 + 1 + 1 + 1, o4), (L + 1 + 1 + 1, o3), (L + 1 + 1, o2), (L + 1, o1)], p.1 ≠ q.1) → (∀ p ∈ [(f, listOf fs.toArray nf), (d, LCg.lst us), (L + 1 + 1 + 1 + 1 + 1 + 1, o6), (L + 1 + 1 + 1 + 1 + 1, o5), (L + 1 + 1 + 1 + 1, o4), (L + 1 + 1 + 1, o3), (L + 1 + 1, o2), (L + 1, o1)], p.1 ≠ tl) → (∀ p ∈ add, p.1 ≠ tl) → wpAny (model PySem.Challenge.rw_ph0015_01.row.prog w) { handled := none, depth := dp, frames := some [envOfC (Str.ofString "law") lawScope L fa cd], guards := gd, units := un } (execs (lawBody.drop 5) (envOfC (Str.ofString "law") lawScope L fa cd)) Q E { s with heap := h, toks := tk }) :
    wpAny (model PySem.Challenge.rw_ph0015_01.row.prog w) { handled := none, depth := dp, frames := some [envOfC (Str.ofString "law") lawScope L fa cd], guards := gd, units := un } (execs (lawBody.drop 4) (envOfC (Str.ofString "law") lawScope L fa cd)) Q E s := by
  simp only [LCg.Off1, and_true] at off offd
  w_on
  revert X
  k_fill
  intro X
  rw [show lawBody.drop 4 = lawBody[4]'(by decide) :: lawBody.drop (4 + 1) from List.drop_eq_getElem_cons (by decide)]
  conv in (lawBody[4]'_) => whnf
  generalize lawBody.drop (4 + 1) = rest at ret ⊢
  repeat' (first | (k_unfold; (try dsimp only)) | ((fail_if_success (with_reducible show wpAny _ _ (eval (Expr.ListComp _ _ _ _) _) _ _ _)); walk1) | ((fail_if_success (with_reducible show wpAny _ _ (eval (Expr.ListComp _ _ _ _) _) _ _ _)); dsimp only; walk1))
  rename Fr _ _ _ _ => FF
  refine ListComp_step (F₀ := FF) (by with_unfolding_all rfl) (by decide) (by rfl) (by decide) (by rfl) ?_
  repeat' (first | (k_unfold; (try dsimp only)) | ((fail_if_success (with_reducible show SrcStep _ _ _ _ _ _ _ _ _ _ _ _ _ _)); walk1) | ((fail_if_success (with_reducible show SrcStep _ _ _ _ _ _ _ _ _ _ _ _ _ _)); dsimp only; walk1))
  rename IsRange _ _ _ _ _ _ _ _ => hR
  rename News _ _ _ _ => NN
  rename Fr _ _ _ _ => FF
  refine ⟨_, _, _, _, _, _, _, 16, _, rfl, rfl, FF, NN, hR, by decide, by decide, by rw [sizeLine_eq]; omega, ?_⟩
  rintro _ ⟨g, rfl⟩
  refine comp_restG (fun p => ∀ q ∈ [(f, listOf fs.toArray nf), (d, LCg.lst us), (L + 1 + 1 + 1 + 1 + 1 + 1, o6), (L + 1 + 1 + 1 + 1 + 1, o5), (L + 1 + 1 + 1 + 1, o4), (L + 1 + 1 + 1, o3), (L + 1 + 1, o2), (L + 1, o1)], p.1 ≠ q.1) (fun i y add => ToldAt ns (1 + (i : Int) * 2) y add) (fun _ => trivial) ?turn (fun i y a b c hb hs e => e ▸ hb.more hs) ?fin
  case turn =>
    intro i v I oI C oC D m₂ ys add h tk E' hin hv hC hx F N hR
    obtain ⟨_, t, rfl⟩ := hv
    have N2 : News h₀ L h ((I, oI) :: (C, oC) :: (D, LCg.lst ys) :: (f, listOf fs.toArray nf) :: (d, LCg.lst us) :: (L + 1 + 1 + 1 + 1 + 1 + 1, o6) :: (L + 1 + 1 + 1 + 1 + 1, o5) :: (L + 1 + 1 + 1 + 1, o4) :: (L + 1 + 1 + 1, o3) :: (L + 1 + 1, o2) :: (L + 1, o1) :: add) :=
      fun p hp => N p (swap3 (y := [(f, listOf fs.toArray nf), (d, LCg.lst us), (L + 1 + 1 + 1 + 1 + 1 + 1, o6), (L + 1 + 1 + 1 + 1 + 1, o5), (L + 1 + 1 + 1 + 1, o4), (L + 1 + 1 + 1, o3), (L + 1 + 1, o2), (L + 1, o1)]) hp)
    clear NN FF
    repeat' (first | (k_unfold; (try dsimp only)) | ((fail_if_success (with_reducible show wpAny _ _ (call (Value.ref _) _) _ _ _)); walk1) | ((fail_if_success (with_reducible show wpAny _ _ (call (Value.ref _) _) _ _ _)); dsimp only; walk1))
    refine TellsS.useN (t_lasting w d (1 + (i : Int) * 2) t us ns hi (by omega) (by omega)) B (by k_asm) X T N rfl rfl rfl rfl (by dsimp only; omega) (by dsimp only; omega) (isList_led N2 (by k_mem)) ?_
    rintro v h' tk' st ⟨last, TT, tkb, a, dd, us', n₂, t₁, t₂, rfl, hna, hnd, hne, hga, hgd, facts⟩ F1 N1
    have k1 := fresh_off N hna
    have k2 := fresh_off N hnd
    show ElEndG _ _ _ _ _ _ _ _ _ _
    refine ⟨h', tk', [(a, { cls := .type "tuple", data := .seq #[.int (last : Nat) t₁, .str (if last < ns.length then Str.ofString "" else noWords) t₂, .ref dd] }), (dd, listOf us'.toArray n₂)], rfl, F1, ?_, ?_, ?_, ?_⟩
    · have N3 := fresh_in (by k_asm) hna hga (fresh_in (by k_asm) hnd hgd N1)
      intro p hp
      refine N3 p ?_
      rcases List.mem_append.mp hp with hp | hp
      · exact List.mem_cons_of_mem _ (List.mem_cons_of_mem _ (List.mem_append_left (bs := add ++ _) hp))
      · rcases List.mem_append.mp hp with hp | hp
        · simp only [List.mem_cons, List.not_mem_nil, or_false] at hp
          rcases hp with rfl | rfl
          · exact List.mem_cons_self
          · exact List.mem_cons_of_mem _ List.mem_cons_self
        · exact List.mem_cons_of_mem _ (List.mem_cons_of_mem _ (List.mem_append_right (as := [(I, oI), (C, oC), (D, LCg.lst ys)]) hp))
    · intro p hp q hq e
      simp only [List.mem_cons, List.not_mem_nil, or_false] at hp
      have hq' : q ∈ (I, oI) :: (C, oC) :: (D, LCg.lst ys) :: (add ++ [(f, listOf fs.toArray nf), (d, LCg.lst us), (L + 1 + 1 + 1 + 1 + 1 + 1, o6), (L + 1 + 1 + 1 + 1 + 1, o5), (L + 1 + 1 + 1 + 1, o4), (L + 1 + 1 + 1, o3), (L + 1 + 1, o2), (L + 1, o1)]) := List.mem_append_left (bs := add ++ _) hq
      rcases hp with rfl | rfl
      · exact k1 q hq' e.symm
      · exact k2 q hq' e.symm
    · intro p hp q hq e
      simp only [List.mem_cons, List.not_mem_nil, or_false] at hp
      have hq' : q ∈ (I, oI) :: (C, oC) :: (D, LCg.lst ys) :: (add ++ [(f, listOf fs.toArray nf), (d, LCg.lst us), (L + 1 + 1 + 1 + 1 + 1 + 1, o6), (L + 1 + 1 + 1 + 1 + 1, o5), (L + 1 + 1 + 1 + 1, o4), (L + 1 + 1 + 1, o3), (L + 1 + 1, o2), (L + 1, o1)]) := List.mem_cons_of_mem _ (List.mem_cons_of_mem _ (List.mem_cons_of_mem _ (List.mem_append_right _ hq)))
      rcases hp with rfl | rfl
      · exact k1 q hq' e.symm
      · exact k2 q hq' e.symm
    · exact ⟨last, TT, tkb, a, dd, us', n₂, t₁, t₂, rfl, by simp, by simp, facts⟩
  case fin =>
    intro ys add hlen hR hg
    intro D h tk F N off2
    have ko := off_mem off2
    have N2 : News h₀ L h ((D, LCg.lst ys) :: (f, listOf fs.toArray nf) :: (d, LCg.lst us) :: (L + 1 + 1 + 1 + 1 + 1 + 1, o6) :: (L + 1 + 1 + 1 + 1 + 1, o5) :: (L + 1 + 1 + 1 + 1, o4) :: (L + 1 + 1 + 1, o3) :: (L + 1 + 1, o2) :: (L + 1, o1) :: add) :=
      fun p hp => N p (swap1 (y := [(f, listOf fs.toArray nf), (d, LCg.lst us), (L + 1 + 1 + 1 + 1 + 1 + 1, o6), (L + 1 + 1 + 1 + 1 + 1, o5), (L + 1 + 1 + 1 + 1, o4), (L + 1 + 1 + 1, o3), (L + 1 + 1, o2), (L + 1, o1)]) hp)
    have ko1 : ∀ p ∈ [(f, listOf fs.toArray nf), (d, LCg.lst us), (L + 1 + 1 + 1 + 1 + 1 + 1, o6), (L + 1 + 1 + 1 + 1 + 1, o5), (L + 1 + 1 + 1 + 1, o4), (L + 1 + 1 + 1, o3), (L + 1 + 1, o2), (L + 1, o1)], p.1 ≠ D := fun p hp => ko p (List.mem_append_right _ hp)
    have ko2 : ∀ p ∈ add, p.1 ≠ D := fun p hp => ko p (List.mem_append_left _ hp)
    have ko3 : ∀ p ∈ add, p.1 ≠ L + 1 + 1 + 1 := fun p hp => hR p hp (L + 1 + 1 + 1, o3) (by k_mem)
    have ko4 : L + 1 + 1 + 1 ≠ D := ko1 (L + 1 + 1 + 1, o3) (by k_mem)
    replace ko4 := W.neN ko4
    clear N NN FF
    dsimp only
    repeat' (first | (k_unfold; (try dsimp only)) | ((fail_if_success (with_reducible show wpAny _ _ (execs rest _) _ _ _)); walk1) | ((fail_if_success (with_reducible show wpAny _ _ (execs rest _) _ _ _)); dsimp only; walk1))
    rename News _ _ _ _ => NN
    exact ret _ _ _ _ _ _ (by k_asm) NN (by k_asm) hlen hg hR ko1 ko2
end Mine
end
section
open PySem PySem.W PyProof.Rows PySem.Spec PySem.Calls
set_option Elab.async false
set_option maxRecDepth 100000
namespace Mine
local macro_rules | `(tactic| k_room) => `(tactic| ((try simp only [depth_under_make, depth_under_kw, depth_in1, depth_deeper, depth_caller]); omega))
local macro_rules | `(tactic| walk_at "execs cons") => `(tactic| (k_here; (with_reducible refine wpAny_execs_cons ?_); try dsimp only))
local macro_rules | `(tactic| walk_at "eval Constant int") => `(tactic| (k_here; refine wpAny_Constant_int ?_; dsimp only))
local macro_rules | `(tactic| walk_at "execs nil") => `(tactic| (k_here; (with_reducible refine wpAny_execs_nil ?_); try dsimp only))
local macro_rules | `(tactic| walk_at "eval Name") => `(tactic| (k_here; k_dflt (refine' nameX_L ?F ?v ?_ ?a ?b; (case F => k_asm); (case a => rfl); (case b => rfl); (case v => (first | exact rfl | assumption | ((repeat rw [if_neg (by decide)]); (try rw [if_pos rfl]); first | rfl | assumption))); k_whole)))
section
variable {prog : Program} {w : World} {A : Around} {E : Value → Shared → Prop} {s : Shared} {env : Env} {h₀ : Heap}
/-- as for_list, the target a tuple of names -/
theorem for_listT {elts : List Expr} {x1} {tpos : Pos} {iter : Expr} {body : List Stmt} {pos : Pos} {Q : Flow → Shared → Prop} {l : Addr} {vs : List Value} {m₀ : Str → Option Value} {news : List (Addr × Obj)}
    (J : Nat → (Str → Option Value) → List (Addr × Obj) → Nat → Prop) (hh : A.handled = none) (hE : PassesOwn (model prog w) A env E)
    (hl : ∀ i m nw tk h, J i m nw tk → Fr h₀ env.locals h m → News h₀ env.locals h nw → h.IsList l vs.toArray)
    (F : Fr h₀ env.locals s.heap m₀) (N : News h₀ env.locals s.heap news) (h0 : J 0 m₀ news s.toks)
    (hev : ∀ Q' : Value → Shared → Prop, Q' (.ref l) s → wpAny (model prog w) A (eval iter env) Q' E s)
    (turn : ∀ i v m₁ nw h tk own, vs[i]? = some v → J i m₁ nw tk → OwnOff own (nw.map (·.1)) → Fr h₀ env.locals h m₁ → News h₀ env.locals h (nw ++ own) →
      wpAny (model prog w) A (assign (.Tuple elts x1 tpos) env v) (fun _ s₂ => wpAny (model prog w) A (execs body env) (TurnEnd h₀ env.locals s own (J (i + 1)) Q) E s₂) E { s with heap := h, toks := tk })
    (done : ∀ m₁ nw h tk, J vs.length m₁ nw tk → Fr h₀ env.locals h m₁ → News h₀ env.locals h nw → Q .next { s with heap := h, toks := tk })
    (ho : ∀ v ∈ vs, ∃ a, v = .ref a)
    (hs : ∀ x, foldedSetIterable iter env x = pure x := by intro _; rfl) :
    wpAny (model prog w) A (exec (.For (.Tuple elts x1 tpos) iter body [] pos) env) Q E s := by
  refine wpAny_For (hev _ ?_) hs
  have hls := hl _ _ _ _ _ h0 F N
  refine wpAny_pyIter_list hls ?_
  generalize hI : s.heap.objs.size = I
  have hIn : s.heap.get? I = none := by
    cases e : s.heap.get? I with
    | none => rfl
    | some o => exact absurd (Heap.lt_size e) (by rw [hI]; exact Nat.lt_irrefl _)
  have hI₀ : h₀.get? I = none := by
    cases e : h₀.get? I with
    | none => rfl
    | some o => have := F.keep _ _ e; rw [hIn] at this; cases this
  have hLI : env.locals ≠ I := by
    intro e
    have := F.ns.lt
    rw [e, ← hI] at this
    exact Nat.lt_irrefl _ this
  refine codeAny_forLoop_any
    (fun k s' => ∃ h' tk m' nw i, s' = { s with heap := h', toks := tk } ∧ h'.IsListIter I l i ∧ Fr h₀ env.locals h' m' ∧ News h₀ env.locals h' nw ∧ (∀ p ∈ nw, p.1 ≠ I) ∧ J i m' nw tk ∧ i ≤ vs.length ∧ k = vs.length + 1 - i)
    ?_ (vs.length + 1) ⟨_, _, m₀, news, 0, rfl, ⟨_, by rw [← hI]; exact Heap.get?_push_size _ rfl, rfl, rfl⟩, F.push _, (fun p hp => ⟨Heap.get?_push_of_some _ (N p hp).1, (N p hp).2⟩),
      (fun p hp e => by have := (N p hp).1; rw [e, hIn] at this; cases this), h0, Nat.zero_le _, rfl⟩
  rintro k s' ⟨h', tk, m', nw, i, rfl, hit, F', N', hoff, hJ, hi, rfl⟩
  have hl' := hl _ _ _ _ _ hJ F' N'
  cases hv : vs[i]? with
  | none =>
    have hin : i = vs.length := Nat.le_antisymm hi (by simpa using hv)
    subst hin
    refine wpAny_pyNext_list_end hh hit hl' (by simpa using hv) fun h₁ he => wpAny_execs_nil ?_
    refine done m' nw h₁ tk hJ ⟨F'.ns.at' fun o e => he _ o hLI e, fun b o e => he b o (fun q => by rw [q, hI₀] at e; cases e) (F'.keep b o e), F'.above⟩ fun p hp => ⟨he _ _ (hoff p hp) (N' p hp).1, (N' p hp).2⟩
  | some v =>
    have hlt : i < vs.length := (List.getElem?_eq_some_iff.mp hv).1
    obtain ⟨av, rfl⟩ := ho v (List.mem_of_getElem? hv)
    refine wpAny_pyNext_list_item hit hl' (by simpa using hv) fun h₁ hit₁ hs₁ => ?_
    refine wpAny_letOwnedTupleGo_listiter hit₁ ?_
    have ex : ∀ b o, b ≠ I → h'.get? b = some o → h₁.get? b = some o := fun b o hb e => (hs₁.2 b hb).trans e
    have F₁ : Fr h₀ env.locals h₁ m' := ⟨F'.ns.at' fun o e => ex _ o hLI e, fun b o e => ex b o (fun q => by rw [q, hI₀] at e; cases e) (F'.keep b o e), F'.above⟩
    obtain ⟨oI, hoI, hoc, hod⟩ := id hit₁
    have N₁ : News h₀ env.locals h₁ (nw ++ [(I, oI)]) := fun p hp => by
      rcases List.mem_append.mp hp with hp | hp
      · exact ⟨ex _ _ (hoff p hp) (N' p hp).1, (N' p hp).2⟩
      · rw [List.mem_singleton.mp hp]
        exact ⟨hoI, Ne.symm hLI, hI₀⟩
    have off₁ : OwnOff [(I, oI)] (nw.map (·.1)) := fun p hp b hb e => by
      rw [List.mem_singleton.mp hp] at e
      obtain ⟨q, hq, rfl⟩ := List.mem_map.mp hb
      exact hoff q hq e.symm
    refine wpAny_passesOwn hE (wpAny_mono (turn i _ m' nw h₁ tk [(I, oI)] hv hJ off₁ F₁ N₁) (fun _ s₂ h₂ => wpAny_passesOwn hE (wpAny_mono h₂ (fun f s₃ h₃ => ?_) fun _ _ e => e)) fun _ _ e => e)
    have fin : (∃ h' tk m' nw all, s₃ = { s with heap := h', toks := tk } ∧ Fr h₀ env.locals h' m' ∧ News h₀ env.locals h' all ∧ (∀ p ∈ nw, p ∈ all) ∧ (∀ p ∈ [(I, oI)], p ∈ all) ∧ OwnOff [(I, oI)] (nw.map (·.1)) ∧ J (i + 1) m' nw tk) →
        ∃ m, m < vs.length + 1 - i ∧ ∃ h' tk m' nw i, s₃ = { s with heap := h', toks := tk } ∧ h'.IsListIter I l i ∧ Fr h₀ env.locals h' m' ∧ News h₀ env.locals h' nw ∧ (∀ p ∈ nw, p.1 ≠ I) ∧ J i m' nw tk ∧ i ≤ vs.length ∧ m = vs.length + 1 - i := by
      rintro ⟨h₄, tk₄, m₄, nw₄, all₄, e, F₄, N₄, hn₄, ho₄, off₄, hJ₄⟩
      refine ⟨vs.length + 1 - (i + 1), by omega, h₄, tk₄, m₄, nw₄, i + 1, e, ⟨oI, (N₄ _ (ho₄ _ (List.mem_singleton.mpr rfl))).1, hoc, hod⟩, F₄, fun p hp => N₄ p (hn₄ p hp), ?_, hJ₄, hlt, rfl⟩
      intro p hp e
      exact off₄ (I, oI) (List.mem_singleton.mpr rfl) p.1 (List.mem_map_of_mem hp) e.symm
    cases f with
    | ret v => exact h₃
    | brk => exact h₃
    | next => exact fin h₃
    | cont => exact fin h₃
end
theorem news_also {h₀ h : Heap} {L : Addr} {news : List (Addr × Obj)} (N : News h₀ L h news) (p : Addr × Obj) (hp : p ∈ news) : News h₀ L h (p :: news) := fun q hq => by
  rcases List.mem_cons.mp hq with rfl | hq
  · exact N _ hp
  · exact N q hq
set_option maxHeartbeats 8000000 in
theorem s5
(w : World) (mean : ExcName → Option Value) (mg mb : Str → Option Value) (dp un : Nat) (gd : Option (List Code)) (A₀ : Around) (h₀ : Heap) (L fa : Addr) (cd : Value) (m : Str → Option Value) (s : Shared) (Q : Flow → Shared → Prop) (E : Value → Shared → Prop)
    (B : Below A₀ h₀ [] h₀) (F : Fr h₀ L s.heap m) (X : (Mine.hd.heap_39 w.params).In h₀) (T : Top Mine.hd.view_39 (looseW Mine.hd.view_39 []) mean mg mb h₀) (hd : dp + 80 < recursionLimit) (hu : un + 400 < cLine)
    (d f tl : Addr) (us fs ys : List Value) (nf : Nat) (ns : List Int) (o1 o2 o3 o4 o5 o6 : Obj) (add : List (Addr × Obj)) (tf : Tok) (hi : IntsAre us ns) (hn : ns.length ≤ 24) (d1 : o1.data = .cell (some (.ref d))) (d3 : o3.data = .cell (some (.ref tl)))
    (hfree : m (Str.ofString "free") = some (.int (freeOf ns : Nat) tf)) (hy16 : ys.length = 16) (hys : ∀ (i : Nat) y, ys[i]? = some y → ToldAt ns (1 + (i : Int) * 2) y add)
    (N : News h₀ L s.heap ((tl, LCg.lst ys) :: (f, listOf fs.toArray nf) :: (d, LCg.lst us) :: (L + 1 + 1 + 1 + 1 + 1 + 1, o6) :: (L + 1 + 1 + 1 + 1 + 1, o5) :: (L + 1 + 1 + 1 + 1, o4) :: (L + 1 + 1 + 1, o3) :: (L + 1 + 1, o2) :: (L + 1, o1) :: add))
    (hE : PassesOwn (model PySem.Challenge.rw_ph0015_01.row.prog w) { handled := none, depth := dp, frames := some [envOfC (Str.ofString "law") lawScope L fa cd], guards := gd, units := un } (envOfC (Str.ofString "law") lawScope L fa cd) E) (law1 : ∀ i : Nat, i < 16 → ∀ last : Nat, last ≤ ns.length → (∀ j, j < last → okAt (1 + (i : Int) * 2) ns j = true) → last ≤ freeOf ns)
    (ret : ∀ h tk m', Fr h₀ L h m' → News h₀ L h ((tl, LCg.lst ys) :: (f, listOf fs.toArray nf) :: (d, LCg.lst us) :: (L + 1 + 1 + 1 + 1 + 1 + 1, o6) :: (L + 1 + 1 + 1 + 1 + 1, o5) :: (L + 1 + 1 + 1 + 1, o4) :: (L + 1 + 1 + 1, o3) :: (L + 1 + 1, o2) :: (L + 1, o1) :: add) →
      m' (Str.ofString "free") = some (.int (freeOf ns : Nat) tf) → wpAny (model PySem.Challenge.rw_ph0015_01.row.prog w) { handled := none, depth := dp, frames := some [envOfC (Str.ofString "law") lawScope L fa cd], guards := gd, units := un } (execs (lawBody.drop 6) (envOfC (Str.ofString "law") lawScope L fa cd)) Q E { s with heap := h, toks := tk }) :
    wpAny (model PySem.Challenge.rw_ph0015_01.row.prog w) { handled := none, depth := dp, frames := some [envOfC (Str.ofString "law") lawScope L fa cd], guards := gd, units := un } (execs (lawBody.drop 5) (envOfC (Str.ofString "law") lawScope L fa cd)) Q E s := by
  have hul := hi.length
  w_on
  revert X
  k_fill
  intro X
  rw [show lawBody.drop 5 = lawBody[5]'(by decide) :: lawBody.drop (5 + 1) from List.drop_eq_getElem_cons (by decide)]
  conv in (lawBody[5]'_) => whnf
  generalize lawBody.drop (5 + 1) = rest at ret ⊢
  repeat' (first | (k_unfold; (try dsimp only)) | ((fail_if_success (with_reducible show wpAny _ _ (exec (Stmt.For _ _ _ _ _) _) _ _ _)); walk1) | ((fail_if_success (with_reducible show wpAny _ _ (exec (Stmt.For _ _ _ _ _) _) _ _ _)); dsimp only; walk1))
  refine for_listT (h₀ := h₀) (l := tl) (vs := ys) (J := fun i m nw tk => m (Str.ofString "free") = some (.int (freeOf ns : Nat) tf) ∧ nw = (tl, LCg.lst ys) :: (f, listOf fs.toArray nf) :: (d, LCg.lst us) :: (L + 1 + 1 + 1 + 1 + 1 + 1, o6) :: (L + 1 + 1 + 1 + 1 + 1, o5) :: (L + 1 + 1 + 1 + 1, o4) :: (L + 1 + 1 + 1, o3) :: (L + 1 + 1, o2) :: (L + 1, o1) :: add) rfl hE ?hl (by k_asm) N ?h0 ?hev ?turn ?done ?ho
  case hl =>
    rintro i m nw tk h ⟨_, rfl⟩ _ N
    exact isList_led N (by k_mem)
  case h0 => exact ⟨hfree, rfl⟩
  case ho =>
    intro v hv
    obtain ⟨i, hi'⟩ := List.mem_iff_getElem?.mp hv
    obtain ⟨_, _, _, a, _, _, _, _, _, e, _⟩ := hys i v hi'
    exact ⟨a, e⟩
  case hev =>
    intro Q' hQ'
    k_steps
    exact hQ'
  case turn =>
    rintro i v m₁ nw h tk own hv ⟨hfr, rfl⟩ off F N1
    have hi16 : i < 16 := by rw [← hy16]; exact (List.getElem?_eq_some_iff.mp hv).1
    obtain ⟨last, TT, tkb, a, dd, us', n₂, t₁, t₂, rfl, ha, hdd, hl1, hl2, hok, hno, hsum⟩ := hys i v hv
    have hfr2 := law1 i hi16 last (by omega) hok
    clear N
    simp only [List.cons_append, List.nil_append] at N1
    have N := news_also N1 _ (by simp only [List.mem_cons, List.mem_append]; exact .inr (.inr (.inr (.inr (.inr (.inr (.inr (.inr (.inr (.inl ha))))))))))
    clear N1
    k_steps
    all_goals first
      | (exfalso
         have hb : ((if last < ns.length then Str.ofString "" else noWords) != Str.ofString "") = true := by assumption
         rw [if_pos (by omega)] at hb
         exact absurd hb (by decide))
      | (exfalso
         have hb : ((if last < ns.length then Str.ofString "" else noWords) != Str.ofString "sequence.index(x): x not in sequence") = true := by assumption
         rw [if_neg (by omega)] at hb
         exact absurd hb (by decide))
      | skip
    all_goals rename News _ _ _ _ => NN
    all_goals exact TurnEnd.next (by k_asm) NN (fun p hp => List.mem_cons_of_mem _ (List.mem_append_left (as := (tl, LCg.lst ys) :: (f, listOf fs.toArray nf) :: (d, LCg.lst us) :: (L + 1 + 1 + 1 + 1 + 1 + 1, o6) :: (L + 1 + 1 + 1 + 1 + 1, o5) :: (L + 1 + 1 + 1 + 1, o4) :: (L + 1 + 1 + 1, o3) :: (L + 1 + 1, o2) :: (L + 1, o1) :: add) own hp)) (fun p hp => List.mem_cons_of_mem _ (List.mem_append_right ((tl, LCg.lst ys) :: (f, listOf fs.toArray nf) :: (d, LCg.lst us) :: (L + 1 + 1 + 1 + 1 + 1 + 1, o6) :: (L + 1 + 1 + 1 + 1 + 1, o5) :: (L + 1 + 1 + 1 + 1, o4) :: (L + 1 + 1 + 1, o3) :: (L + 1 + 1, o2) :: (L + 1, o1) :: add) hp)) off ⟨(by (try dsimp only); (repeat rw [if_neg (by decide)]); (try rw [if_pos rfl]); first | rfl | assumption), rfl⟩
  case done =>
    rintro m₁ nw h tk ⟨hfr, rfl⟩ F N
    exact ret _ _ _ F N hfr
end Mine
end
section
open PySem PySem.W PyProof.Rows PySem.Spec PySem.Calls
set_option Elab.async false
set_option maxRecDepth 100000
namespace Mine
local macro_rules | `(tactic| k_room) => `(tactic| ((try simp only [depth_under_make, depth_under_kw, depth_in1, depth_deeper, depth_caller]); omega))
local macro_rules | `(tactic| walk_at "execs cons") => `(tactic| (k_here; (with_reducible refine wpAny_execs_cons ?_); try dsimp only))
local macro_rules | `(tactic| walk_at "eval Constant int") => `(tactic| (k_here; refine wpAny_Constant_int ?_; dsimp only))
local macro_rules | `(tactic| walk_at "execs nil") => `(tactic| (k_here; (with_reducible refine wpAny_execs_nil ?_); try dsimp only))
local macro_rules | `(tactic| walk_at "eval Name") => `(tactic| (k_here; k_dflt (refine' nameX_L ?F ?v ?_ ?a ?b; (case F => k_asm); (case a => rfl); (case b => rfl); (case v => (first | exact rfl | assumption | ((repeat rw [if_neg (by decide)]); (try rw [if_pos rfl]); first | rfl | assumption))); k_whole)))
def lastOf (mm : Int) (ns : List Int) : Nat := (List.range ns.length).findIdx fun j => !okAt mm ns j
theorem lastOf_le (mm : Int) (ns : List Int) : lastOf mm ns ≤ ns.length := by
  have := List.findIdx_le_length (p := fun j => !okAt mm ns j) (xs := List.range ns.length)
  rw [List.length_range] at this
  exact this
theorem lastOf_ok (mm : Int) (ns : List Int) (j : Nat) (h : j < lastOf mm ns) : okAt mm ns j = true := by
  have := List.not_of_lt_findIdx h
  simpa using this
theorem lastOf_no (mm : Int) (ns : List Int) (h : lastOf mm ns < ns.length) : okAt mm ns (lastOf mm ns) = false := by
  have := List.findIdx_getElem (p := fun j => !okAt mm ns j) (xs := List.range ns.length) (w := by rw [List.length_range]; exact h)
  unfold lastOf
  simpa using this
theorem last_is {mm : Int} {ns : List Int} {last : Nat} (h1 : last ≤ ns.length) (h2 : ∀ j, j < last → okAt mm ns j = true) (h3 : last < ns.length → okAt mm ns last = false) : last = lastOf mm ns := by
  have a := lastOf_le mm ns
  rcases Nat.lt_trichotomy last (lastOf mm ns) with q | q | q
  · have := lastOf_ok mm ns last q
    rw [h3 (by omega)] at this
    cases this
  · exact q
  · have := h2 _ q
    rw [lastOf_no mm ns (by omega)] at this
    cases this
/-- the multiplier of the place k -/
abbrev mul_ (k : Nat) : Int := 1 + (k : Int) * 2
def tupOf (ns : List Int) (mm : Int) (t₁ t₂ : Tok) (dd : Addr) : Obj := { cls := .type "tuple", data := .seq #[.int (lastOf mm ns : Nat) t₁, .str (if lastOf mm ns < ns.length then Str.ofString "" else noWords) t₂, .ref dd] }
theorem ToldAt.get {ns : List Int} {mm : Int} {y : Value} {add : List (Addr × Obj)} (h : ToldAt ns mm y add) : ∃ (T tkb : Nat) (a d : Addr) (us : List Value) (n₂ : Nat) (t₁ t₂ : Tok), y = .ref a ∧
    (a, ({ cls := .type "tuple", data := .seq #[.int (lastOf mm ns : Nat) t₁, .str (if lastOf mm ns < ns.length then Str.ofString "" else noWords) t₂, .ref d] } : Obj)) ∈ add ∧ (d, listOf us.toArray n₂) ∈ add ∧ lastOf mm ns ≤ T ∧ T ≤ ns.length ∧ SumsOk mm ns us T tkb := by
  obtain ⟨last, T, tkb, a, d, us, n₂, t₁, t₂, rfl, ha, hd, hl1, hl2, hok, hno, hs⟩ := h
  have e := last_is (by omega) hok hno
  subst e
  exact ⟨T, tkb, a, d, us, n₂, t₁, t₂, rfl, ha, hd, hl1, hl2, hs⟩
theorem sub_at {prog : Program} {w : World} {A : Around} {E : Value → Shared → Prop} {s : Shared} {h₀ : Heap} {L : Addr} {value slice : PySem.Expr} {l : Addr} {us : List Value} {n i : Nat} {k : Int} {u : Tok} {v : Value} {news : List (Addr × Obj)} {Q : Value → Shared → Prop}
    (N : News h₀ L s.heap news) (hm : (l, listOf us.toArray n) ∈ news) (hx : us[i]? = some v) (hk : k = (i : Int)) (hsz : us.length ≤ 1000) (h : Q v s)
    (hs : subscripted slice false (.ref l) (.int k u) = operate [.ref l, .int k u] (getItem (.ref l) (.int k u)) := by with_unfolding_all rfl) :
    wpAny (model prog w) A (subscriptTail value slice (.ref l) (.int k u)) Q E s := by
  have hl : s.heap.IsList l us.toArray := isList_led N hm
  have hi : i < us.length := (List.getElem?_eq_some_iff.mp hx).1
  subst hk
  exact tail_any hl.typeIs slot_list_getitem.lookup (wpAny_getItem_list hl (by omega) (by omega) (by simpa using hx) h) hs
def longAt (ns : List Int) (k : Nat) : Bool := decide (16 < lastOf (mul_ k) ns)
def longOf (ns : List Int) : List Nat := (List.range 16).filter (longAt ns)
local macro_rules | `(tactic| walk_at "subscriptTail") => `(tactic| (k_here; (with_reducible show wpAny _ _ (subscriptTail _ _ (Value.ref _) (Value.int _ _)) _ _ _); (with_unfolding_all refine' sub_at ?k1 ?k2 ?k3 ?k4 ?k5 ?_ ?k6; (case k1 => k_asm); (case k2 => k_mem); (case k3 => assumption); (case k4 => omega); (case k5 => omega); (case k6 => with_unfolding_all rfl); k_whole)))
set_option maxHeartbeats 8000000 in
theorem s6
(w : World) (mean : ExcName → Option Value) (mg mb : Str → Option Value) (dp un : Nat) (gd : Option (List Code)) (A₀ : Around) (h₀ : Heap) (L fa : Addr) (cd : Value) (m : Str → Option Value) (s : Shared) (Q : Flow → Shared → Prop) (E : Value → Shared → Prop)
    (B : Below A₀ h₀ [] h₀) (F : Fr h₀ L s.heap m) (X : (Mine.hd.heap_39 w.params).In h₀) (T : Top Mine.hd.view_39 (looseW Mine.hd.view_39 []) mean mg mb h₀) (hd : dp + 80 < recursionLimit) (hu : un + 400 < cLine)
    (d f tl : Addr) (us fs ys : List Value) (nf : Nat) (ns : List Int) (o1 o2 o3 o4 o5 o6 : Obj) (add : List (Addr × Obj)) (tf : Tok) (d3 : o3.data = .cell (some (.ref tl)))
    (hfree : m (Str.ofString "free") = some (.int (freeOf ns : Nat) tf)) (hy16 : ys.length = 16) (hys : ∀ (i : Nat) y, ys[i]? = some y → ToldAt ns (1 + (i : Int) * 2) y add)
    (N : News h₀ L s.heap ((tl, LCg.lst ys) :: (f, listOf fs.toArray nf) :: (d, LCg.lst us) :: (L + 1 + 1 + 1 + 1 + 1 + 1, o6) :: (L + 1 + 1 + 1 + 1 + 1, o5) :: (L + 1 + 1 + 1 + 1, o4) :: (L + 1 + 1 + 1, o3) :: (L + 1 + 1, o2) :: (L + 1, o1) :: add))
    (ret : ∀ h tk m' lg zs, Fr h₀ L h m' → News h₀ L h ((lg, LCg.lst zs) :: (tl, LCg.lst ys) :: (f, listOf fs.toArray nf) :: (d, LCg.lst us) :: (L + 1 + 1 + 1 + 1 + 1 + 1, o6) :: (L + 1 + 1 + 1 + 1 + 1, o5) :: (L + 1 + 1 + 1 + 1, o4) :: (L + 1 + 1 + 1, o3) :: (L + 1 + 1, o2) :: (L + 1, o1) :: add) → (∀ p ∈ (tl, LCg.lst ys) :: (f, listOf fs.toArray nf) :: (d, LCg.lst us) :: (L + 1 + 1 + 1 + 1 + 1 + 1, o6) :: (L + 1 + 1 + 1 + 1 + 1, o5) :: (L + 1 + 1 + 1 + 1, o4) :: (L + 1 + 1 + 1, o3) :: (L + 1 + 1, o2) :: (L + 1, o1) :: add, p.1 ≠ lg) →
      IntsAre zs ((longOf ns).map fun (k : Nat) => (k : Int)) → m' (Str.ofString "longest") = some (.ref lg) → m' (Str.ofString "free") = some (.int (freeOf ns : Nat) tf) → wpAny (model PySem.Challenge.rw_ph0015_01.row.prog w) { handled := none, depth := dp, frames := some [envOfC (Str.ofString "law") lawScope L fa cd], guards := gd, units := un } (execs (lawBody.drop 7) (envOfC (Str.ofString "law") lawScope L fa cd)) Q E { s with heap := h, toks := tk }) :
    wpAny (model PySem.Challenge.rw_ph0015_01.row.prog w) { handled := none, depth := dp, frames := some [envOfC (Str.ofString "law") lawScope L fa cd], guards := gd, units := un } (execs (lawBody.drop 6) (envOfC (Str.ofString "law") lawScope L fa cd)) Q E s := by
  w_on
  revert X
  k_fill
  intro X
  rw [show lawBody.drop 6 = lawBody[6]'(by decide) :: lawBody.drop (6 + 1) from List.drop_eq_getElem_cons (by decide)]
  conv in (lawBody[6]'_) => whnf
  generalize lawBody.drop (6 + 1) = rest at ret ⊢
  repeat' (first | (k_unfold; (try dsimp only)) | ((fail_if_success (with_reducible show wpAny _ _ (exec (Stmt.Assign _ _ _) _) _ _ _)); walk1) | ((fail_if_success (with_reducible show wpAny _ _ (exec (Stmt.Assign _ _ _) _) _ _ _)); dsimp only; walk1))
  rename Fr _ _ _ _ => FF
  refine LCt.Assign_ListComp_T (F₀ := FF) (by rfl) (by with_unfolding_all rfl) (by with_unfolding_all rfl) (by decide) (by rfl) (by decide) (by rfl) (by rfl) (by rfl) ?_
  repeat' (first | (k_unfold; (try dsimp only)) | ((fail_if_success (with_reducible show LCt.CompSrcT _ _ _ _ _ _ _ _ _ _ _ _ _ _ _)); walk1) | ((fail_if_success (with_reducible show LCt.CompSrcT _ _ _ _ _ _ _ _ _ _ _ _ _ _ _)); dsimp only; walk1))
  rename IsRange _ _ _ _ _ _ _ _ => hR
  rename News _ _ _ _ => NN
  rename Fr _ _ _ _ => FF
  refine LCt.CompSrcT.range (n := 16) (by rfl) FF NN hR (by decide) (by decide) (by rw [sizeLine_eq]; omega) ?_
  intro g
  refine comp_restT (longAt ns) (fun i y => ∃ t, y = .int (i : Int) t) trivial ?turn ?el ?fin
  case turn =>
    intro i v I oI C oC D m₂ zs h tk E' hin hv hC hx F N
    obtain ⟨t, rfl⟩ := hv
    obtain ⟨y, hy⟩ : ∃ y, ys[i]? = some y := ⟨_, List.getElem?_eq_getElem (by omega)⟩
    obtain ⟨TT, tkb, a, dd, us', n₂, t₁, t₂, rfl, ha, hdd, hl1, hl2, hsum⟩ := (hys i y hy).get
    have N2 := news_also N _ (by simp only [List.mem_cons]; exact .inr (.inr (.inr (.inr (.inr (.inr (.inr (.inr (.inr (.inr (.inr (.inr ha))))))))))))
    clear NN FF
    repeat' (first | (k_unfold; (try dsimp only)) | ((fail_if_success (with_reducible show (_ ∧ ElEnd _ _ _ _ _ _ _ _))); walk1) | ((fail_if_success (with_reducible show (_ ∧ ElEnd _ _ _ _ _ _ _ _))); dsimp only; walk1))
    refine ⟨?_, ElEnd.intro (by k_asm) (by k_asm) (fun p hp => List.mem_cons_of_mem _ hp) trivial⟩
    show decide (16 < ((lastOf (1 + (i : Int) * 2) ns : Nat) : Int)) = decide (16 < lastOf (1 + (i : Int) * 2) ns)
    rw [decide_eq_decide]
    omega
  case el =>
    intro i v I oI C oC D m₂ zs h tk E' hin hv hp hC hx F N
    obtain ⟨t, rfl⟩ := hv
    repeat' (first | (k_unfold; (try dsimp only)) | ((fail_if_success (with_reducible show ElEnd _ _ _ _ _ _ _ _)); walk1) | ((fail_if_success (with_reducible show ElEnd _ _ _ _ _ _ _ _)); dsimp only; walk1))
    exact ElEnd.intro (by k_asm) (by k_asm) (fun p hp => hp) ⟨t, by rw [Int.zero_add]⟩
  case fin =>
    intro zs hlen hg
    intro D h tk F N off2
    have hz : IntsAre zs ((longOf ns).map fun (k : Nat) => (k : Int)) := by
      have := intsAre_of (f := fun x => x) (ys := zs) (ks := (longOf ns).map fun (k : Nat) => (k : Int)) (by rw [hlen, List.length_map]; rfl) (fun j y hy => by
        have hj : j < ((List.range 16).filter (longAt ns)).length := by
          rw [← hlen]
          exact (List.getElem?_eq_some_iff.mp hy).1
        have hgj := List.getElem?_eq_getElem hj
        obtain ⟨t, rfl⟩ := hg j _ y hgj hy
        refine ⟨_, t, ?_, rfl⟩
        rw [List.getElem?_map]
        unfold longOf
        rw [hgj]; rfl)
      rw [List.map_map] at this
      exact this
    exact ret _ _ _ _ _ F N (off_mem off2) hz (if_pos rfl) ((if_neg (by decide)).trans hfree)
end Mine
end
section
open PySem PySem.W PyProof.Rows PySem.Spec PySem.Calls
set_option Elab.async false
set_option maxRecDepth 100000
namespace Mine
local macro_rules | `(tactic| k_room) => `(tactic| ((try simp only [depth_under_make, depth_under_kw, depth_in1, depth_deeper, depth_caller]); omega))
local macro_rules | `(tactic| walk_at "execs cons") => `(tactic| (k_here; (with_reducible refine wpAny_execs_cons ?_); try dsimp only))
local macro_rules | `(tactic| walk_at "eval Constant int") => `(tactic| (k_here; refine wpAny_Constant_int ?_; dsimp only))
local macro_rules | `(tactic| walk_at "execs nil") => `(tactic| (k_here; (with_reducible refine wpAny_execs_nil ?_); try dsimp only))
local macro_rules | `(tactic| walk_at "eval Name") => `(tactic| (k_here; k_dflt (refine' nameX_L ?F ?v ?_ ?a ?b; (case F => k_asm); (case a => rfl); (case b => rfl); (case v => (first | exact rfl | assumption | ((repeat rw [if_neg (by decide)]); (try rw [if_pos rfl]); first | rfl | assumption))); k_whole)))
theorem ne_ints_law {prog : Program} {w : World} {A : Around} {E : Value → Shared → Prop} {s : Shared} {a b : Addr} {xs ys : List Value} {ns ms : List Int} {Q : Value → Shared → Prop} (e : ns = ms)
    (ha : s.heap.IsList a xs.toArray) (hb : s.heap.IsList b ys.toArray) (hi : IntsAre xs ns) (hj : IntsAre ys ms) (hu : A.units + 64 < cLine) (h : Q (.bool false) s) :
    wpAny (model prog w) A (compareOp .NotEq (.ref a) (.ref b)) Q E s := by
  subst e
  exact ke_ne_ints ha hb hi hj hu (by simpa using h)
local macro_rules | `(tactic| walk_at "subscriptTail") => `(tactic| (k_here; (with_reducible show wpAny _ _ (subscriptTail _ _ (Value.ref _) (Value.int _ _)) _ _ _); (with_unfolding_all refine' sub_at ?k1 ?k2 ?k3 ?k4 ?k5 ?_ ?k6; (case k1 => k_asm); (case k2 => k_mem); (case k3 => assumption); (case k4 => omega); (case k5 => omega); (case k6 => with_unfolding_all rfl); k_whole)))
theorem longOf_lt {ns : List Int} {i k : Nat} (h : (longOf ns)[i]? = some k) : k < 16 ∧ 16 < lastOf (mul_ k) ns := by
  have hm := List.mem_of_getElem? h
  unfold longOf at hm
  rw [List.mem_filter, List.mem_range] at hm
  exact ⟨hm.1, of_decide_eq_true hm.2⟩
theorem longOf_len (ns : List Int) : (longOf ns).length ≤ 16 := by
  refine Nat.le_trans (List.length_filter_le _ _) ?_
  rw [List.length_range]
  exact Nat.le_refl _
set_option maxHeartbeats 8000000 in
theorem s7
(w : World) (mean : ExcName → Option Value) (mg mb : Str → Option Value) (dp un : Nat) (gd : Option (List Code)) (A₀ : Around) (h₀ : Heap) (L fa : Addr) (cd : Value) (m : Str → Option Value) (s : Shared) (Q : Flow → Shared → Prop) (E : Value → Shared → Prop)
    (B : Below A₀ h₀ [] h₀) (F : Fr h₀ L s.heap m) (X : (Mine.hd.heap_39 w.params).In h₀) (T : Top Mine.hd.view_39 (looseW Mine.hd.view_39 []) mean mg mb h₀) (hd : dp + 80 < recursionLimit) (hu : un + 400 < cLine)
    (d f tl lg : Addr) (us fs ys zs : List Value) (nf : Nat) (ns : List Int) (o1 o2 o3 o4 o5 o6 : Obj) (add : List (Addr × Obj)) (tf : Tok) (d3 : o3.data = .cell (some (.ref tl)))
    (hfree : m (Str.ofString "free") = some (.int (freeOf ns : Nat) tf)) (hlong : m (Str.ofString "longest") = some (.ref lg)) (hz : IntsAre zs ((longOf ns).map fun (k : Nat) => (k : Int))) (hy16 : ys.length = 16) (hys : ∀ (i : Nat) y, ys[i]? = some y → ToldAt ns (1 + (i : Int) * 2) y add)
    (N : News h₀ L s.heap ((lg, LCg.lst zs) :: (tl, LCg.lst ys) :: (f, listOf fs.toArray nf) :: (d, LCg.lst us) :: (L + 1 + 1 + 1 + 1 + 1 + 1, o6) :: (L + 1 + 1 + 1 + 1 + 1, o5) :: (L + 1 + 1 + 1 + 1, o4) :: (L + 1 + 1 + 1, o3) :: (L + 1 + 1, o2) :: (L + 1, o1) :: add))
    (law2 : (longOf ns).map (fun k => ((lastOf (mul_ k) ns : Nat) : Int)) = if 16 < freeOf ns then [(freeOf ns : Int)] else [])
    (ret : ∀ h tk, Fr h₀ L h m → News h₀ L h ((lg, LCg.lst zs) :: (tl, LCg.lst ys) :: (f, listOf fs.toArray nf) :: (d, LCg.lst us) :: (L + 1 + 1 + 1 + 1 + 1 + 1, o6) :: (L + 1 + 1 + 1 + 1 + 1, o5) :: (L + 1 + 1 + 1 + 1, o4) :: (L + 1 + 1 + 1, o3) :: (L + 1 + 1, o2) :: (L + 1, o1) :: add) → wpAny (model PySem.Challenge.rw_ph0015_01.row.prog w) { handled := none, depth := dp, frames := some [envOfC (Str.ofString "law") lawScope L fa cd], guards := gd, units := un } (execs (lawBody.drop 8) (envOfC (Str.ofString "law") lawScope L fa cd)) Q E { s with heap := h, toks := tk }) :
    wpAny (model PySem.Challenge.rw_ph0015_01.row.prog w) { handled := none, depth := dp, frames := some [envOfC (Str.ofString "law") lawScope L fa cd], guards := gd, units := un } (execs (lawBody.drop 7) (envOfC (Str.ofString "law") lawScope L fa cd)) Q E s := by
  have hzl := hz.length
  have hll := longOf_len ns
  rw [List.length_map] at hzl
  w_on
  revert X
  k_fill
  intro X
  rw [show lawBody.drop 7 = lawBody[7]'(by decide) :: lawBody.drop (7 + 1) from List.drop_eq_getElem_cons (by decide)]
  conv in (lawBody[7]'_) => whnf
  generalize lawBody.drop (7 + 1) = rest at ret ⊢
  repeat' (first | (k_unfold; (try dsimp only)) | ((fail_if_success (with_reducible show wpAny _ _ (eval (Expr.ListComp _ _ _ _) _) _ _ _)); walk1) | ((fail_if_success (with_reducible show wpAny _ _ (eval (Expr.ListComp _ _ _ _) _) _ _ _)); dsimp only; walk1))
  rename Fr _ _ _ _ => FF
  refine LCg.ListComp_U (F₀ := FF) (by with_unfolding_all rfl) (by decide) (by rfl) (by decide) (by rfl) ?_
  repeat' (first | (k_unfold; (try dsimp only)) | ((fail_if_success (with_reducible show LCg.CompSrc _ _ _ _ _ _ _ _ _ _ _ _ _ _)); walk1) | ((fail_if_success (with_reducible show LCg.CompSrc _ _ _ _ _ _ _ _ _ _ _ _ _ _)); dsimp only; walk1))
  rename News _ _ _ _ => NN
  rename Fr _ _ _ _ => FF
  refine LCg.CompSrc.ledger (by rfl) FF NN (List.mem_cons_self) (by rw [List.size_toArray, sizeLine_eq]; omega) ?_
  intro g
  refine comp_rest (fun i y => ∃ k t, (longOf ns)[i]? = some k ∧ y = .int (lastOf (mul_ k) ns : Nat) t) (Or.inr ⟨_, List.mem_cons_self, rfl, _, rfl⟩) ?turn ?fin
  case turn =>
    intro i v I oI C oC D m₂ xs h tk E' hin hv hC hx F N
    obtain ⟨x, t, rfl, hx'⟩ := IntsAre.at hz i v (by simpa using hv)
    obtain ⟨k, hk, rfl⟩ : ∃ k, (longOf ns)[i]? = some k ∧ (k : Int) = x := by
      rw [List.getElem?_map] at hx'
      cases e : (longOf ns)[i]? with
      | none => rw [e] at hx'; cases hx'
      | some k => rw [e] at hx'; cases hx'; exact ⟨k, rfl, rfl⟩
    have hk16 := longOf_lt hk
    obtain ⟨y, hy⟩ : ∃ y, ys[k]? = some y := ⟨_, List.getElem?_eq_getElem (by omega)⟩
    obtain ⟨TT, tkb, a, dd, us', n₂, t₁, t₂, rfl, ha, hdd, hl1, hl2, hsum⟩ := (hys k y hy).get
    have N2 := news_also N _ (by simp only [List.mem_cons]; exact .inr (.inr (.inr (.inr (.inr (.inr (.inr (.inr (.inr (.inr (.inr (.inr (.inr ha)))))))))))))
    clear NN FF
    repeat' (first | (k_unfold; (try dsimp only)) | ((fail_if_success (with_reducible show ElEnd _ _ _ _ _ _ _ _)); walk1) | ((fail_if_success (with_reducible show ElEnd _ _ _ _ _ _ _ _)); dsimp only; walk1))
    exact ElEnd.intro (by k_asm) (by k_asm) (fun p hp => List.mem_cons_of_mem _ hp) ⟨k, _, hk, rfl⟩
  case fin =>
    intro xs hlen hg
    have hxs : IntsAre xs ((longOf ns).map (fun k => ((lastOf (mul_ k) ns : Nat) : Int))) := by
      have := intsAre_of (f := fun x => x) (ys := xs) (ks := (longOf ns).map (fun k => ((lastOf (mul_ k) ns : Nat) : Int))) (by rw [hlen, List.length_map, List.size_toArray]; omega) (fun j y hy => by
        obtain ⟨k, t, hk, rfl⟩ := hg j y hy
        exact ⟨_, t, by rw [List.getElem?_map, hk]; rfl, rfl⟩)
      rw [List.map_map] at this
      exact this
    intro D h tk F N off2
    have ko := off_mem off2
    clear hg NN FF off2
    dsimp only
    repeat' (first | (k_unfold; (try dsimp only)) | ((fail_if_success (with_reducible show wpAny _ _ (compareOp CmpOp.NotEq _ _) _ _ _)); walk1) | ((fail_if_success (with_reducible show wpAny _ _ (compareOp CmpOp.NotEq _ _) _ _ _)); dsimp only; walk1))
    · have hgt : 16 < freeOf ns := by omega
      rw [if_pos hgt] at law2
      refine ne_ints_law law2 (isList_led (by k_asm) (by k_mem)) (isList_led (by k_asm) (by k_mem)) hxs (.cons _ _ .nil) (by dsimp only; omega) ?_
      repeat' (first | (k_unfold; (try dsimp only)) | ((fail_if_success (with_reducible show wpAny _ _ (execs rest _) _ _ _)); walk1) | ((fail_if_success (with_reducible show wpAny _ _ (execs rest _) _ _ _)); dsimp only; walk1))
      rename News _ _ _ _ => NN
      exact ret _ _ (by k_asm) (fun p hp => NN p (List.mem_cons_of_mem _ (List.mem_cons_of_mem _ hp)))
    · have hgt : ¬ 16 < freeOf ns := by omega
      rw [if_neg hgt] at law2
      refine ne_ints_law law2 (isList_led (by k_asm) (by k_mem)) (isList_led (by k_asm) (by k_mem)) hxs .nil (by dsimp only; omega) ?_
      repeat' (first | (k_unfold; (try dsimp only)) | ((fail_if_success (with_reducible show wpAny _ _ (execs rest _) _ _ _)); walk1) | ((fail_if_success (with_reducible show wpAny _ _ (execs rest _) _ _ _)); dsimp only; walk1))
      rename News _ _ _ _ => NN
      exact ret _ _ (by k_asm) (fun p hp => NN p (List.mem_cons_of_mem _ (List.mem_cons_of_mem _ hp)))
end Mine
end
section
open PySem PySem.W PyProof.Rows PySem.Spec PySem.Calls
set_option Elab.async false
set_option maxRecDepth 100000
namespace Mine
local macro_rules | `(tactic| k_room) => `(tactic| ((try simp only [depth_under_make, depth_under_kw, depth_in1, depth_deeper, depth_caller]); omega))
local macro_rules | `(tactic| walk_at "execs cons") => `(tactic| (k_here; (with_reducible refine wpAny_execs_cons ?_); try dsimp only))
local macro_rules | `(tactic| walk_at "eval Constant int") => `(tactic| (k_here; refine wpAny_Constant_int ?_; dsimp only))
local macro_rules | `(tactic| walk_at "execs nil") => `(tactic| (k_here; (with_reducible refine wpAny_execs_nil ?_); try dsimp only))
local macro_rules | `(tactic| walk_at "eval Name") => `(tactic| (k_here; k_dflt (refine' nameX_L ?F ?v ?_ ?a ?b; (case F => k_asm); (case a => rfl); (case b => rfl); (case v => (first | exact rfl | assumption | ((repeat rw [if_neg (by decide)]); (try rw [if_pos rfl]); first | rfl | assumption))); k_whole)))
def RangeOut (s : Shared) (h₀ : Heap) (L : Addr) (m₀ : Str → Option Value) (news : List (Addr × Obj)) (a b : Int) (P : Prop) (xv : Value) (s₁ : Shared) : Prop :=
  ∃ r h tk t u v, xv = .ref r ∧ s₁ = { s with heap := h, toks := tk } ∧ Fr h₀ L h m₀ ∧ News h₀ L h news ∧ IsRange h r a b 1 t u v ∧ P
theorem small_rangeAB {a b : Int} (h0 : 0 ≤ a) (h1 : a < b) (h2 : b ≤ 1000) : Builtin.Range.small a b 1 = true := by
  have e : Builtin.Range.rangeSize a b 1 = b - a := by
    unfold Builtin.Range.rangeSize
    rw [if_pos (by decide), if_pos h1]
    omega
  unfold Builtin.Range.small
  rw [e]
  unfold Builtin.Range.rangeFitsLong
  simp
  omega
section
variable {prog : Program} {w : World} {A : Around} {E : Value → Shared → Prop} {s : Shared} {env : Env} {h₀ : Heap}
/-- a for loop over a range, by what holds between the turns of the frame, the ledger and the tokens -/
theorem for_range {target iter : Expr} {body : List Stmt} {pos : Pos} {Q : Flow → Shared → Prop} {a b : Int} {n : Nat} {m₀ : Str → Option Value} {news : List (Addr × Obj)}
    (J : Nat → (Str → Option Value) → List (Addr × Obj) → Prop) (hh : A.handled = none) (hE : PassesOwn (model prog w) A env E)
    (hsm : Builtin.Range.small a b 1 = true) (hn : Builtin.Range.rangeSize a b 1 = ((n : Nat) : Int))
    (hev : wpAny (model prog w) A (eval iter env) (RangeOut s h₀ env.locals m₀ news a b (J 0 m₀ news)) E s)
    (turn : ∀ i t m₁ nw h tk own, i < n → J i m₁ nw → OwnOff own (nw.map (·.1)) → Fr h₀ env.locals h m₁ → News h₀ env.locals h (nw ++ own) →
      wpAny (model prog w) A (assign target env (.int (a + (i : Int)) t)) (fun _ s₂ => wpAny (model prog w) A (execs body env) (TurnEnd h₀ env.locals s own (fun m nw _ => J (i + 1) m nw) Q) E s₂) E { s with heap := h, toks := tk })
    (done : ∀ m₁ nw h tk, J n m₁ nw → Fr h₀ env.locals h m₁ → News h₀ env.locals h nw → Q .next { s with heap := h, toks := tk })
    (ht : ∀ it v, letOwnedTupleGo target it v = pure () := by intro _ _; rfl)
    (hs : ∀ x, foldedSetIterable iter env x = pure x := by intro _; rfl) :
    wpAny (model prog w) A (exec (.For target iter body [] pos) env) Q E s := by
  refine wpAny_For (wpAny_mono hev (fun xv s₁ h₁ => ?_) fun _ _ e => e) hs
  obtain ⟨r, h, tk, t, u, v, rfl, rfl, F, N, hr, h0⟩ := h₁
  refine wpAny_pyIter_range hr hsm ?_
  dsimp only
  generalize hI : h.objs.size = I
  have hIn : h.get? I = none := by
    cases e : h.get? I with
    | none => rfl
    | some o => exact absurd (Heap.lt_size e) (by rw [hI]; exact Nat.lt_irrefl _)
  have hI₀ : h₀.get? I = none := by
    cases e : h₀.get? I with
    | none => rfl
    | some o => have := F.keep _ _ e; rw [hIn] at this; cases this
  have hLI : env.locals ≠ I := by
    intro e
    have := F.ns.lt
    rw [e, ← hI] at this
    exact Nat.lt_irrefl _ this
  have W := LCg.range_walks (prog := prog) (w := w) (A := A) (I := I) hh a n
  refine codeAny_forLoop
    (fun k s' => ∃ h' tk m' nw i, s' = { s with heap := h', toks := tk } ∧ IsRangeIter h' I (a + (i : Nat) * 1) ((n : Int) - (i : Nat)) 1 ∧ Fr h₀ env.locals h' m' ∧ News h₀ env.locals h' nw ∧ (∀ p ∈ nw, p.1 ≠ I) ∧ J i m' nw ∧ i ≤ n ∧ k = n + 1 - i)
    ?_ (n + 1) ⟨_, _, m₀, news, 0, rfl, (by show IsRangeIter _ _ _ _ _; rw [hn, ← hI]; simpa using Heap.get?_push_size _ rfl), F.push _, (fun p hp => ⟨Heap.get?_push_of_some _ (N p hp).1, (N p hp).2⟩),
      (fun p hp e => by have := (N p hp).1; rw [e, hIn] at this; cases this), h0, Nat.zero_le _, rfl⟩ (ht _)
  rintro k s' ⟨h', tk, m', nw, i, rfl, hit, F', N', hoff, hJ, hi, rfl⟩
  have keepF : ∀ h₁ : Heap, (∀ b o, b ∉ [I] → h'.get? b = some o → h₁.get? b = some o) → Fr h₀ env.locals h₁ m' := fun h₁ hk =>
    ⟨F'.ns.at' fun o e => hk _ o (by simpa using hLI) e, fun b o e => hk b o (by simp; intro q; rw [q, hI₀] at e; cases e) (F'.keep b o e), F'.above⟩
  by_cases hlt : i < n
  · refine W.item i _ _ _ hlt hit fun v h₁ tk₁ hP hit₁ hk₁ => ?_
    obtain ⟨t, rfl⟩ := hP
    have F₁ := keepF h₁ hk₁
    have hoI := hit₁
    generalize hob : ({ cls := Value.type "range_iterator", dict := none, data := .fields #[rawInt (a + ((i + 1 : Nat) : Int) * 1), rawInt ((n : Int) - ((i + 1 : Nat) : Int)), rawInt 1], slots := #[] } : Obj) = oI at hoI
    have hoI' : h₁.get? I = some oI := by rw [← hob]; exact hit₁
    have N₁ : News h₀ env.locals h₁ (nw ++ [(I, oI)]) := fun p hp => by
      rcases List.mem_append.mp hp with hp | hp
      · exact ⟨hk₁ _ _ (by simpa using hoff p hp) (N' p hp).1, (N' p hp).2⟩
      · rw [List.mem_singleton.mp hp]
        exact ⟨hoI', Ne.symm hLI, hI₀⟩
    have off₁ : OwnOff [(I, oI)] (nw.map (·.1)) := fun p hp b hb e => by
      rw [List.mem_singleton.mp hp] at e
      obtain ⟨q, hq, rfl⟩ := List.mem_map.mp hb
      exact hoff q hq e.symm
    refine wpAny_passesOwn hE (wpAny_mono (turn i t m' nw h₁ tk₁ [(I, oI)] hlt hJ off₁ F₁ N₁) (fun _ s₂ h₂ => wpAny_passesOwn hE (wpAny_mono h₂ (fun f s₃ h₃ => ?_) fun _ _ e => e)) fun _ _ e => e)
    have fin : (∃ h' tk m' nw all, s₃ = { s with heap := h', toks := tk } ∧ Fr h₀ env.locals h' m' ∧ News h₀ env.locals h' all ∧ (∀ p ∈ nw, p ∈ all) ∧ (∀ p ∈ [(I, oI)], p ∈ all) ∧ OwnOff [(I, oI)] (nw.map (·.1)) ∧ J (i + 1) m' nw) →
        ∃ m, m < n + 1 - i ∧ ∃ h' tk m' nw i, s₃ = { s with heap := h', toks := tk } ∧ IsRangeIter h' I (a + (i : Nat) * 1) ((n : Int) - (i : Nat)) 1 ∧ Fr h₀ env.locals h' m' ∧ News h₀ env.locals h' nw ∧ (∀ p ∈ nw, p.1 ≠ I) ∧ J i m' nw ∧ i ≤ n ∧ m = n + 1 - i := by
      rintro ⟨h₄, tk₄, m₄, nw₄, all₄, e, F₄, N₄, hn₄, ho₄, off₄, hJ₄⟩
      have hi4 : IsRangeIter h₄ I (a + ((i + 1 : Nat) : Int) * 1) ((n : Int) - ((i + 1 : Nat) : Int)) 1 := by
        show h₄.get? I = some _
        rw [hob]
        exact (N₄ _ (ho₄ _ (List.mem_singleton.mpr rfl))).1
      refine ⟨n + 1 - (i + 1), by omega, h₄, tk₄, m₄, nw₄, i + 1, e, hi4, F₄, fun p hp => N₄ p (hn₄ p hp), ?_, hJ₄, hlt, rfl⟩
      intro p hp e
      exact off₄ (I, oI) (List.mem_singleton.mpr rfl) p.1 (List.mem_map_of_mem hp) e.symm
    cases f with
    | ret v => exact h₃
    | brk => exact h₃
    | next => exact fin h₃
    | cont => exact fin h₃
  · obtain rfl : i = n := by omega
    refine W.done _ _ _ hit fun h₂ tk₂ hk₂ => wpAny_execs_nil ?_
    exact done m' nw h₂ tk₂ hJ (keepF h₂ hk₂) fun p hp => ⟨hk₂ _ _ (by simpa using hoff p hp) (N' p hp).1, (N' p hp).2⟩
end
end Mine
end
section
open PySem PySem.W PyProof.Rows PySem.Spec PySem.Calls
set_option Elab.async false
set_option maxRecDepth 100000
namespace Mine
local macro_rules | `(tactic| k_room) => `(tactic| ((try simp only [depth_under_make, depth_under_kw, depth_in1, depth_deeper, depth_caller]); omega))
local macro_rules | `(tactic| walk_at "execs cons") => `(tactic| (k_here; (with_reducible refine wpAny_execs_cons ?_); try dsimp only))
local macro_rules | `(tactic| walk_at "eval Constant int") => `(tactic| (k_here; refine wpAny_Constant_int ?_; dsimp only))
local macro_rules | `(tactic| walk_at "execs nil") => `(tactic| (k_here; (with_reducible refine wpAny_execs_nil ?_); try dsimp only))
local macro_rules | `(tactic| walk_at "eval Name") => `(tactic| (k_here; k_dflt (refine' nameX_L ?F ?v ?_ ?a ?b; (case F => k_asm); (case a => rfl); (case b => rfl); (case v => (first | exact rfl | assumption | ((repeat rw [if_neg (by decide)]); (try rw [if_pos rfl]); first | rfl | assumption))); k_whole)))
theorem mem_tail {α : Type} {p : α} {c t t2 : List α} (h : ∀ p ∈ t, p ∈ t2) (hp : p ∈ c ++ t) : p ∈ c ++ t2 :=
  (List.mem_append.mp hp).elim (fun q => List.mem_append_left _ q) (fun q => List.mem_append_right _ (h _ q))
def bitAt (ns : List Int) (size c : Nat) : Bool := (frontAt ns size).fdiv (2 ^ c) % 2 == 1
def markAt (mm t : Int) (c : Nat) : Bool := decide (mm * (c : Int) % 32 ≠ 0) && decide (0 ≤ t - mm * (c : Int) % 32 ∧ t - mm * (c : Int) % 32 < 32)
theorem ne_str0 (n : Nat) : (({ cps := #[Int.toNat 0] } : Str) != { cps := #[n] }) = decide (n ≠ 0) := by
  rw [Bool.eq_iff_iff]
  simp only [bne_iff_ne, ne_eq, decide_eq_true_eq]
  constructor
  · intro h e
    exact h (by subst e; rfl)
  · intro h e
    have := congrArg Str.cps e
    simp at this
    exact h this.symm
theorem mark_yes (mm S : Int) (c : Nat) (h : (({ cps := #[Int.toNat 0] } : Str) != { cps := #[(mm * (c : Int) % 32).toNat] }) = true) :
    decide (0 ≤ S - ((mm * (c : Int) % 32).toNat : Int) ∧ S - ((mm * (c : Int) % 32).toNat : Int) < 32) = markAt mm S c := by
  rw [ne_str0] at h
  have h0 := Int.emod_nonneg (mm * (c : Int)) (show (32 : Int) ≠ 0 by decide)
  unfold markAt
  generalize mm * (c : Int) % 32 = x at *
  have hx : x ≠ 0 := by simp at h; omega
  rw [Int.toNat_of_nonneg h0]
  simp [hx]
theorem mark_no (mm S : Int) (c : Nat) (h : (({ cps := #[Int.toNat 0] } : Str) != { cps := #[(mm * (c : Int) % 32).toNat] }) = false) :
    (({ cps := #[Int.toNat 0] } : Str) != { cps := #[(mm * (c : Int) % 32).toNat] }) = markAt mm S c := by
  rw [h]
  rw [ne_str0] at h
  have h0 := Int.emod_nonneg (mm * (c : Int)) (show (32 : Int) ≠ 0 by decide)
  unfold markAt
  generalize mm * (c : Int) % 32 = x at *
  have hx : x = 0 := by simp at h; omega
  simp [hx]
/-- what the plain law says of a multiplier that lasts longer than sixteen -/
structure Law3 (ns : List Int) (mm : Int) : Prop where
  last : lastOf mm ns = freeOf ns
  low : ∀ size, 17 ≤ size → size ≤ freeOf ns → sumAt mm ns size < 32
  yes : ∀ size, 17 ≤ size → size ≤ freeOf ns → (((List.range 32).map (bitAt ns size)).count true : Int) = sumAt mm ns size
  no : ∀ size, 17 ≤ size → size ≤ freeOf ns → (((List.range 32).map (bitAt ns size)).count false : Int) = 32 - sumAt mm ns size
  new : ∀ size, 17 ≤ size → size ≤ freeOf ns → ∀ i, i < size → sumAt mm ns i ≠ sumAt mm ns size
  bits : ∀ size, 17 ≤ size → size ≤ freeOf ns → ∀ c, c < 32 → bitAt ns size c = markAt mm (sumAt mm ns size) c
theorem ne_add {L a b : Nat} (h : a ≠ b) : L + a ≠ L + b := fun e => h (Nat.add_left_cancel e)
theorem ne1 (L : Nat) : L + 1 ≠ L + 2 ∧ L + 1 ≠ L + 3 ∧ L + 1 ≠ L + 4 ∧ L + 1 ≠ L + 5 ∧ L + 1 ≠ L + 6 := ⟨ne_add (by decide), ne_add (by decide), ne_add (by decide), ne_add (by decide), ne_add (by decide)⟩
theorem ne2 (L : Nat) : L + 2 ≠ L + 3 ∧ L + 2 ≠ L + 4 ∧ L + 2 ≠ L + 5 ∧ L + 2 ≠ L + 6 := ⟨ne_add (by decide), ne_add (by decide), ne_add (by decide), ne_add (by decide)⟩
theorem ne3 (L : Nat) : L + 3 ≠ L + 4 ∧ L + 3 ≠ L + 5 ∧ L + 3 ≠ L + 6 := ⟨ne_add (by decide), ne_add (by decide), ne_add (by decide)⟩
theorem ne4 (L : Nat) : L + 4 ≠ L + 5 ∧ L + 4 ≠ L + 6 ∧ L + 5 ≠ L + 6 := ⟨ne_add (by decide), ne_add (by decide), ne_add (by decide)⟩
theorem getD_fronts {ns : List Int} {n size : Nat} (h : size ≤ n) : (frontsOf ns n).getD size 0 = frontAt ns size := by
  unfold frontsOf
  rw [List.getD_eq_getElem?_getD, List.getElem?_map, List.getElem?_range (by omega)]
  rfl
local macro_rules | `(tactic| k_all) => `(tactic| assumption)
local macro_rules | `(tactic| walk_at "binaryOp RShift") => `(tactic| (k_here; refine rshift_int (by omega) ?_; try dsimp only))
local macro_rules | `(tactic| k_ne) => `(tactic| (refine W.neN ?_; (try dsimp only); first | assumption | exact Ne.symm (by assumption) | exact (ne1 _).1 | exact (ne1 _).2.1 | exact (ne1 _).2.2.1 | exact (ne1 _).2.2.2.1 | exact (ne1 _).2.2.2.2 | exact (ne2 _).1 | exact (ne2 _).2.1 | exact (ne2 _).2.2.1 | exact (ne2 _).2.2.2 | exact (ne3 _).1 | exact (ne3 _).2.1 | exact (ne3 _).2.2 | exact (ne4 _).1 | exact (ne4 _).2.1 | exact (ne4 _).2.2 | exact (ne1 _).1.symm | exact (ne1 _).2.1.symm | exact (ne1 _).2.2.1.symm | exact (ne1 _).2.2.2.1.symm | exact (ne1 _).2.2.2.2.symm | exact (ne2 _).1.symm | exact (ne2 _).2.1.symm | exact (ne2 _).2.2.1.symm | exact (ne2 _).2.2.2.symm | exact (ne3 _).1.symm | exact (ne3 _).2.1.symm | exact (ne3 _).2.2.symm | exact (ne4 _).1.symm | exact (ne4 _).2.1.symm | exact (ne4 _).2.2.symm))
local macro_rules | `(tactic| walk_at "subscriptTail") => `(tactic| (k_here; (with_reducible show wpAny _ _ (subscriptTail _ _ (Value.ref _) (Value.int _ _)) _ _ _); (with_unfolding_all refine' sub_at ?k1 ?k2 ?k3 ?k4 ?k5 ?_ ?k6; (case k1 => k_asm); (case k2 => k_mem); (case k3 => assumption); (case k4 => omega); (case k5 => omega); (case k6 => with_unfolding_all rfl); k_whole)))
local macro_rules | `(tactic| walk_at "subscriptTail") => `(tactic| (k_here; (with_reducible show wpAny _ _ (subscriptTail _ (Expr.Constant _ _ _) (Value.ref _) (Value.int _ _)) _ _ _); k_dflt (refine' item_tupleT ?t ?a ?b ?c ?d ?_; (case t => exact News.isTup (by k_asm) (by k_mem)); (case a => decide); (case b => decide); (case c => rfl); (case d => rfl); k_whole)))
local macro_rules | `(tactic| walk_at "call ref") => `(tactic| (k_here; k_dflt (refine' Tells.useN ?C ?kB ?kF ?kX ?kT ?kN ?hA ?hh ?hf ?hk ?hd ?hu ?pre ?_; (case C => first | with_reducible assumption | exact t_mul _ _ _ _ _ (by omega) | exact t_ctrlS _ _ _ | exact t_neS _ _ _ _ _ | exact t_isctrl _ _ _); (case hA => exact rfl); (case hh => exact rfl); (case hf => exact rfl); (case hk => exact rfl); (case kB => k_asm); (case kF => k_asm); (case kX => k_asm); (case kT => k_asm); (case kN => k_asm); (case hd => first | (dsimp only; omega) | (show _ + 1 + 20 < _; dsimp only; omega)); (case hu => first | (dsimp only; omega) | (show _ + 100 < _; dsimp only [Around.deeper]; omega)); (case pre => first | trivial | assumption | exact isList_led (by k_asm) (by k_mem)); k_whole); (intro v9 h9 tk9 st9 ht9 p9 F9 N9); (try dsimp only at p9); (try dsimp only at ht9); (first | subst p9 | (obtain ⟨t9, e9⟩ := p9; subst e9) | (obtain ⟨t9, e9, a9, b9⟩ := p9; subst e9)); (try dsimp only)))
local macro_rules | `(tactic| walk_at "call builtin:chr") => `(tactic| (k_here; refine chr_of_range (by omega) (by omega) ?_; (try dsimp only)))
set_option maxHeartbeats 8000000 in
theorem s8
(w : World) (mean : ExcName → Option Value) (mg mb : Str → Option Value) (dp un : Nat) (gd : Option (List Code)) (A₀ : Around) (h₀ : Heap) (L fa : Addr) (cd : Value) (m : Str → Option Value) (s : Shared) (Q : Flow → Shared → Prop) (E : Value → Shared → Prop)
    (B : Below A₀ h₀ [] h₀) (F : Fr h₀ L s.heap m) (X : (Mine.hd.heap_39 w.params).In h₀) (T : Top Mine.hd.view_39 (looseW Mine.hd.view_39 []) mean mg mb h₀) (hd : dp + 80 < recursionLimit) (hu : un + 400 < cLine)
    (d f tl lg : Addr) (us fs ys zs : List Value) (nf : Nat) (ns : List Int) (o1 o2 o3 o4 o5 o6 : Obj) (add : List (Addr × Obj)) (tf : Tok) (hn : ns.length ≤ 24) (d2 : o2.data = .cell (some (.ref f))) (d3 : o3.data = .cell (some (.ref tl)))
    (hfs : IntsAre fs (frontsOf ns ns.length)) (hfree : m (Str.ofString "free") = some (.int (freeOf ns : Nat) tf)) (hlong : m (Str.ofString "longest") = some (.ref lg)) (hz : IntsAre zs ((longOf ns).map fun (k : Nat) => (k : Int))) (hy16 : ys.length = 16) (hys : ∀ (i : Nat) y, ys[i]? = some y → ToldAt ns (1 + (i : Int) * 2) y add)
    (N : News h₀ L s.heap ((lg, LCg.lst zs) :: (tl, LCg.lst ys) :: (f, listOf fs.toArray nf) :: (d, LCg.lst us) :: (L + 1 + 1 + 1 + 1 + 1 + 1, o6) :: (L + 1 + 1 + 1 + 1 + 1, o5) :: (L + 1 + 1 + 1 + 1, o4) :: (L + 1 + 1 + 1, o3) :: (L + 1 + 1, o2) :: (L + 1, o1) :: add)) (hE : PassesOwn (model PySem.Challenge.rw_ph0015_01.row.prog w) { handled := none, depth := dp, frames := some [envOfC (Str.ofString "law") lawScope L fa cd], guards := gd, units := un } (envOfC (Str.ofString "law") lawScope L fa cd) E)
    (c4 c5 c6 : Option Value) (e4 : o4.data = .cell c4) (e5 : o5.data = .cell c5) (e6 : o6.data = .cell c6) (g4 : @Ne Nat lg (L + 1 + 1 + 1 + 1) ∧ @Ne Nat tl (L + 1 + 1 + 1 + 1) ∧ @Ne Nat f (L + 1 + 1 + 1 + 1) ∧ @Ne Nat d (L + 1 + 1 + 1 + 1)) (g5 : @Ne Nat lg (L + 1 + 1 + 1 + 1 + 1) ∧ @Ne Nat tl (L + 1 + 1 + 1 + 1 + 1) ∧ @Ne Nat f (L + 1 + 1 + 1 + 1 + 1) ∧ @Ne Nat d (L + 1 + 1 + 1 + 1 + 1))
    (g6 : @Ne Nat lg (L + 1 + 1 + 1 + 1 + 1 + 1) ∧ @Ne Nat tl (L + 1 + 1 + 1 + 1 + 1 + 1) ∧ @Ne Nat f (L + 1 + 1 + 1 + 1 + 1 + 1) ∧ @Ne Nat d (L + 1 + 1 + 1 + 1 + 1 + 1))
    (a4 : ∀ p ∈ add, p.1 ≠ L + 1 + 1 + 1 + 1) (a5 : ∀ p ∈ add, p.1 ≠ L + 1 + 1 + 1 + 1 + 1) (a6 : ∀ p ∈ add, p.1 ≠ L + 1 + 1 + 1 + 1 + 1 + 1)
    (law3 : ∀ k : Nat, k < 16 → 16 < lastOf (mul_ k) ns → Law3 ns (mul_ k)) (hfl : freeOf ns ≤ ns.length)
    (ret : ∀ h tk m' nw, Fr h₀ L h m' → News h₀ L h nw → wpAny (model PySem.Challenge.rw_ph0015_01.row.prog w) { handled := none, depth := dp, frames := some [envOfC (Str.ofString "law") lawScope L fa cd], guards := gd, units := un } (execs (lawBody.drop 9) (envOfC (Str.ofString "law") lawScope L fa cd)) Q E { s with heap := h, toks := tk }) :
    wpAny (model PySem.Challenge.rw_ph0015_01.row.prog w) { handled := none, depth := dp, frames := some [envOfC (Str.ofString "law") lawScope L fa cd], guards := gd, units := un } (execs (lawBody.drop 8) (envOfC (Str.ofString "law") lawScope L fa cd)) Q E s := by
  obtain ⟨g41, g42, g43, g44⟩ := g4
  obtain ⟨g51, g52, g53, g54⟩ := g5
  obtain ⟨g61, g62, g63, g64⟩ := g6
  have hzl := hz.length
  have hll := longOf_len ns
  rw [List.length_map] at hzl
  have hfsl := hfs.length
  have hfr : (frontsOf ns ns.length).length = ns.length + 1 := by simp [frontsOf]
  w_on
  revert X
  k_fill
  intro X
  rw [show lawBody.drop 8 = lawBody[8]'(by decide) :: lawBody.drop (8 + 1) from List.drop_eq_getElem_cons (by decide)]
  conv in (lawBody[8]'_) => whnf
  generalize lawBody.drop (8 + 1) = rest at ret ⊢
  repeat' (first | (k_unfold; (try dsimp only)) | ((fail_if_success (with_reducible show wpAny _ _ (exec (Stmt.For _ _ _ _ _) _) _ _ _)); walk1) | ((fail_if_success (with_reducible show wpAny _ _ (exec (Stmt.For _ _ _ _ _) _) _ _ _)); dsimp only; walk1))
  refine for_list (h₀ := h₀) (l := lg) (vs := zs) (J := fun i m nw tk => m (Str.ofString "free") = some (.int (freeOf ns : Nat) tf) ∧ ∃ o4 o5 o6 c4 c5 c6, o4.data = .cell c4 ∧ o5.data = .cell c5 ∧ o6.data = .cell c6 ∧ nw = (lg, LCg.lst zs) :: (tl, LCg.lst ys) :: (f, listOf fs.toArray nf) :: (d, LCg.lst us) :: (L + 1 + 1 + 1 + 1 + 1 + 1, o6) :: (L + 1 + 1 + 1 + 1 + 1, o5) :: (L + 1 + 1 + 1 + 1, o4) :: (L + 1 + 1 + 1, o3) :: (L + 1 + 1, o2) :: (L + 1, o1) :: add) rfl hE ?hl (by k_asm) N ?h0 ?hev ?turn ?done
  case hl =>
    rintro i m nw tk h ⟨_, _, _, _, _, _, _, _, _, _, rfl⟩ _ N
    exact isList_led N (by k_mem)
  case h0 => exact ⟨hfree, _, _, _, _, _, _, e4, e5, e6, rfl⟩
  case hev =>
    intro Q' hQ'
    k_steps
    exact hQ'
  case done =>
    rintro m₁ nw h tk ⟨hfr, _, _, _, _, _, _, _, _, _, rfl⟩ F N
    exact ret _ _ _ _ F N
  case turn =>
    rintro i v m₁ nw h tk own hv ⟨hfr, o4, o5, o6, c4, c5, c6, e4, e5, e6, rfl⟩ off F N1
    obtain ⟨x, tx, rfl, hx'⟩ := IntsAre.at hz i v hv
    obtain ⟨k, hk, rfl⟩ : ∃ k, (longOf ns)[i]? = some k ∧ (k : Int) = x := by
      rw [List.getElem?_map] at hx'
      cases e : (longOf ns)[i]? with
      | none => rw [e] at hx'; cases hx'
      | some k => rw [e] at hx'; cases hx'; exact ⟨k, rfl, rfl⟩
    obtain ⟨hk16, hk17⟩ := longOf_lt hk
    have Law := law3 k hk16 hk17
    obtain ⟨y, hy⟩ : ∃ y, ys[k]? = some y := ⟨_, List.getElem?_eq_getElem (by omega)⟩
    obtain ⟨TT, tkb, a, dd, us', n₂, t₁, t₂, rfl, ha, hdd, hl1, hl2, hsum⟩ := (hys k y hy).get
    simp only [List.cons_append, List.nil_append] at N1
    have b4 : ∀ p ∈ add ++ own, p.1 ≠ L + 1 + 1 + 1 + 1 := fun p hp => (List.mem_append.mp hp).elim (a4 p) (fun q => off p q _ (by simp))
    have b5 : ∀ p ∈ add ++ own, p.1 ≠ L + 1 + 1 + 1 + 1 + 1 := fun p hp => (List.mem_append.mp hp).elim (a5 p) (fun q => off p q _ (by simp))
    have b6 : ∀ p ∈ add ++ own, p.1 ≠ L + 1 + 1 + 1 + 1 + 1 + 1 := fun p hp => (List.mem_append.mp hp).elim (a6 p) (fun q => off p q _ (by simp))
    have ha2 := List.mem_append_left own ha
    have hdd2 := List.mem_append_left own hdd
    have ho2 : ∀ p ∈ own, p ∈ add ++ own := fun p hp => List.mem_append_right _ hp
    have hadd2 : ∀ p ∈ add, p ∈ add ++ own := fun p hp => List.mem_append_left _ hp
    clear N
    generalize htail : add ++ own = tail at N1 b4 b5 b6 ha2 hdd2 ho2 hadd2
    refine wpAny_assign_Name ?_
    repeat' (first | (k_unfold; (try dsimp only)) | ((fail_if_success (with_reducible show wpAny _ _ (exec (Stmt.Assign _ _ _) _) _ _ _)); walk1) | ((fail_if_success (with_reducible show wpAny _ _ (exec (Stmt.Assign _ _ _) _) _ _ _)); dsimp only; walk1))
    rename_i h4 o4n F4 N4 d4
    rename Fr _ _ _ _ => FF
    have hkk : (2 * (k : Int) + 1) = mul_ k := by show _ = 1 + (k : Int) * 2; omega
    refine LCg.Assign_ListComp_U (F₀ := FF) (by rfl) (by with_unfolding_all rfl) (by with_unfolding_all rfl) (by decide) (by rfl) (by decide) (by rfl) (by rfl) (by rfl) ?_
    repeat' (first | (k_unfold; (try dsimp only)) | ((fail_if_success (with_reducible show LCg.CompSrc _ _ _ _ _ _ _ _ _ _ _ _ _ _)); walk1) | ((fail_if_success (with_reducible show LCg.CompSrc _ _ _ _ _ _ _ _ _ _ _ _ _ _)); dsimp only; walk1))
    rename IsRange _ _ _ _ _ _ _ _ => hR
    rename News _ _ _ _ => NN
    rename Fr _ _ _ _ => FF
    refine LCg.CompSrc.range (n := 32) (by rfl) FF NN hR (by decide) (by decide) (by rw [sizeLine_eq]; omega) ?_
    intro g
    refine comp_rest (fun c y => ∃ t, y = .str (Str.mk #[(mul_ k * (c : Int) % 32).toNat]) t) trivial ?turn1 ?fin1
    case turn1 =>
      intro c v I oI C oC D m₂ xs h tk E' hin hv hC hx F N
      obtain ⟨t, rfl⟩ := hv
      have hp0 : 0 ≤ (2 * (k : Int) + 1) * (0 + (c : Int)) := Int.mul_nonneg (by omega) (by omega)
      have hp1 : (2 * (k : Int) + 1) * (0 + (c : Int)) ≤ 31 * 31 := Int.mul_le_mul (by omega) (by omega) (by omega) (by omega)
      have e : ((2 * (k : Int) + 1) * (0 + (c : Int))).toNat % 32 = (mul_ k * (c : Int) % 32).toNat := by
        rw [hkk, Int.zero_add] at hp0 ⊢
        omega
      repeat' (first | (k_unfold; (try dsimp only)) | ((fail_if_success (with_reducible show ElEnd _ _ _ _ _ _ _ _)); walk1) | ((fail_if_success (with_reducible show ElEnd _ _ _ _ _ _ _ _)); dsimp only; walk1))
      exact ElEnd.intro (by k_asm) (by k_asm) (fun p hp => hp) ⟨_, by rw [e]⟩
    case fin1 =>
      intro xs hlen1 hg1
      intro D h tk F N off2
      simp only [LCg.Off1] at off2
      obtain ⟨f1, f2, f3, f4, f5, f6, f7, f8, f9, f10, _⟩ := off2
      clear NN FF
      dsimp only
      repeat' (first | (k_unfold; (try dsimp only)) | ((fail_if_success (with_reducible show wpAny _ _ (exec (Stmt.For _ _ _ _ _) _) _ _ _)); walk1) | ((fail_if_success (with_reducible show wpAny _ _ (exec (Stmt.For _ _ _ _ _) _) _ _ _)); dsimp only; walk1))
      have hfree17 : 17 ≤ freeOf ns := by have := Law.last; omega
      refine for_range (h₀ := h₀) (a := 17) (b := (freeOf ns : Int) + 1) (n := freeOf ns - 16) (m₀ := fun z => if z = Str.ofString "signs" then some (.ref D) else m₁ z) (news := (D, LCg.lst xs) :: (lg, LCg.lst zs) :: (tl, LCg.lst ys) :: (f, listOf fs.toArray nf) :: (d, LCg.lst us) :: (L + 1 + 1 + 1 + 1 + 1 + 1, o6) :: (L + 1 + 1 + 1 + 1 + 1, o5) :: (L + 1 + 1 + 1 + 1, o4n) :: (L + 1 + 1 + 1, o3) :: (L + 1 + 1, o2) :: (L + 1, o1) :: tail)
        (J := fun i m nw => m (Str.ofString "free") = some (.int (freeOf ns : Nat) tf) ∧ m (Str.ofString "signs") = some (.ref D) ∧ ∃ o5 o6 c5 c6, o5.data = .cell c5 ∧ o6.data = .cell c6 ∧
          nw = (D, LCg.lst xs) :: (lg, LCg.lst zs) :: (tl, LCg.lst ys) :: (f, listOf fs.toArray nf) :: (d, LCg.lst us) :: (L + 1 + 1 + 1 + 1 + 1 + 1, o6) :: (L + 1 + 1 + 1 + 1 + 1, o5) :: (L + 1 + 1 + 1 + 1, o4n) :: (L + 1 + 1 + 1, o3) :: (L + 1 + 1, o2) :: (L + 1, o1) :: tail)
        rfl hE (small_rangeAB (by decide) (by omega) (by omega)) (by unfold Builtin.Range.rangeSize; rw [if_pos (by decide), if_pos (by omega)]; omega) ?hev2 ?turn2 ?done2
      case hev2 =>
        repeat' (first | (k_unfold; (try dsimp only)) | ((fail_if_success (with_reducible show RangeOut _ _ _ _ _ _ _ _ _ _)); walk1) | ((fail_if_success (with_reducible show RangeOut _ _ _ _ _ _ _ _ _ _)); dsimp only; walk1))
        exact ⟨_, _, _, _, _, _, rfl, rfl, by k_asm, by k_asm, by assumption, (if_neg (by decide)).trans hfr, by simp, _, _, _, _, e5, e6, rfl⟩
      case done2 =>
        rintro m₂ nw2 h2 tk2 ⟨hfr3, hsg3, o5', o6', c5', c6', e5', e6', rfl⟩ F N
        dsimp only
        repeat' (first | (k_unfold; (try dsimp only)) | ((fail_if_success (with_reducible show TurnEnd _ _ _ _ _ _ _ _)); walk1) | ((fail_if_success (with_reducible show TurnEnd _ _ _ _ _ _ _ _)); dsimp only; walk1))
        exact TurnEnd.next (nw := [(lg, LCg.lst zs), (tl, LCg.lst ys), (f, listOf fs.toArray nf), (d, LCg.lst us), (L + 1 + 1 + 1 + 1 + 1 + 1, o6'), (L + 1 + 1 + 1 + 1 + 1, o5'), (L + 1 + 1 + 1 + 1, o4n), (L + 1 + 1 + 1, o3), (L + 1 + 1, o2), (L + 1, o1)] ++ add) (by k_asm) N (fun p hp => List.mem_cons_of_mem _ (mem_tail (c := [(lg, LCg.lst zs), (tl, LCg.lst ys), (f, listOf fs.toArray nf), (d, LCg.lst us), (L + 1 + 1 + 1 + 1 + 1 + 1, o6'), (L + 1 + 1 + 1 + 1 + 1, o5'), (L + 1 + 1 + 1 + 1, o4n), (L + 1 + 1 + 1, o3), (L + 1 + 1, o2), (L + 1, o1)]) hadd2 hp)) (fun p hp => List.mem_cons_of_mem _ (List.mem_append_right [(lg, LCg.lst zs), (tl, LCg.lst ys), (f, listOf fs.toArray nf), (d, LCg.lst us), (L + 1 + 1 + 1 + 1 + 1 + 1, o6'), (L + 1 + 1 + 1 + 1 + 1, o5'), (L + 1 + 1 + 1 + 1, o4n), (L + 1 + 1 + 1, o3), (L + 1 + 1, o2), (L + 1, o1)] (ho2 p hp))) off ⟨hfr3, o4n, o5', o6', _, _, _, d4, e5', e6', rfl⟩
      case turn2 =>
        rintro i2 t2 m₂ nw2 h2 tk2 own2 hlt2 ⟨hfr2, hsg, o5', o6', c5', c6', e5', e6', rfl⟩ off3 F2 N2
        obtain ⟨size, hsize⟩ : ∃ size : Nat, size = 17 + i2 := ⟨_, rfl⟩
        have hsI : (17 + (i2 : Int)) = (size : Nat) := by omega
        have hs17 : 17 ≤ size := by omega
        have hsf : size ≤ freeOf ns := by omega
        rw [hsI]
        have hlast := Law.last
        obtain ⟨tt, hut, htt0, htt1⟩ := hsum.2.1 size (by show size ≤ TT; have : lastOf (mul_ k) ns ≤ TT := hl1; omega)
        have hul' : us'.length ≤ 25 := by have := hsum.1; omega
        obtain ⟨tf2, hft⟩ : ∃ tf2, fs[size]? = some (.int (frontAt ns size) tf2) := by
          obtain ⟨v, hv⟩ : ∃ v, fs[size]? = some v := ⟨_, List.getElem?_eq_getElem (by omega)⟩
          obtain ⟨x, t, rfl, hx⟩ := IntsAre.at hfs size v hv
          have : x = frontAt ns size := by
            unfold frontsOf at hx
            rw [List.getElem?_map, List.getElem?_range (by omega)] at hx
            cases hx; rfl
          subst this
          exact ⟨t, hv⟩
        simp only [List.cons_append, List.nil_append] at N2
        have b42 : ∀ p ∈ tail ++ own2, p.1 ≠ L + 1 + 1 + 1 + 1 := fun p hp => (List.mem_append.mp hp).elim (b4 p) (fun q => off3 p q _ (by simp))
        have b52 : ∀ p ∈ tail ++ own2, p.1 ≠ L + 1 + 1 + 1 + 1 + 1 := fun p hp => (List.mem_append.mp hp).elim (b5 p) (fun q => off3 p q _ (by simp))
        have b62 : ∀ p ∈ tail ++ own2, p.1 ≠ L + 1 + 1 + 1 + 1 + 1 + 1 := fun p hp => (List.mem_append.mp hp).elim (b6 p) (fun q => off3 p q _ (by simp))
        have q5 : @Ne Nat a (L + 1 + 1 + 1 + 1 + 1) := b5 _ ha2
        have q6 : @Ne Nat a (L + 1 + 1 + 1 + 1 + 1 + 1) := b6 _ ha2
        have r5 : @Ne Nat dd (L + 1 + 1 + 1 + 1 + 1) := b5 _ hdd2
        have r6 : @Ne Nat dd (L + 1 + 1 + 1 + 1 + 1 + 1) := b6 _ hdd2
        have ho3 : ∀ p ∈ own2, p ∈ tail ++ own2 := fun p hp => List.mem_append_right _ hp
        have ht3 : ∀ p ∈ tail, p ∈ tail ++ own2 := fun p hp => List.mem_append_left _ hp
        have N3 := news_also N2 _ (List.mem_append_right [(D, LCg.lst xs), (lg, LCg.lst zs), (tl, LCg.lst ys), (f, listOf fs.toArray nf), (d, LCg.lst us), (L + 1 + 1 + 1 + 1 + 1 + 1, o6'), (L + 1 + 1 + 1 + 1 + 1, o5'), (L + 1 + 1 + 1 + 1, o4n), (L + 1 + 1 + 1, o3), (L + 1 + 1, o2), (L + 1, o1)] (ht3 _ ha2))
        have N4 := news_also N3 _ (List.mem_cons_of_mem _ (List.mem_append_right [(D, LCg.lst xs), (lg, LCg.lst zs), (tl, LCg.lst ys), (f, listOf fs.toArray nf), (d, LCg.lst us), (L + 1 + 1 + 1 + 1 + 1 + 1, o6'), (L + 1 + 1 + 1 + 1 + 1, o5'), (L + 1 + 1 + 1 + 1, o4n), (L + 1 + 1 + 1, o3), (L + 1 + 1, o2), (L + 1, o1)] (ht3 _ hdd2)))
        clear N3 N2 F N
        generalize htail2 : tail ++ own2 = tail2 at N4 b42 b52 b62 ho3 ht3
        refine wpAny_assign_Name ?_
        repeat' (first | (k_unfold; (try dsimp only)) | ((fail_if_success (with_reducible show wpAny _ _ (exec (Stmt.Assign [Expr.Name (Str.ofString "reached") _] _ _) _) _ _ _)); walk1) | ((fail_if_success (with_reducible show wpAny _ _ (exec (Stmt.Assign [Expr.Name (Str.ofString "reached") _] _ _) _) _ _ _)); dsimp only; walk1))
        rename_i o5n d5 h6 o6n F6 N6 d6
        rename Fr _ _ _ _ => FF
        refine LCg.Assign_ListComp_U (F₀ := FF) (by rfl) (by with_unfolding_all rfl) (by with_unfolding_all rfl) (by decide) (by rfl) (by decide) (by rfl) (by rfl) (by rfl) ?_
        repeat' (first | (k_unfold; (try dsimp only)) | ((fail_if_success (with_reducible show LCg.CompSrc _ _ _ _ _ _ _ _ _ _ _ _ _ _)); walk1) | ((fail_if_success (with_reducible show LCg.CompSrc _ _ _ _ _ _ _ _ _ _ _ _ _ _)); dsimp only; walk1))
        rename IsRange _ _ _ _ _ _ _ _ => hR
        rename News _ _ _ _ => NN
        rename Fr _ _ _ _ => FF
        refine LCg.CompSrc.range (n := 32) (by rfl) FF NN hR (by decide) (by decide) (by rw [sizeLine_eq]; omega) ?_
        intro g3
        refine comp_rest (fun c y => y = .bool (bitAt ns size c)) trivial ?turn3 ?fin3
        case turn3 =>
          intro c v I oI C oC D2 m₂ xs2 h tk E' hin hv hC hx F N
          obtain ⟨t, rfl⟩ := hv
          repeat' (first | (k_unfold; (try dsimp only)) | ((fail_if_success (with_reducible show ElEnd _ _ _ _ _ _ _ _)); walk1) | ((fail_if_success (with_reducible show ElEnd _ _ _ _ _ _ _ _)); dsimp only; walk1))
          refine ElEnd.intro (by k_asm) (by k_asm) (fun p hp => hp) ?_
          show Value.bool _ = Value.bool _
          rw [show (((size : Nat) : Int)).toNat = size from rfl, getD_fronts (by omega), Int.fmod_eq_emod_of_nonneg _ (by decide), show (0 + (c : Int)).toNat = c by omega]
          rfl
        case fin3 =>
          intro xs3 hlen3 hg3
          have hxs3 := bools_of hlen3 hg3
          subst hxs3
          clear hg3 NN FF
          intro rc h tk F N off4
          have C1 := t_countOf w rc ((List.range 32).map (bitAt ns size)) true
          have C2 := t_countOf w rc ((List.range 32).map (bitAt ns size)) false
          have hyes : ((((List.range 32).map (bitAt ns size)).count true : Nat) : Int) = sumAt (1 + (k : Int) * 2) ns size := Law.yes size hs17 hsf
          have hnno : ((((List.range 32).map (bitAt ns size)).count false : Nat) : Int) = 32 - sumAt (1 + (k : Int) * 2) ns size := Law.no size hs17 hsf
          have hlow : sumAt (1 + (k : Int) * 2) ns size < 32 := Law.low size hs17 hsf
          have hlow0 := sumAt_nonneg (1 + (k : Int) * 2) ns size
          have C3 := t_indexOfI w dd us' (sumAt (1 + (k : Int) * 2) ns size) tt tt size (Nat.ne_of_gt htt0) (Nat.ne_of_gt htt0) (by unfold smallInt; simp; omega) hut (fun i v hi hv => by
            obtain ⟨t', h1, h2, h3⟩ := hsum.2.1 i (by show i ≤ TT; have : lastOf (mul_ k) ns ≤ TT := hl1; omega)
            rw [h1] at hv
            cases hv
            exact ⟨_, _, rfl, Law.new size hs17 hsf i hi, Nat.ne_of_gt h2, Nat.ne_of_lt (hsum.2.2 i size _ _ _ _ hi h1 hut)⟩)
          dsimp only
          repeat' (first | (k_unfold; (try dsimp only)) | ((fail_if_success (with_reducible show wpAny _ _ (eval (Expr.ListComp _ _ _ _) _) _ _ _)); walk1) | ((fail_if_success (with_reducible show wpAny _ _ (eval (Expr.ListComp _ _ _ _) _) _ _ _)); dsimp only; walk1))
          all_goals first
            | exact absurd hyes (by assumption)
            | exact absurd hnno (by assumption)
            | exact absurd (rfl : ((size : Nat) : Int) = (size : Nat)) (by assumption)
            | skip
          rename Fr _ _ _ _ => FF
          refine LCg.ListComp_U (F₀ := FF) (by with_unfolding_all rfl) (by decide) (by rfl) (by decide) (by rfl) ?_
          repeat' (first | (k_unfold; (try dsimp only)) | ((fail_if_success (with_reducible show LCg.CompSrc _ _ _ _ _ _ _ _ _ _ _ _ _ _)); walk1) | ((fail_if_success (with_reducible show LCg.CompSrc _ _ _ _ _ _ _ _ _ _ _ _ _ _)); dsimp only; walk1))
          rename News _ _ _ _ => NN
          rename Fr _ _ _ _ => FF
          have hmx : (D, LCg.lst xs) ∈ (rc, LCg.lst (((List.range 32).map (bitAt ns size)).map Value.bool)) :: (dd, listOf us'.toArray n₂) :: (a, ({ cls := .type "tuple", data := .seq #[.int (lastOf (1 + (k : Int) * 2) ns : Nat) t₁, .str (if lastOf (1 + (k : Int) * 2) ns < ns.length then Str.ofString "" else noWords) t₂, .ref dd] } : Obj)) ::
            (D, LCg.lst xs) :: (lg, LCg.lst zs) :: (tl, LCg.lst ys) :: (f, listOf fs.toArray nf) :: (d, LCg.lst us) :: (L + 1 + 1 + 1 + 1 + 1 + 1, o6n) :: (L + 1 + 1 + 1 + 1 + 1, o5n) :: (L + 1 + 1 + 1 + 1, o4n) :: (L + 1 + 1 + 1, o3) :: (L + 1 + 1, o2) :: (L + 1, o1) :: tail2 :=
            List.mem_cons_of_mem _ (List.mem_cons_of_mem _ (List.mem_cons_of_mem _ List.mem_cons_self))
          refine LCg.CompSrc.ledger (by rfl) FF NN hmx (by rw [List.size_toArray, sizeLine_eq, hlen1]; omega) ?_
          intro g4
          refine comp_rest (fun c y => y = .bool (bitAt ns size c)) (Or.inr ⟨_, hmx, rfl, _, rfl⟩) ?turn4 ?fin4
          case turn4 =>
            intro c v I oI C oC D2 m₂ xs2 h tk E' hin hv hC hx F N
            have hc32 : c < 32 := by rw [List.size_toArray, hlen1] at hin; exact hin
            obtain ⟨t, rfl⟩ := hg1 c v (by simpa using hv)
            clear NN FF
            repeat' (first | (k_unfold; (try dsimp only)) | ((fail_if_success (with_reducible show ElEnd _ _ _ _ _ _ _ _)); walk1) | ((fail_if_success (with_reducible show ElEnd _ _ _ _ _ _ _ _)); dsimp only; walk1))
            · exact ElEnd.intro (by k_asm) (by k_asm) (fun p hp => hp) (congrArg Value.bool ((mark_yes _ _ _ (by assumption)).trans (Law.bits size hs17 hsf c hc32).symm))
            · exact ElEnd.intro (by k_asm) (by k_asm) (fun p hp => hp) (congrArg Value.bool ((mark_no _ _ _ (by assumption)).trans (Law.bits size hs17 hsf c hc32).symm))
          case fin4 =>
            intro xs4 hlen4 hg4
            have hxs4 := bools_of (n := 32) (by rw [hlen4, List.size_toArray, hlen1]) hg4
            subst hxs4
            clear hg4 NN FF
            intro D4 h tk F N off5
            dsimp only
            repeat' (first | (k_unfold; (try dsimp only)) | ((fail_if_success (with_reducible show wpAny _ _ (compareOp CmpOp.NotEq _ _) _ _ _)); walk1) | ((fail_if_success (with_reducible show wpAny _ _ (compareOp CmpOp.NotEq _ _) _ _ _)); dsimp only; walk1))
            refine ne_bools_same (isList_led (by k_asm) (by k_mem)) (isList_led (by k_asm) (by k_mem)) (by dsimp only; omega) ?_
            repeat' (first | (k_unfold; (try dsimp only)) | ((fail_if_success (with_reducible show TurnEnd _ _ _ _ _ _ _ _)); walk1) | ((fail_if_success (with_reducible show TurnEnd _ _ _ _ _ _ _ _)); dsimp only; walk1))
            rename News _ _ _ _ => NN
            exact TurnEnd.next (nw := [(D, LCg.lst xs), (lg, LCg.lst zs), (tl, LCg.lst ys), (f, listOf fs.toArray nf), (d, LCg.lst us), (L + 1 + 1 + 1 + 1 + 1 + 1, o6n), (L + 1 + 1 + 1 + 1 + 1, o5n), (L + 1 + 1 + 1 + 1, o4n), (L + 1 + 1 + 1, o3), (L + 1 + 1, o2), (L + 1, o1)] ++ tail) (by k_asm) NN (fun p hp => List.mem_cons_of_mem _ (List.mem_cons_of_mem _ (List.mem_cons_of_mem _ (List.mem_cons_of_mem _ (mem_tail (c := [(D, LCg.lst xs), (lg, LCg.lst zs), (tl, LCg.lst ys), (f, listOf fs.toArray nf), (d, LCg.lst us), (L + 1 + 1 + 1 + 1 + 1 + 1, o6n), (L + 1 + 1 + 1 + 1 + 1, o5n), (L + 1 + 1 + 1 + 1, o4n), (L + 1 + 1 + 1, o3), (L + 1 + 1, o2), (L + 1, o1)]) ht3 hp)))))
              (fun p hp => List.mem_cons_of_mem _ (List.mem_cons_of_mem _ (List.mem_cons_of_mem _ (List.mem_cons_of_mem _ (List.mem_append_right [(D, LCg.lst xs), (lg, LCg.lst zs), (tl, LCg.lst ys), (f, listOf fs.toArray nf), (d, LCg.lst us), (L + 1 + 1 + 1 + 1 + 1 + 1, o6n), (L + 1 + 1 + 1 + 1 + 1, o5n), (L + 1 + 1 + 1 + 1, o4n), (L + 1 + 1 + 1, o3), (L + 1 + 1, o2), (L + 1, o1)] (ho3 p hp)))))) off3 ⟨(by (try dsimp only); (repeat rw [if_neg (by decide)]); (try rw [if_pos rfl]); first | rfl | assumption), (by (try dsimp only); (repeat rw [if_neg (by decide)]); (try rw [if_pos rfl]); first | rfl | assumption), o5n, o6n, _, _, d5, d6, rfl⟩
end Mine
end
section
open PySem PySem.W PyProof.Rows PySem.Spec PySem.Calls
set_option Elab.async false
set_option maxRecDepth 100000
namespace Mine
local macro_rules | `(tactic| k_room) => `(tactic| ((try simp only [depth_under_make, depth_under_kw, depth_in1, depth_deeper, depth_caller]); omega))
local macro_rules | `(tactic| walk_at "execs cons") => `(tactic| (k_here; (with_reducible refine wpAny_execs_cons ?_); try dsimp only))
local macro_rules | `(tactic| walk_at "eval Constant int") => `(tactic| (k_here; refine wpAny_Constant_int ?_; dsimp only))
local macro_rules | `(tactic| walk_at "execs nil") => `(tactic| (k_here; (with_reducible refine wpAny_execs_nil ?_); try dsimp only))
local macro_rules | `(tactic| walk_at "eval Name") => `(tactic| (k_here; k_dflt (refine' nameX_L ?F ?v ?_ ?a ?b; (case F => k_asm); (case a => rfl); (case b => rfl); (case v => (first | exact rfl | assumption | ((repeat rw [if_neg (by decide)]); (try rw [if_pos rfl]); first | rfl | assumption))); k_whole)))
set_option maxHeartbeats 8000000 in
theorem s9
(w : World) (mean : ExcName → Option Value) (mg mb : Str → Option Value) (dp un : Nat) (gd : Option (List Code)) (A₀ : Around) (h₀ : Heap) (L fa : Addr) (cd : Value) (m : Str → Option Value) (s : Shared) (Q : Flow → Shared → Prop) (E : Value → Shared → Prop)
    (B : Below A₀ h₀ [] h₀) (F : Fr h₀ L s.heap m) (X : (Mine.hd.heap_39 w.params).In h₀) (T : Top Mine.hd.view_39 (looseW Mine.hd.view_39 []) mean mg mb h₀) (hd : dp + 80 < recursionLimit) (hu : un + 400 < cLine)
    (ret : ∀ h tk m', Fr h₀ L h m' → Q (.ret (.bool true)) { s with heap := h, toks := tk }) :
    wpAny (model PySem.Challenge.rw_ph0015_01.row.prog w) { handled := none, depth := dp, frames := some [envOfC (Str.ofString "law") lawScope L fa cd], guards := gd, units := un } (execs (lawBody.drop 9) (envOfC (Str.ofString "law") lawScope L fa cd)) Q E s := by
  w_on
  revert X
  k_fill
  intro X
  rw [show lawBody.drop 9 = lawBody[9]'(by decide) :: [] from by rfl]
  conv in (lawBody[9]'_) => whnf
  repeat' (first | (k_unfold; (try dsimp only)) | ((fail_if_success (with_reducible show Q _ _)); walk1) | ((fail_if_success (with_reducible show Q _ _)); dsimp only; walk1))
  exact ret _ _ _ (by k_asm)
structure PlainLaw (ns : List Int) : Prop where
  one : ∀ i : Nat, i < 16 → ∀ last : Nat, last ≤ ns.length → (∀ j, j < last → okAt (1 + (i : Int) * 2) ns j = true) → last ≤ freeOf ns
  two : (longOf ns).map (fun k => ((lastOf (mul_ k) ns : Nat) : Int)) = if 16 < freeOf ns then [(freeOf ns : Int)] else []
  three : ∀ k : Nat, k < 16 → 16 < lastOf (mul_ k) ns → Law3 ns (mul_ k)
  most : freeOf ns ≤ ns.length
set_option maxHeartbeats 8000000 in
theorem law_all
(w : World) (mean : ExcName → Option Value) (mg mb : Str → Option Value) (dp un : Nat) (gd : Option (List Code)) (A₀ : Around) (h₀ : Heap) (L fa : Addr) (cd : Value) (m : Str → Option Value) (s : Shared) (Q : Flow → Shared → Prop) (E : Value → Shared → Prop)
    (B : Below A₀ h₀ [] h₀) (F : Fr h₀ L s.heap m) (X : (Mine.hd.heap_39 w.params).In h₀) (T : Top Mine.hd.view_39 (looseW Mine.hd.view_39 []) mean mg mb h₀) (hd : dp + 80 < recursionLimit) (hu : un + 400 < cLine)
    (plain : ∀ ns : List Int, PlainLaw ns)
    (l : Addr) (vs : List Value) (ss : List Int) (hl : h₀.IsList l vs.toArray) (hi : IntsAre vs ss) (hn : ss.length ≤ 63) (hm : m (Str.ofString "script") = some (.ref l))
    (o1 o2 o3 o4 o5 o6 : Obj) (d1 : o1.data = .cell none) (d2 : o2.data = .cell none) (d3 : o3.data = .cell none) (d4 : o4.data = .cell none) (d5 : o5.data = .cell none) (d6 : o6.data = .cell none)
    (N : News h₀ L s.heap [(L + 1 + 1 + 1 + 1 + 1 + 1, o6), (L + 1 + 1 + 1 + 1 + 1, o5), (L + 1 + 1 + 1 + 1, o4), (L + 1 + 1 + 1, o3), (L + 1 + 1, o2), (L + 1, o1)]) (hE : PassesOwn (model PySem.Challenge.rw_ph0015_01.row.prog w) { handled := none, depth := dp, frames := some [envOfC (Str.ofString "law") lawScope L fa cd], guards := gd, units := un } (envOfC (Str.ofString "law") lawScope L fa cd) E)
    (ret : ∀ h tk m', Fr h₀ L h m' → Q (.ret (.bool true)) { s with heap := h, toks := tk }) :
    wpAny (model PySem.Challenge.rw_ph0015_01.row.prog w) { handled := none, depth := dp, frames := some [envOfC (Str.ofString "law") lawScope L fa cd], guards := gd, units := un } (execs (lawBody.drop 0) (envOfC (Str.ofString "law") lawScope L fa cd)) Q E s := by
  refine s0 w mean mg mb dp un gd A₀ h₀ L fa cd m s Q E B F X T hd hu l vs ss hl hi hn hm o1 o2 o3 o4 o5 o6 d1 N ?_
  intro h tk m' o1' d ns us F1 N1 off1 d1' hints h20 h24
  have P := plain ns
  refine s1 w mean mg mb dp un gd A₀ h₀ L fa cd m' _ Q E B F1 X T hd hu d us ns o1' o2 o3 o4 o5 o6 hints h24 d1' N1 off1 ?_
  intro h tk F2 N2
  refine s2 w mean mg mb dp un gd A₀ h₀ L fa cd m' _ Q E B F2 X T hd hu d us ns o1' o2 o3 o4 o5 o6 hints h24 d1' d2 N2 off1 ?_
  intro h tk f fs nf o2' F3 N3 d2' offf hfs
  refine s3 w mean mg mb dp un gd A₀ h₀ L fa cd m' _ Q E B F3 X T hd hu d f us fs nf ns o1' o2' o3 o4 o5 o6 hfs h24 d2' N3 offf off1 ?_
  intro h tk m4 tf F4 N4 hfree
  refine s4 w mean mg mb dp un gd A₀ h₀ L fa cd m4 _ Q E B F4 X T hd hu d f us fs nf ns o1' o2' o3 o4 o5 o6 hints h24 d1' d3 N4 offf off1 ?_
  intro h tk tl ys add o3' F5 N5 d3' hy16 hys hR ko1 ko2
  refine s5 w mean mg mb dp un gd A₀ h₀ L fa cd m4 _ Q E B F5 X T hd hu d f tl us fs ys nf ns o1' o2' o3' o4 o5 o6 add tf hints h24 d1' d3' hfree hy16 hys N5 hE P.one ?_
  intro h tk m6 F6 N6 hfree6
  refine s6 w mean mg mb dp un gd A₀ h₀ L fa cd m6 _ Q E B F6 X T hd hu d f tl us fs ys nf ns o1' o2' o3' o4 o5 o6 add tf d3' hfree6 hy16 hys N6 ?_
  intro h tk m7 lg zs F7 N7 off7 hz hlong hfree7
  refine s7 w mean mg mb dp un gd A₀ h₀ L fa cd m7 _ Q E B F7 X T hd hu d f tl lg us fs ys zs nf ns o1' o2' o3' o4 o5 o6 add tf d3' hfree7 hlong hz hy16 hys N7 P.two ?_
  intro h tk F8 N8
  have okf := off_mem offf
  have okd := off_mem off1
  refine s8 w mean mg mb dp un gd A₀ h₀ L fa cd m7 _ Q E B F8 X T hd hu d f tl lg us fs ys zs nf ns o1' o2' o3' o4 o5 o6 add tf h24 d2' d3' hfs hfree7 hlong hz hy16 hys N8 hE none none none d4 d5 d6
    ⟨(off7 (L + 1 + 1 + 1 + 1, o4) (by k_mem)).symm, (ko1 (L + 1 + 1 + 1 + 1, o4) (by k_mem)).symm, (okf (L + 1 + 1 + 1 + 1, o4) (by k_mem)).symm, (okd (L + 1 + 1 + 1 + 1, o4) (by k_mem)).symm⟩
    ⟨(off7 (L + 1 + 1 + 1 + 1 + 1, o5) (by k_mem)).symm, (ko1 (L + 1 + 1 + 1 + 1 + 1, o5) (by k_mem)).symm, (okf (L + 1 + 1 + 1 + 1 + 1, o5) (by k_mem)).symm, (okd (L + 1 + 1 + 1 + 1 + 1, o5) (by k_mem)).symm⟩
    ⟨(off7 (L + 1 + 1 + 1 + 1 + 1 + 1, o6) (by k_mem)).symm, (ko1 (L + 1 + 1 + 1 + 1 + 1 + 1, o6) (by k_mem)).symm, (okf (L + 1 + 1 + 1 + 1 + 1 + 1, o6) (by k_mem)).symm, (okd (L + 1 + 1 + 1 + 1 + 1 + 1, o6) (by k_mem)).symm⟩
    (fun p hp => hR p hp (L + 1 + 1 + 1 + 1, o4) (by k_mem)) (fun p hp => hR p hp (L + 1 + 1 + 1 + 1 + 1, o5) (by k_mem)) (fun p hp => hR p hp (L + 1 + 1 + 1 + 1 + 1 + 1, o6) (by k_mem)) P.three P.most ?_
  intro h tk m9 nw F9 N9
  refine s9 w mean mg mb dp un gd A₀ h₀ L fa cd m9 _ Q E B F9 X T hd hu ?_
  intro h tk m10 F10
  exact ret _ _ _ F10
end Mine
end
section
namespace Mine
abbrev R := BitVec 5
def Y : List R → R → Bool
  | [], x => x == 0
  | a :: l, x => Y l x || Y l (x - a)
def zf : List R → Prop
  | [] => True
  | a :: l => zf l ∧ Y l (-a) = false
def allR : List R := (List.range 32).map (BitVec.ofNat 5)
theorem mem_allR (x : R) : x ∈ allR := by
  unfold allR
  rw [List.mem_map]
  exact ⟨x.toNat, List.mem_range.mpr x.isLt, by simp⟩
def card (p : R → Bool) : Nat := allR.countP p
theorem shift_perm : ((allR.map (fun x => x - 1)).isPerm allR) = true := by decide +kernel
theorem card_shift1 (p : R → Bool) : card (fun x => p (x - 1)) = card p := by
  have h := List.isPerm_iff.mp shift_perm
  unfold card
  have e := h.countP_eq p
  rw [List.countP_map] at e
  exact e
theorem card_shiftN : ∀ (n : Nat) (p : R → Bool), card (fun x => p (x - BitVec.ofNat 5 n)) = card p
  | 0, p => by
    congr 1
    funext x
    congr 1
    bv_omega
  | n + 1, p => by
    rw [← card_shiftN n p, ← card_shift1 fun x => p (x - BitVec.ofNat 5 n)]
    congr 1
    funext x
    congr 1
    rw [BitVec.ofNat_add]
    bv_omega
theorem card_shift (p : R → Bool) (a : R) : card (fun x => p (x - a)) = card p := by
  have e : a = BitVec.ofNat 5 a.toNat := by simp
  rw [e]
  exact card_shiftN _ p
theorem card_le {p q : R → Bool} (h : ∀ x, p x = true → q x = true) : card p ≤ card q := List.countP_mono_left fun x _ => h x
theorem count_strict {p q : R → Bool} (h : ∀ x, p x = true → q x = true) (x : R) (hq : q x = true) (hp : p x = false) : ∀ l : List R, x ∈ l → l.countP p + 1 ≤ l.countP q
  | [], hx => nomatch hx
  | y :: l, hx => by
    rw [List.countP_cons, List.countP_cons]
    have hm : l.countP p ≤ l.countP q := List.countP_mono_left fun x _ => h x
    rcases List.mem_cons.mp hx with rfl | hx
    · rw [hq, hp]; simp; exact hm
    · have := count_strict h x hq hp l hx
      by_cases hy : p y = true
      · rw [hy, h y hy]; simp; omega
      · simp only [hy]
        by_cases hz : q y = true
        · simp [hz]; omega
        · simp [hz]; omega
theorem card_lt {p q : R → Bool} (h : ∀ x, p x = true → q x = true) (x : R) (hq : q x = true) (hp : p x = false) : card p + 1 ≤ card q := count_strict h x hq hp _ (mem_allR x)
theorem card_back {p q : R → Bool} (h : ∀ x, p x = true → q x = true) (hc : card q ≤ card p) (x : R) (hq : q x = true) : p x = true := by
  cases e : p x with
  | true => rfl
  | false => have := card_lt h x hq e; omega
theorem card_two {p q : R → Bool} (h : ∀ x, p x = true → q x = true) (x y : R) (hne : x ≠ y) (hqx : q x = true) (hpx : p x = false) (hqy : q y = true) (hpy : p y = false) : card p + 2 ≤ card q := by
  have h1 : card p + 1 ≤ card (fun z => p z || z == x) := card_lt (fun z hz => by simp [hz]) x (by simp) hpx
  have h2 : card (fun z => p z || z == x) + 1 ≤ card q := card_lt (fun z hz => by
    simp at hz
    rcases hz with hz | rfl
    · exact h z hz
    · exact hqx) y hqy (by simp [hpy]; exact fun e => hne e.symm)
  omega
theorem count_disj {p q : R → Bool} (h : ∀ x, ¬ (p x = true ∧ q x = true)) : ∀ l : List R, l.countP (fun x => p x || q x) = l.countP p + l.countP q
  | [] => rfl
  | y :: l => by
    have := count_disj h l
    rw [List.countP_cons, List.countP_cons, List.countP_cons, this]
    have hy := h y
    cases hp : p y <;> cases hq : q y <;> simp_all <;> omega
theorem card_disj {p q : R → Bool} (h : ∀ x, ¬ (p x = true ∧ q x = true)) : card (fun x => p x || q x) = card p + card q := count_disj h _
theorem card_all (p : R → Bool) : card p ≤ 32 := by
  have : allR.countP p ≤ allR.length := List.countP_le_length
  have e : allR.length = 32 := by simp [allR]
  unfold card
  omega

theorem Y_zero : ∀ l, Y l 0 = true
  | [] => rfl
  | a :: l => by
    show (Y l 0 || Y l (0 - a)) = true
    rw [Y_zero l]; rfl
theorem Y_perm {l l' : List R} (h : l.Perm l') : ∀ x, Y l x = Y l' x := by
  induction h with
  | nil => intro x; rfl
  | cons a _ ih => intro x; simp [Y, ih]
  | swap a b l =>
    intro x
    have e : x - a - b = x - b - a := by bv_omega
    simp only [Y, e]
    cases Y l x <;> cases Y l (x - a) <;> cases Y l (x - b) <;> simp
  | trans _ _ ih1 ih2 => intro x; rw [ih1, ih2]
theorem zf_perm {l l' : List R} (h : l.Perm l') : zf l → zf l' := by
  induction h with
  | nil => exact id
  | cons a p ih => exact fun ⟨h1, h2⟩ => ⟨ih h1, by rw [← Y_perm p]; exact h2⟩
  | swap a b l =>
    rintro ⟨⟨h1, h2⟩, h3⟩
    have e : -b - a = -a - b := by bv_omega
    simp only [Y, Bool.or_eq_false_iff] at h3
    refine ⟨⟨h1, h3.1⟩, ?_⟩
    simp only [Y, Bool.or_eq_false_iff]
    refine ⟨h2, ?_⟩
    rw [← e]; exact h3.2
  | trans _ _ ih1 ih2 => exact fun h => ih2 (ih1 h)
theorem Y_sub (a : R) (l : List R) (x : R) (h : Y l x = true) : Y (a :: l) x = true := by simp [Y, h]
theorem Y_add (a : R) (l : List R) (x : R) (h : Y l (x - a) = true) : Y (a :: l) x = true := by simp [Y, h]
theorem card_Y : ∀ l, zf l → l.length + 1 ≤ card (Y l)
  | [], _ => by decide
  | a :: l, ⟨h1, h2⟩ => by
    have ih := card_Y l h1
    have : card (Y l) + 1 ≤ card (Y (a :: l)) := by
      rcases Nat.lt_or_ge (card (Y l)) (card (Y (a :: l))) with h | h
      · exact h
      · exfalso
        have hb := card_back (p := Y l) (q := Y (a :: l)) (Y_sub a l) h
        have h3 : ∀ x, Y l (x - a) = true → Y l x = true := fun x hx => hb x (Y_add a l x hx)
        have h4 := card_back (p := fun x => Y l (x - a)) (q := Y l) h3 (by rw [card_shift]; exact Nat.le_refl _) 0 (Y_zero l)
        have e : (0 : R) - a = -a := by bv_omega
        simp only [e] at h4
        rw [h2] at h4
        cases h4
    show l.length + 1 + 1 ≤ _
    omega
def tot : List R → R
  | [] => 0
  | a :: l => tot l + a
theorem tot_perm {l l' : List R} (h : l.Perm l') : tot l = tot l' := by
  induction h with
  | nil => rfl
  | cons a _ ih => simp [tot, ih]
  | swap a b l => simp only [tot]; bv_omega
  | trans _ _ ih1 ih2 => rw [ih1, ih2]
theorem Y_compl : ∀ (l : List R) (x : R), Y l x = true → Y l (tot l - x) = true
  | [], x, h => by
    have : x = 0 := by simpa [Y] using h
    subst this; rfl
  | a :: l, x, h => by
    simp only [Y, Bool.or_eq_true] at h
    rcases h with h | h
    · apply Y_add
      have e : tot (a :: l) - x - a = tot l - x := by simp only [tot]; bv_omega
      rw [e]; exact Y_compl l x h
    · apply Y_sub
      have e : tot (a :: l) - x = tot l - (x - a) := by simp only [tot]; bv_omega
      rw [e]; exact Y_compl l _ h
theorem Y_tot (l : List R) : Y l (tot l) = true := by
  have := Y_compl l 0 (Y_zero l)
  simpa using this
theorem tot_out {a : R} {l : List R} (h : zf (a :: l)) : Y l (tot (a :: l)) = false := by
  cases e : Y l (tot (a :: l)) with
  | false => rfl
  | true =>
    have := Y_compl l _ e
    have q : tot l - tot (a :: l) = -a := by simp only [tot]; bv_omega
    rw [q, h.2] at this
    cases this

abbrev times (j : Nat) (g : R) : R := BitVec.ofNat 5 j * g
theorem times_add (i j : Nat) (g : R) : times (i + j) g = times i g + times j g := by
  unfold times
  rw [BitVec.ofNat_add, BitVec.add_mul]
theorem times_zero (g : R) : times 0 g = 0 := by simp [times]
theorem times_one (g : R) : times 1 g = g := by simp [times]
def Beh (l : List R) : Prop := ∃ (g : R) (ts : List Nat), l.Perm (ts.map fun t => times t g) ∧ (∀ t ∈ ts, 1 ≤ t) ∧ (∀ x, Y l x = true ↔ ∃ j, j ≤ ts.sum ∧ x = times j g) ∧ (∀ j, 1 ≤ j → j ≤ ts.sum → times j g ≠ 0)
theorem Beh.perm {l l' : List R} (h : l.Perm l') : Beh l → Beh l' := by
  rintro ⟨g, ts, h1, h2, h3, h4⟩
  exact ⟨g, ts, h.symm.trans h1, h2, fun x => by rw [← Y_perm h]; exact h3 x, h4⟩
theorem Beh.more {a : R} {l : List R} (hz : zf (a :: l)) (hc : card (Y (a :: l)) + 1 ≤ 2 * (l.length + 1)) : Beh l → Beh (a :: l) := by
  rintro ⟨g, ts, h1, h2, h3, h4⟩
  have hl := card_Y l hz.1
  have hX : ∃ x, Y l x = true ∧ Y l (x - a) = true := by
    rcases Classical.em (∃ x, Y l x = true ∧ Y l (x - a) = true) with h | h
    · exact h
    · exfalso
      have := card_disj (p := Y l) (q := fun x => Y l (x - a)) (fun x hx => h ⟨x, hx⟩)
      rw [card_shift] at this
      have e : card (Y (a :: l)) = card (fun x => Y l x || Y l (x - a)) := rfl
      omega
  obtain ⟨x, hx1, hx2⟩ := hX
  obtain ⟨j, hj, ej⟩ := (h3 x).mp hx1
  obtain ⟨i, hi, ei⟩ := (h3 (x - a)).mp hx2
  have hlt : i < j := by
    rcases Nat.lt_or_ge i j with h | h
    · exact h
    · exfalso
      have e : i = (i - j) + j := by omega
      rw [e, times_add] at ei
      have : -a = times (i - j) g := by
        generalize times (i - j) g = u at ei ⊢
        generalize times j g = v at ei ej
        subst ej
        bv_omega
      have hY : Y l (-a) = true := (h3 _).mpr ⟨i - j, by omega, this⟩
      rw [hz.2] at hY
      cases hY
  have ha : a = times (j - i) g := by
    have e : j = (j - i) + i := by omega
    rw [e, times_add] at ej
    generalize times (j - i) g = u at ej ⊢
    generalize times i g = v at ei ej
    subst ej
    bv_omega
  generalize htt : j - i = t at ha
  have ht1 : 1 ≤ t := by omega
  have ht2 : t ≤ ts.sum := by omega
  refine ⟨g, t :: ts, ?_, ?_, ?_, ?_⟩
  · simp only [List.map_cons]
    rw [ha]; exact h1.cons _
  · intro u hu
    rcases List.mem_cons.mp hu with rfl | hu
    · exact ht1
    · exact h2 u hu
  · intro x
    rw [List.sum_cons]
    constructor
    · intro hx
      simp only [Y, Bool.or_eq_true] at hx
      rcases hx with hx | hx
      · obtain ⟨k, hk, rfl⟩ := (h3 x).mp hx
        exact ⟨k, by omega, rfl⟩
      · obtain ⟨k, hk, e⟩ := (h3 _).mp hx
        refine ⟨t + k, by omega, ?_⟩
        rw [times_add, ← ha, ← e]
        bv_omega
    · rintro ⟨k, hk, rfl⟩
      rcases (Nat.lt_or_ge ts.sum k).symm with h | h
      · exact Y_sub _ _ _ ((h3 _).mpr ⟨k, h, rfl⟩)
      · refine Y_add _ _ _ ((h3 _).mpr ⟨k - t, by omega, ?_⟩)
        have e : k = (k - t) + t := by omega
        rw [e, times_add, ← ha, show k - t + t - t = k - t by omega]
        bv_omega
  · intro k hk1 hk2 e0
    rw [List.sum_cons] at hk2
    rcases (Nat.lt_or_ge ts.sum k).symm with h | h
    · exact h4 k hk1 h e0
    · have e : k = (k - t) + t := by omega
      rw [e, times_add, ← ha] at e0
      have hY : Y l (-a) = true := (h3 _).mpr ⟨k - t, by omega, by generalize times (k - t) g = u at e0 ⊢; bv_omega⟩
      rw [hz.2] at hY
      cases hY

theorem Y_rep (b : R) : ∀ (n : Nat) (x : R), Y (List.replicate n b) x = true ↔ ∃ j, j ≤ n ∧ x = times j b
  | 0, x => by
    constructor
    · intro h
      have : x = 0 := by simpa [Y] using h
      exact ⟨0, Nat.le_refl _, by rw [times_zero, this]⟩
    · rintro ⟨j, hj, rfl⟩
      obtain rfl : j = 0 := by omega
      rw [times_zero]; rfl
  | n + 1, x => by
    rw [List.replicate_succ]
    constructor
    · intro h
      simp only [Y, Bool.or_eq_true] at h
      rcases h with h | h
      · obtain ⟨j, hj, e⟩ := (Y_rep b n x).mp h
        exact ⟨j, by omega, e⟩
      · obtain ⟨j, hj, e⟩ := (Y_rep b n _).mp h
        refine ⟨j + 1, by omega, ?_⟩
        rw [times_add, times_one, ← e]
        bv_omega
    · rintro ⟨j, hj, rfl⟩
      rcases Nat.eq_zero_or_pos j with rfl | hp
      · rw [times_zero]; exact Y_zero _
      · refine Y_add _ _ _ ((Y_rep b n _).mpr ⟨j - 1, by omega, ?_⟩)
        have e : j = (j - 1) + 1 := by omega
        rw [e, times_add, times_one, show j - 1 + 1 - 1 = j - 1 by omega]
        bv_omega
theorem Beh.rep (b : R) (n : Nat) (hz : zf (List.replicate (n + 1) b)) : Beh (List.replicate (n + 1) b) := by
  refine ⟨b, List.replicate (n + 1) 1, ?_, ?_, ?_, ?_⟩
  · rw [List.map_replicate, times_one]
  · intro t ht
    rw [List.eq_of_mem_replicate ht]; exact Nat.le_refl _
  · intro x
    rw [Y_rep, List.sum_replicate_nat, Nat.mul_one]
  · intro j h1 h2 e0
    rw [List.sum_replicate_nat, Nat.mul_one] at h2
    rw [List.replicate_succ] at hz
    have e : j = (j - 1) + 1 := by omega
    rw [e, times_add, times_one] at e0
    have hY : Y (List.replicate n b) (-b) = true := (Y_rep b n _).mpr ⟨j - 1, by omega, by generalize times (j - 1) b = u at e0 ⊢; bv_omega⟩
    rw [hz.2] at hY
    cases hY

theorem beh : ∀ (n : Nat) (l : List R), l.length = n → zf l → card (Y l) + 1 ≤ 2 * n → Beh l
  | 0, l, _, _, hc => absurd hc (by omega)
  | n + 1, l, hn, hz, hc => by
    by_cases h : ∃ a ∈ l, card (Y (l.erase a)) + 2 ≤ card (Y l)
    · obtain ⟨a, ha, h2⟩ := h
      have hp : l.Perm (a :: l.erase a) := List.perm_cons_erase ha
      have hz' := zf_perm hp hz
      have hlen : (l.erase a).length = n := by rw [List.length_erase_of_mem ha]; omega
      have hcy : card (Y l) = card (Y (a :: l.erase a)) := by
        congr 1; funext x; exact Y_perm hp x
      refine Beh.perm hp.symm (Beh.more hz' (by omega) ?_)
      exact beh n _ hlen hz'.1 (by omega)
    · have h1 : ∀ a ∈ l, card (Y l) ≤ card (Y (l.erase a)) + 1 := fun a ha => by
        rcases Nat.lt_or_ge (card (Y (l.erase a)) + 1) (card (Y l)) with q | q
        · exact absurd ⟨a, ha, q⟩ h
        · exact q
      have hp : ∀ a ∈ l, l.Perm (a :: l.erase a) := fun a ha => List.perm_cons_erase ha
      have hza : ∀ a ∈ l, zf (a :: l.erase a) := fun a ha => zf_perm (hp a ha) hz
      have sub1 : ∀ a ∈ l, ∀ x, Y (l.erase a) x = true → Y l x = true := fun a ha x hx => by rw [Y_perm (hp a ha)]; exact Y_sub _ _ _ hx
      have sub2 : ∀ a ∈ l, ∀ x, Y (l.erase a) (x - a) = true → Y l x = true := fun a ha x hx => by rw [Y_perm (hp a ha)]; exact Y_add _ _ _ hx
      have out : ∀ a ∈ l, Y (l.erase a) (tot l) = false := fun a ha => by rw [tot_perm (hp a ha)]; exact tot_out (hza a ha)
      have fill1 : ∀ a ∈ l, ∀ x, Y l x = true → x ≠ tot l → Y (l.erase a) x = true := fun a ha x hx hne => by
        cases e : Y (l.erase a) x with
        | true => rfl
        | false =>
          have := card_two (sub1 a ha) x (tot l) hne hx e (Y_tot l) (out a ha)
          have := h1 a ha
          omega
      have fill2 : ∀ a ∈ l, ∀ x, Y l x = true → x ≠ 0 → Y (l.erase a) (x - a) = true := fun a ha x hx hne => by
        cases e : Y (l.erase a) (x - a) with
        | true => rfl
        | false =>
          have e0 : Y (l.erase a) (0 - a) = false := by
            have : (0 : R) - a = -a := by bv_omega
            rw [this]; exact (hza a ha).2
          have := card_two (p := fun x => Y (l.erase a) (x - a)) (sub2 a ha) x 0 hne hx e (Y_zero l) e0
          rw [card_shift] at this
          have := h1 a ha
          omega
      have nz : ∀ a ∈ l, a ≠ 0 := fun a ha e => by
        have := (hza a ha).2
        rw [e] at this
        have e0 : (-(0 : R)) = 0 := by decide
        rw [e0, Y_zero] at this
        cases this
      have inY : ∀ a ∈ l, Y l a = true := fun a ha => sub2 a ha a (by
        have : a - a = 0 := by bv_omega
        rw [this]; exact Y_zero _)
      have same : ∀ a ∈ l, ∀ b ∈ l, a = b := fun a ha b hb => by
        rcases Classical.em (a = b) with q | q
        · exact q
        · exfalso
          have s1 := fill2 a ha b (inY b hb) (nz b hb)
          have s2 := fill2 b hb (b - a) (sub1 a ha _ s1) (fun e => q (by bv_omega))
          have e : b - a - b = -a := by bv_omega
          rw [e] at s2
          have s3 := fill1 a ha (-a) (sub1 b hb _ s2) (fun e => by rw [e, out b hb] at s2; cases s2)
          rw [(hza a ha).2] at s3
          cases s3
      cases l with
      | nil => simp at hn
      | cons b l' =>
        have hr : b :: l' = List.replicate (n + 1) b := List.eq_replicate_iff.mpr ⟨hn, fun c hc => same c hc b (by simp)⟩
        rw [hr] at hz ⊢
        exact Beh.rep b n hz
end Mine
end
section
namespace Mine
theorem odd_of : ∀ i : Fin 32, times 16 (BitVec.ofFin i) ≠ 0 → i.val % 2 = 1 := by decide +kernel
theorem inv_of : ∀ i : Fin 32, i.val % 2 = 1 → ∃ k : Fin 32, k.val % 2 = 1 ∧ (BitVec.ofFin k : R) * BitVec.ofFin i = 1 := by decide +kernel
theorem sum_ge : ∀ (ts : List Nat), (∀ t ∈ ts, 1 ≤ t) → ts.length ≤ ts.sum
  | [], _ => Nat.le_refl _
  | t :: ts, h => by
    have := sum_ge ts fun u hu => h u (List.mem_cons_of_mem _ hu)
    have := h t (by simp)
    simp only [List.length_cons, List.sum_cons]
    omega
theorem le_sum : ∀ (ts : List Nat) (t : Nat), t ∈ ts → t ≤ ts.sum
  | [], _, h => nomatch h
  | u :: ts, t, h => by
    rw [List.sum_cons]
    rcases List.mem_cons.mp h with rfl | h
    · omega
    · have := le_sum ts t h; omega
theorem map_id_of {ts : List Nat} {f : Nat → Nat} (h : ∀ t ∈ ts, f t = t) : ts.map f = ts := by
  rw [List.map_congr_left h]; simp
/-- Savchev and Chen for 32: a long row without a sum 0 is a multiple of a row of small sum -/
theorem sc (l : List R) (hz : zf l) (hn : 17 ≤ l.length) :
    ∃ m : R, m.toNat % 2 = 1 ∧ (∀ a ∈ l, m * a ≠ 0) ∧ (l.map fun a => (m * a).toNat).sum ≤ 31 ∧ ∀ x, Y l x = true ↔ (m * x).toNat ≤ (l.map fun a => (m * a).toNat).sum := by
  have hc := card_all (Y l)
  obtain ⟨g, ts, h1, h2, h3, h4⟩ := beh l.length l rfl hz (by omega)
  have hlen : ts.length = l.length := by have := h1.length_eq; simpa using this.symm
  have hs := sum_ge ts h2
  have hodd : g.toNat % 2 = 1 := odd_of g.toFin (h4 16 (by omega) (by omega))
  have hlt : ts.sum ≤ 31 := by
    rcases Nat.lt_or_ge 31 ts.sum with h | h
    · exfalso
      exact h4 32 (by omega) h (by simp [times])
    · exact h
  obtain ⟨k, hk, e⟩ := inv_of g.toFin hodd
  have e' : BitVec.ofFin k * g = (1 : R) := e
  clear e
  generalize hmm : (BitVec.ofFin k : R) = m at e'
  have hm : m.toNat % 2 = 1 := by rw [← hmm]; exact hk
  clear hmm hk
  have back : ∀ t, t ≤ 31 → (m * times t g).toNat = t := fun t ht => by
    unfold times
    rw [BitVec.mul_comm (BitVec.ofNat 5 t) g, ← BitVec.mul_assoc, e']
    simp
    omega
  have hsum : (l.map fun a => (m * a).toNat).sum = ts.sum := by
    have hp := (h1.map fun a => (m * a).toNat)
    rw [hp.sum_nat, List.map_map]
    congr 1
    exact map_id_of fun t ht => back t (by have := le_sum ts t ht; omega)
  refine ⟨m, hm, ?_, by rw [hsum]; exact hlt, ?_⟩
  · intro a ha e0
    obtain ⟨t, ht, rfl⟩ := List.mem_map.mp (h1.mem_iff.mp ha)
    have q := back t (by have := le_sum ts t ht; omega)
    rw [e0] at q
    have := h2 t ht
    simp at q
    omega
  · intro x
    rw [h3, hsum]
    constructor
    · rintro ⟨j, hj, rfl⟩
      rw [back j (by omega)]; exact hj
    · intro h
      refine ⟨(m * x).toNat, h, ?_⟩
      unfold times
      rw [BitVec.ofNat_toNat, BitVec.setWidth_eq, BitVec.mul_comm (m * x) g, ← BitVec.mul_assoc, BitVec.mul_comm g m, e']
      exact (BitVec.one_mul x).symm
theorem par (m a : R) (h : m.toNat % 2 = 1) : (m * a).toNat % 2 = a.toNat % 2 := by
  rw [BitVec.toNat_mul]
  have : m.toNat * a.toNat % 2 ^ 5 % 2 = m.toNat * a.toNat % 2 := by omega
  rw [this, Nat.mul_mod, h, Nat.one_mul, Nat.mod_mod]
theorem four {m m' a : R} (h : m.toNat % 2 = 1) (h' : m'.toNat % 2 = 1) (hne : m ≠ m') (ha : m * a ≠ 0) (ha' : m' * a ≠ 0) : 4 ≤ (m * a).toNat + (m' * a).toNat := by
  have p := par m a h
  have p' := par m' a h'
  have z : (m * a).toNat ≠ 0 := fun e => ha (BitVec.eq_of_toNat_eq (by simpa using e))
  have z' : (m' * a).toNat ≠ 0 := fun e => ha' (BitVec.eq_of_toNat_eq (by simpa using e))
  rcases Classical.em ((m * a).toNat = 1 ∧ (m' * a).toNat = 1) with q | q
  · exfalso
    have e : m * a = 1 := BitVec.eq_of_toNat_eq (by simpa using q.1)
    have e' : m' * a = 1 := BitVec.eq_of_toNat_eq (by simpa using q.2)
    apply hne
    calc m = m * (m' * a) := by rw [e']; exact (BitVec.mul_one m).symm
      _ = m' * (m * a) := by rw [← BitVec.mul_assoc, BitVec.mul_comm m m', BitVec.mul_assoc]
      _ = m' := by rw [e]; exact BitVec.mul_one m'
  · omega
theorem four_sum {m m' : R} (h : m.toNat % 2 = 1) (h' : m'.toNat % 2 = 1) (hne : m ≠ m') : ∀ l : List R, (∀ a ∈ l, m * a ≠ 0) → (∀ a ∈ l, m' * a ≠ 0) →
    4 * l.length ≤ (l.map fun a => (m * a).toNat).sum + (l.map fun a => (m' * a).toNat).sum
  | [], _, _ => Nat.le_refl _
  | a :: l, k, k' => by
    have := four_sum h h' hne l (fun b hb => k b (List.mem_cons_of_mem _ hb)) (fun b hb => k' b (List.mem_cons_of_mem _ hb))
    have := four h h' hne (k a (by simp)) (k' a (by simp))
    simp only [List.length_cons, List.map_cons, List.sum_cons]
    omega
theorem only {m m' : R} {l : List R} (hn : 17 ≤ l.length) (h : m.toNat % 2 = 1) (h' : m'.toNat % 2 = 1) (k : ∀ a ∈ l, m * a ≠ 0) (k' : ∀ a ∈ l, m' * a ≠ 0)
    (s : (l.map fun a => (m * a).toNat).sum ≤ 31) (s' : (l.map fun a => (m' * a).toNat).sum ≤ 31) : m = m' := by
  rcases Classical.em (m = m') with q | q
  · exact q
  · have := four_sum h h' q l k k'
    omega
/-- a row whose multiples are small and not 0 has no sum 0 -/
theorem zf_small {m : R} : ∀ l : List R, (∀ a ∈ l, m * a ≠ 0) → (l.map fun a => (m * a).toNat).sum ≤ 31 → zf l ∧ ∀ x, Y l x = true → (m * x).toNat ≤ (l.map fun a => (m * a).toNat).sum
  | [], _, _ => ⟨trivial, fun x hx => by
    have : x = 0 := by simpa [Y] using hx
    subst this; simp⟩
  | a :: l, k, s => by
    simp only [List.map_cons, List.sum_cons] at s ⊢
    obtain ⟨hz, hb⟩ := zf_small l (fun b hb => k b (List.mem_cons_of_mem _ hb)) (by omega)
    have ka := k a (by simp)
    refine ⟨⟨hz, ?_⟩, fun x hx => ?_⟩
    · cases e : Y l (-a) with
      | false => rfl
      | true =>
        exfalso
        have := hb _ e
        have q : m * -a = -(m * a) := by rw [BitVec.mul_neg]
        rw [q] at this
        generalize m * a = u at *
        have z : u.toNat ≠ 0 := fun e => ka (BitVec.eq_of_toNat_eq (by simpa using e))
        bv_omega
    · simp only [Y, Bool.or_eq_true] at hx
      rcases hx with hx | hx
      · have := hb x hx; omega
      · have := hb _ hx
        have q : m * (x - a) = m * x - m * a := by rw [BitVec.mul_sub]
        rw [q] at this
        generalize m * a = u at *
        generalize m * x = v at *
        bv_omega
end Mine
end
section
namespace Mine
open PySem PyProof.Rows
def res (x : Int) : R := BitVec.ofInt 5 x
theorem res_nat (x : Int) : (res x).toNat = (x % 32).toNat := by unfold res; rw [BitVec.toNat_ofInt]; rfl
def rp (ns : List Int) (j : Nat) : List R := ((ns.take j).map res).reverse
theorem rp_succ {ns : List Int} {j : Nat} {x : Int} (h : ns[j]? = some x) : rp ns (j + 1) = res x :: rp ns j := by
  unfold rp
  rw [List.take_add_one, h]
  simp
theorem rp_len {ns : List Int} {j : Nat} (h : j ≤ ns.length) : (rp ns j).length = j := by
  unfold rp
  rw [List.length_reverse, List.length_map, List.length_take]
  omega
def NE : List R → R → Bool
  | [], _ => false
  | a :: l, x => NE l x || Y l (x - a)
theorem Y_NE : ∀ (l : List R) (x : R), Y l x = (NE l x || x == 0)
  | [], x => by simp [Y, NE]
  | a :: l, x => by
    simp only [Y, NE]
    rw [Y_NE l x]
    cases NE l x <;> cases (x == 0) <;> cases Y l (x - a) <;> rfl
theorem zf_NE : ∀ l : List R, zf l ↔ NE l 0 = false
  | [] => by simp [zf, NE]
  | a :: l => by
    simp only [zf, NE, Bool.or_eq_false_iff]
    rw [zf_NE l]
    have e : (0 : R) - a = -a := by bv_omega
    rw [e]
theorem bitOr_nat (a b : Nat) : Builtin.bitOr (a : Int) (b : Int) = ((a ||| b : Nat) : Int) := by
  unfold Builtin.bitOr
  rw [bitAnd_nn (by unfold Builtin.bitNot; omega) (by unfold Builtin.bitNot; omega), bitNot_bitNot, bitNot_bitNot, bitNot_bitNot]
  simp
theorem frontI_nat (f r : Nat) (x : Int) (hr : (x % 32).toNat = r) : frontI (f : Int) x = (((f ||| ((f <<< r) ||| 2 ^ r) ||| (((f <<< r) ||| 2 ^ r) >>> 32)) % 2 ^ 32 : Nat) : Int) := by
  unfold frontI
  have e0 : (x.fmod 32).toNat = r := by rw [Int.fmod_eq_emod_of_nonneg _ (by decide)]; exact hr
  rw [e0]
  have e1 : (f : Int) * 2 ^ r = ((f <<< r : Nat) : Int) := by rw [Nat.shiftLeft_eq]; push_cast; rfl
  have e2 : (1 : Int) * 2 ^ r = ((2 ^ r : Nat) : Int) := by push_cast; rw [Int.one_mul]
  have e3 : (2 : Int) ^ (32 : Int).toNat = ((2 ^ 32 : Nat) : Int) := by decide
  rw [e1, e2, e3, bitOr_nat, bitOr_nat, Int.fdiv_eq_ediv_of_nonneg _ (by decide), ← Int.natCast_ediv, bitOr_nat, Int.fmod_eq_emod_of_nonneg _ (by decide), ← Int.natCast_emod, Nat.shiftRight_eq_div_pow]
theorem front_bit (f r c : Nat) (hf : f < 2 ^ 32) (hr : r < 32) (hc : c < 32) :
    ((f ||| ((f <<< r) ||| 2 ^ r) ||| (((f <<< r) ||| 2 ^ r) >>> 32)) % 2 ^ 32).testBit c = (f.testBit c || (f.testBit ((c + 32 - r) % 32) || decide (c = r))) := by
  rw [Nat.testBit_mod_two_pow]
  simp only [Nat.testBit_or, Nat.testBit_shiftRight, Nat.testBit_shiftLeft, Nat.testBit_two_pow, hc, decide_true, Bool.true_and]
  have h1 : decide (r = 32 + c) = false := by simp; omega
  rw [h1, Bool.or_false]
  have h3 : decide (32 + c ≥ r) = true := by simp; omega
  rw [h3, Bool.true_and]
  have h4 : decide (r = c) = decide (c = r) := by rw [decide_eq_decide]; omega
  rw [h4]
  rcases Nat.lt_or_ge c r with q | q
  · have h2 : decide (c ≥ r) = false := by simp; omega
    have h5 : (c + 32 - r) % 32 = 32 + c - r := by omega
    rw [h2, h5]
    cases f.testBit c <;> cases f.testBit (32 + c - r) <;> cases decide (c = r) <;> rfl
  · have h2 : decide (c ≥ r) = true := by simp; omega
    have h5 : (c + 32 - r) % 32 = c - r := by omega
    have h6 : f.testBit (32 + c - r) = false := Nat.testBit_lt_two_pow (Nat.lt_of_lt_of_le hf (Nat.pow_le_pow_right (by decide) (by omega)))
    rw [h2, h5, h6]
    cases f.testBit c <;> cases f.testBit (c - r) <;> cases decide (c = r) <;> rfl
theorem front_NE (ns : List Int) : ∀ j, j ≤ ns.length → ∀ y : R, (frontAt ns j).toNat.testBit y.toNat = NE (rp ns j) y
  | 0, _, y => by
    have : frontAt ns 0 = 0 := rfl
    rw [this]
    simp [rp, NE]
  | j + 1, h, y => by
    have ih := front_NE ns j (by omega)
    obtain ⟨x, hx⟩ : ∃ x, ns[j]? = some x := ⟨_, List.getElem?_eq_getElem (by omega)⟩
    rw [frontAt_succ ns j x hx, rp_succ hx]
    have hfr := frontAt_range ns j
    obtain ⟨f, hf⟩ : ∃ f : Nat, frontAt ns j = (f : Int) := ⟨(frontAt ns j).toNat, by omega⟩
    rw [hf] at ih hfr ⊢
    have hy := y.isLt
    rw [frontI_nat f _ x rfl, Int.toNat_natCast, front_bit f _ _ (by omega) (by omega) (by omega)]
    simp only [Int.toNat_natCast] at ih
    simp only [NE]
    rw [Y_NE, ← ih y, ← ih (y - res x)]
    have e1 : (y - res x).toNat = (y.toNat + 32 - (x % 32).toNat) % 32 := by
      rw [BitVec.toNat_sub, res_nat]
      omega
    have e2 : (y - res x == 0) = decide (y.toNat = (x % 32).toNat) := by
      rw [Bool.eq_iff_iff]
      simp only [beq_iff_eq, decide_eq_true_eq]
      have hres := res_nat x
      constructor
      · intro e
        have : y = res x := by bv_omega
        rw [this, hres]
      · intro e
        have : y = res x := BitVec.eq_of_toNat_eq (by rw [e, hres])
        rw [this]; bv_omega
    rw [e1, e2]
theorem even_zf {ns : List Int} {i : Nat} (h : i < ns.length) : evenAt ns i = true ↔ zf (rp ns (i + 1)) := by
  rw [zf_NE, ← front_NE ns (i + 1) (by omega) 0]
  unfold evenAt
  have hfr := frontAt_range ns (i + 1)
  show _ ↔ (frontAt ns (i + 1)).toNat.testBit 0 = false
  rw [Nat.testBit_zero]
  simp
  omega
theorem bit_NE {ns : List Int} {size c : Nat} (h : size ≤ ns.length) (hc : c < 32) : bitAt ns size c = NE (rp ns size) (BitVec.ofNat 5 c) := by
  rw [← front_NE ns size h]
  unfold bitAt
  have hfr := frontAt_range ns size
  obtain ⟨f, hf⟩ : ∃ f : Nat, frontAt ns size = (f : Int) := ⟨(frontAt ns size).toNat, by omega⟩
  have e : (BitVec.ofNat 5 c).toNat = c := by rw [BitVec.toNat_ofNat]; omega
  rw [hf, e, Int.toNat_natCast, Nat.testBit_eq_decide_div_mod_eq]
  have e2 : (2 : Int) ^ c = ((2 ^ c : Nat) : Int) := by push_cast; rfl
  rw [e2, Int.fdiv_eq_ediv_of_nonneg _ (Int.natCast_nonneg _), ← Int.natCast_ediv, Bool.eq_iff_iff]
  generalize f / 2 ^ c = g
  simp
  omega
theorem filter_prefix (p : Nat → Bool) : ∀ n, (∀ i, i + 1 < n → p (i + 1) = true → p i = true) → ∀ i, i < n → (p i = true ↔ i < ((List.range n).filter p).length)
  | 0, _, i, hi => absurd hi (by omega)
  | n + 1, h, i, hi => by
    have ih := filter_prefix p n (fun i hi => h i (by omega))
    rw [List.range_succ, List.filter_append, List.length_append]
    have hle := List.length_filter_le p (List.range n)
    rw [List.length_range] at hle
    cases hp : p n with
    | true =>
      have down : ∀ d i, i + d = n → p i = true := by
        intro d
        induction d with
        | zero => intro i e; rw [show i = n by omega]; exact hp
        | succ d ihd => intro i e; exact h i (by omega) (ihd (i + 1) (by omega))
      have hf : (List.range n).filter p = List.range n := List.filter_eq_self.mpr fun a ha => down (n - a) a (by have := List.mem_range.mp ha; omega)
      rw [hf]
      simp [hp]
      rw [show (p i = true) = True from eq_true (down (n - i) i (by omega))]
      simp
      omega
    | false =>
      simp [hp]
      rcases Nat.lt_or_ge i n with q | q
      · exact ih i q
      · obtain rfl : i = n := by omega
        rw [hp]
        simp
        omega
theorem free_le (ns : List Int) : freeOf ns ≤ ns.length := by
  unfold freeOf
  refine Nat.le_trans (List.length_filter_le _ _) ?_
  rw [List.length_range]
  exact Nat.le_refl _
theorem free_iff {ns : List Int} {j : Nat} (h : j ≤ ns.length) : zf (rp ns j) ↔ j ≤ freeOf ns := by
  cases j with
  | zero =>
    constructor
    · intro _; omega
    · intro _; trivial
  | succ i =>
    rw [← even_zf (by omega)]
    have := filter_prefix (evenAt ns) ns.length (fun i hi hp => by
      rw [even_zf (by omega)] at hp ⊢
      obtain ⟨x, hx⟩ : ∃ x, ns[i + 1]? = some x := ⟨_, List.getElem?_eq_getElem (by omega)⟩
      rw [rp_succ hx] at hp
      exact hp.1) i (by omega)
    rw [this]
    unfold freeOf
    omega
end Mine
end
section
namespace Mine
open PySem PyProof.Rows
theorem res_mul (mm x : Int) : (res mm * res x).toNat = (mm * x % 32).toNat := by
  have e : res mm * res x = res (mm * x) := by
    unfold res
    rw [BitVec.ofInt_mul]
  rw [e, res_nat]
theorem ctl_res {mm : Int} {ns : List Int} {j : Nat} {x : Int} (h : ns[j]? = some x) : ((res mm * res x).toNat : Int) = ctl mm ns j := by
  rw [ctl_at h, res_mul]
  omega
theorem sum_rp (mm : Int) (ns : List Int) : ∀ j, j ≤ ns.length → (((rp ns j).map fun a => (res mm * a).toNat).sum : Int) = sumAt mm ns j
  | 0, _ => rfl
  | j + 1, h => by
    obtain ⟨x, hx⟩ : ∃ x, ns[j]? = some x := ⟨_, List.getElem?_eq_getElem (by omega)⟩
    have ih := sum_rp mm ns j (by omega)
    rw [rp_succ hx, List.map_cons, List.sum_cons]
    show _ = sumAt mm ns j + ctl mm ns j
    have := ctl_res (mm := mm) hx
    push_cast
    omega
theorem nz_rp (mm : Int) (ns : List Int) : ∀ j, j ≤ ns.length → ((∀ i, i < j → ctl mm ns i ≠ 0) ↔ ∀ a ∈ rp ns j, res mm * a ≠ 0)
  | 0, _ => by simp [rp]
  | j + 1, h => by
    obtain ⟨x, hx⟩ : ∃ x, ns[j]? = some x := ⟨_, List.getElem?_eq_getElem (by omega)⟩
    have ih := nz_rp mm ns j (by omega)
    have hc := ctl_res (mm := mm) hx
    have hz : ctl mm ns j ≠ 0 ↔ res mm * res x ≠ 0 := by
      rw [← hc]
      constructor
      · intro h e
        rw [e] at h
        exact h rfl
      · intro h e
        have e' : (res mm * res x).toNat = 0 := Int.ofNat.inj e
        exact h (BitVec.eq_of_toNat_eq e')
    rw [rp_succ hx]
    constructor
    · intro hall a ha
      rcases List.mem_cons.mp ha with rfl | ha
      · exact hz.mp (hall j (by omega))
      · exact ih.mp (fun i hi => hall i (by omega)) a ha
    · intro hall i hi
      rcases Nat.lt_or_eq_of_le (Nat.le_of_lt_succ hi) with q | rfl
      · exact ih.mpr (fun a ha => hall a (List.mem_cons_of_mem _ ha)) i q
      · exact hz.mpr (hall _ List.mem_cons_self)
theorem sumAt_mono (mm : Int) (ns : List Int) : ∀ d i, sumAt mm ns i ≤ sumAt mm ns (i + d)
  | 0, i => Int.le_refl _
  | d + 1, i => by
    have := sumAt_mono mm ns d i
    have := ctl_range mm ns (i + d)
    show sumAt mm ns i ≤ sumAt mm ns (i + d) + ctl mm ns (i + d)
    omega
theorem sumAt_le (mm : Int) (ns : List Int) {i j : Nat} (h : i ≤ j) : sumAt mm ns i ≤ sumAt mm ns j := by
  have := sumAt_mono mm ns (j - i) i
  rw [show i + (j - i) = j by omega] at this
  exact this
/-- the first j controls are fit: none 0, their sum below 32 -/
theorem fit_iff (mm : Int) (ns : List Int) (j : Nat) (h : j ≤ ns.length) : (∀ i, i < j → okAt mm ns i = true) ↔ (∀ a ∈ rp ns j, res mm * a ≠ 0) ∧ ((rp ns j).map fun a => (res mm * a).toNat).sum ≤ 31 := by
  have hs := sum_rp mm ns j h
  rw [← nz_rp mm ns j h]
  constructor
  · intro hall
    have hok : ∀ i, i < j → ctl mm ns i ≠ 0 ∧ sumAt mm ns (i + 1) < 32 := fun i hi => by
      have := hall i hi
      unfold okAt at this
      simpa using this
    refine ⟨fun i hi => (hok i hi).1, ?_⟩
    rcases Nat.eq_zero_or_pos j with rfl | hp
    · exact Nat.le_of_ble_eq_true rfl
    · have := (hok (j - 1) (by omega)).2
      rw [show j - 1 + 1 = j by omega] at this
      omega
  · rintro ⟨h1, h2⟩ i hi
    have h3 := sumAt_le mm ns (show i + 1 ≤ j by omega)
    unfold okAt
    have := h1 i hi
    simp
    exact ⟨this, by omega⟩
theorem fit_zf {mm : Int} {ns : List Int} {j : Nat} (h : j ≤ ns.length) (hok : ∀ i, i < j → okAt mm ns i = true) : j ≤ freeOf ns := by
  rw [← free_iff h]
  obtain ⟨h1, h2⟩ := (fit_iff mm ns j h).mp hok
  exact (zf_small _ h1 h2).1
theorem law_one (ns : List Int) : ∀ i : Nat, i < 16 → ∀ last : Nat, last ≤ ns.length → (∀ j, j < last → okAt (1 + (i : Int) * 2) ns j = true) → last ≤ freeOf ns :=
  fun _ _ _ hl hok => fit_zf hl hok
theorem last_le (mm : Int) (ns : List Int) : lastOf mm ns ≤ freeOf ns := fit_zf (lastOf_le mm ns) (lastOf_ok mm ns)
theorem last_ge {mm : Int} {ns : List Int} {j : Nat} (h : j ≤ ns.length) (hok : ∀ i, i < j → okAt mm ns i = true) : j ≤ lastOf mm ns := by
  rcases Nat.lt_or_ge (lastOf mm ns) j with q | q
  · have := hok _ q
    rw [lastOf_no mm ns (by omega)] at this
    cases this
  · exact q
theorem res_mul_ {k : Nat} (h : k < 16) : (res (mul_ k)).toNat = 1 + 2 * k := by
  rw [res_nat]
  show ((1 + (k : Int) * 2) % 32).toNat = _
  omega
theorem res_odd {k : Nat} (h : k < 16) : (res (mul_ k)).toNat % 2 = 1 := by rw [res_mul_ h]; omega
theorem res_inj {k k' : Nat} (h : k < 16) (h' : k' < 16) (e : res (mul_ k) = res (mul_ k')) : k = k' := by
  have := congrArg BitVec.toNat e
  rw [res_mul_ h, res_mul_ h'] at this
  omega
/-- fit for seventeen: the multiplier is one alone -/
theorem fit_only {ns : List Int} {k k' : Nat} (h : k < 16) (h' : k' < 16) (hn : 17 ≤ ns.length) (f : ∀ i, i < 17 → okAt (mul_ k) ns i = true) (f' : ∀ i, i < 17 → okAt (mul_ k') ns i = true) : k = k' := by
  obtain ⟨a, b⟩ := (fit_iff _ ns 17 hn).mp f
  obtain ⟨a', b'⟩ := (fit_iff _ ns 17 hn).mp f'
  exact res_inj h h' (only (by rw [rp_len hn]; omega) (res_odd h) (res_odd h') a a' b b')
theorem law_ex {ns : List Int} (hf : 16 < freeOf ns) : ∃ k, k < 16 ∧ lastOf (mul_ k) ns = freeOf ns := by
  have hfl := free_le ns
  have hz : zf (rp ns (freeOf ns)) := (free_iff hfl).mpr (Nat.le_refl _)
  obtain ⟨m, hodd, hnz, hsum, _⟩ := sc _ hz (by rw [rp_len hfl]; omega)
  have hm := m.isLt
  refine ⟨m.toNat / 2, by omega, ?_⟩
  have e : res (mul_ (m.toNat / 2)) = m := BitVec.eq_of_toNat_eq (by rw [res_mul_ (by omega)]; omega)
  have fit : ∀ i, i < freeOf ns → okAt (mul_ (m.toNat / 2)) ns i = true := (fit_iff _ ns _ hfl).mpr (by rw [e]; exact ⟨hnz, hsum⟩)
  have h1 := last_ge hfl fit
  have h2 := last_le (mul_ (m.toNat / 2)) ns
  omega
theorem filter_one : ∀ k : Fin 16, (List.range 16).filter (fun j => j == k.val) = [k.val] := by decide
theorem law_two (ns : List Int) : (longOf ns).map (fun k => ((lastOf (mul_ k) ns : Nat) : Int)) = if 16 < freeOf ns then [(freeOf ns : Int)] else [] := by
  have hfl := free_le ns
  by_cases hf : 16 < freeOf ns
  · rw [if_pos hf]
    obtain ⟨k, hk, hl⟩ := law_ex hf
    have e : longOf ns = [k] := by
      rw [← filter_one ⟨k, hk⟩]
      unfold longOf
      refine List.filter_congr fun j hj => ?_
      have hj16 := List.mem_range.mp hj
      unfold longAt
      rw [Bool.eq_iff_iff]
      simp only [decide_eq_true_eq, beq_iff_eq]
      constructor
      · intro h
        exact fit_only hj16 hk (by omega) (fun i hi => lastOf_ok _ ns i (by omega)) (fun i hi => lastOf_ok _ ns i (by omega))
      · rintro rfl
        omega
    rw [e]
    simp only [List.map_cons, List.map_nil]
    rw [hl]
  · rw [if_neg hf]
    have e : longOf ns = [] := by
      unfold longOf
      rw [List.filter_eq_nil_iff]
      intro j _
      unfold longAt
      have := last_le (mul_ j) ns
      simp
      omega
    rw [e]; rfl
def vOf (k c : Nat) : Nat := (1 + 2 * k) * c % 32
def mk (S v : Nat) : Bool := !(Nat.beq v 0) && Nat.ble v S
theorem v_perm : ∀ k : Fin 16, (((List.range 32).map (vOf k.val)).isPerm (List.range 32)) = true := by decide +kernel
theorem mk_count : ∀ S : Fin 32, (List.range 32).countP (mk S.val) = S.val := by decide +kernel
theorem mark_mk {k S : Nat} (hS : S < 32) (c : Nat) : markAt (mul_ k) (S : Int) c = mk S (vOf k c) := by
  have e : mul_ k * (c : Int) % 32 = ((vOf k c : Nat) : Int) := by
    unfold vOf
    show (1 + (k : Int) * 2) * (c : Int) % 32 = _
    push_cast
    rw [Int.mul_comm (k : Int) 2]
  unfold markAt mk
  rw [e]
  generalize vOf k c = v
  have h1 : Nat.beq v 0 = decide (v = 0) := by cases v <;> rfl
  have h2 : Nat.ble v S = decide (v ≤ S) := by rw [Bool.eq_iff_iff, Nat.ble_eq, decide_eq_true_eq]
  rw [h1, h2, Bool.eq_iff_iff]
  simp only [Bool.and_eq_true, Bool.not_eq_true', decide_eq_true_eq, decide_eq_false_iff_not]
  omega
theorem mark_count {k S : Nat} (hk : k < 16) (hS : S < 32) : (List.range 32).countP (markAt (mul_ k) (S : Int)) = S := by
  have e : (List.range 32).countP (markAt (mul_ k) (S : Int)) = ((List.range 32).map (vOf k)).countP (mk S) := by
    rw [List.countP_map]
    exact List.countP_congr fun c _ => by rw [mark_mk hS c]; rfl
  rw [e, (List.isPerm_iff.mp (v_perm ⟨k, hk⟩)).countP_eq]
  exact mk_count ⟨S, hS⟩
theorem count_true (f : Nat → Bool) (l : List Nat) : (l.map f).count true = l.countP f := by
  rw [List.count_eq_countP, List.countP_map]
  exact List.countP_congr fun c _ => by simp
theorem count_both (f : Nat → Bool) : ∀ l : List Nat, (l.map f).count true + (l.map f).count false = l.length
  | [] => rfl
  | c :: l => by
    have := count_both f l
    rw [List.map_cons, List.count_cons, List.count_cons, List.length_cons]
    cases f c <;> simp <;> omega
theorem count_yes {k S : Nat} (hk : k < 16) (hS : S < 32) : ((List.range 32).map (markAt (mul_ k) (S : Int))).count true = S := by
  rw [count_true]
  exact mark_count hk hS
theorem count_no {k S : Nat} (hk : k < 16) (hS : S < 32) : ((List.range 32).map (markAt (mul_ k) (S : Int))).count false = 32 - S := by
  have h1 := count_yes hk hS
  have h2 := count_both (markAt (mul_ k) (S : Int)) (List.range 32)
  rw [List.length_range] at h2
  omega
theorem res_unit {k : Nat} (hk : k < 16) {x : R} (h : res (mul_ k) * x = 0) : x = 0 := by
  obtain ⟨i, _, e⟩ := inv_of (res (mul_ k)).toFin (res_odd hk)
  have e' : (BitVec.ofFin i : R) * res (mul_ k) = 1 := e
  calc x = (1 : R) * x := (BitVec.one_mul x).symm
    _ = BitVec.ofFin i * (res (mul_ k) * x) := by rw [← e', BitVec.mul_assoc]
    _ = 0 := by rw [h]; exact BitVec.mul_zero
theorem law_three (ns : List Int) (k : Nat) (hk : k < 16) (h16 : 16 < lastOf (mul_ k) ns) : Law3 ns (mul_ k) := by
  have hfl := free_le ns
  have hle := last_le (mul_ k) ns
  have hf : 16 < freeOf ns := by omega
  have hlast : lastOf (mul_ k) ns = freeOf ns := by
    obtain ⟨k', hk', hl'⟩ := law_ex hf
    have := fit_only hk hk' (by omega) (fun i hi => lastOf_ok _ ns i (by omega)) (fun i hi => lastOf_ok _ ns i (by omega))
    rw [this]; exact hl'
  have fit : ∀ size, size ≤ freeOf ns → ∀ i, i < size → okAt (mul_ k) ns i = true := fun size hs i hi => lastOf_ok _ ns i (by omega)
  have low : ∀ size, 17 ≤ size → size ≤ freeOf ns → sumAt (mul_ k) ns size < 32 := fun size h1 h2 => by
    obtain ⟨_, b⟩ := (fit_iff _ ns size (by omega)).mp (fit size h2)
    have := sum_rp (mul_ k) ns size (by omega)
    omega
  have bits : ∀ size, 17 ≤ size → size ≤ freeOf ns → ∀ c, c < 32 → bitAt ns size c = markAt (mul_ k) (sumAt (mul_ k) ns size) c := fun size h1 h2 c hc => by
    have hsn : size ≤ ns.length := by omega
    have hz : zf (rp ns size) := (free_iff hsn).mpr h2
    obtain ⟨a, b⟩ := (fit_iff _ ns size hsn).mp (fit size h2)
    obtain ⟨m, hodd, hnz, hsum, hY⟩ := sc _ hz (by rw [rp_len hsn]; omega)
    have e := only (by rw [rp_len hsn]; omega) hodd (res_odd hk) hnz a hsum b
    subst e
    have hs := sum_rp (mul_ k) ns size hsn
    rw [bit_NE hsn hc]
    have hx : BitVec.ofNat 5 c = res (c : Int) := by
      apply BitVec.eq_of_toNat_eq
      rw [res_nat, BitVec.toNat_ofNat]
      omega
    have hmx : ((res (mul_ k) * BitVec.ofNat 5 c).toNat : Int) = mul_ k * (c : Int) % 32 := by
      rw [hx, res_mul]
      omega
    have hYc := hY (BitVec.ofNat 5 c)
    rw [Y_NE] at hYc
    have hl := low size h1 h2
    have hz0 := (zf_NE _).mp hz
    have hzero : BitVec.ofNat 5 c = 0 ↔ mul_ k * (c : Int) % 32 = 0 := by
      rw [← hmx]
      constructor
      · intro e
        rw [e]; simp
      · intro e
        exact res_unit hk (BitVec.eq_of_toNat_eq (Int.ofNat.inj e))
    unfold markAt
    rw [Bool.eq_iff_iff]
    simp only [Bool.and_eq_true, decide_eq_true_eq]
    by_cases h0 : BitVec.ofNat 5 c = 0
    · rw [h0, hz0]
      constructor
      · intro h; cases h
      · rintro ⟨h, _⟩; exact absurd (hzero.mp h0) h
    · have h0' : (BitVec.ofNat 5 c == 0) = false := beq_eq_false_iff_ne.mpr h0
      rw [h0', Bool.or_false] at hYc
      rw [hYc]
      have hne : mul_ k * (c : Int) % 32 ≠ 0 := fun e => h0 (hzero.mpr e)
      constructor
      · intro h
        exact ⟨hne, by omega, by omega⟩
      · rintro ⟨_, h, _⟩
        omega
  have cnt : ∀ size, 17 ≤ size → size ≤ freeOf ns → (List.range 32).map (bitAt ns size) = (List.range 32).map (markAt (mul_ k) (sumAt (mul_ k) ns size)) := fun size h1 h2 =>
    List.map_congr_left fun c hc => bits size h1 h2 c (List.mem_range.mp hc)
  refine ⟨hlast, low, fun size h1 h2 => ?_, fun size h1 h2 => ?_, fun size h1 h2 i hi e => ?_, bits⟩
  · have hl := low size h1 h2
    have hp := sumAt_nonneg (mul_ k) ns size
    rw [cnt size h1 h2]
    generalize sumAt (mul_ k) ns size = S at *
    obtain ⟨n, rfl⟩ : ∃ n : Nat, S = n := ⟨S.toNat, by omega⟩
    exact congrArg _ (count_yes hk (by omega))
  · have hl := low size h1 h2
    have hp := sumAt_nonneg (mul_ k) ns size
    rw [cnt size h1 h2]
    generalize sumAt (mul_ k) ns size = S at *
    obtain ⟨n, rfl⟩ : ∃ n : Nat, S = n := ⟨S.toNat, by omega⟩
    rw [count_no hk (by omega)]
    omega
  · have hok := fit size h2 i hi
    unfold okAt at hok
    simp at hok
    have h3 := sumAt_le (mul_ k) ns (show i + 1 ≤ size by omega)
    have h4 := ctl_range (mul_ k) ns i
    have h5 : sumAt (mul_ k) ns (i + 1) = sumAt (mul_ k) ns i + ctl (mul_ k) ns i := rfl
    have := hok.1
    omega
theorem plain_law (ns : List Int) : PlainLaw ns := ⟨law_one ns, law_two ns, law_three ns, free_le ns⟩
end Mine
end
open PySem PySem.W PyProof.Rows
set_option Elab.async false
set_option maxRecDepth 100000 in
set_option maxHeartbeats 8000000 in
theorem PySem.Challenge.cw_ph0015_01_holds : PySem.Challenge.rw_ph0015_01.Holds := by
  refine Mine.hd ?_
  w_on
  w_strict (k_go0; (all_goals try k_fold); (all_goals (
    rename IntsAre _ _ => hI
    rename Fr _ _ _ _ => hF
    rename News _ _ _ _ => hN
    rename Below _ _ _ _ => hB
    rename Top _ _ _ _ _ _ => hT
    rename Heap.IsList _ _ _ => hL
    rename Frag.In _ _ => hX
    refine Mine.law_all _ _ _ _ _ _ _ _ _ _ _ _ _ _ _ _ hB hF hX hT ?hd ?hu Mine.plain_law _ _ _ hL hI ?hn ?hm _ _ _ _ _ _ ?d1 ?d2 ?d3 ?d4 ?d5 ?d6 hN ?hE ?ret)))
  case hd => decide
  case hu => decide
  case hn => omega
  case hm => exact rfl
  case d1 => assumption
  case d2 => assumption
  case d3 => assumption
  case d4 => assumption
  case d5 => assumption
  case d6 => assumption
  case hE => passes_own
  case ret =>
    intro h tk m' F
    k_steps
