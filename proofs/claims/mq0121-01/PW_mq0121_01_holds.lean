import PyProof.Rows.All
import Wide.All
import OpenK.AllK
import Wide.FinOn
import PySem.Challenge.RW_mq0121_01
open PySem PySem.W PyProof.Rows PySem.Spec
set_option Elab.async false
set_option maxRecDepth 100000
set_option maxHeartbeats 8000000

/-! part TopA -/
namespace Mine
open_top hd for PySem.Challenge.rw_mq0121_01
end Mine

/-! part Base0 -/
namespace Mine
/-- what a call of f makes of its arguments, whatever the caller: a value, new objects `tl`. -/
abbrev Tell (w : World) (mean : ExcName → Option Value) (mg mb : Str → Option Value) (f : Addr) (dd : Nat) (vs : List Value)
    (pre : List (Addr × Obj) → Prop) (post : List (Addr × Obj) → Value → Prop) : Prop :=
  ∀ (dp un : Nat) (gd : Option (List Code)) (cn : Str) (cs : Scope) (a : Addr) (ccd : Value) (cl : List (Str × Addr)) (outer : List Env) (A₀ : Around) (base h₀ : Heap) (L : Addr) (m : Str → Option Value) (news : List (Addr × Obj)) (s : Shared) (Q E : Value → Shared → Prop),
    Below A₀ base outer h₀ → Fr h₀ L s.heap m → (hd.heap_39 w.params).In h₀ → News h₀ L s.heap news → Top hd.view_39 (looseW hd.view_39 []) mean mg mb h₀ → cs.kind = .function →
    dp + dd < recursionLimit → un + 8 * dd < cLine → pre news →
    (∀ r tl h' tk', Fr h₀ L h' m → News h₀ L h' (tl ++ news) → (∀ q ∈ news, ∀ p ∈ tl, p.1 ≠ q.1) → post tl r → Q r { s with heap := h', toks := tk' }) →
    wpAny (model PySem.Challenge.rw_mq0121_01.row.prog w) (ktrTop dp un gd cn cs L a ccd cl outer) (call (.ref f) vs) Q E s

/-- a call that hands back a plain value and leaves nothing behind -/
abbrev TellV (w : World) (mean : ExcName → Option Value) (mg mb : Str → Option Value) (f : Addr) (dd : Nat) (vs : List Value) (post : Value → Prop) : Prop :=
  ∀ (dp un : Nat) (gd : Option (List Code)) (cn : Str) (cs : Scope) (a : Addr) (ccd : Value) (cl : List (Str × Addr)) (outer : List Env) (A₀ : Around) (base h₀ : Heap) (L : Addr) (m : Str → Option Value) (news : List (Addr × Obj)) (s : Shared) (Q E : Value → Shared → Prop),
    Below A₀ base outer h₀ → Fr h₀ L s.heap m → (hd.heap_39 w.params).In h₀ → News h₀ L s.heap news → Top hd.view_39 (looseW hd.view_39 []) mean mg mb h₀ → cs.kind = .function →
    dp + dd < recursionLimit → un + 8 * dd < cLine →
    (∀ r h' tk', Fr h₀ L h' m → News h₀ L h' news → post r → Q r { s with heap := h', toks := tk' }) →
    wpAny (model PySem.Challenge.rw_mq0121_01.row.prog w) (ktrTop dp un gd cn cs L a ccd cl outer) (call (.ref f) vs) Q E s

section
variable {w : World} {mean : ExcName → Option Value} {mg mb : Str → Option Value} {f : Addr} {dd : Nat} {vs : List Value} {dp un : Nat} {gd : Option (List Code)} {cn : Str} {cs : Scope} {a : Addr} {ccd : Value} {cl : List (Str × Addr)} {outer : List Env} {A₀ : Around} {base h₀ : Heap} {L : Addr} {m : Str → Option Value} {news : List (Addr × Obj)} {s : Shared} {Q E : Value → Shared → Prop}
theorem TellV.use {post : Value → Prop} (H : TellV w mean mg mb f dd vs post) (B : Below A₀ base outer h₀) (F : Fr h₀ L s.heap m) (X : (hd.heap_39 w.params).In h₀) (N : News h₀ L s.heap news) (T : Top hd.view_39 (looseW hd.view_39 []) mean mg mb h₀) (hk : cs.kind = .function)
    (hd : dp + dd < recursionLimit) (hu : un + 8 * dd < cLine) (ret : ∀ r h' tk', Fr h₀ L h' m → News h₀ L h' news → post r → Q r { s with heap := h', toks := tk' }) :
    wpAny (model PySem.Challenge.rw_mq0121_01.row.prog w) (ktrTop dp un gd cn cs L a ccd cl outer) (call (.ref f) vs) Q E s := H _ _ _ _ _ _ _ _ _ _ _ _ _ _ _ _ _ _ B F X N T hk hd hu ret
theorem Tell.use {pre : List (Addr × Obj) → Prop} {post : List (Addr × Obj) → Value → Prop} (H : Tell w mean mg mb f dd vs pre post) (B : Below A₀ base outer h₀) (F : Fr h₀ L s.heap m) (X : (hd.heap_39 w.params).In h₀) (N : News h₀ L s.heap news) (T : Top hd.view_39 (looseW hd.view_39 []) mean mg mb h₀) (hk : cs.kind = .function)
    (hd : dp + dd < recursionLimit) (hu : un + 8 * dd < cLine) (hp : pre news) (ret : ∀ r tl h' tk', Fr h₀ L h' m → News h₀ L h' (tl ++ news) → (∀ q ∈ news, ∀ p ∈ tl, p.1 ≠ q.1) → post tl r → Q r { s with heap := h', toks := tk' }) :
    wpAny (model PySem.Challenge.rw_mq0121_01.row.prog w) (ktrTop dp un gd cn cs L a ccd cl outer) (call (.ref f) vs) Q E s := H _ _ _ _ _ _ _ _ _ _ _ _ _ _ _ _ _ _ B F X N T hk hd hu hp ret
end
end Mine

/-! part Rules -/
namespace Mine

abbrev listOf (vs : List Value) (n : Nat) : Obj := { cls := .type "list", data := .seq vs.toArray n }

section
variable {prog : Program} {w : World} {A : Around} {E : Value → Shared → Prop} {s : Shared} {env : Env} {h₀ : Heap} {x : Str} {body : List Stmt} {Q : Flow → Shared → Prop}

/-- the end of a turn: what the loop itself owns is as it was, the word holds anew -/
def TurnEnd (h₀ : Heap) (L : Addr) (J : (Str → Option Value) → List (Addr × Obj) → Prop) (own : List (Addr × Obj)) (s₁ : Shared) (Q : Flow → Shared → Prop) (f : Flow) (s₂ : Shared) : Prop :=
  match f with
  | .ret v => Q (.ret v) s₂
  | .brk => Q .next s₂
  | _ => ∃ h' tk m' nx, s₂ = { s₁ with heap := h', toks := tk } ∧ Fr h₀ L h' m' ∧ News h₀ L h' (own ++ nx) ∧ (∀ q ∈ own, ∀ p ∈ nx, p.1 ≠ q.1) ∧ J m' nx

theorem TurnEnd.of {L : Addr} {J : (Str → Option Value) → List (Addr × Obj) → Prop} {own nx : List (Addr × Obj)} {s₁ : Shared} {f : Flow} {h' : Heap} {tk : Nat} {m' : Str → Option Value} (hf : f = .next ∨ f = .cont)
    (F : Fr h₀ L h' m') (N : News h₀ L h' (own ++ nx)) (off : ∀ q ∈ own, ∀ p ∈ nx, p.1 ≠ q.1) (hJ : J m' nx) : TurnEnd h₀ L J own s₁ Q f { s₁ with heap := h', toks := tk } := by
  rcases hf with rfl | rfl
  · exact ⟨h', tk, m', nx, rfl, F, N, off, hJ⟩
  · exact ⟨h', tk, m', nx, rfl, F, N, off, hJ⟩
/-- our turn's end is the library's -/
theorem TurnEnd.post {L : Addr} {J J' : (Str → Option Value) → List (Addr × Obj) → Prop} {own : List (Addr × Obj)} {s₁ s₂ : Shared} {f : Flow} (hJ : ∀ m nx, J m nx → J' m nx) (h : TurnEnd h₀ L J own s₁ Q f s₂) : InvPostG h₀ L J' own s₁ Q f s₂ := by
  have go : (∃ h' tk m' nx, s₂ = { s₁ with heap := h', toks := tk } ∧ Fr h₀ L h' m' ∧ News h₀ L h' (own ++ nx) ∧ (∀ q ∈ own, ∀ p ∈ nx, p.1 ≠ q.1) ∧ J m' nx) → InvEndG h₀ L J' own s₁ s₂ := by
    rintro ⟨h', tk, m', nx, rfl, F, N, off, hj⟩
    refine InvEndG.intro F N (hJ _ _ hj) (fun q hq b hb => ?_) (fun p hp => List.mem_append_right _ hp) fun p hp => List.mem_append_left _ hp
    obtain ⟨p, hp, rfl⟩ := List.mem_map.mp hb
    exact (off q hq p hp).symm
  cases f with
  | ret v => exact h
  | brk => exact h
  | next => exact go h
  | cont => exact go h
theorem own_front {L : Addr} {h : Heap} {own news : List (Addr × Obj)} (N : News h₀ L h (news ++ own)) : News h₀ L h (own ++ news) := fun p hp => N p ((List.mem_append.mp hp).elim (fun q => List.mem_append_right _ q) fun q => List.mem_append_left _ q)
theorem own_apart {own news : List (Addr × Obj)} (off : OwnOff own (news.map (·.1))) : ∀ q ∈ own, ∀ p ∈ news, p.1 ≠ q.1 := fun q hq _ hp => (off q hq _ (List.mem_map_of_mem hp)).symm

/-- a loop over a list of the ledger's that its turns leave alone -/
theorem loop_led {l : Addr} {vs : List Value} {nn : Nat} {m₀ : Str → Option Value} {news : List (Addr × Obj)} (J : Nat → (Str → Option Value) → List (Addr × Obj) → Prop)
    (hh : A.handled = none) (F : Fr h₀ env.locals s.heap m₀) (N : News h₀ env.locals s.heap news) (hj : J 0 m₀ news)
    (hsrc : ∀ i m₁ news₁, J i m₁ news₁ → (l, listOf vs nn) ∈ news₁)
    (turn : ∀ i v m₁ news₁ h tk own, vs[i]? = some v → J i m₁ news₁ → (∀ q ∈ own, ∀ p ∈ news₁, p.1 ≠ q.1) → Fr h₀ env.locals h (fun y => if y = x then some v else m₁ y) → News h₀ env.locals h (own ++ news₁) →
      wpAny (model prog w) A (execs body env) (TurnEnd h₀ env.locals (J (i + 1)) own { s with heap := h, toks := tk } Q) E { s with heap := h, toks := tk })
    (done : ∀ m₁ news₁ h tk, J vs.length m₁ news₁ → Fr h₀ env.locals h m₁ → News h₀ env.locals h news₁ → Q .next { s with heap := h, toks := tk }) :
    wpAny (model prog w) A (pyIter (.ref l)) (fun it s₂ => LoopAtV prog w A h₀ env x body Q E it s₂) E s :=
  kdl_iter (nn := nn) J hh (hsrc _ _ _ hj) F N hj
    (fun i v m₁ news₁ h tk own hv off _ hJ F₁ N₁ => wpAny_mono (turn i v m₁ news₁ h tk own hv hJ (own_apart off) F₁ (own_front N₁)) (fun _ _ p => p.post fun m nx hn => ⟨hsrc _ m nx hn, hn⟩) fun _ _ e => e) done

/-- a loop over a text's signs -/
theorem loop_str {xt : Str} {tx : Tok} {m₀ : Str → Option Value} {news : List (Addr × Obj)} (J : Nat → (Str → Option Value) → List (Addr × Obj) → Prop)
    (hh : A.handled = none) (F : Fr h₀ env.locals s.heap m₀) (N : News h₀ env.locals s.heap news) (hj : J 0 m₀ news)
    (turn : ∀ i c t m₁ news₁ h tk own, xt.cps[i]? = some c → J i m₁ news₁ → (∀ q ∈ own, ∀ p ∈ news₁, p.1 ≠ q.1) → Fr h₀ env.locals h (fun y => if y = x then some (.str ⟨#[c]⟩ t) else m₁ y) → News h₀ env.locals h (own ++ news₁) →
      wpAny (model prog w) A (execs body env) (TurnEnd h₀ env.locals (J (i + 1)) own { s with heap := h, toks := tk } Q) E { s with heap := h, toks := tk })
    (done : ∀ m₁ news₁ h tk, J xt.cps.size m₁ news₁ → Fr h₀ env.locals h m₁ → News h₀ env.locals h news₁ → Q .next { s with heap := h, toks := tk }) :
    wpAny (model prog w) A (pyIter (.str xt tx)) (fun it s₂ => LoopAtV prog w A h₀ env x body Q E it s₂) E s := by
  have go : ∀ (o : Obj) (St : Nat → Heap → Prop), (∀ i h, St i h → ∃ o, h.get? s.heap.objs.size = some o) → Walks prog w A s.heap.objs.size [s.heap.objs.size] [s.heap.objs.size] xt.cps.size (SignAt xt) St → St 0 (s.heap.push o) →
      LoopAtV prog w A h₀ env x body Q E (.ref s.heap.objs.size) { s with heap := s.heap.push o } := by
    intro o St hSt W h0
    refine kdr_loop J W (fun _ h => h) (fun _ h => h) (fun i h st b hb => List.mem_singleton.mp hb ▸ hSt i h st) (fun hm => Nat.ne_of_lt F.ns.lt (List.mem_singleton.mp hm))
      (fun b hb => List.mem_singleton.mp hb ▸ next_is_new F) (fun p hp hm => Nat.ne_of_lt (Heap.lt_size (N p hp).1) (List.mem_singleton.mp hm)) h0 (F.push _) (N.grown fun b o e => Heap.get?_push_of_some _ e) hj ?_ done
    rintro i v m₁ nx h tk own _ ⟨c, t, hc, rfl⟩ off hJ F₁ N₁
    exact wpAny_mono (turn i c t m₁ nx h tk own hc hJ (own_apart off) F₁ (own_front N₁)) (fun _ _ p => p.post fun _ _ hn => hn) fun _ _ e => e
  cases ha : xt.cps.all (· < 128) with
  | false => exact wpAny_pyIter_wide ha (go _ _ (fun i h ⟨o, e, _⟩ => ⟨o, e⟩) (Walks.strWide hh _ xt tx) ⟨_, Heap.get?_push_size _ rfl, rfl, rfl⟩)
  | true => exact wpAny_pyIter_ascii ha (go _ _ (fun i h ⟨o, e, _⟩ => ⟨o, e⟩) (Walks.strAscii hh _ xt tx) ⟨_, Heap.get?_push_size _ rfl, rfl, rfl⟩)
end
theorem led_front {h₀ h : Heap} {L : Addr} {own news : List (Addr × Obj)} {x : Addr × Obj} (N : News h₀ L h (own ++ x :: news)) : News h₀ L h (x :: (own ++ news)) := fun p hp => by
  rcases List.mem_cons.mp hp with rfl | hp
  · exact N _ (List.mem_append_right _ (List.mem_cons_self ..))
  · exact (List.mem_append.mp hp).elim (fun q => N _ (List.mem_append_left _ q)) fun q => N _ (List.mem_append_right _ (List.mem_cons_of_mem _ q))
theorem led_back {h₀ h : Heap} {L : Addr} {own news rest : List (Addr × Obj)} {x : Addr × Obj} (N : News h₀ L h (x :: rest)) (e : rest = own ++ news) : News h₀ L h (own ++ x :: news) := fun p hp => by
  subst e
  refine N p ?_
  rcases List.mem_append.mp hp with q | q
  · exact List.mem_cons_of_mem _ (List.mem_append_left _ q)
  · exact (List.mem_cons.mp q).elim (fun r => r ▸ List.mem_cons_self ..) fun r => List.mem_cons_of_mem _ (List.mem_append_right _ r)
end Mine

/-! part Rules2 -/
namespace Mine

section
variable {prog : Program} {w : World} {A : Around} {E : Value → Shared → Prop} {s : Shared} {env : Env} {h₀ : Heap} {L : Addr} {m : Str → Option Value}

theorem comp_rest {elt : Expr} {x : Str} {scope : Scope} {cl : List (Str × Addr)} {S : List (Addr × Obj) → Prop} {P : Nat → Value → Prop} {Fin : List Value → List (Addr × Obj) → Prop} {n : Nat} {news₀ : List (Addr × Obj)}
    (J : Nat → List Value → List (Addr × Obj) → Prop)
    (step : ∀ i ys news v I oI C oC D m₂ h tk (E' : Value → Shared → Prop), i < n → J i ys news → P i v → LCg.NsObj oC m₂ → m₂ x = some v → Fr h₀ L h m → News h₀ L h ((I, oI) :: (C, oC) :: (D, LCg.lst ys) :: news) → LCg.Off3 I C D news → ((@Ne Nat I C) ∧ (@Ne Nat I D) ∧ (@Ne Nat C D)) →
      wpAny (model prog w) A (eval elt (compEnvC scope cl C env)) (LCg.CompEnd h₀ L m { s with heap := h, toks := tk } I oI C oC D (LCg.lst ys) S (fun y news' => J (i + 1) (ys ++ [y]) news')) E' { s with heap := h, toks := tk })
    (fin : ∀ ys news, J n ys news → Fin ys news) (h0 : J 0 [] news₀) : LCg.CompRest prog w A h₀ L m env elt x scope cl s S P Fin n 0 [] news₀ := by
  have key : ∀ (j i : Nat) (ys : List Value) (news : List (Addr × Obj)), i + j = n → J i ys news → LCg.CompRest prog w A h₀ L m env elt x scope cl s S P Fin j i ys news := by
    intro j
    induction j with
    | zero =>
      intro i ys news hi hy
      have e : i = n := by omega
      subst e
      exact LCg.CompRest.zero (fin ys news hy)
    | succ j ih =>
      intro i ys news hi hy
      refine LCg.CompRest.succ ?_
      intro v I oI C oC D m₂ h tk E' hv hC hx F N off ne
      refine wpAny_mono (step i ys news v I oI C oC D m₂ h tk E' (by omega) hy hv hC hx F N off ne) (fun y s₂ hq => ?_) fun _ _ e => e
      obtain ⟨h', tk', nw, e, F', N', off', hS, hn⟩ := hq
      exact ⟨h', tk', nw, e, F', N', off', hS, ih (i + 1) _ nw (by omega) hn⟩
  exact key n 0 [] news₀ (by omega) h0

/-- what has to be known of a text that a comprehension runs over -/
abbrev TextSrc (prog : Program) (w : World) (A : Around) (h₀ : Heap) (L : Addr) (m : Str → Option Value) (env : Env) (elt : Expr) (x : Str) (scope : Scope) (cl : List (Str × Addr)) (Q : Value → Shared → Prop) (xv : Value) (s₁ : Shared) : Prop :=
  ∃ xt tx news, xv = .str xt tx ∧ Fr h₀ L s₁.heap m ∧ News h₀ L s₁.heap news ∧ xt.cps.size ≤ sizeLine ∧
    ∀ g, LCg.CompRest prog w A h₀ L m env elt x scope cl { s₁ with heap := g } (fun _ => True) (SignAt xt) (LCg.FinE h₀ L m { s₁ with heap := g } Q) xt.cps.size 0 [] news
/-- a comprehension over a text: the library's block, over the text's iterator -/
theorem comp_text {elt iter : Expr} {x : Str} {px : Pos} {scope : Scope} {cl : List (Str × Addr)} {pos : Pos} {Q : Value → Shared → Prop} (_F₀ : Fr h₀ L s.heap m)
    (hclos : closureFor scope env = pure cl) (hcell : ∀ y ∈ scope.names, y.2 ≠ .cell) (hkind : scope.kind = .function)
    (hnames : ∀ y ∈ scope.names, y.2 = .local → scope.names.lookup y.1 = some .local) (hx : scope.names.lookup x = some .local) (hh : A.handled = none)
    (hs : ∀ x, foldedSetIterable iter env x = pure x) (h : wpAny (model prog w) A (eval iter env) (TextSrc prog w A h₀ L m env elt x scope cl Q) E s) :
    wpAny (model prog w) A (eval (.ListComp elt [⟨.Name x px, iter, [], 0⟩] scope pos) env) Q E s := by
  rw [eval_ListComp]
  refine wpAny_comprehension_free (use := none) rfl hs hclos hkind hnames (wpAny_mono h (fun xv s₁ h₁ => ?_) fun _ _ e => e)
  obtain ⟨xt, tx, news, rfl, F, N, hsz, R⟩ := h₁
  have grow : ∀ (oo : Obj) b o, s₁.heap.get? b = some o → (s₁.heap.push oo).get? b = some o := fun oo b o e => Heap.get?_push_of_some _ e
  have one : ∀ b ∈ [s₁.heap.objs.size], ∀ oo : Obj, b < (s₁.heap.push oo).objs.size := fun b hb oo => by
    rw [List.mem_singleton.mp hb, Heap.size_push]
    omega
  have off : ∀ p ∈ news, p.1 ≠ s₁.heap.objs.size := fun p hp => Nat.ne_of_lt (Heap.lt_size (N p hp).1)
  cases ha : xt.cps.all (· < 128) with
  | false =>
    refine wpAny_pyIter_wide ha (LCg.block_U (Walks.strWide hh s₁.heap.objs.size xt tx) hsz (fun i h ⟨o, e, _⟩ => ⟨o, e⟩) ?_ hcell hkind hx ⟨_, Heap.get?_push_size _ rfl, rfl, rfl⟩ (fun b hb => one b hb _)
      (F.keeps (grow _)) (N.grown (grow _)) (Nat.ne_of_lt F.ns.lt) (next_is_new F) off trivial (R _) ?_)
    · exact fun i h h' o nw ⟨o', q, r⟩ e e' _ _ _ => ⟨o', e'.trans (e.symm.trans q), r⟩
    · exact fun D C h tk m' ys news' F' N' o1 hn hC₀ hD₀ hCL hDL hCD offC fin => ⟨m', hn, fun h'' hs'' => fin D h'' tk (F'.change hs'' hCL hC₀) (fun p hp => ⟨hs''.extBut _ _ ((List.mem_cons.mp hp).elim (fun e => e ▸ Ne.symm hCD) (offC p)) (N' p hp).1, (N' p hp).2⟩) o1⟩
  | true =>
    refine wpAny_pyIter_ascii ha (LCg.block_U (Walks.strAscii hh s₁.heap.objs.size xt tx) hsz (fun i h ⟨o, e, _⟩ => ⟨o, e⟩) ?_ hcell hkind hx ⟨_, Heap.get?_push_size _ rfl, rfl, rfl⟩ (fun b hb => one b hb _)
      (F.keeps (grow _)) (N.grown (grow _)) (Nat.ne_of_lt F.ns.lt) (next_is_new F) off trivial (R _) ?_)
    · exact fun i h h' o nw ⟨o', q, r⟩ e e' _ _ _ => ⟨o', e'.trans (e.symm.trans q), r⟩
    · exact fun D C h tk m' ys news' F' N' o1 hn hC₀ hD₀ hCL hDL hCD offC fin => ⟨m', hn, fun h'' hs'' => fin D h'' tk (F'.change hs'' hCL hC₀) (fun p hp => ⟨hs''.extBut _ _ ((List.mem_cons.mp hp).elim (fun e => e ▸ Ne.symm hCD) (offC p)) (N' p hp).1, (N' p hp).2⟩) o1⟩
end
end Mine

/-! part Rules3 -/
namespace Mine
theorem zip_foot {sz a b k : Nat} (h : k ∈ [sz + 4, sz + 2, sz + 3, sz, sz + 1, a, b]) : k = a ∨ k = b ∨ sz ≤ k := by
  simp only [List.mem_cons, List.not_mem_nil, or_false] at h
  omega
theorem zip_turns {sz k : Nat} (h : k ∈ [sz + 4, sz + 3, sz, sz + 1]) : sz ≤ k := by
  simp only [List.mem_cons, List.not_mem_nil, or_false] at h
  omega
section
variable {prog : Program} {w : World} {A : Around} {E : Value → Shared → Prop} {s : Shared} {env : Env} {h₀ : Heap} {xi xc : Str} {body : List Stmt} {Q : Flow → Shared → Prop}

/-- for a, b in zip(l1, l2), both lists the ledger's -/
theorem loop_zip {l1 l2 : Addr} {vs1 vs2 : List Value} {n1 n2 : Nat} {m₀ : Str → Option Value} {news : List (Addr × Obj)} (J : Nat → (Str → Option Value) → List (Addr × Obj) → Prop)
    (hh : A.handled = none) (F : Fr h₀ env.locals s.heap m₀) (N : News h₀ env.locals s.heap news) (h1 : (l1, listOf vs1 n1) ∈ news) (h2 : (l2, listOf vs2 n2) ∈ news) (hj : J 0 m₀ news)
    (turn : ∀ i v0 v1 m₁ news₁ h tk own, vs1[i]? = some v0 → vs2[i]? = some v1 → J i m₁ news₁ → (∀ p ∈ own, p.1 = l1 ∨ p.1 = l2 ∨ s.heap.objs.size ≤ p.1) →
      Fr h₀ env.locals h (fun y => if y = xc then some v1 else if y = xi then some v0 else m₁ y) → News h₀ env.locals h (own ++ news₁) →
      wpAny (model prog w) A (execs body env) (LoopStep3 h₀ env.locals own news₁ (J (i + 1)) { s with heap := h, toks := tk } (fun v s' => Q (.ret v) s') fun s' => Q .next s') E { s with heap := h, toks := tk })
    (done : ∀ m₁ news₁ h tk, J (min vs1.length vs2.length) m₁ news₁ → Fr h₀ env.locals h m₁ → News h₀ env.locals h news₁ → Q .next { s with heap := h, toks := tk }) :
    wpAny (model prog w) A (call (.type "zip") [.ref l1, .ref l2]) (fun xv s₁ => wpAny (model prog w) A (pyIter xv) (fun it s₂ => PairAt3 prog w A h₀ env xi xc body Q E it s₂) E s₁) E s := by
  have g1 := N _ h1
  have g2 := N _ h2
  have hls1 : s.heap.IsList l1 vs1.toArray := ⟨_, g1.1, rfl, _, rfl⟩
  have hls2 : s.heap.IsList l2 vs2.toArray := ⟨_, g2.1, rfl, _, rfl⟩
  have a1 : l1 < s.heap.objs.size := Heap.lt_size g1.1
  have a2 : l2 < s.heap.objs.size := Heap.lt_size g2.1
  have hLs : env.locals < s.heap.objs.size := F.ns.lt
  have hab : h₀.objs.size ≤ env.locals := F.above
  refine call_zip_2 hls1 hls2 fun h' hz hTI hTO hit1 hit2 hsz hk => ?_
  have F' : Fr h₀ env.locals h' m₀ := ⟨F.ns.keeps hk, fun b o e => hk b o (F.keep b o e), F.above⟩
  have N' : News h₀ env.locals h' news := fun p hp => ⟨hk _ _ (N p hp).1, (N p hp).2⟩
  have W := WalksT.zip2 (prog := prog) (w := w) hh (s.heap.objs.size + 4) (s.heap.objs.size + 2) (s.heap.objs.size + 3) s.heap.objs.size (s.heap.objs.size + 1) l1 l2 (zipApart_new a1 a2) vs1.toArray vs2.toArray
  have hst : IsZip h' (s.heap.objs.size + 4) (s.heap.objs.size + 2) (s.heap.objs.size + 3) .none ∧ IsPair h' (s.heap.objs.size + 2) (.ref s.heap.objs.size) (.ref (s.heap.objs.size + 1)) ∧ (∃ a b, IsPair h' (s.heap.objs.size + 3) a b) ∧ h'.IsListIter s.heap.objs.size l1 0 ∧ h'.IsListIter (s.heap.objs.size + 1) l2 0 ∧ h'.IsList l1 vs1.toArray ∧ h'.IsList l2 vs2.toArray :=
    ⟨hz, hTI, ⟨_, _, hTO⟩, hit1, hit2, hls1.at fun o e => hk l1 o e, hls2.at fun o e => hk l2 o e⟩
  refine W.self 0 { s with heap := h' } _ _ hst ?_
  refine ⟨_, _, _, _, _, _, _, (fun i v0 v1 => vs1[i]? = some v0 ∧ vs2[i]? = some v1), m₀, news, J, rfl, W, ?_, ?_, ?_, ?_, hst, F', N', hj, ?_, ?_⟩
  · rintro i vals ⟨x, y, hx, hy, rfl⟩
    exact ⟨x, y, rfl, by simpa using hx, by simpa using hy⟩
  · intro hm
    rcases zip_foot hm with e | e | e
    · exact g1.2.1 e.symm
    · exact g2.2.1 e.symm
    · exact absurd hLs (Nat.not_lt.mpr e)
  · exact fun b hb => Heap.get?_none_of_le (Nat.le_trans hab (Nat.le_trans (Nat.le_of_lt hLs) (zip_turns hb)))
  · exact fun p hp hm => absurd (Heap.lt_size (N p hp).1) (Nat.not_lt.mpr (zip_turns hm))
  · rintro i v0 v1 m₁ news₁ s₁ own ⟨hh', tk', rfl⟩ _ ⟨e1, e2⟩ hJ hmap hsub F₁ N₁
    exact turn i v0 v1 m₁ news₁ hh' tk' own e1 e2 hJ (fun p hp => zip_foot (hsub p hp)) F₁ N₁
  · intro h'' tk m' news' F'' N'' _ hJ
    rw [List.size_toArray, List.size_toArray] at hJ
    exact done m' news' h'' tk hJ F'' N''
end
end Mine

/-! part Pure0 -/
namespace Mine

/-- a text by its signs' numbers -/
def S (l : List Nat) : Str := ⟨l.toArray⟩
theorem S_cps (l : List Nat) : (S l).cps.toList = l := by simp [S]
theorem S_self (x : Str) : S x.cps.toList = x := by simp [S]
theorem S_inj {a b : List Nat} (h : S a = S b) : a = b := by rw [← S_cps a, h, S_cps]
theorem S_app (a b : List Nat) : S a ++ S b = S (a ++ b) := by
  refine PySem.Str.ext' (Array.toList_inj.mp ?_)
  rw [PySem.Str.cps_append, Array.toList_append, S_cps, S_cps, S_cps]
theorem S_len (l : List Nat) : (S l).length = l.length := by simp [S, Str.length]

theorem and128 (x : Int) : Builtin.bitAnd x 128 = 128 * (x / 128 % 2) := by
  have key : ∀ n : Nat, n &&& 128 = 128 * (n / 128 % 2) := fun n => by
    have hb : n / 128 % 2 = 0 ∨ n / 128 % 2 = 1 := by omega
    have ht : n.testBit 7 = decide (n / 128 % 2 = 1) := by rw [Nat.testBit_eq_decide_div_mod_eq]
    refine Nat.eq_of_testBit_eq fun i => ?_
    rw [show (128 : Nat) = 2 ^ 7 from rfl, Nat.testBit_and, Nat.testBit_two_pow]
    by_cases hi : 7 = i
    · subst hi
      rw [ht]
      rcases hb with h | h <;> rw [show (2 : Nat) ^ 7 = 128 from rfl, h] <;> rfl
    · rw [decide_eq_false hi, Bool.and_false]
      rcases hb with h | h <;> rw [show (2 : Nat) ^ 7 = 128 from rfl, h]
      · simp
      · rw [Nat.mul_one, show (128 : Nat) = 2 ^ 7 from rfl, Nat.testBit_two_pow, decide_eq_false hi]
  by_cases hx : 0 ≤ x
  · rw [bitAnd_pp hx (by decide)]
    have h : x.toNat &&& (128 : Int).toNat = 128 * (x.toNat / 128 % 2) := key _
    rw [h]
    omega
  · rw [bitAnd_np hx (by decide)]
    have h : (128 : Int).toNat &&& (Builtin.bitNot x).toNat = 128 * ((Builtin.bitNot x).toNat / 128 % 2) := by
      rw [Nat.and_comm]
      exact key _
    rw [h]
    unfold Builtin.bitNot
    omega
theorem or128 (x : Int) : Builtin.bitOr x 128 = if x / 128 % 2 = 1 then x else x + 128 := by
  rw [bitOr_and, and128]
  split <;> omega
theorem and32s (k : Nat) (h : k < 128) : Builtin.bitAnd (k : Int) 32 = 32 * ((k : Int) / 32 % 2) := by
  have : ∀ k : Fin 128, Builtin.bitAnd ((k : Nat) : Int) 32 = 32 * (((k : Nat) : Int) / 32 % 2) := by decide +kernel
  exact this ⟨k, h⟩
theorem or32s (x : Int) (h0 : 0 ≤ x) (h1 : x < 128) : Builtin.bitOr x 32 = if x / 32 % 2 = 1 then x else x + 32 := by
  have := and32s x.toNat (by omega)
  rw [show ((x.toNat : Nat) : Int) = x by omega] at this
  rw [bitOr_and, this]
  split <;> omega
theorem ctl_bounds (n : Int) : 0 ≤ Builtin.bitOr (Builtin.bitAnd n 127) 32 + 32 ∧ Builtin.bitOr (Builtin.bitAnd n 127) 32 + 32 ≤ 1114111 := by
  rw [bitAnd_m7, or32s _ (by omega) (by omega)]
  split <;> omega
theorem alt_bounds (n : Nat) (h : n < 256) : 0 ≤ Builtin.bitOr (n : Int) 128 ∧ Builtin.bitOr (n : Int) 128 ≤ 1114111 := by
  rw [or128]
  split <;> omega

/-- what unctrl shows -/
def unc (n : Int) : List Nat :=
  (if n / 128 % 2 = 1 then [33] else []) ++
  (if n = 127 then [94, 63] else if 32 ≤ n % 128 ∧ n % 128 ≤ 126 then [(n % 128).toNat] else [94, if n % 128 = 127 then 159 else (n % 128).toNat + 64])
/-- alt, sign by sign -/
def altN (n : Nat) : Nat := if n / 128 % 2 = 1 then n else n + 128
theorem altN_eq (n : Nat) : (Builtin.bitOr (n : Int) 128).toNat = altN n := by
  unfold altN
  rw [or128]
  by_cases h : n / 128 % 2 = 1
  · rw [if_pos h, if_pos (by omega)]; omega
  · rw [if_neg h, if_neg (by omega)]; omega
theorem altN_lt {n : Nat} (h : n < 256) : altN n < 256 := by unfold altN; split <;> omega
def same (n : Int) : Int := (if n % 128 = 127 ∧ n ≠ 127 then 383 else n % 128) + 128 * (n / 128 % 2)
def escC (c : Nat) : List Nat := if c = 92 then [92, 92] else if c = 34 then [92, 34] else [c]
def quo (l : List Nat) : List Nat := 34 :: (l.flatMap escC ++ [34])

def rep (c : Nat) (z : List Nat) (l : List Nat) : List Nat := l.flatMap fun d => if d = c then z else [d]
theorem rep_free {c : Nat} {z l : List Nat} (h : c ∉ l) : rep c z l = l := by
  induction l with
  | nil => rfl
  | cons a r ih =>
    have h1 : ¬ a = c := fun e => h (e ▸ List.mem_cons_self ..)
    have h2 : c ∉ r := fun m => h (List.mem_cons_of_mem _ m)
    have := ih h2
    unfold rep at this ⊢
    rw [List.flatMap_cons, if_neg h1, this]
    rfl
theorem rep_append (c : Nat) (z a b : List Nat) : rep c z (a ++ b) = rep c z a ++ rep c z b := by
  unfold rep; rw [List.flatMap_append]
theorem rep_join (c : Nat) (z : List Nat) : ∀ parts : List Str, (∀ p ∈ parts, c ∉ p.cps.toList) → rep c z (Str.join ⟨#[c]⟩ parts).cps.toList = (Str.join (S z) parts).cps.toList
  | [], _ => rfl
  | [p], h => rep_free (h p (List.mem_singleton.mpr rfl))
  | p :: q :: r, h => by
    have ih := rep_join c z (q :: r) fun a ha => h a (List.mem_cons_of_mem _ ha)
    show rep c z (p ++ ⟨#[c]⟩ ++ Str.join ⟨#[c]⟩ (q :: r)).cps.toList = (p ++ S z ++ Str.join (S z) (q :: r)).cps.toList
    simp only [Str.cps_append, Array.toList_append]
    rw [rep_append, rep_append, ih, rep_free (h p (List.mem_cons_self ..)), S_cps]
    show p.cps.toList ++ rep c z [c] ++ _ = _
    have : rep c z [c] = z := by simp [rep]
    rw [this]
theorem replace_rep (x : Str) (c : Nat) (z : List Nat) : Txt.replace x ⟨#[c]⟩ (S z) = S (rep c z x.cps.toList) := by
  rw [StrLaws.replace_one, ← S_self (Str.join (S z) _), ← rep_join c z _ (StrLaws.split_free x c), StrLaws.join_split]
theorem esc_rep (l : List Nat) : rep 34 [92, 34] (rep 92 [92, 92] l) = l.flatMap escC := by
  induction l with
  | nil => rfl
  | cons a r ih =>
    have e1 : rep 92 [92, 92] (a :: r) = (if a = 92 then [92, 92] else [a]) ++ rep 92 [92, 92] r := by simp [rep]
    rw [e1, rep_append, ih, List.flatMap_cons]
    congr 1
    unfold escC
    by_cases h : a = 92
    · subst h; rfl
    · rw [if_neg h, if_neg h]
      simp [rep]
theorem rep_length (c : Nat) (z l : List Nat) (hz : 1 ≤ z.length) : (rep c z l).length ≤ z.length * l.length := by
  induction l with
  | nil => simp [rep]
  | cons a r ih =>
    have e1 : rep c z (a :: r) = (if a = c then z else [a]) ++ rep c z r := by simp [rep]
    rw [e1, List.length_append, List.length_cons, Nat.mul_add]
    have : (if a = c then z else [a]).length ≤ z.length := by split <;> simp <;> omega
    omega
end Mine

/-! part Slc -/
namespace Mine
theorem S_mk (l : List Nat) : (⟨l.toArray⟩ : Str) = S l := rfl
theorem sl_tail (l : List Nat) : Txt.slice (S l) (some 1) none = S l.tail := by
  by_cases h : 1 ≤ l.length
  · rw [slice_from_eq (b := (l.length : Int)) (by decide) (by rw [S_len]; omega) (by rw [S_len]), S_cps, S_mk]
    congr 1
    rw [show (1 : Int).toNat = 1 from rfl, List.take_of_length_le (by rw [List.length_drop]; omega), List.drop_one]
  · have : l = [] := by cases l with
      | nil => rfl
      | cons a r => exact absurd (Nat.succ_le_succ (Nat.zero_le _)) h
    subst this
    rw [slice_beyond (by decide)]
    rfl
theorem sl_head (l : List Nat) : Txt.slice (S l) none (some 1) = S (l.take 1) := by
  by_cases h : 1 ≤ l.length
  · have := beq_iff_eq.mp (slice_closes_toL (x := S l) (j := 1) (by decide) (by rw [S_len]; omega))
    rw [this, S_cps, S_mk]
    rfl
  · have : l = [] := by cases l with
      | nil => rfl
      | cons a r => exact absurd (Nat.succ_le_succ (Nat.zero_le _)) h
    subst this
    decide +kernel
theorem idx_mid {n : Nat} (h : 1 ≤ n) : Builtin.Str.strSliceIndices (some 1) (some (-1)) 1 n = Builtin.Str.strSliceIndices (some 1) (some ((n : Int) - 1)) 1 n := by
  have h1 : ¬ ((n : Int) - 1 < 0) := by omega
  have h2 : (-1 : Int) + n = n - 1 := by omega
  simp only [Builtin.Str.strSliceIndices, h1, h2, if_false, show (-1 : Int) < 0 from by decide, if_true]
theorem sl_mid (l : List Nat) : Txt.slice (S l) (some 1) (some (-1)) = S (l.tail.dropLast) := by
  match l with
  | [] => decide +kernel
  | [a] =>
    have e : Builtin.Str.strSliceIndices (some 1) (some (-1)) 1 (S [a]).length = [] := by rw [S_len]; show Builtin.Str.strSliceIndices (some 1) (some (-1)) 1 1 = []; decide +kernel
    unfold Txt.slice
    rw [e, S_len]
    rfl
  | a :: b :: r =>
    have e : Txt.slice (S (a :: b :: r)) (some 1) (some (-1)) = Txt.slice (S (a :: b :: r)) (some 1) (some (((a :: b :: r).length : Int) - 1)) := by
      unfold Txt.slice
      rw [S_len, idx_mid (by simp)]
    rw [e]
    have := beq_iff_eq.mp (slice_closesL (x := S (a :: b :: r)) (i := 1) (j := ((a :: b :: r).length : Int) - 1) (by decide) (by simp only [List.length_cons]; omega) (by rw [S_len]; omega))
    rw [this, S_cps, S_mk]
    congr 1
    rw [show (1 : Int).toNat = 1 from rfl, List.drop_one, List.tail_cons, List.dropLast_eq_take]
    congr 1
    simp only [List.length_cons]; omega
theorem it_at (l : List Nat) (i : Nat) (h : i < l.length) : Txt.item (S l) (i : Int) = S [l.getD i 0] := by
  unfold Txt.item Txt.charAt
  have hi : seqIndex? (i : Int) (S l).length = some i := by
    rw [S_len]
    unfold seqIndex?
    simp
    omega
  rw [hi]
  have : (S l).cps[i]? = some (l.getD i 0) := by
    rw [← Array.getElem?_toList, S_cps, List.getD_eq_getElem?_getD, List.getElem?_eq_getElem h]; rfl
  show Str.mk #[(((S l).cps[i]?).getD 0)] = _
  rw [this]; rfl
end Mine

/-! part Vals -/
namespace Mine
local macro_rules | `(tactic| walk_at "call ref") => `(tactic| (k_here; (with_reducible show wpAny _ _ (call (Value.ref _) _) _ _ _); refine wpAny_call ?_; k_dflt (refine' code_def ?k1 ?k2 ?k3 ?k4 ?k5 ?kA ?kF ?kK ?k6 ?k7 ?k8 ?k9 ?kB ?_ ?c2 ?c3 ?c4 ?c5; (case kA => exact rfl); (case kF => exact rfl); (case kK => first | exact rfl | assumption); (case k1 => k_asm); (case k2 => k_asm); (case k3 => k_asm); (case k4 => k_asm); (case k5 => k_asm); (case k6 => k_is); (case k7 => k_is); (case k8 => ktr_room); (case k9 => exact BindsTo.of_eq rfl); (case c5 => decide); (case kB => exact locs rfl); (case c2 => exact rfl); (case c3 => exact rfl); (case c4 => exact rfl); k_whole; intro g' L' h' FG' F' N' B' X' T'; (try dsimp only); (try k_lift B'); (try k_fold))))
local macro_rules | `(tactic| walk_at "call builtin:chr") => `(tactic| first
  | refine chr_of_range (ctl_bounds _).1 (ctl_bounds _).2 ?_
  | refine chr_of_range (alt_bounds _ (by assumption)).1 (alt_bounds _ (by assumption)).2 ?_)

theorem o_bang : Str.ofString "!" = S [33] := by decide +kernel
theorem o_hat : Str.ofString "^" = S [94] := by decide +kernel
theorem o_hatq : Str.ofString "^?" = S [94, 63] := by decide +kernel
theorem unc_eq (n : Int) : S (unc n) =
    if Builtin.bitAnd n 128 ≠ 0 then Str.ofString "!" ++ (if n = 127 then Str.ofString "^?" else if 32 ≤ Builtin.bitAnd n 127 ∧ Builtin.bitAnd n 127 ≤ 126 then ⟨#[(Builtin.bitAnd n 127).toNat]⟩ else Str.ofString "^" ++ ⟨#[(Builtin.bitOr (Builtin.bitAnd n 127) 32 + 32).toNat]⟩)
    else (if n = 127 then Str.ofString "^?" else if 32 ≤ Builtin.bitAnd n 127 ∧ Builtin.bitAnd n 127 ≤ 126 then ⟨#[(Builtin.bitAnd n 127).toNat]⟩ else Str.ofString "^" ++ ⟨#[(Builtin.bitOr (Builtin.bitAnd n 127) 32 + 32).toNat]⟩) := by
  have e : ∀ k : Nat, (⟨#[k]⟩ : Str) = S [k] := fun _ => rfl
  rw [o_bang, o_hat, o_hatq, e, e, S_app, and128, bitAnd_m7, or32s _ (by omega) (by omega)]
  have e1 : (if n = 127 then S [94, 63] else if 32 ≤ n % 128 ∧ n % 128 ≤ 126 then S [(n % 128).toNat] else S ([94] ++ [((if n % 128 / 32 % 2 = 1 then n % 128 else n % 128 + 32) + 32).toNat])) =
      S (if n = 127 then [94, 63] else if 32 ≤ n % 128 ∧ n % 128 ≤ 126 then [(n % 128).toNat] else [94, if n % 128 = 127 then 159 else (n % 128).toNat + 64]) := by
    split
    · rfl
    · split
      · rfl
      · have : ((if n % 128 / 32 % 2 = 1 then n % 128 else n % 128 + 32) + 32).toNat = if n % 128 = 127 then 159 else (n % 128).toNat + 64 := by
          split <;> split <;> omega
        rw [this]; rfl
  rw [e1, S_app]
  unfold unc
  generalize (if n = 127 then [94, 63] else if 32 ≤ n % 128 ∧ n % 128 ≤ 126 then [(n % 128).toNat] else [94, if n % 128 = 127 then 159 else (n % 128).toNat + 64]) = r
  by_cases h : n / 128 % 2 = 1
  · rw [if_pos h, if_pos (by omega)]
  · rw [if_neg h, if_neg (by omega)]; rfl
section
variable {n : Int}
theorem u1 (h : n = 127) (b : Builtin.bitAnd n 128 ≠ 0) : Str.ofString "!" ++ Str.ofString "^?" = S (unc n) := by rw [unc_eq, if_pos b, if_pos h]
theorem u2 (h : n = 127) (b : Builtin.bitAnd n 128 = 0) : Str.ofString "^?" = S (unc n) := by rw [unc_eq, if_neg (fun x => x b), if_pos h]
theorem u3 (h : n ≠ 127) (b : Builtin.bitAnd n 128 ≠ 0) (c : 32 ≤ Builtin.bitAnd n 127) (d : Builtin.bitAnd n 127 ≤ 126) : Str.ofString "!" ++ ⟨#[(Builtin.bitAnd n 127).toNat]⟩ = S (unc n) := by rw [unc_eq, if_pos b, if_neg h, if_pos ⟨c, d⟩]
theorem u4 (h : n ≠ 127) (b : Builtin.bitAnd n 128 = 0) (c : 32 ≤ Builtin.bitAnd n 127) (d : Builtin.bitAnd n 127 ≤ 126) : ⟨#[(Builtin.bitAnd n 127).toNat]⟩ = S (unc n) := by rw [unc_eq, if_neg (fun x => x b), if_neg h, if_pos ⟨c, d⟩]
theorem u5 (h : n ≠ 127) (b : Builtin.bitAnd n 128 ≠ 0) (c : ¬ (32 ≤ Builtin.bitAnd n 127 ∧ Builtin.bitAnd n 127 ≤ 126)) : Str.ofString "!" ++ (Str.ofString "^" ++ ⟨#[(Builtin.bitOr (Builtin.bitAnd n 127) 32 + 32).toNat]⟩) = S (unc n) := by rw [unc_eq, if_pos b, if_neg h, if_neg c]
theorem u6 (h : n ≠ 127) (b : Builtin.bitAnd n 128 = 0) (c : ¬ (32 ≤ Builtin.bitAnd n 127 ∧ Builtin.bitAnd n 127 ≤ 126)) : Str.ofString "^" ++ ⟨#[(Builtin.bitOr (Builtin.bitAnd n 127) 32 + 32).toNat]⟩ = S (unc n) := by rw [unc_eq, if_neg (fun x => x b), if_neg h, if_neg c]
end

theorem str_eq {P : Str → Prop} {x y : Str} (e : x = y) (h : P y) : P x := e ▸ h

theorem t_alt {w : World} {mean : ExcName → Option Value} {mg mb : Str → Option Value} (n : Nat) (t : Tok) (hn : n < 256) :
   TellV w mean mg mb 49 2 [.str ⟨#[n]⟩ t] (fun v => ∃ t', v = .str ⟨#[altN n]⟩ t') := by
  unfold TellV
  w_top off
  k_fill
  intro dp un gd cn cs a ccd cl outer A₀ base h₀ L m news s Q E B F X N T hk hd hu hret
  refine wpAny_call ?_
  k_dflt cell_enter
  k_steps
  rw [altN_eq]
  exact hret _ _ _ (by k_asm) (by k_asm) ⟨_, rfl⟩
theorem t_altI {w : World} {mean : ExcName → Option Value} {mg mb : Str → Option Value} (n : Int) (t : Tok)  :
   TellV w mean mg mb 49 2 [.int n t] (fun v => ∃ t', v = .int (Builtin.bitOr n 128) t') := by
  unfold TellV
  w_top off
  k_fill
  intro dp un gd cn cs a ccd cl outer A₀ base h₀ L m news s Q E B F X N T hk hd hu hret
  refine wpAny_call ?_
  k_dflt cell_enter
  k_steps
  exact hret _ _ _ (by k_asm) (by k_asm) ⟨_, rfl⟩
theorem t_meta {w : World} {mean : ExcName → Option Value} {mg mb : Str → Option Value} (n : Nat) (t : Tok)  :
   TellV w mean mg mb 35 2 [.str ⟨#[n]⟩ t] (fun v => v = .bool (decide (127 < n))) := by
  unfold TellV
  w_top off
  k_fill
  intro dp un gd cn cs a ccd cl outer A₀ base h₀ L m news s Q E B F X N T hk hd hu hret
  refine wpAny_call ?_
  k_dflt cell_enter
  k_steps
  refine hret _ _ _ (by k_asm) (by k_asm) (congrArg Value.bool ?_)
  rw [Bool.eq_iff_iff]; simp only [decide_eq_true_eq]; omega
theorem t_same {w : World} {mean : ExcName → Option Value} {mg mb : Str → Option Value} (x : Int) (t : Tok)  :
   TellV w mean mg mb 106 1 [.int x t] (fun v => ∃ t', v = .int (same x) t') := by
  unfold TellV
  w_top off
  k_fill
  intro dp un gd cn cs a ccd cl outer A₀ base h₀ L m news s Q E B F X N T hk hd hu hret
  refine wpAny_call ?_
  k_dflt cell_enter
  k_steps
  all_goals (refine hret _ _ _ (by k_asm) (by k_asm) ⟨_, congrArg (fun z => Value.int z _) ?_⟩; unfold same; (simp only [Int.fmod_eq_emod_of_nonneg _ (show (0:Int) ≤ 128 by decide), Int.fmod_eq_emod_of_nonneg _ (show (0:Int) ≤ 2 by decide), Int.fdiv_eq_ediv_of_nonneg _ (show (0:Int) ≤ 128 by decide)] at *); split <;> simp_all)
theorem t_unctrl {w : World} {mean : ExcName → Option Value} {mg mb : Str → Option Value} (n : Int) (t : Tok) :
   TellV w mean mg mb 56 3 [.int n t] (fun v => ∃ t', v = .str (S (unc n)) t') := by
  unfold TellV
  w_top off
  k_fill
  intro dp un gd cn cs a ccd cl outer A₀ base h₀ L m news s Q E B F X N T hk hd hu hret
  refine wpAny_call ?_
  k_dflt cell_enter
  k_steps
  all_goals (refine hret _ _ _ (by k_asm) (by k_asm) ⟨_, congrArg (fun z => Value.str z _) ?_⟩; first
    | exact u1 (by assumption) (by assumption)
    | exact u2 (by assumption) (by assumption)
    | exact u3 (by assumption) (by assumption) (by assumption) (by assumption)
    | exact u4 (by assumption) (by assumption) (by assumption) (by assumption)
    | exact u5 (by assumption) (by assumption) (fun x => absurd x.1 (by assumption))
    | exact u6 (by assumption) (by assumption) (fun x => absurd x.1 (by assumption))
    | exact u5 (by assumption) (by assumption) (fun x => absurd x.2 (by assumption))
    | exact u6 (by assumption) (by assumption) (fun x => absurd x.2 (by assumption)))
theorem o_bs : Str.ofString "\\" = ⟨#[92]⟩ := by decide +kernel
theorem o_bs2 : Str.ofString "\\\\" = S [92, 92] := by decide +kernel
theorem o_dq : Str.ofString "\"" = ⟨#[34]⟩ := by decide +kernel
theorem o_bdq : Str.ofString "\\\"" = S [92, 34] := by decide +kernel
theorem esc_1 (x : Str) : Txt.replace x (Str.ofString "\\") (Str.ofString "\\\\") = S (rep 92 [92, 92] x.cps.toList) := by rw [o_bs, o_bs2, replace_rep]
theorem esc_2 (x : Str) : Txt.replace (Txt.replace x (Str.ofString "\\") (Str.ofString "\\\\")) (Str.ofString "\"") (Str.ofString "\\\"") = S (x.cps.toList.flatMap escC) := by
  rw [esc_1, o_dq, o_bdq, replace_rep, S_cps, esc_rep]
theorem esc_1len (x : Str) : (Txt.replace x (Str.ofString "\\") (Str.ofString "\\\\")).length ≤ 2 * x.length := by
  rw [esc_1, S_len]; exact Nat.le_trans (rep_length 92 [92, 92] _ (by decide)) (by simp [Str.length])
theorem esc_2len (x : Str) : (Txt.replace (Txt.replace x (Str.ofString "\\") (Str.ofString "\\\\")) (Str.ofString "\"") (Str.ofString "\\\"")).length ≤ 4 * x.length := by
  rw [o_dq, o_bdq, replace_rep, S_len]
  refine Nat.le_trans (rep_length 34 [92, 34] _ (by decide)) ?_
  have := esc_1len x
  simp only [Str.length, Array.length_toList, List.length_cons, List.length_nil] at this ⊢
  omega
theorem replace_tk {prog : Program} {w : World} {A : Around} {E : Value → Shared → Prop} {s : Shared} {x y z : Str} {t u v : Tok} {Q : Value → Shared → Prop}
    (hu : u ≠ 0) (hv : v ≠ 0) (huv : u ≠ v) (hyz : (y == z) = false) (hx : x.length ≤ 1048576) (hz : z.length ≤ 14)
    (hq : ∀ t' k, s.toks ≤ k → Q (.str (Txt.replace x y z) t') { s with toks := k }) : wpAny (model prog w) A (call (.builtin "str.replace") [.str x t, .str y u, .str z v]) Q E s :=
  wpAny_with_toks (Nat.le_refl _) (wpAny_mono (SC.replaceW (Q := fun r s' => s.toks ≤ s'.toks → Q r s') (E := fun e s' => s.toks ≤ s'.toks → E e s') hu hv huv hyz hx hz fun t' k h => hq t' k h) (fun _ _ h => h) fun _ _ h => h)
local macro_rules | `(tactic| walk_at "call builtin:str.replace") => `(tactic| ((with_reducible show wpAny _ _ (call (Value.builtin "str.replace") [Value.str _ _, Value.str _ _, Value.str _ _]) _ _ _); refine replace_tk (by refine neN ?_; omega) (by refine neN ?_; omega) (by refine neN ?_; omega) (by decide +kernel) (by first | omega | exact Nat.le_trans (esc_1len _) (by omega)) (by decide +kernel) ?_; intro _ _ hTk9; (try dsimp only at hTk9)))
theorem quo_eq (x : Str) : Str.ofString "\"" ++ Txt.replace (Txt.replace x (Str.ofString "\\") (Str.ofString "\\\\")) (Str.ofString "\"") (Str.ofString "\\\"") ++ Str.ofString "\"" = S (quo x.cps.toList) := by
  rw [esc_2, o_dq, show (⟨#[34]⟩ : Str) = S [34] from rfl, S_app, S_app]; rfl
theorem t_quoted {w : World} {mean : ExcName → Option Value} {mg mb : Str → Option Value} (x : Str) (t : Tok) (hx : x.length ≤ 100000) :
   TellV w mean mg mb 82 1 [.str x t] (fun v => ∃ t', v = .str (S (quo x.cps.toList)) t') := by
  unfold TellV
  w_top off
  k_fill
  intro dp un gd cn cs a ccd cl outer A₀ base h₀ L m news s Q E B F X N T hk hd hu hret
  have hl1 := esc_1len x
  have hl2 := esc_2len x
  refine wpAny_call ?_
  k_dflt cell_enter
  k_steps
  exact hret _ _ _ (by k_asm) (by k_asm) ⟨_, congrArg (fun z => Value.str z _) (quo_eq x)⟩
theorem t_code {w : World} {mean : ExcName → Option Value} {mg mb : Str → Option Value} (x : Int) (t : Tok) :
   TellV w mean mg mb 68 1 [.int x t] (fun v => ∃ c t', v = .int c t') := by
  unfold TellV
  w_top off
  k_fill
  intro dp un gd cn cs a ccd cl outer A₀ base h₀ L m news s Q E B F X N T hk hd hu hret
  refine wpAny_call ?_
  k_dflt cell_enter
  k_steps
  exact hret _ _ _ (by k_asm) (cb_drop (by assumption) fun p hp => List.mem_cons_of_mem _ (List.mem_cons_of_mem _ hp)) ⟨_, _, rfl⟩
end Mine

/-! part Num -/
namespace Mine
local macro_rules | `(tactic| walk_at "call ref") => `(tactic| (k_here; (with_reducible show wpAny _ _ (call (Value.ref _) _) _ _ _); (fail_if_success (with_reducible show wpAny _ _ (call (Value.ref 94) _) _ _ _)); refine wpAny_call ?_; k_dflt (refine' code_def ?k1 ?k2 ?k3 ?k4 ?k5 ?kA ?kF ?kK ?k6 ?k7 ?k8 ?k9 ?kB ?_ ?c2 ?c3 ?c4 ?c5; (case kA => exact rfl); (case kF => exact rfl); (case kK => first | exact rfl | assumption); (case k1 => k_asm); (case k2 => k_asm); (case k3 => k_asm); (case k4 => k_asm); (case k5 => k_asm); (case k6 => k_is); (case k7 => k_is); (case k8 => ktr_room); (case k9 => exact BindsTo.of_eq rfl); (case c5 => decide); (case kB => exact locs rfl); (case c2 => exact rfl); (case c3 => exact rfl); (case c4 => exact rfl); k_whole; intro g' L' h' FG' F' N' B' X' T'; (try dsimp only); (try k_lift B'); (try k_fold))))
local macro_rules | `(tactic| walk_at "call builtin:chr") => `(tactic| first
  | refine chr_of_range (ctl_bounds _).1 (ctl_bounds _).2 ?_
  | refine chr_of_range (alt_bounds _ (by assumption)).1 (alt_bounds _ (by assumption)).2 ?_)

/-- what _law_number reads out of a word -/
def ctlN (d : Nat) : Int := if d % 128 = 63 then 127 else if d % 128 = 31 then 383 else ((d % 32 : Nat) : Int)
def num : List Nat → Int
  | [] => -1
  | [c] => c
  | a :: b :: r => if a = 33 then Builtin.bitOr (num (b :: r)) 128 else if r = [] ∧ a = 94 then ctlN b else -1
theorem getD_S (l : List Nat) : (S l).cps.getD 0 0 = l.getD 0 0 := by
  rw [arr_getD_list, S_cps]
theorem n_one {l : List Nat} (h : ((S l).length : Int) = 1) : (((S l).cps.getD 0 0 : Nat) : Int) = num l := by
  rw [S_len] at h
  match l with
  | [c] => rw [getD_S]; rfl
  | [] => simp at h
  | _ :: _ :: _ => simp at h; omega
theorem n_bang {l : List Nat} (h : ((S l).length : Int) ≠ 1) (hb : (Txt.slice (S l) none (some 1) == Str.ofString "!") = true) : Builtin.bitOr (num l.tail) 128 = num l := by
  rw [S_len] at h
  rw [sl_head, o_bang] at hb
  have hb := S_inj (beq_iff_eq.mp hb)
  match l with
  | [] => simp at hb
  | [c] => simp at h
  | a :: b :: r =>
    have : a = 33 := by simpa using hb
    subst this
    rfl
theorem n_bang_ne {l : List Nat} (hb : (Txt.slice (S l) none (some 1) == Str.ofString "!") = false) : l.take 1 ≠ [33] := by
  rw [sl_head, o_bang] at hb
  intro e
  rw [e] at hb
  exact absurd hb (by simp)
theorem n_m1 {l : List Nat} (h : ((S l).length : Int) ≠ 1) (hb : (Txt.slice (S l) none (some 1) == Str.ofString "!") = false) (h2 : ((S l).length : Int) ≠ 2) : -1 = num l := by
  have hb := n_bang_ne hb
  rw [S_len] at h h2
  match l with
  | [] => rfl
  | [c] => simp at h
  | a :: b :: r =>
    have h33 : ¬ a = 33 := fun e => hb (by simp [e])
    have hr : ¬ (r = [] ∧ a = 94) := fun e => h2 (by simp [e.1])
    show -1 = if a = 33 then _ else if r = [] ∧ a = 94 then _ else _
    rw [if_neg h33, if_neg hr]
theorem n_m2 {l : List Nat} (hb : (Txt.slice (S l) none (some 1) == Str.ofString "!") = false) (h2 : ((S l).length : Int) = 2) (h3 : (Txt.item (S l) 0 != Str.ofString "^") = true) : -1 = num l := by
  have hb := n_bang_ne hb
  rw [S_len] at h2
  match l with
  | [] => rfl
  | [c] => simp at h2
  | a :: b :: r =>
    have h33 : ¬ a = 33 := fun e => hb (by simp [e])
    have := it_at (a :: b :: r) 0 (by simp)
    rw [show ((0 : Nat) : Int) = 0 from rfl] at this
    rw [this, o_hat] at h3
    have hr : ¬ (r = [] ∧ a = 94) := fun e => by rw [e.2] at h3; simp at h3
    show -1 = if a = 33 then _ else if r = [] ∧ a = 94 then _ else _
    rw [if_neg h33, if_neg hr]
theorem n_ctl {l : List Nat} (hb : (Txt.slice (S l) none (some 1) == Str.ofString "!") = false) (h2 : ((S l).length : Int) = 2) (h3 : (Txt.item (S l) 0 != Str.ofString "^") = false) :
    ctlN ((Txt.item (S l) 1).cps.getD 0 0) = num l := by
  have hb := n_bang_ne hb
  rw [S_len] at h2
  match l with
  | [] => simp at h2
  | [c] => simp at h2
  | a :: b :: r =>
    have h33 : ¬ a = 33 := fun e => hb (by simp [e])
    have := it_at (a :: b :: r) 0 (by simp)
    rw [show ((0 : Nat) : Int) = 0 from rfl] at this
    rw [this, o_hat] at h3
    have ha : a = 94 := by
      have := S_inj (by simpa using h3)
      simpa using this
    have hr : r = [] := by
      cases r with
      | nil => rfl
      | cons _ _ => simp at h2; omega
    have i1 := it_at (a :: b :: r) 1 (by simp)
    rw [show ((1 : Nat) : Int) = 1 from rfl] at i1
    rw [i1, getD_S]
    show ctlN b = if a = 33 then _ else if r = [] ∧ a = 94 then _ else _
    rw [if_neg h33, if_pos ⟨hr, ha⟩]
theorem c_1 {d : Nat} (h : (d : Int).fmod 128 = 63) : 127 = ctlN d := by
  rw [Int.fmod_eq_emod_of_nonneg _ (by decide)] at h
  unfold ctlN; rw [if_pos (by omega)]
theorem c_2 {d : Nat} (h : (d : Int).fmod 128 ≠ 63) (h2 : (d : Int).fmod 128 = 31) : 383 = ctlN d := by
  rw [Int.fmod_eq_emod_of_nonneg _ (by decide)] at h h2
  unfold ctlN; rw [if_neg (by omega), if_pos (by omega)]
theorem c_3 {d : Nat} (h : (d : Int).fmod 128 ≠ 63) (h2 : (d : Int).fmod 128 ≠ 31) : Builtin.bitAnd ((d : Int).fmod 128) 31 = ctlN d := by
  rw [Int.fmod_eq_emod_of_nonneg _ (by decide)] at h h2 ⊢
  rw [bitAnd_m5]
  unfold ctlN; rw [if_neg (by omega), if_neg (by omega)]
  omega
theorem t_num {w : World} {mean : ExcName → Option Value} {mg mb : Str → Option Value} (l : List Nat) : l.length ≤ 20 → ∀ (t : Tok),
   TellV w mean mg mb 94 (3 + l.length) [.str (S l) t] (fun v => ∃ t', v = .int (num l) t') := by
  induction l with
  | nil =>
    intro hx t
    unfold TellV
    w_top off
    k_fill
    intro dp un gd cn cs a ccd cl outer A₀ base h₀ L m news s Q E B F X N T hk hd hu hret
    have hL := S_len []
    rw [List.length_nil] at hd hu hx hL
    refine wpAny_call ?_
    k_dflt cell_enter
    k_steps
    exact hret _ _ _ (by k_asm) (by k_asm) ⟨_, rfl⟩
  | cons e r ih =>
    intro hx t
    unfold TellV
    w_top off
    k_fill
    intro dp un gd cn cs a ccd cl outer A₀ base h₀ L m news s Q E B F X N T hk hd hu hret
    have hL := S_len (e :: r)
    rw [List.length_cons] at hd hu hx hL
    refine wpAny_call ?_
    k_dflt cell_enter
    k_steps
    all_goals (try (rw [sl_tail, List.tail_cons]; k_dflt (refine' TellV.use (ih (by omega) _) ?k1 ?k2 ?k3 ?k4 ?k5 ?kK ?kd ?ku ?_; (case k1 => k_asm); (case k2 => k_asm); (case k3 => k_asm); (case k4 => k_asm); (case k5 => k_asm); (case kK => exact rfl); (case kd => ktr_room); (case ku => ktr_units)); intro r9 h9 tk9 F9 N9 ho9; obtain ⟨t9, e9⟩ := ho9; subst e9; (try dsimp only); k_steps))
    all_goals (refine hret _ _ _ (by k_asm) (by k_asm) ⟨_, congrArg (fun z => Value.int z _) ?_⟩)
    all_goals first
      | exact n_one (by assumption)
      | exact n_bang (by assumption) (by assumption)
      | exact n_m1 (by assumption) (by assumption) (by assumption)
      | exact n_m2 (by assumption) (by assumption) (by assumption)
      | exact (c_1 (by assumption)).trans (n_ctl (by assumption) (by assumption) (by assumption))
      | exact (c_2 (by assumption) (by assumption)).trans (n_ctl (by assumption) (by assumption) (by assumption))
      | exact (c_3 (by assumption) (by assumption)).trans (n_ctl (by assumption) (by assumption) (by assumption))
end Mine

/-! part Parse -/
namespace Mine
def Stop (P : Prop) : Prop := P
theorem stop_here {P : Prop} (h : Stop P) : P := h
theorem Stop.go {P : Prop} (h : P) : Stop P := h
local macro_rules | `(tactic| walk_at "exec For Name Name cons nil") => `(tactic| (k_here; refine stop_here ?_))
local macro_rules | `(tactic| walk_at "eval ListComp") => `(tactic| (k_here; refine stop_here ?_))
local macro_rules | `(tactic| k_all) => `(tactic| assumption)

theorem fr_show {h₀ h : Heap} {L : Addr} {m : Str → Option Value} (F : Fr h₀ L h m) (x : Str) {v : Value} (e : m x = some v) : Fr h₀ L h (fun y => if y = x then some v else m y) := by
  have : (fun y => if y = x then some v else m y) = m := by
    funext y
    split
    · rename_i hy; rw [hy, e]
    · rfl
  rw [this]; exact F

/-- parse_http_list, sign by sign -/
structure PS where
  res : List (List Nat)
  part : List Nat
  esc : Bool
  quo : Bool
def pstep (s : PS) (c : Nat) : PS :=
  if s.esc then { s with part := s.part ++ [c], esc := false }
  else if s.quo then
    if c = 92 then { s with esc := true }
    else if c = 34 then { s with part := s.part ++ [c], quo := false }
    else { s with part := s.part ++ [c] }
  else if c = 44 then { s with res := s.res ++ [s.part], part := [] }
  else if c = 34 then { s with part := s.part ++ [c], quo := true }
  else { s with part := s.part ++ [c] }
def pend (s : PS) : List (List Nat) := if s.part = [] then s.res else s.res ++ [s.part]
def strip (l : List Nat) : List Nat := (Txt.strip (S l)).cps.toList
def parse (l : List Nat) : List (List Nat) := (pend (l.foldl pstep ⟨[], [], false, false⟩)).map strip

theorem o_empty : Str.ofString "" = S [] := by decide +kernel
def PS.size (s : PS) : Nat := (s.res.map List.length).sum + s.res.length + s.part.length
theorem pstep_size (s : PS) (c : Nat) : (pstep s c).size ≤ s.size + 1 := by
  unfold pstep PS.size
  (repeat' split) <;> simp <;> omega
theorem pfold_size (l : List Nat) : ∀ s : PS, (l.foldl pstep s).size ≤ s.size + l.length := by
  induction l with
  | nil => intro s; simp
  | cons c r ih =>
    intro s
    have h1 := ih (pstep s c)
    have h2 := pstep_size s c
    rw [List.foldl_cons, List.length_cons]
    omega
theorem mem_sum {a : List Nat} : ∀ {l : List (List Nat)}, a ∈ l → a.length ≤ (l.map List.length).sum
  | _ :: _, .head _ => by simp
  | _ :: r, .tail _ h => by have := mem_sum h; simp only [List.map_cons, List.sum_cons]; omega
theorem pend_size {s : PS} {a : List Nat} (h : a ∈ pend s) : a.length ≤ s.size := by
  unfold PS.size
  unfold pend at h
  split at h
  · have := mem_sum h; omega
  · rcases List.mem_append.mp h with h | h
    · have := mem_sum h; omega
    · rw [List.mem_singleton.mp h]; omega
theorem S_at {l : List (List Nat)} {i : Nat} {p : Str} (h : (l.map S)[i]? = some p) : ∃ a, l[i]? = some a ∧ p = S a := by
  rw [List.getElem?_map] at h
  cases e : l[i]? with
  | none => rw [e] at h; cases h
  | some a => rw [e] at h; exact ⟨a, rfl, (Option.some.inj h).symm⟩
theorem strip_snoc {l : List (List Nat)} {i : Nat} {a : List Nat} {ys : List Value} {t : Tok} (h : StrsAre ys (((l.take i).map strip).map S)) (e : l[i]? = some a) :
    StrsAre (ys ++ [.str (Txt.strip (S a)) t]) (((l.take (i + 1)).map strip).map S) := by
  rw [List.take_add_one, e, Option.toList_some, List.map_append, List.map_append]
  refine h.append' ?_
  have : S (strip a) = Txt.strip (S a) := S_self _
  show StrsAre _ [S (strip a)]
  rw [this]
  exact .cons _ _ .nil
def p0 : PS := ⟨[], [], false, false⟩
theorem p_next {l : List Nat} {i c : Nat} (h : l[i]? = some c) : (l.take (i + 1)).foldl pstep p0 = pstep ((l.take i).foldl pstep p0) c := by
  rw [List.take_add_one, h, Option.toList_some, List.foldl_append]; rfl
def PJ (x : Str) (r : Addr) (news : List (Addr × Obj)) (i : Nat) (m : Str → Option Value) (nx : List (Addr × Obj)) : Prop :=
  ∃ its n res part esc quo tp, nx = (r, W.listOf its n) :: news ∧ (x.cps.toList.take i).foldl pstep p0 = ⟨res, part, esc, quo⟩ ∧ StrsAre its.toList (res.map S) ∧
    m (Str.ofString "res") = some (.ref r) ∧ m (Str.ofString "part") = some (.str (S part) tp) ∧ m (Str.ofString "escape") = some (.bool esc) ∧ m (Str.ofString "quote") = some (.bool quo)

theorem PJ.mk {x : Str} {r : Addr} {news : List (Addr × Obj)} {i c : Nat} {m' : Str → Option Value} {its : Array Value} {n : Nat} {res res' : List (List Nat)} {part part' : List Nat} {esc esc' quo quo' : Bool} {y : Str} {tp : Tok}
    (hc : x.cps[i]? = some c) (hst : (x.cps.toList.take i).foldl pstep p0 = ⟨res, part, esc, quo⟩) (hp : pstep ⟨res, part, esc, quo⟩ c = ⟨res', part', esc', quo'⟩) 
    (e1 : m' (Str.ofString "res") = some (.ref r)) (e2 : m' (Str.ofString "part") = some (.str y tp)) (e3 : m' (Str.ofString "escape") = some (.bool esc')) (e4 : m' (Str.ofString "quote") = some (.bool quo'))
    (hits : StrsAre its.toList (res'.map S)) (hy : y = S part') :
    PJ x r news (i + 1) m' ((r, W.listOf its n) :: news) :=
  ⟨its, n, res', part', esc', quo', tp, rfl, (p_next (by rw [Array.getElem?_toList]; exact hc)).trans (by rw [hst, hp]), hits, e1, hy ▸ e2, e3, e4⟩
section
variable {res : List (List Nat)} {part : List Nat} {esc quo : Bool} {c : Nat}
theorem q_bs (c : Nat) : ((⟨#[c]⟩ : Str) == Str.ofString "\\") = decide (c = 92) := by
  rw [show Str.ofString "\\" = S [92] from by decide +kernel, show (⟨#[c]⟩ : Str) = S [c] from rfl, Bool.eq_iff_iff, beq_iff_eq, decide_eq_true_eq]
  exact ⟨fun h => by have := S_inj h; simpa using this, fun h => by rw [h]⟩
theorem q_dq (c : Nat) : ((⟨#[c]⟩ : Str) == Str.ofString "\"") = decide (c = 34) := by
  rw [show Str.ofString "\"" = S [34] from by decide +kernel, show (⟨#[c]⟩ : Str) = S [c] from rfl, Bool.eq_iff_iff, beq_iff_eq, decide_eq_true_eq]
  exact ⟨fun h => by have := S_inj h; simpa using this, fun h => by rw [h]⟩
theorem q_cm (c : Nat) : ((⟨#[c]⟩ : Str) == Str.ofString ",") = decide (c = 44) := by
  rw [show Str.ofString "," = S [44] from by decide +kernel, show (⟨#[c]⟩ : Str) = S [c] from rfl, Bool.eq_iff_iff, beq_iff_eq, decide_eq_true_eq]
  exact ⟨fun h => by have := S_inj h; simpa using this, fun h => by rw [h]⟩
theorem p_1 (h : esc = true) : pstep ⟨res, part, esc, quo⟩ c = ⟨res, part ++ [c], false, quo⟩ := by subst h; rfl
theorem p_2 (h : esc = false) (hq : quo = true) (hb : ((⟨#[c]⟩ : Str) == Str.ofString "\\") = true) : pstep ⟨res, part, esc, quo⟩ c = ⟨res, part, true, quo⟩ := by
  subst h hq; rw [q_bs] at hb; simp only [decide_eq_true_eq] at hb; subst hb; rfl
theorem p_3 (h : esc = false) (hq : quo = true) (_hb : ((⟨#[c]⟩ : Str) == Str.ofString "\\") = false) (hd : ((⟨#[c]⟩ : Str) == Str.ofString "\"") = true) : pstep ⟨res, part, esc, quo⟩ c = ⟨res, part ++ [c], esc, false⟩ := by
  subst h hq; rw [q_dq] at hd; simp only [decide_eq_true_eq] at hd; subst hd; rfl
theorem p_4 (h : esc = false) (hq : quo = true) (hb : ((⟨#[c]⟩ : Str) == Str.ofString "\\") = false) (hd : ((⟨#[c]⟩ : Str) == Str.ofString "\"") = false) : pstep ⟨res, part, esc, quo⟩ c = ⟨res, part ++ [c], esc, quo⟩ := by
  subst h hq; rw [q_bs] at hb; rw [q_dq] at hd; simp only [decide_eq_false_iff_not] at hb hd
  unfold pstep; simp [hb, hd]
theorem p_5 (h : esc = false) (hq : quo = false) (hd : ((⟨#[c]⟩ : Str) == Str.ofString ",") = true) : pstep ⟨res, part, esc, quo⟩ c = ⟨res ++ [part], [], esc, quo⟩ := by
  subst h hq; rw [q_cm] at hd; simp only [decide_eq_true_eq] at hd; subst hd; rfl
theorem p_6 (h : esc = false) (hq : quo = false) (_hb : ((⟨#[c]⟩ : Str) == Str.ofString ",") = false) (hd : ((⟨#[c]⟩ : Str) == Str.ofString "\"") = true) : pstep ⟨res, part, esc, quo⟩ c = ⟨res, part ++ [c], esc, true⟩ := by
  subst h hq; rw [q_dq] at hd; simp only [decide_eq_true_eq] at hd; subst hd; rfl
theorem p_7 (h : esc = false) (hq : quo = false) (hb : ((⟨#[c]⟩ : Str) == Str.ofString ",") = false) (hd : ((⟨#[c]⟩ : Str) == Str.ofString "\"") = false) : pstep ⟨res, part, esc, quo⟩ c = ⟨res, part ++ [c], esc, quo⟩ := by
  subst h hq; rw [q_cm] at hb; rw [q_dq] at hd; simp only [decide_eq_false_iff_not] at hb hd
  unfold pstep; simp [hb, hd]
theorem strs_push {its : Array Value} {t : Tok} (h : StrsAre its.toList (res.map S)) : StrsAre (its.push (.str (S part) t)).toList ((res ++ [part]).map S) := by
  rw [Array.toList_push, List.map_append]
  exact h.append' (.cons _ _ .nil)
end

theorem pend_1 {its : Array Value} {res : List (List Nat)} {part : List Nat} {esc quo : Bool} {tp : Tok} (h : StrsAre its.toList (res.map S)) (hl : ((S part).length : Int) ≠ 0) : StrsAre (its.push (.str (S part) tp)).toList ((pend ⟨res, part, esc, quo⟩).map S) := by
  rw [S_len] at hl
  unfold pend
  rw [if_neg (by intro e; exact hl (by rw [show part = [] from e]; rfl))]
  exact strs_push h
theorem pend_2 {its : Array Value} {res : List (List Nat)} {part : List Nat} {esc quo : Bool} (h : StrsAre its.toList (res.map S)) (hl : ((S part).length : Int) = 0) : StrsAre its.toList ((pend ⟨res, part, esc, quo⟩).map S) := by
  rw [S_len] at hl
  unfold pend
  rw [if_pos (by cases part with | nil => rfl | cons a r => simp at hl; omega)]
  exact h
theorem off1_mem {D : Addr} {l : List (Addr × Obj)} (h : LCg.Off1 D l) : ∀ p ∈ l, p.1 ≠ D := by
  induction l with
  | nil => intro p hp; cases hp
  | cons q r ih =>
    intro p hp
    rcases List.mem_cons.mp hp with e | hp
    · rw [e]; exact h.1
    · exact ih h.2 p hp
theorem parse_done {x : Str} {st : PS} {its : Array Value} {ys : List Value} (hst : (x.cps.toList.take x.cps.size).foldl pstep p0 = st) (hP : StrsAre its.toList ((pend st).map S)) (hys : StrsAre ys ((((pend st).take its.size).map strip).map S)) :
    StrsAre ys ((parse x.cps.toList).map S) := by
  have e : its.size = (pend st).length := by
    have := StrsAre.length hP
    rwa [List.length_map, Array.length_toList] at this
  rw [e, List.take_length] at hys
  rw [List.take_of_length_le (by rw [Array.length_toList]; exact Nat.le_refl _)] at hst
  unfold parse
  rw [show (⟨[], [], false, false⟩ : PS) = p0 from rfl, hst]
  exact hys
theorem off_own {r : Addr} {o : Obj} {own news : List (Addr × Obj)} (h : ∀ q ∈ own, ∀ p ∈ (r, o) :: news, p.1 ≠ q.1) (o' : Obj) : ∀ q ∈ own, ∀ p ∈ (r, o') :: news, p.1 ≠ q.1 := fun q hq p hp => by
  rcases List.mem_cons.mp hp with rfl | hp
  · exact h q hq (r, o) (List.mem_cons_self ..)
  · exact h q hq p (List.mem_cons_of_mem _ hp)
theorem rest_off {r : Addr} {o : Obj} {own news rest : List (Addr × Obj)} (h : ∀ q ∈ own, ∀ p ∈ (r, o) :: news, p.1 ≠ q.1) (hn : ∀ p ∈ news, p.1 ≠ r) (e : rest = own ++ news) : ∀ p ∈ rest, p.1 ≠ r := fun p hp => by
  rw [e] at hp
  exact (List.mem_append.mp hp).elim (fun q => (h p q (r, o) (List.mem_cons_self ..)).symm) (hn p)
theorem t_parse {w : World} {mean : ExcName → Option Value} {mg mb : Str → Option Value} (x : Str) (t : Tok) (hx : x.length ≤ 1000000) :
   Tell w mean mg mb 61 1 [.str x t] (fun _ => True) (fun tl v => ∃ d vs n, v = .ref d ∧ tl = [(d, listOf vs n)] ∧ StrsAre vs ((parse x.cps.toList).map S)) := by
  unfold Tell
  w_top off
  k_fill
  intro dp un gd cn cs a ccd cl outer A₀ base h₀ L m news s Q E B F X N T hk hd hu hpre hret
  refine wpAny_call ?_
  k_dflt cell_enter
  k_steps
  refine Stop.go ?_
  (rename Fr _ _ _ _ => lF)
  (rename News _ _ _ _ => lN)
  (rename ∀ p ∈ news, _ => hr9)
  (with_unfolding_all refine' For_invVF lF ?k1 ?k2 ?_; (case k1 => exact rfl); (case k2 => exact rfl))
  walk1
  with_unfolding_all refine' loop_str (PJ x ?r news) rfl lF lN ?hj ?turn ?done
  case hj => exact ⟨#[], 0, [], [], false, false, _, rfl, rfl, .nil, by with_unfolding_all rfl, by with_unfolding_all exact congrArg (fun z => some (Value.str z _)) o_empty, by with_unfolding_all rfl, by with_unfolding_all rfl⟩
  case turn =>
    intro i c tc m₁ news₁ h tk own hc hJ hoff F₁ N₁
    obtain ⟨its, n, res, part, esc, quo, tp, rfl, hst, hits, e1, e2, e3, e4⟩ := hJ
    have hsz := pfold_size (x.cps.toList.take i) p0
    rw [hst] at hsz
    have hli : (x.cps.toList.take i).length ≤ 1000000 := by
      rw [List.length_take, Array.length_toList]
      exact Nat.le_trans (Nat.min_le_right _ _) hx
    have hsP : (S part).length ≤ 1000000 := by rw [S_len]; simp only [PS.size, p0, List.map_nil, List.sum_nil, List.length_nil] at hsz; omega
    have hsI : its.size ≤ 1000000 := by
      have := StrsAre.length hits
      rw [List.length_map, Array.length_toList] at this
      simp only [PS.size, p0, List.map_nil, List.sum_nil, List.length_nil] at hsz; omega
    have hrn : ∀ p ∈ news, p.1 ≠ _ := fun p hp => Nat.ne_of_lt (hr9 p hp)
    obtain ⟨rest, hrest⟩ : ∃ rest, rest = own ++ news := ⟨_, rfl⟩
    have N₂ := led_front N₁
    rw [← hrest] at N₂
    have hrr := rest_off hoff hrn hrest
    have F₂ := fr_show F₁ (Str.ofString "res") ((if_neg (by decide +kernel)).trans e1)
    have F₃ := fr_show F₂ (Str.ofString "part") ((if_neg (by decide +kernel)).trans ((if_neg (by decide +kernel)).trans e2))
    have F₄ := fr_show F₃ (Str.ofString "escape") ((if_neg (by decide +kernel)).trans ((if_neg (by decide +kernel)).trans ((if_neg (by decide +kernel)).trans e3)))
    have F₅ := fr_show F₄ (Str.ofString "quote") ((if_neg (by decide +kernel)).trans ((if_neg (by decide +kernel)).trans ((if_neg (by decide +kernel)).trans ((if_neg (by decide +kernel)).trans e4))))
    clear F₁ F₂ F₃ F₄ lF lN N₁
    k_steps
    all_goals (try dsimp only)
    all_goals (refine TurnEnd.of (by first | exact .inl rfl | exact .inr rfl) (by k_asm) (led_back (by k_asm) hrest) (off_own hoff _) ?_)
    all_goals (refine PJ.mk hc hst (by first | exact p_1 (by assumption) | exact p_2 (by assumption) (by assumption) (by assumption) | exact p_3 (by assumption) (by assumption) (by assumption) (by assumption) | exact p_4 (by assumption) (by assumption) (by assumption) (by assumption) | exact p_5 (by assumption) (by assumption) (by assumption) | exact p_6 (by assumption) (by assumption) (by assumption) (by assumption) | exact p_7 (by assumption) (by assumption) (by assumption) (by assumption)) (by with_unfolding_all rfl) (by with_unfolding_all rfl) (by with_unfolding_all rfl) (by with_unfolding_all rfl) (by first | exact hits | exact strs_push hits) (by first | rfl | exact S_app _ _ | exact o_empty))
  case done =>
    intro m₁ news₁ h tk hJ F₁ N₁
    obtain ⟨its, n, res, part, esc, quo, tp, rfl, hst, hits, e1, e2, e3, e4⟩ := hJ
    have hsz := pfold_size (x.cps.toList.take x.cps.size) p0
    rw [hst] at hsz
    have hli : (x.cps.toList.take x.cps.size).length ≤ 1000000 := by
      rw [List.length_take, Array.length_toList]
      exact Nat.le_trans (Nat.min_le_right _ _) hx
    have hsP : (S part).length ≤ 1000000 := by rw [S_len]; simp only [PS.size, p0, List.map_nil, List.sum_nil, List.length_nil] at hsz; omega
    have hsI : its.size ≤ 1000000 := by
      have := StrsAre.length hits
      rw [List.length_map, Array.length_toList] at this
      simp only [PS.size, p0, List.map_nil, List.sum_nil, List.length_nil] at hsz; omega
    have hrn : ∀ p ∈ news, p.1 ≠ _ := fun p hp => Nat.ne_of_lt (hr9 p hp)
    have F₂ := fr_show F₁ (Str.ofString "res") e1
    have F₃ := fr_show F₂ (Str.ofString "part") ((if_neg (by decide +kernel)).trans e2)
    clear F₁ F₂ lF lN
    dsimp only
    k_steps
    · have hP := pend_1 (tp := tp) (esc := esc) (quo := quo) hits (by assumption)
      refine Stop.go ?_
      refine LCg.ListComp_U (F₀ := by k_asm) (by with_unfolding_all rfl) (by decide) (by rfl) (by decide) (by rfl) ?_
      walk1
      refine LCg.CompSrc.ledger (by rfl) (by k_asm) (by k_asm) (List.mem_cons_self ..) (by rw [Array.size_push, sizeLine_eq]; omega) ?_
      intro g'
      refine comp_rest (fun i ys nw => nw = _ ∧ StrsAre ys ((((pend ⟨res, part, esc, quo⟩).take i).map strip).map S)) ?_ ?_ ⟨rfl, .nil⟩
      · intro i ys nw v I oI C oC D m₂ h tk E' hi hJ hv hC hm₂ F N off ne
        obtain ⟨rfl, hys⟩ := hJ
        obtain ⟨p, hp, hpv⟩ := hP.areOf.get i v (by rw [Array.getElem?_toList]; exact hv)
        obtain ⟨tv, rfl⟩ := ItemKind.str_is hpv
        obtain ⟨a9, ha9, rfl⟩ := S_at hp
        have hl9 : (S a9).length ≤ 1000000 := by
          have := pend_size (List.mem_of_getElem? ha9)
          rw [S_len]
          simp only [PS.size, p0, List.map_nil, List.sum_nil, List.length_nil] at hsz this; omega
        k_steps
        exact LCg.CompEnd.intro F N _ (fun p hp => hp) off (.inr ⟨_, List.mem_cons_self .., rfl, _, rfl⟩) ⟨rfl, strip_snoc hys ha9⟩
      · intro ys nw hJ
        obtain ⟨rfl, hys⟩ := hJ
        intro D h tk F N off
        dsimp only
        k_steps
        exact hret _ [(D, LCg.lst ys)] _ _ (by k_asm) (cb_drop (by assumption) fun p hp => by
          rcases List.mem_cons.mp hp with rfl | hp
          · exact List.mem_cons_self ..
          · exact List.mem_cons_of_mem _ (List.mem_cons_of_mem _ hp)) (fun q hq p hp => by
            rw [List.mem_singleton.mp hp]
            exact (off1_mem off.2 q hq).symm) ⟨D, ys, _, rfl, rfl, parse_done hst hP hys⟩
    · have hP := pend_2 (esc := esc) (quo := quo) hits (by assumption)
      refine Stop.go ?_
      refine LCg.ListComp_U (F₀ := by k_asm) (by with_unfolding_all rfl) (by decide) (by rfl) (by decide) (by rfl) ?_
      walk1
      refine LCg.CompSrc.ledger (by rfl) (by k_asm) (by k_asm) (List.mem_cons_self ..) (by rw [sizeLine_eq]; omega) ?_
      intro g'
      refine comp_rest (fun i ys nw => nw = _ ∧ StrsAre ys ((((pend ⟨res, part, esc, quo⟩).take i).map strip).map S)) ?_ ?_ ⟨rfl, .nil⟩
      · intro i ys nw v I oI C oC D m₂ h tk E' hi hJ hv hC hm₂ F N off ne
        obtain ⟨rfl, hys⟩ := hJ
        obtain ⟨p, hp, hpv⟩ := hP.areOf.get i v (by rw [Array.getElem?_toList]; exact hv)
        obtain ⟨tv, rfl⟩ := ItemKind.str_is hpv
        obtain ⟨a9, ha9, rfl⟩ := S_at hp
        have hl9 : (S a9).length ≤ 1000000 := by
          have := pend_size (List.mem_of_getElem? ha9)
          rw [S_len]
          simp only [PS.size, p0, List.map_nil, List.sum_nil, List.length_nil] at hsz this; omega
        k_steps
        exact LCg.CompEnd.intro F N _ (fun p hp => hp) off (.inr ⟨_, List.mem_cons_self .., rfl, _, rfl⟩) ⟨rfl, strip_snoc hys ha9⟩
      · intro ys nw hJ
        obtain ⟨rfl, hys⟩ := hJ
        intro D h tk F N off
        dsimp only
        k_steps
        exact hret _ [(D, LCg.lst ys)] _ _ (by k_asm) (cb_drop (by assumption) fun p hp => by
          rcases List.mem_cons.mp hp with rfl | hp
          · exact List.mem_cons_self ..
          · exact List.mem_cons_of_mem _ (List.mem_cons_of_mem _ hp)) (fun q hq p hp => by
            rw [List.mem_singleton.mp hp]
            exact (off1_mem off.2 q hq).symm) ⟨D, ys, _, rfl, rfl, parse_done hst hP hys⟩
end Mine

/-! part Wire -/
namespace Mine
local macro_rules | `(tactic| walk_at "exec For Tuple Call") => `(tactic| (k_here; refine stop_here ?_))
local macro_rules | `(tactic| walk_at "eval ListComp") => `(tactic| (k_here; refine stop_here ?_))
local macro_rules | `(tactic| walk_at "call builtin:str.join") => `(tactic| (k_here; refine stop_here ?_))
local macro_rules | `(tactic| walk_at "call type:zip") => `(tactic| (k_here; refine stop_here ?_))
local macro_rules | `(tactic| k_all) => `(tactic| assumption)
local macro_rules | `(tactic| walk_at "call ref") => `(tactic| (k_here; (with_reducible show wpAny _ _ (call (Value.ref _) _) _ _ _); k_dflt (refine' TellV.use ?kH ?k1 ?k2 ?k3 ?k4 ?k5 ?kK ?kd ?ku ?_; (case k1 => k_asm); (case k2 => k_asm); (case k3 => k_asm); (case k4 => k_asm); (case k5 => k_asm); (case kK => first | exact rfl | assumption); (case kH => first | exact t_alt _ _ (by assumption) | exact t_quoted _ _ (by assumption) | exact t_unctrl _ _ | exact t_same _ _); (case kd => ktr_room); (case ku => ktr_units); k_whole); intro r9 h9 tk9 F9 N9 ho9; (obtain ⟨t9, e9⟩ := ho9; subst e9); (try dsimp only); (try k_fold)))

def joinL (g : List Nat) : List (List Nat) → List Nat
  | [] => []
  | [x] => x
  | x :: y :: r => x ++ g ++ joinL g (y :: r)
theorem joinL_S (g : List Nat) : ∀ ls : List (List Nat), Txt.join (S g) (ls.map S) = S (joinL g ls) := by
  have : ∀ ls : List (List Nat), Str.join (S g) (ls.map S) = S (joinL g ls) := by
    intro ls
    induction ls with
    | nil => rfl
    | cons x r ih =>
      cases r with
      | nil => rfl
      | cons y r =>
        show S x ++ S g ++ Str.join (S g) (S y :: r.map S) = S (x ++ g ++ joinL g (y :: r))
        rw [← S_app, ← S_app, ← ih]; rfl
  intro ls
  rw [← this]
  exact StrLaws.glued_eq_join _ _
def sentOf (line : List Nat) (b : Bool) : List Nat := if b then line.map (fun c => altN (altN c)) else quo line
def wire (lines : List (List Nat)) (bits : List Bool) (gap : List Nat) : List Nat := joinL gap (List.zipWith sentOf lines bits)
def WJ (lines : List (List Nat)) (bits : List Bool) (gap : List Nat) (t : Tok) (r : Addr) (news : List (Addr × Obj)) (i : Nat) (m : Str → Option Value) (nx : List (Addr × Obj)) : Prop :=
  ∃ its n, nx = (r, W.listOf its n) :: news ∧ StrsAre its.toList (((List.zipWith sentOf lines bits).take i).map S) ∧ m (Str.ofString "sent") = some (.ref r) ∧ m (Str.ofString "gap") = some (.str (S gap) t)

theorem own_off {own : List (Addr × Obj)} {la lb r : Addr} {sz : Nat} (h : ∀ p ∈ own, p.1 = la ∨ p.1 = lb ∨ sz ≤ p.1) (hr : r < sz) (ha : la ≠ r) (hb : lb ≠ r) : ∀ p ∈ own, p.1 ≠ r := fun p hp e => by
  rcases h p hp with h | h | h
  · exact ha (h.symm.trans e)
  · exact hb (h.symm.trans e)
  · rw [e] at h; exact absurd hr (Nat.not_lt.mpr h)
theorem bool_at {bits : List Bool} {i : Nat} {v : Value} (h : (bits.map Value.bool)[i]? = some v) : ∃ b, bits[i]? = some b ∧ v = .bool b := by
  rw [List.getElem?_map] at h
  cases e : bits[i]? with
  | none => rw [e] at h; cases h
  | some a => rw [e] at h; exact ⟨a, rfl, (Option.some.inj h).symm⟩
theorem zw_at {lines : List (List Nat)} {bits : List Bool} {i : Nat} {line : List Nat} {bit : Bool} (hl : lines[i]? = some line) (hb : bits[i]? = some bit) : (List.zipWith sentOf lines bits)[i]? = some (sentOf line bit) := by
  rw [List.getElem?_zipWith, hl, hb]
theorem push_sent {lines : List (List Nat)} {bits : List Bool} {i : Nat} {line : List Nat} {bit : Bool} {its : Array Value} {y : List Nat} {t : Tok} (h : StrsAre its.toList (((List.zipWith sentOf lines bits).take i).map S)) (hl : lines[i]? = some line) (hb : bits[i]? = some bit) (hy : y = sentOf line bit) :
    StrsAre (its.push (.str (S y) t)).toList (((List.zipWith sentOf lines bits).take (i + 1)).map S) := by
  rw [List.take_add_one, zw_at hl hb, Option.toList_some, List.map_append, Array.toList_push, hy]
  exact h.append' (.cons _ _ .nil)
theorem WJ.mk {lines : List (List Nat)} {bits : List Bool} {gap : List Nat} {t : Tok} {r : Addr} {news : List (Addr × Obj)} {i : Nat} {m' : Str → Option Value} {its : Array Value} {n : Nat} {line : List Nat} {bit : Bool}
    (_hl : lines[i]? = some line) (_hb : bits[i]? = some bit) (e1 : m' (Str.ofString "sent") = some (.ref r)) (e2 : m' (Str.ofString "gap") = some (.str (S gap) t)) (h : StrsAre its.toList (((List.zipWith sentOf lines bits).take (i + 1)).map S)) :
    WJ lines bits gap t r news (i + 1) m' ((r, W.listOf its n) :: news) := ⟨its, n, rfl, h, e1, e2⟩
theorem step3 {h₀ h' : Heap} {L r : Addr} {m' : Str → Option Value} {o o' : Obj} {own news rest : List (Addr × Obj)} {J : (Str → Option Value) → List (Addr × Obj) → Prop} {s₁ : Shared} {Qr : Value → Shared → Prop} {Qb : Shared → Prop} {tk : Nat}
    (F : Fr h₀ L h' m') (N : News h₀ L h' ((r, o') :: rest)) (hrest : rest = own ++ news) (hJ : J m' ((r, o') :: news)) :
    LoopStep3 h₀ L own ((r, o) :: news) J s₁ Qr Qb .next { s₁ with heap := h', toks := tk } :=
  ⟨rfl, h', tk, m', (r, o') :: news, rfl, F, fun p hp => N p (by
    rw [hrest]
    rcases List.mem_append.mp hp with h | h
    · exact List.mem_cons_of_mem _ (List.mem_append_left _ h)
    · rcases List.mem_cons.mp h with h | h
      · rw [h]; exact List.mem_cons_self ..
      · exact List.mem_cons_of_mem _ (List.mem_append_right _ h)), rfl, hJ⟩
theorem alt_snoc {line : List Nat} {j c : Nat} {ys : List Value} {t : Tok} (h : StrsAre ys (((line.take j).map (fun c => altN (altN c))).map (fun c => S [c]))) (e : line[j]? = some c) :
    StrsAre (ys ++ [.str ⟨#[altN (altN c)]⟩ t]) (((line.take (j + 1)).map (fun c => altN (altN c))).map (fun c => S [c])) := by
  rw [List.take_add_one, e, Option.toList_some, List.map_append, List.map_append]
  exact h.append' (.cons _ _ .nil)
theorem alt_all {line : List Nat} {ys : List Value} (h : StrsAre ys (((line.take (S line).cps.size).map (fun c => altN (altN c))).map (fun c => S [c]))) : StrsAre ys.toArray.toList ((line.map (fun c => altN (altN c))).map (fun c => S [c])) := by
  rw [List.take_of_length_le (by show _ ≤ (S line).length; rw [S_len]; exact Nat.le_refl _)] at h
  exact h
theorem ones_sum (l : List Nat) : ((l.map fun c => S [c]).map (·.length)).sum = l.length := by
  induction l with
  | nil => rfl
  | cons a r ih => simp only [List.map_cons, List.sum_cons, ih, List.length_cons, S_len, List.length_nil]; omega
theorem ones_weight (line : List Nat) (h : line.length ≤ 1000) : (((line.map (fun c => altN (altN c))).map (fun c => S [c])).map (·.length)).sum + ((line.map (fun c => altN (altN c))).map (fun c => S [c])).length ≤ 1048576 := by
  rw [ones_sum]; simp only [List.length_map]; omega
theorem join_sing : ∀ l : List Nat, joinL [] (l.map fun c => [c]) = l
  | [] => rfl
  | [_] => rfl
  | a :: b :: r => by
    have ih := join_sing (b :: r)
    rw [List.map_cons] at ih
    show [a] ++ [] ++ joinL [] ([b] :: r.map fun c => [c]) = a :: b :: r
    rw [ih]; rfl
theorem join_ones' (l : List Nat) : Txt.join (Str.ofString "") (l.map fun c => S [c]) = S l := by
  have e : (l.map fun c => S [c]) = (l.map fun c => [c]).map S := by rw [List.map_map]; rfl
  rw [e, o_empty, joinL_S]
  congr 1
  exact join_sing l
theorem escC_len (l : List Nat) : (l.flatMap escC).length ≤ 2 * l.length := by
  induction l with
  | nil => simp
  | cons a r ih =>
    rw [List.flatMap_cons, List.length_append, List.length_cons]
    have : (escC a).length ≤ 2 := by unfold escC; (repeat' split) <;> simp
    omega
theorem sentOf_len (l : List Nat) (b : Bool) : (sentOf l b).length ≤ 2 * l.length + 2 := by
  unfold sentOf
  split
  · rw [List.length_map]; omega
  · have := escC_len l
    unfold quo
    rw [List.length_cons, List.length_append, List.length_singleton]; omega
theorem sum_le {l : List (List Nat)} {B : Nat} (h : ∀ x ∈ l, x.length ≤ B) : ((l.map S).map (·.length)).sum ≤ l.length * B := by
  induction l with
  | nil => simp
  | cons a r ih =>
    have h1 := ih fun x hx => h x (List.mem_cons_of_mem _ hx)
    have h2 := h a (List.mem_cons_self ..)
    simp only [List.map_cons, List.sum_cons, List.length_cons, S_len, Nat.add_mul, Nat.one_mul]
    omega
theorem mem_zw {lines : List (List Nat)} {bits : List Bool} {x : List Nat} (h : x ∈ List.zipWith sentOf lines bits) : ∃ l ∈ lines, ∃ b, x = sentOf l b := by
  induction lines generalizing bits with
  | nil => simp at h
  | cons l r ih =>
    cases bits with
    | nil => simp at h
    | cons b bs =>
      rw [List.zipWith_cons_cons] at h
      rcases List.mem_cons.mp h with h | h
      · exact ⟨l, List.mem_cons_self .., b, h⟩
      · obtain ⟨l', h1, b', h2⟩ := ih h
        exact ⟨l', List.mem_cons_of_mem _ h1, b', h2⟩
theorem sent_weight {lines : List (List Nat)} {bits : List Bool} (hlen : lines.length ≤ 8) (hc : ∀ l ∈ lines, l.length ≤ 1000 ∧ ∀ c ∈ l, c < 256) :
    (((List.zipWith sentOf lines bits).map S).map (·.length)).sum + ((List.zipWith sentOf lines bits).map S).length ≤ 1048576 := by
  have h1 : ∀ x ∈ List.zipWith sentOf lines bits, x.length ≤ 2002 := fun x hx => by
    obtain ⟨l, hl, b, rfl⟩ := mem_zw hx
    have := sentOf_len l b
    have := (hc l hl).1
    omega
  have h2 := sum_le h1
  have h3 : (List.zipWith sentOf lines bits).length ≤ 8 := by rw [List.length_zipWith]; omega
  have h4 : (List.zipWith sentOf lines bits).length * 2002 ≤ 8 * 2002 := Nat.mul_le_mul_right _ h3
  rw [List.length_map]
  omega
theorem wire_done {lines : List (List Nat)} {bits : List Bool} {vs1 : List Value} {its : Array Value} (hl : StrsAre vs1 (lines.map S)) (hbl : bits.length = lines.length)
    (h : StrsAre its.toList (((List.zipWith sentOf lines bits).take (min vs1.length (bits.map Value.bool).length)).map S)) : StrsAre its.toList ((List.zipWith sentOf lines bits).map S) := by
  have e : vs1.length = lines.length := by have := StrsAre.length hl; rwa [List.length_map] at this
  rw [List.take_of_length_le (by rw [List.length_zipWith, List.length_map, e]; omega)] at h
  exact h
theorem t_wire {w : World} {mean : ExcName → Option Value} {mg mb : Str → Option Value} {la lb : Addr} {vs1 : List Value} {n1 n2 : Nat} (lines : List (List Nat)) (bits : List Bool) (gap : List Nat) (t : Tok)
    (hl : StrsAre vs1 (lines.map S)) (hlen : lines.length ≤ 8) (hbl : bits.length = lines.length) (hc : ∀ l ∈ lines, l.length ≤ 1000 ∧ ∀ c ∈ l, c < 256) (hg : gap.length ≤ 8) :
   Tell w mean mg mb 87 4 [.ref la, .ref lb, .str (S gap) t] (fun news => (la, listOf vs1 n1) ∈ news ∧ (lb, listOf (bits.map .bool) n2) ∈ news) (fun tl v => tl = [] ∧ ∃ t', v = .str (S (wire lines bits gap)) t') := by
  unfold Tell
  w_top off
  k_fill
  intro dp un gd cn cs a ccd cl outer A₀ base h₀ L m news s Q E B F X N T hk hd hu hpre hret
  refine wpAny_call ?_
  k_dflt cell_enter
  k_steps
  refine Stop.go ?_
  (rename Fr _ _ _ _ => lF)
  (rename News _ _ _ _ => lN)
  (rename ∀ p ∈ news, _ => hr9)
  (with_unfolding_all refine' For_pair3F lF ?kh ?k1 ?k2 ?k3 ?_ ?k4; (case kh => exact rfl); (case k1 => exact rfl); (case k2 => exact rfl); (case k3 => exact rfl); (case k4 => intro _; with_unfolding_all rfl))
  k_steps
  refine Stop.go ?_
  have hrs := Heap.lt_size (lN _ (List.mem_cons_self ..)).1
  have hra := Nat.ne_of_lt (hr9 _ hpre.1)
  have hrb := Nat.ne_of_lt (hr9 _ hpre.2)
  have hrn : ∀ p ∈ news, p.1 ≠ _ := fun p hp => Nat.ne_of_lt (hr9 p hp)
  with_unfolding_all refine' loop_zip (WJ lines bits gap t ?r news) rfl lF lN (List.mem_cons_of_mem _ hpre.1) (List.mem_cons_of_mem _ hpre.2) ?hj ?turn ?done
  case hj => exact ⟨#[], 0, rfl, .nil, by with_unfolding_all rfl, by with_unfolding_all rfl⟩
  case turn =>
    intro i v0 v1 m₁ news₁ h tk own hv0 hv1 hJ hown F₁ N₁
    obtain ⟨its, n, rfl, hits, e1, e2⟩ := hJ
    obtain ⟨p, hp, hpv⟩ := hl.areOf.get i v0 hv0
    obtain ⟨tv, rfl⟩ := ItemKind.str_is hpv
    obtain ⟨line, hline, rfl⟩ := S_at hp
    obtain ⟨bit, hbit, rfl⟩ := bool_at hv1
    have hlm := hc line (List.mem_of_getElem? hline)
    have hl9 : (S line).length ≤ 100000 := by rw [S_len]; omega
    have hoff := own_off hown hrs hra hrb
    have hsI : its.size ≤ 1000 := by
      have := StrsAre.length hits
      rw [List.length_map, Array.length_toList, List.length_take, List.length_zipWith] at this
      omega
    obtain ⟨rest, hrest⟩ : ∃ rest, rest = own ++ news := ⟨_, rfl⟩
    have N₂ := led_front N₁
    rw [← hrest] at N₂
    have hrr : ∀ p ∈ rest, p.1 ≠ _ := fun p hp => by
      rw [hrest] at hp
      exact (List.mem_append.mp hp).elim (hoff p) (hrn p)
    have F₂ := fr_show F₁ (Str.ofString "sent") ((if_neg (by decide +kernel)).trans ((if_neg (by decide +kernel)).trans e1))
    clear F₁ N₁ lF lN
    k_steps
    · refine Stop.go ?_
      refine comp_text (by k_asm) (by with_unfolding_all rfl) (by decide) (by rfl) (by decide) (by rfl) (by rfl) (by intro _; rfl) ?_
      walk1
      refine ⟨S line, _, _, rfl, by k_asm, by k_asm, (by show (S line).length ≤ _; rw [sizeLine_eq]; omega), ?_⟩
      intro g'
      refine comp_rest (fun i ys nw => nw = _ ∧ StrsAre ys (((line.take i).map (fun c => altN (altN c))).map (fun c => S [c]))) ?_ ?_ ⟨rfl, .nil⟩
      · intro j ys nw v I oI C oC D m₂ h2 tk2 E' hi hJ hv hC hm₂ F3 N3 off ne
        obtain ⟨rfl, hys⟩ := hJ
        obtain ⟨c, u, hcc, rfl⟩ := hv
        have hcc' : line[j]? = some c := by rw [← S_cps line, Array.getElem?_toList]; exact hcc
        have hc1 : c < 256 := hlm.2 c (List.mem_of_getElem? hcc')
        have hc2 := altN_lt hc1
        k_steps
        exact LCg.CompEnd.intro (by k_asm) (by k_asm) _ (fun p hp => hp) off trivial ⟨rfl, alt_snoc hys hcc'⟩
      · intro ys nw hJ
        obtain ⟨rfl, hys⟩ := hJ
        intro D h3 tk3 F3 N3 off
        have hDr : @Ne Nat _ _ := off.1
        have hys' := alt_all hys
        dsimp only
        k_steps
        refine Stop.go ?_
        refine join_listW (News.isList (by k_asm) (List.mem_cons_self ..)) hys' (by decide +kernel) (ones_weight line hlm.1) ?_
        intro t5 k5
        rw [join_ones']
        k_steps
        refine step3 (by k_asm) (cb_drop (by assumption) fun p hp => List.mem_cons_of_mem _ hp) hrest ?_
        exact WJ.mk hline hbit (by with_unfolding_all rfl) (by with_unfolding_all exact e2) (push_sent hits hline hbit (by unfold sentOf; rw [if_pos (by assumption)]))
    · refine step3 (by k_asm) (by k_asm) hrest ?_
      exact WJ.mk hline hbit (by with_unfolding_all rfl) (by with_unfolding_all exact e2) (push_sent hits hline hbit (by rw [S_cps]; unfold sentOf; rw [if_neg (fun h9 => Bool.false_ne_true (Eq.trans (Eq.symm (by assumption)) h9))]))
  case done =>
    intro m₁ news₁ h tk hJ F₁ N₁
    obtain ⟨its, n, rfl, hits, e1, e2⟩ := hJ
    have F₂ := fr_show F₁ (Str.ofString "sent") e1
    have F₃ := fr_show F₂ (Str.ofString "gap") ((if_neg (by decide +kernel)).trans e2)
    clear F₁ F₂ lF lN
    dsimp only
    k_steps
    refine Stop.go ?_
    refine join_listW (News.isList (by k_asm) (List.mem_cons_self ..)) (wire_done hl hbl hits) (by rw [S_len]; omega) (sent_weight hlen hc) ?_
    intro t5 k5
    rw [joinL_S]
    k_steps
    exact hret _ [] _ _ (by k_asm) (cb_drop (by assumption) fun p hp => List.mem_cons_of_mem _ hp) (fun _ _ _ h => nomatch h) ⟨rfl, _, rfl⟩
end Mine

/-! part Read -/
namespace Mine
local macro_rules | `(tactic| walk_at "exec For Name Call cons nil") => `(tactic| (k_here; refine stop_here ?_))
local macro_rules | `(tactic| walk_at "eval ListComp") => `(tactic| (k_here; refine stop_here ?_))
local macro_rules | `(tactic| walk_at "call builtin:str.join") => `(tactic| (k_here; refine stop_here ?_))
local macro_rules | `(tactic| walk_at "pyIter ref") => `(tactic| (k_here; refine stop_here ?_))
local macro_rules | `(tactic| k_all) => `(tactic| assumption)
local macro_rules | `(tactic| walk_at "call ref") => `(tactic| (k_here; (with_reducible show wpAny _ _ (call (Value.ref _) _) _ _ _); k_dflt (refine' TellV.use ?kH ?k1 ?k2 ?k3 ?k4 ?k5 ?kK ?kd ?ku ?_; (case k1 => k_asm); (case k2 => k_asm); (case k3 => k_asm); (case k4 => k_asm); (case k5 => k_asm); (case kK => first | exact rfl | assumption); (case kH => exact t_meta _ _); (case kd => ktr_room); (case ku => ktr_units); k_whole); intro r9 h9 tk9 F9 N9 ho9; subst ho9; (try dsimp only); (try k_fold)))
local macro_rules | `(tactic| walk_at "call ref") => `(tactic| (k_here; (with_reducible show wpAny _ _ (call (Value.ref 94) _) _ _ _); rw [sl_mid]; k_dflt (refine' TellV.use ?kH ?k1 ?k2 ?k3 ?k4 ?k5 ?kK ?kd ?ku ?_; (case k1 => k_asm); (case k2 => k_asm); (case k3 => k_asm); (case k4 => k_asm); (case k5 => k_asm); (case kK => first | exact rfl | assumption); (case kH => exact t_num _ (by assumption) _); (case kd => ktr_room); (case ku => ktr_units); k_whole); intro r9 h9 tk9 F9 N9 ho9; (obtain ⟨t9, e9⟩ := ho9; subst e9); (try dsimp only); (try k_fold)))
local macro_rules | `(tactic| walk_at "call ref") => `(tactic| (k_here; (with_reducible show wpAny _ _ (call (Value.ref 61) _) _ _ _); refine stop_here ?_))

def lineOf (it : List Nat) : List Nat := if it ≠ [] ∧ 127 < it.getD 0 0 then it.map (· - 128) else it.tail.dropLast
def readRow (it : List Nat) : List Int := (parse (lineOf it)).map fun wd => num wd.tail.dropLast
def readW (wr : List Nat) : List (List Int) := (parse wr).map readRow
structure ItOk (it : List Nat) : Prop where
  len : it.length ≤ 10000
  hid : it ≠ [] → 127 < it.getD 0 0 → ∀ c ∈ it, 128 ≤ c ∧ c < 1000
  words : ∀ wd ∈ parse (lineOf it), wd.length ≤ 10000 ∧ wd.tail.dropLast.length ≤ 20

inductive Rel2 {α β : Type} (R : α → β → Prop) : List α → List β → Prop
  | nil : Rel2 R [] []
  | cons {a b as bs} : R a b → Rel2 R as bs → Rel2 R (a :: as) (b :: bs)
theorem Rel2.append {α β : Type} {R : α → β → Prop} {as as' : List α} {bs bs' : List β} (h : Rel2 R as bs) (h' : Rel2 R as' bs') : Rel2 R (as ++ as') (bs ++ bs') := by
  induction h with
  | nil => exact h'
  | cons r _ ih => exact .cons r ih
theorem Rel2.mono {α β : Type} {R R' : α → β → Prop} {as : List α} {bs : List β} (h : Rel2 R as bs) (i : ∀ a b, R a b → R' a b) : Rel2 R' as bs := by
  induction h with
  | nil => exact .nil
  | cons r _ ih => exact .cons (i _ _ r) ih
theorem Rel2.length {α β : Type} {R : α → β → Prop} {as : List α} {bs : List β} (h : Rel2 R as bs) : as.length = bs.length := by
  induction h with
  | nil => rfl
  | cons _ _ ih => rw [List.length_cons, List.length_cons, ih]
/-- the ledger holds a row of ints at v -/
def RowIn (tl : List (Addr × Obj)) (v : Value) (row : List Int) : Prop := ∃ a us k, v = .ref a ∧ (a, listOf us k) ∈ tl ∧ IntsAre us row
theorem RowIn.mono {tl tl' : List (Addr × Obj)} {v : Value} {row : List Int} (h : RowIn tl v row) (hs : ∀ p ∈ tl, p ∈ tl') : RowIn tl' v row := by
  obtain ⟨a, us, k, e, hm, hi⟩ := h
  exact ⟨a, us, k, e, hs _ hm, hi⟩
/-- a list of rows -/
def Nest (tl : List (Addr × Obj)) (v : Value) (rows : List (List Int)) : Prop := ∃ d its n, v = .ref d ∧ (d, W.listOf its n) ∈ tl ∧ Rel2 (RowIn tl) its.toList rows
def RJ (items : List (List Nat)) (r : Addr) (base news : List (Addr × Obj)) (i : Nat) (m : Str → Option Value) (nx : List (Addr × Obj)) : Prop :=
  ∃ its n tls, nx = (r, W.listOf its n) :: (tls ++ base) ∧ Rel2 (RowIn tls) its.toList ((items.take i).map readRow) ∧ (∀ p ∈ tls, p.1 ≠ r) ∧ (∀ p ∈ tls, ∀ q ∈ news, p.1 ≠ q.1) ∧ m (Str.ofString "rows") = some (.ref r)

theorem parse_len (l : List Nat) : (parse l).length ≤ l.length + 1 := by
  have h := pfold_size l p0
  unfold parse
  rw [List.length_map]
  have e : (pend (l.foldl pstep p0)).length ≤ (l.foldl pstep p0).size + 1 := by
    unfold pend PS.size
    split
    · omega
    · rw [List.length_append, List.length_singleton]; omega
  have e0 : p0.size = 0 := rfl
  rw [e0] at h
  exact Nat.le_trans e (by omega)
theorem led_swap {h₀ h : Heap} {L : Addr} {a b : Addr × Obj} {news : List (Addr × Obj)} (N : News h₀ L h (a :: b :: news)) : News h₀ L h (b :: a :: news) := fun p hp => by
  rcases List.mem_cons.mp hp with e | hp
  · exact N p (by rw [e]; exact List.mem_cons_of_mem _ (List.mem_cons_self ..))
  · rcases List.mem_cons.mp hp with e | hp
    · exact N p (by rw [e]; exact List.mem_cons_self ..)
    · exact N p (List.mem_cons_of_mem _ (List.mem_cons_of_mem _ hp))
theorem lineOf_len (it : List Nat) : (lineOf it).length ≤ it.length := by
  unfold lineOf
  split
  · rw [List.length_map]; exact Nat.le_refl _
  · rw [List.length_dropLast, List.length_tail]; omega
theorem ne_of_len {it : List Nat} (h : ((S it).length : Int) ≠ 0) : it ≠ [] := by
  rintro rfl
  exact h (by rw [S_len]; rfl)
theorem nil_of_len {it : List Nat} (h : ((S it).length : Int) = 0) : it = [] := by
  rw [S_len] at h
  cases it with
  | nil => rfl
  | cons a r => simp at h; omega
theorem char0 {it : List Nat} (h : it ≠ []) : (Txt.charAt (S it) 0).getD 0 = it.getD 0 0 := by
  have h0 : 0 < it.length := by cases it with | nil => exact absurd rfl h | cons a r => simp
  have e := it_at it 0 h0
  unfold Txt.item at e
  have e2 := congrArg (fun x : Str => x.cps.getD 0 0) e
  simpa [S] using e2
theorem meta_get {it : List Nat} (h : it ≠ []) (hm : 127 < (Txt.charAt (S it) 0).getD 0) : 127 < it.getD 0 0 := by rwa [char0 h] at hm
theorem nometa_get {it : List Nat} (h : it ≠ []) (hm : ¬ 127 < (Txt.charAt (S it) 0).getD 0) : ¬ 127 < it.getD 0 0 := by rwa [char0 h] at hm
theorem sub_all {line : List Nat} {ys : List Value} (h : StrsAre ys (((line.take (S line).cps.size).map (· - 128)).map (fun c => S [c]))) : StrsAre ys.toArray.toList ((line.map (· - 128)).map (fun c => S [c])) := by
  rw [List.take_of_length_le (by show _ ≤ (S line).length; rw [S_len]; exact Nat.le_refl _)] at h
  exact h
theorem ones_weight2 (line : List Nat) (h : line.length ≤ 10000) : (((line.map (· - 128)).map (fun c => S [c])).map (·.length)).sum + ((line.map (· - 128)).map (fun c => S [c])).length ≤ 1048576 := by
  rw [ones_sum]; simp only [List.length_map]; omega
theorem num_snoc {l : List (List Nat)} {j : Nat} {wd : List Nat} {ys : List Value} {t : Tok} (h : IntsAre ys ((l.take j).map fun wd => num wd.tail.dropLast)) (e : l[j]? = some wd) :
    IntsAre (ys ++ [.int (num wd.tail.dropLast) t]) ((l.take (j + 1)).map fun wd => num wd.tail.dropLast) := by
  rw [List.take_add_one, e, Option.toList_some, List.map_append]
  exact h.append (.cons _ _ .nil)
theorem num_all {it : List Nat} {vs ys : List Value} (hs : StrsAre vs ((parse (lineOf it)).map S)) (h : IntsAre ys (((parse (lineOf it)).take vs.toArray.size).map fun wd => num wd.tail.dropLast)) : IntsAre ys (readRow it) := by
  have e := StrsAre.length hs
  rw [List.length_map] at e
  rw [List.size_toArray, List.take_of_length_le (by omega)] at h
  exact h
theorem sub_snoc {it : List Nat} {j c : Nat} {ys : List Value} {t : Tok} (h : StrsAre ys (((it.take j).map (· - 128)).map (fun c => S [c]))) (e : it[j]? = some c) (hc : 128 ≤ c) :
    StrsAre (ys ++ [.str ⟨#[((c : Int) - 128).toNat]⟩ t]) (((it.take (j + 1)).map (· - 128)).map (fun c => S [c])) := by
  rw [List.take_add_one, e, Option.toList_some, List.map_append, List.map_append]
  have : ((c : Int) - 128).toNat = c - 128 := by omega
  rw [this]
  exact h.append' (.cons _ _ .nil)
theorem RJ.mk {items : List (List Nat)} {r D : Addr} {base news tls : List (Addr × Obj)} {i n : Nat} {m' : Str → Option Value} {its : Array Value} {it : List Nat} {ys : List Value} (hit : items[i]? = some it) (hrel : Rel2 (RowIn tls) its.toList ((items.take i).map readRow))
    (htr : ∀ p ∈ tls, p.1 ≠ r) (htn : ∀ p ∈ tls, ∀ q ∈ news, p.1 ≠ q.1) (hDr : D ≠ r) (hDn : ∀ q ∈ news, D ≠ q.1) (hys : IntsAre ys (readRow it)) (e1 : m' (Str.ofString "rows") = some (.ref r)) :
    RJ items r base news (i + 1) m' ((r, W.listOf (its.push (.ref D)) (n + 1)) :: (((D, LCg.lst ys) :: tls) ++ base)) := by
  refine ⟨its.push (.ref D), n + 1, (D, LCg.lst ys) :: tls, rfl, ?_, ?_, ?_, e1⟩
  · rw [Array.toList_push, List.take_add_one, hit, Option.toList_some, List.map_append]
    refine (hrel.mono fun v row h => h.mono fun p hp => List.mem_cons_of_mem _ hp).append (.cons ⟨D, ys, _, rfl, List.mem_cons_self .., hys⟩ .nil)
  · intro p hp
    rcases List.mem_cons.mp hp with e | hp
    · rw [e]; exact hDr
    · exact htr p hp
  · intro p hp q hq
    rcases List.mem_cons.mp hp with e | hp
    · rw [e]; exact hDn q hq
    · exact htn p hp q hq
theorem led_end {D8 r D : Addr} {o8 o oD : Obj} {own rest tls base : List (Addr × Obj)} (hrest : rest = own ++ (tls ++ base)) : ∀ p ∈ own ++ (r, o) :: (((D, oD) :: tls) ++ base), p ∈ (D, oD) :: (D8, o8) :: (r, o) :: rest := by
  intro p hp
  subst hrest
  simp only [List.cons_append, List.mem_cons, List.mem_append] at hp ⊢
  rcases hp with h | h | h | h | h
  · exact .inr (.inr (.inr (.inl h)))
  · exact .inr (.inr (.inl h))
  · exact .inl h
  · exact .inr (.inr (.inr (.inr (.inl h))))
  · exact .inr (.inr (.inr (.inr (.inr h))))
theorem turn_off {r D : Addr} {o o' oD : Obj} {own rest tls base : List (Addr × Obj)} (h : ∀ q ∈ own, ∀ p ∈ (r, o') :: (tls ++ base), p.1 ≠ q.1) (hD : ∀ p ∈ rest, p.1 ≠ D) (hrest : rest = own ++ (tls ++ base)) :
    ∀ q ∈ own, ∀ p ∈ (r, o) :: (((D, oD) :: tls) ++ base), p.1 ≠ q.1 := by
  intro q hq p hp
  rcases List.mem_cons.mp hp with e | hp
  · rw [e]; exact h q hq (r, o') (List.mem_cons_self ..)
  · rcases List.mem_cons.mp hp with e | hp
    · rw [e]; exact Ne.symm (hD q (hrest ▸ List.mem_append_left _ hq))
    · exact h q hq p (List.mem_cons_of_mem _ hp)
theorem read_done {wr : List Nat} {vs : List Value} {R : Value → List Int → Prop} {l : List Value} (hs : StrsAre vs ((parse wr).map S)) (h : Rel2 R l (((parse wr).take vs.length).map readRow)) : Rel2 R l (readW wr) := by
  have e := StrsAre.length hs
  rw [List.length_map] at e
  rw [List.take_of_length_le (by omega)] at h
  exact h
theorem t_read {w : World} {mean : ExcName → Option Value} {mg mb : Str → Option Value} (wr : List Nat) (t : Tok) (hw : wr.length ≤ 100000) (hok : ∀ it ∈ parse wr, ItOk it) :
   Tell w mean mg mb 99 30 [.str (S wr) t] (fun _ => True) (fun tl v => Nest tl v (readW wr)) := by
  unfold Tell
  w_top off
  k_fill
  intro dp un gd cn cs a ccd cl outer A₀ base h₀ L m news s Q E B F X N T hk hd hu hpre hret
  have hwS : (S wr).length ≤ 1000000 := by rw [S_len]; omega
  refine wpAny_call ?_
  k_dflt cell_enter
  k_steps
  refine Stop.go ?_
  (rename Fr _ _ _ _ => lF)
  (rename ∀ p ∈ news, _ => hr9)
  (with_unfolding_all refine' For_invVF lF ?k1 ?k2 ?_; (case k1 => exact rfl); (case k2 => exact rfl))
  k_steps
  refine Stop.go ?_
  k_dflt (refine' Tell.use (t_parse _ _ hwS) ?k1 ?k2 ?k3 ?k4 ?k5 ?kK ?kd ?ku trivial ?_; (case k1 => k_asm); (case k2 => k_asm); (case k3 => k_asm); (case k4 => k_asm); (case k5 => k_asm); (case kK => first | exact rfl | assumption); (case kd => ktr_room); (case ku => ktr_units))
  intro r9 tl9 h9 tk9 F9 N9 off9 ho9
  obtain ⟨d9, vs9, n9, rfl, rfl, hs9⟩ := ho9
  rw [S_cps] at hs9
  simp only [List.cons_append, List.nil_append] at N9
  dsimp only
  have hdr : @Ne Nat _ _ := off9 _ (List.mem_cons_self ..) _ (List.mem_singleton.mpr rfl)
  have hdn : ∀ q ∈ news, q.1 ≠ d9 := fun q hq => (off9 q (List.mem_cons_of_mem _ hq) _ (List.mem_singleton.mpr rfl)).symm
  have hrn : ∀ p ∈ news, p.1 ≠ _ := fun p hp => Nat.ne_of_lt (hr9 p hp)
  have N10 := led_swap N9
  clear N9
  with_unfolding_all refine' loop_led (l := d9) (vs := vs9) (nn := n9) (RJ (parse wr) ?r ((d9, listOf vs9 n9) :: news) news) rfl F9 N10 ?hj ?hsrc ?turn ?done
  case hj => exact ⟨#[], 0, [], rfl, .nil, (fun _ h => nomatch h), (fun _ h => nomatch h), by with_unfolding_all rfl⟩
  case hsrc =>
    rintro i m₁ nx ⟨its, n, tls, rfl, _, _, _, _⟩
    exact List.mem_cons_of_mem _ (List.mem_append_right _ (List.mem_cons_self ..))
  case turn =>
    intro i v m₁ news₁ h tk own hv hJ hoff F₁ N₁
    obtain ⟨its, n, tls, rfl, hrel, htr, htn, e1⟩ := hJ
    obtain ⟨p, hp, hpv⟩ := hs9.areOf.get i v hv
    obtain ⟨tv, rfl⟩ := ItemKind.str_is hpv
    obtain ⟨it, hit, rfl⟩ := S_at hp
    have hI9 := hok it (List.mem_of_getElem? hit)
    have hl9 : (S it).length ≤ 10000 := by rw [S_len]; exact hI9.len
    have hsI : its.size ≤ 1000000 := by
      have := Rel2.length hrel
      rw [List.length_map, Array.length_toList, List.length_take] at this
      have h2 := parse_len wr
      omega
    obtain ⟨rest, hrest⟩ : ∃ rest, rest = own ++ (tls ++ (d9, listOf vs9 n9) :: news) := ⟨_, rfl⟩
    have N₂ := led_front N₁
    rw [← hrest] at N₂
    have hrr : ∀ p ∈ rest, p.1 ≠ _ := rest_off hoff (fun p hp => by
      rcases List.mem_append.mp hp with h | h
      · exact htr p h
      · rcases List.mem_cons.mp h with h | h
        · rw [h]; exact hdr
        · exact hrn p h) hrest
    have F₂ := fr_show F₁ (Str.ofString "rows") ((if_neg (by decide +kernel)).trans e1)
    clear F₁ F9 lF N10 N₁
    k_steps
    · refine Stop.go ?_
      have hne : it ≠ [] := ne_of_len (by assumption)
      have hmt := meta_get hne (by assumption)
      refine comp_text (by k_asm) (by with_unfolding_all rfl) (by decide) (by rfl) (by decide) (by rfl) (by rfl) (by intro _; rfl) ?_
      walk1
      refine ⟨S it, _, _, rfl, by k_asm, by k_asm, (by show (S it).length ≤ _; rw [sizeLine_eq]; omega), ?_⟩
      intro g'
      refine comp_rest (fun i ys nw => nw = _ ∧ StrsAre ys (((it.take i).map (· - 128)).map (fun c => S [c]))) ?_ ?_ ⟨rfl, .nil⟩
      · intro j ys nw v I2 oI2 C oC D m₂ h2 tk2 E' hi hJ hv9 hC hm₂ F3 N3 off ne
        obtain ⟨rfl, hys⟩ := hJ
        obtain ⟨c, u, hcc, rfl⟩ := hv9
        have hcc' : it[j]? = some c := by rw [← S_cps it, Array.getElem?_toList]; exact hcc
        have hc1 := hI9.hid hne hmt c (List.mem_of_getElem? hcc')
        have hc2 : (0 : Int) ≤ (c : Int) - 128 := by omega
        have hc3 : (c : Int) - 128 ≤ 1114111 := by omega
        k_steps
        exact LCg.CompEnd.intro (by k_asm) (by k_asm) _ (fun p hp => hp) off trivial ⟨rfl, sub_snoc hys hcc' hc1.1⟩
      · intro ys nw hJ
        obtain ⟨rfl, hys⟩ := hJ
        intro D h3 tk3 F3 N3 off
        have hDr : @Ne Nat _ _ := off.1
        have hys' := sub_all hys
        dsimp only
        k_steps
        refine Stop.go ?_
        refine join_listW (News.isList (by k_asm) (List.mem_cons_self ..)) hys' (by decide +kernel) (ones_weight2 it hI9.len) ?_
        intro t5 k5
        rw [join_ones']
        have N4 := cb_drop N3 fun p hp => List.mem_cons_of_mem _ hp
        clear N3
        k_steps
        refine Stop.go ?_
        refine LCg.ListComp_U (F₀ := by k_asm) (by with_unfolding_all rfl) (by decide) (by rfl) (by decide) (by rfl) ?_
        k_steps
        refine Stop.go ?_
        have hLn : lineOf it = it.map (· - 128) := by unfold lineOf; rw [if_pos ⟨hne, hmt⟩]
        have hLl : (S (lineOf it)).length ≤ 1000000 := by rw [S_len]; exact Nat.le_trans (lineOf_len it) (Nat.le_trans hI9.len (by decide))
        rw [← hLn]
        k_dflt (refine' Tell.use (t_parse _ _ hLl) ?k1 ?k2 ?k3 ?k4 ?k5 ?kK ?kd ?ku trivial ?_; (case k1 => k_asm); (case k2 => k_asm); (case k3 => k_asm); (case k4 => k_asm); (case k5 => k_asm); (case kK => first | exact rfl | assumption); (case kd => ktr_room); (case ku => ktr_units))
        intro r8 tl8 h8 tk8 F8 N8 off8 ho8
        obtain ⟨d8, vs8, n8, rfl, rfl, hs8⟩ := ho8
        rw [S_cps] at hs8
        rw [← hLn] at F8
        simp only [List.cons_append, List.nil_append] at N8
        have hvl8 : vs8.length ≤ 10001 := by
          have h1 := StrsAre.length hs8
          rw [List.length_map] at h1
          have h2 := parse_len (lineOf it)
          have h3 := lineOf_len it
          have h4 := hI9.len
          omega
        refine LCg.CompSrc.ledger (by rfl) (by k_asm) (by k_asm) (List.mem_cons_self ..) (by rw [List.size_toArray, sizeLine_eq]; omega) ?_
        intro g'
        refine comp_rest (fun j ys nw => nw = _ ∧ IntsAre ys (((parse (lineOf it)).take j).map fun wd => num wd.tail.dropLast)) ?_ ?_ ⟨rfl, .nil⟩
        · intro j ys nw v I2 oI2 C oC D m₂ h2 tk2 E' hi hJ hv8 hC hm₂ F3 N3 off ne
          obtain ⟨rfl, hys⟩ := hJ
          obtain ⟨p8, hp8, hpv8⟩ := hs8.areOf.get j v (by simpa using hv8)
          obtain ⟨tv8, rfl⟩ := ItemKind.str_is hpv8
          obtain ⟨wd, hwd, rfl⟩ := S_at hp8
          have hW := hI9.words wd (List.mem_of_getElem? hwd)
          have hW1 : (S wd).length ≤ 10000 := by rw [S_len]; exact hW.1
          have hW2 := hW.2
          k_steps
          exact LCg.CompEnd.intro (by k_asm) (by k_asm) _ (fun p hp => hp) off (.inr ⟨_, List.mem_cons_self .., rfl, _, rfl⟩) ⟨rfl, num_snoc hys hwd⟩
        · intro ys nw hJ
          obtain ⟨rfl, hys⟩ := hJ
          intro D h3 tk3 F3 N3 off
          have hD1 : @Ne Nat _ _ := off.1
          have hD3 : @Ne Nat _ _ := off.2.1
          have hD4 := off1_mem off.2.2
          have hD5 : @Ne Nat _ _ := off8 _ (List.mem_cons_self ..) _ (List.mem_singleton.mpr rfl)
          dsimp only
          k_steps
          refine TurnEnd.of (nx := (_, W.listOf (its.push (.ref D)) (n + 1)) :: (((D, LCg.lst ys) :: tls) ++ (d9, listOf vs9 n9) :: news)) (.inl rfl) (by k_asm) (cb_drop (by assumption) (led_end hrest)) (turn_off hoff hD4 hrest) ?_
          exact RJ.mk hit hrel htr htn (Ne.symm hD3) (fun q hq => Ne.symm (hD4 q (hrest ▸ List.mem_append_right _ (List.mem_append_right _ (List.mem_cons_of_mem _ hq))))) (num_all hs8 hys) (by with_unfolding_all rfl)
    · have hnm : ¬ (it ≠ [] ∧ 127 < it.getD 0 0) := fun h9 => absurd h9.2 (nometa_get h9.1 (by assumption))
      refine Stop.go ?_
      refine LCg.ListComp_U (F₀ := by k_asm) (by with_unfolding_all rfl) (by decide) (by rfl) (by decide) (by rfl) ?_
      k_steps
      refine Stop.go ?_
      rw [sl_mid]
      have hLn : lineOf it = it.tail.dropLast := by unfold lineOf; rw [if_neg hnm]
      have hLl : (S (lineOf it)).length ≤ 1000000 := by rw [S_len]; exact Nat.le_trans (lineOf_len it) (Nat.le_trans hI9.len (by decide))
      rw [← hLn]
      k_dflt (refine' Tell.use (t_parse _ _ hLl) ?k1 ?k2 ?k3 ?k4 ?k5 ?kK ?kd ?ku trivial ?_; (case k1 => k_asm); (case k2 => k_asm); (case k3 => k_asm); (case k4 => k_asm); (case k5 => k_asm); (case kK => first | exact rfl | assumption); (case kd => ktr_room); (case ku => ktr_units))
      intro r8 tl8 h8 tk8 F8 N8 off8 ho8
      obtain ⟨d8, vs8, n8, rfl, rfl, hs8⟩ := ho8
      rw [S_cps] at hs8
      rw [sl_mid, ← hLn] at F8
      simp only [List.cons_append, List.nil_append] at N8
      have hvl8 : vs8.length ≤ 10001 := by
        have h1 := StrsAre.length hs8
        rw [List.length_map] at h1
        have h2 := parse_len (lineOf it)
        have h3 := lineOf_len it
        have h4 := hI9.len
        omega
      refine LCg.CompSrc.ledger (by rfl) (by k_asm) (by k_asm) (List.mem_cons_self ..) (by rw [List.size_toArray, sizeLine_eq]; omega) ?_
      intro g'
      refine comp_rest (fun j ys nw => nw = _ ∧ IntsAre ys (((parse (lineOf it)).take j).map fun wd => num wd.tail.dropLast)) ?_ ?_ ⟨rfl, .nil⟩
      · intro j ys nw v I2 oI2 C oC D m₂ h2 tk2 E' hi hJ hv8 hC hm₂ F3 N3 off ne
        obtain ⟨rfl, hys⟩ := hJ
        obtain ⟨p8, hp8, hpv8⟩ := hs8.areOf.get j v (by simpa using hv8)
        obtain ⟨tv8, rfl⟩ := ItemKind.str_is hpv8
        obtain ⟨wd, hwd, rfl⟩ := S_at hp8
        have hW := hI9.words wd (List.mem_of_getElem? hwd)
        have hW1 : (S wd).length ≤ 10000 := by rw [S_len]; exact hW.1
        have hW2 := hW.2
        k_steps
        exact LCg.CompEnd.intro (by k_asm) (by k_asm) _ (fun p hp => hp) off (.inr ⟨_, List.mem_cons_self .., rfl, _, rfl⟩) ⟨rfl, num_snoc hys hwd⟩
      · intro ys nw hJ
        obtain ⟨rfl, hys⟩ := hJ
        intro D h3 tk3 F3 N3 off
        have hD1 : @Ne Nat _ _ := off.1
        have hD3 : @Ne Nat _ _ := off.2.1
        have hD4 := off1_mem off.2.2
        have hD5 : @Ne Nat _ _ := off8 _ (List.mem_cons_self ..) _ (List.mem_singleton.mpr rfl)
        dsimp only
        k_steps
        refine TurnEnd.of (nx := (_, W.listOf (its.push (.ref D)) (n + 1)) :: (((D, LCg.lst ys) :: tls) ++ (d9, listOf vs9 n9) :: news)) (.inl rfl) (by k_asm) (cb_drop (by assumption) (led_end hrest)) (turn_off hoff hD4 hrest) ?_
        exact RJ.mk hit hrel htr htn (Ne.symm hD3) (fun q hq => Ne.symm (hD4 q (hrest ▸ List.mem_append_right _ (List.mem_append_right _ (List.mem_cons_of_mem _ hq))))) (num_all hs8 hys) (by with_unfolding_all rfl)
    · have hnm : ¬ (it ≠ [] ∧ 127 < it.getD 0 0) := fun h9 => h9.1 (nil_of_len (by assumption))
      refine Stop.go ?_
      refine LCg.ListComp_U (F₀ := by k_asm) (by with_unfolding_all rfl) (by decide) (by rfl) (by decide) (by rfl) ?_
      k_steps
      refine Stop.go ?_
      rw [sl_mid]
      have hLn : lineOf it = it.tail.dropLast := by unfold lineOf; rw [if_neg hnm]
      have hLl : (S (lineOf it)).length ≤ 1000000 := by rw [S_len]; exact Nat.le_trans (lineOf_len it) (Nat.le_trans hI9.len (by decide))
      rw [← hLn]
      k_dflt (refine' Tell.use (t_parse _ _ hLl) ?k1 ?k2 ?k3 ?k4 ?k5 ?kK ?kd ?ku trivial ?_; (case k1 => k_asm); (case k2 => k_asm); (case k3 => k_asm); (case k4 => k_asm); (case k5 => k_asm); (case kK => first | exact rfl | assumption); (case kd => ktr_room); (case ku => ktr_units))
      intro r8 tl8 h8 tk8 F8 N8 off8 ho8
      obtain ⟨d8, vs8, n8, rfl, rfl, hs8⟩ := ho8
      rw [S_cps] at hs8
      rw [sl_mid, ← hLn] at F8
      simp only [List.cons_append, List.nil_append] at N8
      have hvl8 : vs8.length ≤ 10001 := by
        have h1 := StrsAre.length hs8
        rw [List.length_map] at h1
        have h2 := parse_len (lineOf it)
        have h3 := lineOf_len it
        have h4 := hI9.len
        omega
      refine LCg.CompSrc.ledger (by rfl) (by k_asm) (by k_asm) (List.mem_cons_self ..) (by rw [List.size_toArray, sizeLine_eq]; omega) ?_
      intro g'
      refine comp_rest (fun j ys nw => nw = _ ∧ IntsAre ys (((parse (lineOf it)).take j).map fun wd => num wd.tail.dropLast)) ?_ ?_ ⟨rfl, .nil⟩
      · intro j ys nw v I2 oI2 C oC D m₂ h2 tk2 E' hi hJ hv8 hC hm₂ F3 N3 off ne
        obtain ⟨rfl, hys⟩ := hJ
        obtain ⟨p8, hp8, hpv8⟩ := hs8.areOf.get j v (by simpa using hv8)
        obtain ⟨tv8, rfl⟩ := ItemKind.str_is hpv8
        obtain ⟨wd, hwd, rfl⟩ := S_at hp8
        have hW := hI9.words wd (List.mem_of_getElem? hwd)
        have hW1 : (S wd).length ≤ 10000 := by rw [S_len]; exact hW.1
        have hW2 := hW.2
        k_steps
        exact LCg.CompEnd.intro (by k_asm) (by k_asm) _ (fun p hp => hp) off (.inr ⟨_, List.mem_cons_self .., rfl, _, rfl⟩) ⟨rfl, num_snoc hys hwd⟩
      · intro ys nw hJ
        obtain ⟨rfl, hys⟩ := hJ
        intro D h3 tk3 F3 N3 off
        have hD1 : @Ne Nat _ _ := off.1
        have hD3 : @Ne Nat _ _ := off.2.1
        have hD4 := off1_mem off.2.2
        have hD5 : @Ne Nat _ _ := off8 _ (List.mem_cons_self ..) _ (List.mem_singleton.mpr rfl)
        dsimp only
        k_steps
        refine TurnEnd.of (nx := (_, W.listOf (its.push (.ref D)) (n + 1)) :: (((D, LCg.lst ys) :: tls) ++ (d9, listOf vs9 n9) :: news)) (.inl rfl) (by k_asm) (cb_drop (by assumption) (led_end hrest)) (turn_off hoff hD4 hrest) ?_
        exact RJ.mk hit hrel htr htn (Ne.symm hD3) (fun q hq => Ne.symm (hD4 q (hrest ▸ List.mem_append_right _ (List.mem_append_right _ (List.mem_cons_of_mem _ hq))))) (num_all hs8 hys) (by with_unfolding_all rfl)
  case done =>
    intro m₁ news₁ h tk hJ F₁ N₁
    obtain ⟨its, n, tls, rfl, hrel, htr, htn, e1⟩ := hJ
    have F₂ := fr_show F₁ (Str.ofString "rows") e1
    clear F₁ F9 lF N10
    dsimp only
    k_steps
    refine hret _ ((_, W.listOf its n) :: tls) _ _ (by k_asm) (cb_drop (by assumption) ?_) ?_ ⟨_, its, n, rfl, List.mem_cons_self .., ?_⟩
    · intro p hp
      rcases List.mem_cons.mp hp with e | hp
      · rw [e]; exact List.mem_cons_self ..
      · rcases List.mem_append.mp hp with hp | hp
        · exact List.mem_cons_of_mem _ (List.mem_append_left _ hp)
        · exact List.mem_cons_of_mem _ (List.mem_append_right _ (List.mem_cons_of_mem _ hp))
    · intro q hq p hp
      rcases List.mem_cons.mp hp with e | hp
      · rw [e]; exact Ne.symm (hrn q hq)
      · exact htn p hp q hq
    · exact read_done hs9 (hrel.mono fun v row h => h.mono fun p hp => List.mem_cons_of_mem _ hp)
end Mine

/-! part RowsC -/
namespace Mine
local macro_rules | `(tactic| walk_at "exec For Name Name cons nil") => `(tactic| (k_here; refine stop_here ?_))
local macro_rules | `(tactic| k_all) => `(tactic| assumption)
local macro_rules | `(tactic| walk_at "subscriptTail") => `(tactic| (k_here; refine stop_here ?_))
local macro_rules | `(tactic| walk_at "call ref") => `(tactic| (k_here; (with_reducible show wpAny _ _ (call (Value.ref _) _) _ _ _); k_dflt (refine' TellV.use ?kH ?k1 ?k2 ?k3 ?k4 ?k5 ?kK ?kd ?ku ?_; (case k1 => k_asm); (case k2 => k_asm); (case k3 => k_asm); (case k4 => k_asm); (case k5 => k_asm); (case kK => first | exact rfl | assumption); (case kH => exact t_code _ _); (case kd => ktr_room); (case ku => ktr_units); k_whole); intro r9 h9 tk9 F9 N9 ho9; (obtain ⟨c9, t9, e9⟩ := ho9; subst e9); (try dsimp only); (try k_fold)))

section
variable {prog : Program} {w : World} {A : Around} {E : Value → Shared → Prop} {s : Shared}
theorem item_last {value slice : PySem.Expr} {l : Addr} {items : Array Value} {pre : List Value} {u : Tok} {v : Value} {Q : Value → Shared → Prop}
    (hl : s.heap.IsList l items) (hx : items.toList = pre ++ [v]) (h : Q v s)
    (hs : subscripted slice false (.ref l) (.int (-1) u) = operate [.ref l, .int (-1) u] (getItem (.ref l) (.int (-1) u)) := by with_unfolding_all rfl) :
    wpAny (model prog w) A (subscriptTail value slice (.ref l) (.int (-1) u)) Q E s := by
  have hsz : items.size = pre.length + 1 := by rw [← Array.length_toList, hx, List.length_append, List.length_singleton]
  refine tail_any hl.typeIs slot_list_getitem.lookup (wpAny_getItem_list_neg hl (by decide) (by rw [hsz]; omega) (by decide) ?_ h) hs
  rw [← Array.getElem?_toList, hx, hsz, show (-1 + ((pre.length + 1 : Nat) : Int)).toNat = pre.length by omega]
  simp
end
abbrev Ent := Addr × Array Value × Nat
def ent (x : Ent) : Addr × Obj := (x.1, W.listOf x.2.1 x.2.2)
def IntsN (its : Array Value) (N : Nat) : Prop := ∃ ns, IntsAre its.toList ns ∧ ns.length ≤ N
/-- the rows as they stand: the last one's list first, then those before it -/
def OJ (r : Addr) (news : List (Addr × Obj)) (i : Nat) (m : Str → Option Value) (nx : List (Addr × Obj)) : Prop :=
  ∃ (its : Array Value) (n : Nat) (a : Addr) (ua : Array Value) (k : Nat) (pre : List Ent), nx = (r, W.listOf its n) :: (a, W.listOf ua k) :: (pre.map ent ++ news) ∧ its.toList = (pre.reverse.map fun x : Ent => Value.ref x.1) ++ [.ref a] ∧ 2 ≤ pre.length ∧ pre.length ≤ 4 ∧
    @Ne Nat a r ∧ (∀ p ∈ pre.map ent ++ news, p.1 ≠ r) ∧ (∀ p ∈ pre.map ent ++ news, p.1 ≠ a) ∧ (∀ p ∈ pre, ∀ q ∈ news, p.1 ≠ q.1) ∧
    IntsN ua (3 + i) ∧ (∀ x ∈ pre, IntsN x.2.1 (3 + i)) ∧ m (Str.ofString "rows") = some (.ref r)

theorem allLt_mem {d : Nat} {l : List (Addr × Obj)} (h : AllLt d l) : ∀ p ∈ l, p.1 < d := by
  induction l with
  | nil => intro p hp; cases hp
  | cons q r ih =>
    intro p hp
    rcases List.mem_cons.mp hp with e | hp
    · rw [e]; exact h.1
    · exact ih h.2 p hp
theorem allLt_sub {d : Nat} {l l' : List (Addr × Obj)} (h : AllLt d l) (hs : ∀ p ∈ l', p ∈ l) : AllLt d l' := by
  induction l' with
  | nil => exact True.intro
  | cons q r ih => exact ⟨allLt_mem h q (hs q (List.mem_cons_self ..)), ih fun p hp => hs p (List.mem_cons_of_mem _ hp)⟩
theorem IntsN.mono {its : Array Value} {a b : Nat} (h : IntsN its a) (l : a ≤ b) : IntsN its b := by
  obtain ⟨ns, h1, h2⟩ := h
  exact ⟨ns, h1, Nat.le_trans h2 l⟩
theorem OJ.mkA {r la D : Addr} {news : List (Addr × Obj)} {i n k : Nat} {m' : Str → Option Value} {its ua : Array Value} {pre : List Ent} (hits : its.toList = (pre.reverse.map fun x : Ent => Value.ref x.1) ++ [.ref la]) (h2 : 2 ≤ pre.length) (h4 : pre.length < 4)
    (har : @Ne Nat la r) (hrr : ∀ p ∈ pre.map ent ++ news, p.1 ≠ r) (_hra : ∀ p ∈ pre.map ent ++ news, p.1 ≠ la) (hpn : ∀ p ∈ pre, ∀ q ∈ news, p.1 ≠ q.1) (hua : IntsN ua (3 + i)) (hpi : ∀ x ∈ pre, IntsN x.2.1 (3 + i))
    (d1 : r < D) (d2 : la < D) (d3 : AllLt D (pre.map ent ++ news)) (e1 : m' (Str.ofString "rows") = some (.ref r)) :
    OJ r news (i + 1) m' ((r, W.listOf (its.push (.ref D)) (n + 1)) :: (D, W.listOf #[] 0) :: (((la, ua, k) :: pre).map ent ++ news)) := by
  refine ⟨_, _, D, _, _, (la, ua, k) :: pre, rfl, ?_, by rw [List.length_cons]; omega, by rw [List.length_cons]; omega, Nat.ne_of_gt d1, ?_, ?_, ?_, ⟨[], .nil, Nat.zero_le _⟩, ?_, e1⟩
  · rw [Array.toList_push, hits, List.reverse_cons, List.map_append]; rfl
  · intro p hp
    rcases List.mem_cons.mp hp with e | hp
    · rw [e]; exact har
    · exact hrr p hp
  · intro p hp
    rcases List.mem_cons.mp hp with e | hp
    · rw [e]; exact Nat.ne_of_lt d2
    · exact Nat.ne_of_lt (allLt_mem d3 p hp)
  · intro p hp q hq
    rcases List.mem_cons.mp hp with e | hp
    · rw [e]; exact Ne.symm (_hra q (List.mem_append_right _ hq))
    · exact hpn p hp q hq
  · intro x hx
    rcases List.mem_cons.mp hx with e | hx
    · rw [e]; exact hua.mono (by omega)
    · exact (hpi x hx).mono (by omega)
theorem OJ.mkB {r la : Addr} {news : List (Addr × Obj)} {i n k' : Nat} {m' : Str → Option Value} {its ua : Array Value} {pre : List Ent} {c : Int} {t : Tok} (hits : its.toList = (pre.reverse.map fun x : Ent => Value.ref x.1) ++ [.ref la]) (h2 : 2 ≤ pre.length) (h4 : pre.length ≤ 4)
    (har : @Ne Nat la r) (hrr : ∀ p ∈ pre.map ent ++ news, p.1 ≠ r) (hra : ∀ p ∈ pre.map ent ++ news, p.1 ≠ la) (hpn : ∀ p ∈ pre, ∀ q ∈ news, p.1 ≠ q.1) (hua : IntsN ua (3 + i)) (hpi : ∀ x ∈ pre, IntsN x.2.1 (3 + i))
    (e1 : m' (Str.ofString "rows") = some (.ref r)) :
    OJ r news (i + 1) m' ((r, W.listOf its n) :: (la, W.listOf (ua.push (.int c t)) k') :: (pre.map ent ++ news)) := by
  refine ⟨its, n, la, _, _, pre, rfl, hits, h2, h4, har, hrr, hra, hpn, ?_, fun x hx => (hpi x hx).mono (by omega), e1⟩
  obtain ⟨ns, h1, h3⟩ := hua
  refine ⟨ns ++ [c], ?_, by rw [List.length_append, List.length_singleton]; omega⟩
  rw [Array.toList_push]
  exact h1.append (.cons _ _ .nil)
theorem led_a {D r la : Addr} {oD o : Obj} {ua : Array Value} {k : Nat} {own rest news : List (Addr × Obj)} {pre : List Ent} (hrest : rest = own ++ (pre.map ent ++ news)) :
    ∀ p ∈ own ++ (r, o) :: (D, oD) :: (((la, ua, k) :: pre).map ent ++ news), p ∈ (D, oD) :: (r, o) :: (la, W.listOf ua k) :: rest := by
  intro p hp
  subst hrest
  rw [List.map_cons] at hp
  simp only [List.cons_append, List.mem_cons, List.mem_append] at hp ⊢
  rcases hp with h | h | h | h | h
  · exact .inr (.inr (.inr (.inl h)))
  · exact .inr (.inl h)
  · exact .inl h
  · exact .inr (.inr (.inl h))
  · exact .inr (.inr (.inr (.inr h)))
theorem off_a {D r la : Addr} {oD o o' : Obj} {ua : Array Value} {k : Nat} {own rest news : List (Addr × Obj)} {pre : List Ent} (h : ∀ q ∈ own, ∀ p ∈ (r, o') :: (la, W.listOf ua k) :: (pre.map ent ++ news), p.1 ≠ q.1) (hrest : rest = own ++ (pre.map ent ++ news)) (hD : AllLt D rest) :
    ∀ q ∈ own, ∀ p ∈ (r, o) :: (D, oD) :: (((la, ua, k) :: pre).map ent ++ news), p.1 ≠ q.1 := by
  intro q hq p hp
  rcases List.mem_cons.mp hp with e | hp
  · rw [e]; exact h q hq (r, o') (List.mem_cons_self ..)
  · rcases List.mem_cons.mp hp with e | hp
    · rw [e]; exact Nat.ne_of_gt (allLt_mem hD q (hrest ▸ List.mem_append_left _ hq))
    · exact h q hq p (List.mem_cons_of_mem _ hp)
theorem off_b {r la : Addr} {o o1 o2 : Obj} {own rest : List (Addr × Obj)} (h : ∀ q ∈ own, ∀ p ∈ (r, o) :: (la, o1) :: rest, p.1 ≠ q.1) : ∀ q ∈ own, ∀ p ∈ (r, o) :: (la, o2) :: rest, p.1 ≠ q.1 := by
  intro q hq p hp
  rcases List.mem_cons.mp hp with e | hp
  · rw [e]; exact h q hq (r, o) (List.mem_cons_self ..)
  · rcases List.mem_cons.mp hp with e | hp
    · rw [e]; exact h q hq (la, o1) (List.mem_cons_of_mem _ (List.mem_cons_self ..))
    · exact h q hq p (List.mem_cons_of_mem _ (List.mem_cons_of_mem _ hp))
theorem led_two {h₀ h : Heap} {L : Addr} {own news : List (Addr × Obj)} {x y : Addr × Obj} (N : News h₀ L h (own ++ x :: y :: news)) : News h₀ L h (x :: y :: (own ++ news)) := fun p hp => N p (by
  simp only [List.mem_cons, List.mem_append] at hp ⊢
  rcases hp with h | h | h | h
  · exact .inr (.inl h)
  · exact .inr (.inr (.inl h))
  · exact .inl h
  · exact .inr (.inr (.inr h)))
theorem led_home {h₀ h : Heap} {L : Addr} {own news rest : List (Addr × Obj)} {x y : Addr × Obj} (N : News h₀ L h (x :: y :: rest)) (e : rest = own ++ news) : News h₀ L h (own ++ x :: y :: news) := fun p hp => N p (by
  subst e
  simp only [List.mem_cons, List.mem_append] at hp ⊢
  rcases hp with h | h | h | h
  · exact .inr (.inr (.inl h))
  · exact .inl h
  · exact .inr (.inl h)
  · exact .inr (.inr (.inr h)))
theorem rows_rel {tl : List (Addr × Obj)} {N : Nat} : ∀ {l : List Ent}, (∀ x ∈ l, ent x ∈ tl ∧ IntsN x.2.1 N) → ∃ rows : List (List Int), Rel2 (RowIn tl) (l.map fun x : Ent => Value.ref x.1) rows ∧ rows.length = l.length ∧ ∀ row ∈ rows, row.length ≤ N := by
  intro l
  induction l with
  | nil => intro _; exact ⟨[], .nil, rfl, fun _ h => nomatch h⟩
  | cons x r ih =>
    intro h
    obtain ⟨rows, h1, h2, h3⟩ := ih fun y hy => h y (List.mem_cons_of_mem _ hy)
    obtain ⟨hm, ns, hn, hl⟩ := h x (List.mem_cons_self ..)
    refine ⟨ns :: rows, .cons ⟨x.1, x.2.1.toList, x.2.2, rfl, by unfold listOf; rw [Array.toArray_toList]; exact hm, hn⟩ h1, by rw [List.length_cons, List.length_cons, h2], ?_⟩
    intro row hr
    rcases List.mem_cons.mp hr with e | hr
    · rw [e]; exact hl
    · exact h3 row hr
theorem rows_nest {r la : Addr} {n k len : Nat} {its ua : Array Value} {pre : List Ent} (hits : its.toList = (pre.reverse.map fun x : Ent => Value.ref x.1) ++ [.ref la]) (h2 : 2 ≤ pre.length) (h4 : pre.length ≤ 4) (hlen : len ≤ 6)
    (hua : IntsN ua (3 + len)) (hpi : ∀ x ∈ pre, IntsN x.2.1 (3 + len)) :
    ∃ rows, Nest ((r, W.listOf its n) :: (la, W.listOf ua k) :: pre.map ent) (.ref r) rows ∧ 3 ≤ rows.length ∧ rows.length ≤ 5 ∧ ∀ row ∈ rows, row.length ≤ 9 := by
  have e : its.toList = (pre.reverse ++ [(la, ua, k)]).map fun x : Ent => Value.ref x.1 := by rw [List.map_append]; exact hits
  obtain ⟨rows, r1, r2, r3⟩ := rows_rel (tl := (r, W.listOf its n) :: (la, W.listOf ua k) :: pre.map ent) (N := 9) (l := pre.reverse ++ [(la, ua, k)]) fun x hx => by
    rcases List.mem_append.mp hx with hx | hx
    · have hx := List.mem_reverse.mp hx
      exact ⟨List.mem_cons_of_mem _ (List.mem_cons_of_mem _ (List.mem_map_of_mem hx)), (hpi x hx).mono (by omega)⟩
    · rw [List.mem_singleton.mp hx]
      exact ⟨List.mem_cons_of_mem _ (List.mem_cons_self ..), hua.mono (by omega)⟩
  rw [List.length_append, List.length_reverse, List.length_singleton] at r2
  exact ⟨rows, ⟨r, its, n, rfl, List.mem_cons_self .., e ▸ r1⟩, by omega, by omega, r3⟩
theorem t_rows {w : World} {mean : ExcName → Option Value} {mg mb : Str → Option Value} {lc : Addr} {vs : List Value} {nc : Nat} {ns : List Int} (hi : IntsAre vs ns) (hlen : ns.length ≤ 6) :
   Tell w mean mg mb 75 4 [.ref lc] (fun news => (lc, listOf vs nc) ∈ news) (fun tl v => ∃ rows, Nest tl v rows ∧ 3 ≤ rows.length ∧ rows.length ≤ 5 ∧ ∀ row ∈ rows, row.length ≤ 9) := by
  unfold Tell
  w_top off
  k_fill
  intro dp un gd cn cs a ccd cl outer A₀ base h₀ L m news s Q E B F X N T hk hd hu hpre hret
  refine wpAny_call ?_
  k_dflt cell_enter
  k_steps
  refine Stop.go ?_
  (rename Fr _ _ _ _ => lF)
  (rename News _ _ _ _ => lN)
  (rename ∀ p ∈ news, _ => q0)
  (rename _ < _ ∧ AllLt _ _ => q1)
  (rename _ < _ ∧ _ < _ ∧ AllLt _ _ => q2)
  (rename _ < _ ∧ _ < _ ∧ _ < _ ∧ AllLt _ _ => q3)
  (with_unfolding_all refine' For_invVF lF ?k1 ?k2 ?_; (case k1 => exact rfl); (case k2 => exact rfl))
  walk1
  with_unfolding_all refine' loop_led (l := lc) (vs := vs) (nn := nc) (OJ ?r news) rfl lF lN ?hj ?hsrc ?turn ?done
  case hj =>
    refine ⟨_, _, _, _, _, [(_, #[], 0), (_, #[.int 92 _, .int 34 _, .int 255 _], 0)], rfl, rfl, Nat.le_refl 2, Nat.le_of_ble_eq_true rfl, ?_, ?_, ?_, ?_, ⟨[], .nil, by decide⟩, ?_, by with_unfolding_all rfl⟩
    · omega
    · intro p hp
      rcases List.mem_cons.mp hp with e | hp
      · rw [e]; exact Nat.ne_of_lt q3.2.1
      · rcases List.mem_cons.mp hp with e | hp
        · rw [e]; exact Nat.ne_of_lt q3.2.2.1
        · exact Nat.ne_of_lt (allLt_mem q3.2.2.2 p hp)
    · intro p hp
      rcases List.mem_cons.mp hp with e | hp
      · rw [e]; exact Nat.ne_of_lt q2.1
      · rcases List.mem_cons.mp hp with e | hp
        · rw [e]; exact Nat.ne_of_lt q2.2.1
        · exact Nat.ne_of_lt (allLt_mem q2.2.2 p hp)
    · intro p hp q hq
      rcases List.mem_cons.mp hp with e | hp
      · rw [e]; exact Nat.ne_of_gt (allLt_mem q1.2 q hq)
      · rw [List.mem_singleton.mp hp]; exact Nat.ne_of_gt (q0 q hq)
    · intro x hx
      rcases List.mem_cons.mp hx with e | hx
      · rw [e]; exact ⟨[], .nil, by decide⟩
      · rw [List.mem_singleton.mp hx]; exact ⟨[92, 34, 255], .cons _ _ (.cons _ _ (.cons _ _ .nil)), by decide⟩
  case hsrc =>
    rintro i m₁ nx ⟨its, n, a, ua, k, pre, rfl, _⟩
    exact List.mem_cons_of_mem _ (List.mem_cons_of_mem _ (List.mem_append_right _ hpre))
  case turn =>
    intro i v m₁ news₁ h tk own hv hJ hoff F₁ N₁
    obtain ⟨its, n, la, ua, k, pre, rfl, hits, h2, h4, har, hrr, hra, hpn, hua, hpi, e1⟩ := hJ
    obtain ⟨c, tc, rfl, hc⟩ := IntsAre.at hi i v hv
    have hi6 : i < 6 := by
      have := (List.getElem?_eq_some_iff.mp hv).1
      have := hi.length
      omega
    have hsz : its.size = pre.length + 1 := by rw [← Array.length_toList, hits, List.length_append, List.length_map, List.length_reverse, List.length_singleton]
    have hszI : its.size ≤ 1000 := by omega
    have hszU : ua.size ≤ 1000 := by
      obtain ⟨ns9, h9, hl9⟩ := hua
      have := h9.length
      rw [Array.length_toList] at this
      omega
    obtain ⟨rest, hrest⟩ : ∃ rest, rest = own ++ (pre.map ent ++ news) := ⟨_, rfl⟩
    have N₂ := led_two N₁
    rw [← hrest] at N₂
    have hor : ∀ p ∈ rest, p.1 ≠ _ := fun p hp => (List.mem_append.mp (hrest ▸ hp)).elim (fun q => (hoff p q _ (List.mem_cons_self ..)).symm) (hrr p)
    have hoa : ∀ p ∈ rest, p.1 ≠ la := fun p hp => (List.mem_append.mp (hrest ▸ hp)).elim (fun q => (hoff p q _ (List.mem_cons_of_mem _ (List.mem_cons_self ..))).symm) (hra p)
    have F₂ := fr_show F₁ (Str.ofString "rows") ((if_neg (by decide +kernel)).trans e1)
    clear F₁ lF lN q0 q1 q2 q3 N₁
    k_steps
    · (rename _ < _ ∧ _ < _ ∧ AllLt _ _ => q9)
      refine TurnEnd.of (nx := (_, W.listOf (its.push (.ref _)) (n + 1)) :: (_, W.listOf #[] 0) :: (((la, ua, k) :: pre).map ent ++ news)) (.inl rfl) (by k_asm) (cb_drop (by assumption) (led_a hrest)) (off_a hoff hrest q9.2.2) ?_
      exact OJ.mkA hits h2 (by omega) har hrr hra hpn hua hpi q9.1 q9.2.1 (allLt_sub q9.2.2 fun p hp => hrest ▸ List.mem_append_right _ hp) (by with_unfolding_all rfl)
    · refine Stop.go ?_
      refine item_last (News.isList (by k_asm) (List.mem_cons_self ..)) hits ?_
      k_steps
      refine TurnEnd.of (nx := (_, W.listOf its n) :: (la, W.listOf (ua.push (.int _ _)) (k + 1)) :: (pre.map ent ++ news)) (.inl rfl) (by k_asm) (led_home (by k_asm) hrest) (off_b hoff) ?_
      exact OJ.mkB hits h2 h4 har hrr hra hpn hua hpi (by with_unfolding_all rfl)
    · refine Stop.go ?_
      refine item_last (News.isList (by k_asm) (List.mem_cons_self ..)) hits ?_
      k_steps
      refine TurnEnd.of (nx := (_, W.listOf its n) :: (la, W.listOf (ua.push (.int _ _)) (k + 1)) :: (pre.map ent ++ news)) (.inl rfl) (by k_asm) (led_home (by k_asm) hrest) (off_b hoff) ?_
      exact OJ.mkB hits h2 h4 har hrr hra hpn hua hpi (by with_unfolding_all rfl)
  case done =>
    intro m₁ news₁ h tk hJ F₁ N₁
    obtain ⟨its, n, la, ua, k, pre, rfl, hits, h2, h4, har, hrr, hra, hpn, hua, hpi, e1⟩ := hJ
    have F₂ := fr_show F₁ (Str.ofString "rows") e1
    clear F₁ lF lN q0 q1 q2 q3
    dsimp only
    k_steps
    refine hret _ ((_, W.listOf its n) :: (la, W.listOf ua k) :: pre.map ent) _ _ (by k_asm) (by k_asm) ?_ ?_
    · intro q hq p hp
      rcases List.mem_cons.mp hp with e | hp
      · rw [e]; exact Ne.symm (hrr q (List.mem_append_right _ hq))
      · rcases List.mem_cons.mp hp with e | hp
        · rw [e]; exact Ne.symm (hra q (List.mem_append_right _ hq))
        · obtain ⟨x, hx, rfl⟩ := List.mem_map.mp hp
          exact hpn x hx q hq
    · exact rows_nest hits h2 h4 (Nat.le_trans (Nat.le_of_eq hi.length) hlen) hua hpi
end Mine

/-! part LawL -/
namespace Mine
theorem unc_len (n : Int) : (unc n).length ≤ 3 := by
  unfold unc
  rw [List.length_append]
  have h1 : (if n / 128 % 2 = 1 then [33] else ([] : List Nat)).length ≤ 1 := by split <;> simp
  have h2 : (if n = 127 then [94, 63] else if 32 ≤ n % 128 ∧ n % 128 ≤ 126 then [(n % 128).toNat] else [94, if n % 128 = 127 then 159 else (n % 128).toNat + 64]).length ≤ 2 := by (repeat' split) <;> simp
  omega
theorem unc_len9 (n : Int) : (S (unc n)).length ≤ 100000 := by rw [S_len]; exact Nat.le_trans (unc_len n) (by decide)
def lineR (row : List Int) : List Nat := joinL [44, 32] (row.map fun c => quo (unc c))
theorem quo_len (l : List Nat) : (quo l).length ≤ 2 * l.length + 2 := by
  have := escC_len l
  unfold quo
  rw [List.length_cons, List.length_append, List.length_singleton]; omega
theorem row_weight {row : List Int} (h : row.length ≤ 9) : (((row.map fun c => quo (unc c)).map S).map (·.length)).sum + ((row.map fun c => quo (unc c)).map S).length ≤ 1048576 := by
  have h1 : ∀ x ∈ row.map fun c => quo (unc c), x.length ≤ 8 := fun x hx => by
    obtain ⟨c, _, rfl⟩ := List.mem_map.mp hx
    have := quo_len (unc c)
    have := unc_len c
    omega
  have h2 := sum_le h1
  rw [List.length_map] at h2 ⊢
  rw [List.length_map]
  omega
theorem o_sep : Str.ofString ", " = S [44, 32] := by decide +kernel
theorem Rel2.at {α β : Type} {R : α → β → Prop} {as : List α} {bs : List β} (h : Rel2 R as bs) : ∀ {i : Nat} {a : α}, as[i]? = some a → ∃ b, bs[i]? = some b ∧ R a b := by
  induction h with
  | nil => intro i a e; simp at e
  | cons r _ ih =>
    intro i a e
    cases i with
    | zero => simp at e; exact ⟨_, rfl, e ▸ r⟩
    | succ i => simp at e; obtain ⟨b, h1, h2⟩ := ih e; exact ⟨b, by simpa using h1, h2⟩
theorem quo_snoc {row : List Int} {j : Nat} {c : Int} {ys : List Value} {t : Tok} (h : StrsAre ys (((row.take j).map fun c => quo (unc c)).map S)) (e : row[j]? = some c) :
    StrsAre (ys ++ [.str (S (quo (S (unc c)).cps.toList)) t]) (((row.take (j + 1)).map fun c => quo (unc c)).map S) := by
  rw [List.take_add_one, e, Option.toList_some, List.map_append, List.map_append, S_cps]
  exact h.append' (.cons _ _ .nil)
theorem quo_all {row : List Int} {us ys : List Value} (hu : IntsAre us row) (h : StrsAre ys (((row.take us.toArray.size).map fun c => quo (unc c)).map S)) : StrsAre ys.toArray.toList ((row.map fun c => quo (unc c)).map S) := by
  rw [List.take_of_length_le (by rw [List.size_toArray, hu.length]; exact Nat.le_refl _)] at h
  exact h
theorem line_snoc {rows : List (List Int)} {i : Nat} {row : List Int} {ys : List Value} {t : Tok} (h : StrsAre ys (((rows.take i).map lineR).map S)) (e : rows[i]? = some row) :
    StrsAre (ys ++ [.str (S (lineR row)) t]) (((rows.take (i + 1)).map lineR).map S) := by
  rw [List.take_add_one, e, Option.toList_some, List.map_append, List.map_append]
  exact h.append' (.cons _ _ .nil)
theorem led_8 {a b : Addr × Obj} {tl : List (Addr × Obj)} (x0 x1 x2 x3 : Addr × Obj) : ∀ p ∈ a :: b :: tl, p ∈ x0 :: a :: b :: x1 :: x2 :: x3 :: tl := by
  intro p hp
  rcases List.mem_cons.mp hp with h | hp
  · rw [h]; exact List.mem_cons_of_mem _ (List.mem_cons_self ..)
  · rcases List.mem_cons.mp hp with h | hp
    · rw [h]; exact List.mem_cons_of_mem _ (List.mem_cons_of_mem _ (List.mem_cons_self ..))
    · exact List.mem_cons_of_mem _ (List.mem_cons_of_mem _ (List.mem_cons_of_mem _ (List.mem_cons_of_mem _ (List.mem_cons_of_mem _ (List.mem_cons_of_mem _ hp)))))
theorem same_snoc {row : List Int} {j : Nat} {c : Int} {ys : List Value} {t : Tok} (h : IntsAre ys ((row.take j).map same)) (e : row[j]? = some c) : IntsAre (ys ++ [.int (same c) t]) ((row.take (j + 1)).map same) := by
  rw [List.take_add_one, e, Option.toList_some, List.map_append]
  exact h.append (.cons _ _ .nil)
theorem same_all {row : List Int} {us ys : List Value} (hu : IntsAre us row) (h : IntsAre ys ((row.take us.toArray.size).map same)) : IntsAre ys (row.map same) := by
  rw [List.take_of_length_le (by rw [List.size_toArray, hu.length]; exact Nat.le_refl _)] at h
  exact h
theorem same_row {rows : List (List Int)} {i : Nat} {row : List Int} {ys zs : List Value} {D : Addr} {tm : List (Addr × Obj)} (h : Rel2 (RowIn tm) ys ((rows.take i).map (List.map same))) (e : rows[i]? = some row) (hz : IntsAre zs (row.map same)) :
    Rel2 (RowIn ((D, LCg.lst zs) :: tm)) (ys ++ [.ref D]) ((rows.take (i + 1)).map (List.map same)) := by
  rw [List.take_add_one, e, Option.toList_some, List.map_append]
  exact (h.mono fun v r hr => hr.mono fun p hp => List.mem_cons_of_mem _ hp).append (.cons ⟨D, zs, _, rfl, List.mem_cons_self .., hz⟩ .nil)
theorem led_c (I C D D2 : Addr × Obj) {rest : List (Addr × Obj)} : ∀ p ∈ I :: C :: D :: D2 :: rest, p ∈ D2 :: I :: C :: D :: rest := by
  intro p hp
  simp only [List.mem_cons] at hp ⊢
  rcases hp with h | h | h | h | h
  · exact .inr (.inl h)
  · exact .inr (.inr (.inl h))
  · exact .inr (.inr (.inr (.inl h)))
  · exact .inl h
  · exact .inr (.inr (.inr (.inr h)))
theorem line_all {rows : List (List Int)} {its : Array Value} {ys : List Value} (hsz : its.size = rows.length) (h : StrsAre ys (((rows.take its.size).map lineR).map S)) : StrsAre ys ((rows.map lineR).map S) := by
  rw [List.take_of_length_le (by omega)] at h
  exact h
theorem meant_all {rows : List (List Int)} {its : Array Value} {ys : List Value} {R : Value → List Int → Prop} (hsz : its.size = rows.length) (h : Rel2 R ys ((rows.take its.size).map (List.map same))) : Rel2 R ys (rows.map (List.map same)) := by
  rw [List.take_of_length_le (by omega)] at h
  exact h
theorem led_12 {h₀ h : Heap} {L : Addr} {a b c d : Addr × Obj} {tm tl : List (Addr × Obj)} (N : News h₀ L h (a :: (tm ++ b :: c :: d :: tl))) : News h₀ L h (a :: b :: c :: d :: (tm ++ tl)) := fun p hp => N p (by
  simp only [List.mem_cons, List.mem_append] at hp ⊢
  rcases hp with h | h | h | h | h | h
  · exact .inl h
  · exact .inr (.inr (.inl h))
  · exact .inr (.inr (.inr (.inl h)))
  · exact .inr (.inr (.inr (.inr (.inl h))))
  · exact .inr (.inl h)
  · exact .inr (.inr (.inr (.inr (.inr h)))))
theorem last_of {α : Type} {l : List α} (h : 1 ≤ l.length) : ∃ pre a, l = pre ++ [a] := by
  cases e : l.reverse with
  | nil => rw [List.reverse_eq_nil_iff] at e; rw [e] at h; simp at h
  | cons a r => exact ⟨r.reverse, a, by rw [← List.reverse_reverse l, e, List.reverse_cons]⟩
theorem Rel2.split {α β : Type} {R : α → β → Prop} {as : List α} {a : α} : ∀ {bs : List β}, Rel2 R (as ++ [a]) bs → ∃ bs' b, bs = bs' ++ [b] ∧ Rel2 R as bs' ∧ R a b := by
  induction as with
  | nil =>
    intro bs h
    cases h with
    | cons r h' => cases h'; exact ⟨[], _, rfl, .nil, r⟩
  | cons x xs ih =>
    intro bs h
    cases h with
    | cons r h' =>
      obtain ⟨bs', b, e, h1, h2⟩ := ih h'
      exact ⟨_ :: bs', b, by rw [e]; rfl, .cons r h1, h2⟩
theorem rel_last {tl : List (Addr × Obj)} {l : List Value} {rows : List (List Int)} {pre : List Value} {v : Value} (h : Rel2 (RowIn tl) l rows) (e : l = pre ++ [v]) :
    ∃ rl, (∃ rpre, rows = rpre ++ [rl]) ∧ ∃ a us k, v = .ref a ∧ (a, listOf us k) ∈ tl ∧ IntsAre us rl := by
  rw [e] at h
  obtain ⟨bs', b, e1, _, h2⟩ := h.split
  exact ⟨b, ⟨bs', e1⟩, h2⟩
theorem led_add {h₀ h : Heap} {L : Addr} {news : List (Addr × Obj)} {x : Addr × Obj} (N : News h₀ L h news) (hx : x ∈ news) : News h₀ L h (x :: news) := fun p hp => by
  rcases List.mem_cons.mp hp with e | hp
  · exact N p (by rw [e]; exact hx)
  · exact N p hp
/-- the ledger's tail to the end, one of its entries shown -/
theorem led_law {h₀ h : Heap} {L : Addr} {tl news : List (Addr × Obj)} {x : Addr × Obj} (N : News h₀ L h (tl ++ news)) (hx : x ∈ tl) : News h₀ L h (x :: (news ++ tl)) := fun p hp => by
  rcases List.mem_cons.mp hp with e | hp
  · exact N p (by rw [e]; exact List.mem_append_left _ hx)
  · exact N p ((List.mem_append.mp hp).elim (fun q => List.mem_append_right _ q) fun q => List.mem_append_left _ q)
theorem ints_some {vs : List Value} {ns : List Int} (h : IntsAre vs ns) {i : Nat} {v : Value} (e : vs.toArray[i]? = some v) : ∃ k t, v = .int k t := by
  obtain ⟨k, t, e, _⟩ := IntsAre.at h i v (by simpa using e)
  exact ⟨k, t, e⟩
end Mine

/-! part LawP -/
namespace Mine
/-! the plain law: no program in sight -/
-- strip
abbrev sp (c : Nat) : Bool := Unicode.isSpace c
theorem takeWhile_len_drop (p : Nat → Bool) (l : List Nat) : l.drop (l.takeWhile p).length = l.dropWhile p := by
  induction l with
  | nil => rfl
  | cons a r ih =>
    by_cases h : p a = true
    · rw [List.takeWhile_cons_of_pos h, List.dropWhile_cons_of_pos h, List.length_cons, List.drop_succ_cons, ih]
    · rw [List.takeWhile_cons_of_neg h, List.dropWhile_cons_of_neg h]; rfl
theorem take_reverse (p : Nat → Bool) (l : List Nat) : l.take (l.length - (l.reverse.takeWhile p).length) = (l.reverse.dropWhile p).reverse := by
  rw [← takeWhile_len_drop, List.reverse_drop, List.reverse_reverse, List.length_reverse]
theorem strip_eq (l : List Nat) : strip l = ((l.dropWhile sp).reverse.dropWhile sp).reverse := by
  unfold strip Txt.strip
  rw [PyProof.Rows.stripBy_eq]
  show ((S l).cps.extract _ _).toList = _
  rw [Array.toList_extract, List.extract_eq_take_drop]
  have e1 : stripLo Unicode.isSpace true (S l) = (l.takeWhile sp).length := by
    show (List.takeWhile _ (S l).cps.toList).length = _
    rw [S_cps]
  have e2 : stripHi Unicode.isSpace true (S l) (l.takeWhile sp).length = l.length - ((l.dropWhile sp).reverse.takeWhile sp).length := by
    show (S l).length - ((List.drop _ (S l).cps.toList).reverse.takeWhile _).length = _
    rw [S_cps, S_len, takeWhile_len_drop]
  rw [e1, e2, S_cps, takeWhile_len_drop, ← take_reverse]
  congr 1
  have : (l.dropWhile sp).length = l.length - (l.takeWhile sp).length := by rw [← takeWhile_len_drop, List.length_drop]
  rw [this]
  omega
theorem dropWhile_all {p : Nat → Bool} {b : List Nat} (h : ∀ c ∈ b, p c = true) (r : List Nat) : (b ++ r).dropWhile p = r.dropWhile p := by
  induction b with
  | nil => rfl
  | cons a b ih =>
    rw [List.cons_append, List.dropWhile_cons_of_pos (h a (List.mem_cons_self ..))]
    exact ih fun c hc => h c (List.mem_cons_of_mem _ hc)
theorem dropWhile_head {p : Nat → Bool} {c : Nat} {r : List Nat} (h : p c = false) : (c :: r).dropWhile p = c :: r := List.dropWhile_cons_of_neg (by rw [h]; exact Bool.false_ne_true)
theorem strip_trim {b v a : List Nat} (hb : ∀ c ∈ b, sp c = true) (ha : ∀ c ∈ a, sp c = true) (hh : ∀ c, v.head? = some c → sp c = false) (hl : ∀ c, v.getLast? = some c → sp c = false) : strip (b ++ (v ++ a)) = v := by
  rw [strip_eq, dropWhile_all hb]
  cases v with
  | nil =>
    have : (a.dropWhile sp) = [] := by have := dropWhile_all ha []; rwa [List.append_nil] at this
    rw [List.nil_append, this]; rfl
  | cons p m =>
    rw [List.cons_append, dropWhile_head (hh p rfl), ← List.cons_append, List.reverse_append, dropWhile_all (fun c hc => ha c (List.mem_reverse.mp hc))]
    have : ((p :: m).reverse).dropWhile sp = (p :: m).reverse := by
      cases e : (p :: m).reverse with
      | nil => rfl
      | cons q r =>
        refine dropWhile_head (hl q ?_)
        rw [← List.head?_reverse, e]; rfl
    rw [this, List.reverse_reverse]

-- parse, piece by piece
def Passes (t v : List Nat) : Prop := ∀ res part, t.foldl pstep ⟨res, part, false, false⟩ = ⟨res, part ++ v, false, false⟩
theorem pass_in (l : List Nat) : ∀ res part, (l.flatMap escC).foldl pstep ⟨res, part, false, true⟩ = ⟨res, part ++ l, false, true⟩ := by
  induction l with
  | nil => intro res part; simp
  | cons c r ih =>
    intro res part
    rw [List.flatMap_cons, List.foldl_append]
    have : (escC c).foldl pstep ⟨res, part, false, true⟩ = ⟨res, part ++ [c], false, true⟩ := by
      unfold escC
      split
      · rename_i h; subst h; rfl
      · split
        · rename_i h; subst h; rfl
        · rename_i h1 h2
          rw [List.foldl_cons, List.foldl_nil]
          unfold pstep
          simp [h1, h2]
    rw [this, ih, List.append_assoc]; rfl
theorem pass_quo (l : List Nat) : Passes (quo l) (34 :: (l ++ [34])) := by
  intro res part
  unfold quo
  rw [List.foldl_cons]
  have : pstep ⟨res, part, false, false⟩ 34 = ⟨res, part ++ [34], false, true⟩ := rfl
  rw [this, List.foldl_append, pass_in]
  rw [List.foldl_cons, List.foldl_nil]
  have : pstep ⟨res, part ++ [34] ++ l, false, true⟩ 34 = ⟨res, part ++ [34] ++ l ++ [34], false, false⟩ := rfl
  rw [this]; simp
theorem pass_plain {l : List Nat} (h : ∀ c ∈ l, c ≠ 44 ∧ c ≠ 34) : Passes l l := by
  induction l with
  | nil => intro res part; simp
  | cons c r ih =>
    intro res part
    have hc := h c (List.mem_cons_self ..)
    have : pstep ⟨res, part, false, false⟩ c = ⟨res, part ++ [c], false, false⟩ := by
      unfold pstep; simp [hc.1, hc.2]
    rw [List.foldl_cons, this, ih fun x hx => h x (List.mem_cons_of_mem _ hx)]
    simp
/-- the parts, before they are stripped -/
def segs (a b : List Nat) : List Nat → List (List Nat) → List (List Nat)
  | _, [] => []
  | p, [v] => [p ++ (v ++ [])]
  | p, v :: w :: r => (p ++ (v ++ a)) :: segs a b b (w :: r)
theorem segs_ne (a b p v : List Nat) (r : List (List Nat)) : segs a b p (v :: r) ≠ [] := by
  cases r <;> simp [segs]
theorem fold_join {a b : List Nat} (ha : ∀ c ∈ a, c ≠ 44 ∧ c ≠ 34) (hb : ∀ c ∈ b, c ≠ 44 ∧ c ≠ 34) : ∀ (ts vs : List (List Nat)), Rel2 Passes ts vs → ∀ (_ : vs ≠ []) (p : List Nat) (res : List (List Nat)),
    ∃ L l, segs a b p vs = L ++ [l] ∧ (joinL (a ++ 44 :: b) ts).foldl pstep ⟨res, p, false, false⟩ = ⟨res ++ L, l, false, false⟩ := by
  intro ts vs h
  induction h with
  | nil => intro hne; exact absurd rfl hne
  | @cons t v ts vs ht hr ih =>
    intro _ p res
    cases hr with
    | nil => exact ⟨[], p ++ v, by simp [segs], by show t.foldl pstep _ = _; rw [ht, List.append_nil]⟩
    | @cons t2 v2 ts2 vs2 ht2 hr2 =>
      obtain ⟨L, l, e1, e2⟩ := ih (by simp) b (res ++ [p ++ (v ++ a)])
      refine ⟨(p ++ (v ++ a)) :: L, l, by show (p ++ (v ++ a)) :: segs a b b (v2 :: vs2) = _; rw [e1]; rfl, ?_⟩
      show (t ++ (a ++ 44 :: b) ++ joinL (a ++ 44 :: b) (t2 :: ts2)).foldl pstep _ = _
      rw [List.foldl_append, List.foldl_append, ht, List.foldl_append, pass_plain ha, List.foldl_cons]
      have : pstep ⟨res, p ++ v ++ a, false, false⟩ 44 = ⟨res ++ [p ++ v ++ a], [], false, false⟩ := rfl
      rw [this, pass_plain hb, List.nil_append, List.append_assoc p v a, e2, List.append_assoc]
      rfl
theorem segs_strip {a b : List Nat} (ha : ∀ c ∈ a, sp c = true) (hb : ∀ c ∈ b, sp c = true) : ∀ (vs : List (List Nat)) (p : List Nat), (∀ c ∈ p, sp c = true) →
    (∀ v ∈ vs, (∀ c, v.head? = some c → sp c = false) ∧ ∀ c, v.getLast? = some c → sp c = false) → (segs a b p vs).map strip = vs := by
  intro vs
  induction vs with
  | nil => intro p _ _; rfl
  | cons v r ih =>
    intro p hp h
    have hv := h v (List.mem_cons_self ..)
    cases r with
    | nil =>
      show [strip (p ++ (v ++ []))] = [v]
      rw [strip_trim hp (a := []) (fun _ h => nomatch h) hv.1 hv.2]
    | cons w r =>
      show strip (p ++ (v ++ a)) :: (segs a b b (w :: r)).map strip = _
      rw [strip_trim hp ha hv.1 hv.2, ih b hb fun x hx => h x (List.mem_cons_of_mem _ hx)]
theorem segs_last {a b : List Nat} : ∀ (vs : List (List Nat)) (v p : List Nat), ∃ L, segs a b p (vs ++ [v]) = L ++ [(if vs = [] then p else b) ++ v] := by
  intro vs
  induction vs with
  | nil => intro v p; exact ⟨[], by simp [segs]⟩
  | cons w r ih =>
    intro v p
    obtain ⟨L, e⟩ := ih v b
    cases r with
    | nil => exact ⟨[p ++ (w ++ a)], by simp [segs]⟩
    | cons x r =>
      refine ⟨(p ++ (w ++ a)) :: L, ?_⟩
      show (p ++ (w ++ a)) :: segs a b b (x :: r ++ [v]) = _
      rw [e]; simp
structure Edge (a b : List Nat) : Prop where
  a1 : ∀ c ∈ a, c ≠ 44 ∧ c ≠ 34
  b1 : ∀ c ∈ b, c ≠ 44 ∧ c ≠ 34
  a2 : ∀ c ∈ a, sp c = true
  b2 : ∀ c ∈ b, sp c = true
def TrimE (v : List Nat) : Prop := (∀ c, v.head? = some c → sp c = false) ∧ ∀ c, v.getLast? = some c → sp c = false
/-- parse of joined pieces: all of them, but for an empty last one -/
theorem parse_join {a b : List Nat} (he : Edge a b) {ts vs : List (List Nat)} {v : List Nat} (h : Rel2 Passes ts (vs ++ [v])) (ht : ∀ x ∈ vs ++ [v], TrimE x) :
    parse (joinL (a ++ 44 :: b) ts) = if v = [] ∧ (vs = [] ∨ b = []) then vs else vs ++ [v] := by
  obtain ⟨L, l, e1, e2⟩ := fold_join he.a1 he.b1 ts (vs ++ [v]) h (by simp) [] []
  obtain ⟨L', e3⟩ := segs_last (a := a) (b := b) vs v []
  have e4 := segs_strip he.a2 he.b2 (vs ++ [v]) [] (fun _ h => nomatch h) ht
  rw [e1] at e3 e4
  have e5 := (List.append_inj' e3 rfl).2
  have e6 : l = (if vs = [] then [] else b) ++ v := by simpa using e5
  rw [List.map_append] at e4
  have e7 := (List.append_inj' e4 rfl).1
  unfold parse
  rw [e2, List.nil_append]
  unfold pend
  dsimp only
  by_cases hc : v = [] ∧ (vs = [] ∨ b = [])
  · rw [if_pos hc]
    have : l = [] := by
      rw [e6, hc.1]
      rcases hc.2 with h | h
      · rw [if_pos h]; rfl
      · rw [h]; split <;> rfl
    rw [if_pos this, e7]
  · rw [if_neg hc]
    have : ¬ l = [] := fun e => hc (by
      rw [e6, List.append_eq_nil_iff] at e
      refine ⟨e.2, ?_⟩
      by_cases h : vs = []
      · exact .inl h
      · rw [if_neg h] at e; exact .inr e.1)
    rw [if_neg this, List.map_append, e4]
theorem Rel2.of_map {α β γ : Type} {R : α → β → Prop} (f : γ → α) (g : γ → β) (l : List γ) (h : ∀ x ∈ l, R (f x) (g x)) : Rel2 R (l.map f) (l.map g) := by
  induction l with
  | nil => exact .nil
  | cons a r ih => exact .cons (h a (List.mem_cons_self ..)) (ih fun x hx => h x (List.mem_cons_of_mem _ hx))
theorem sp_34 : sp 34 = false := by decide +kernel
theorem sp_162 : sp 162 = false := by decide +kernel
theorem sp_32 : sp 32 = true := by decide +kernel
theorem trim_quoted (l : List Nat) : TrimE (34 :: (l ++ [34])) := by
  constructor
  · intro c h
    simp only [List.head?_cons, Option.some.injEq] at h
    rw [← h]; exact sp_34
  · intro c h
    rw [← List.cons_append, List.getLast?_append] at h
    simp at h
    rw [← h]; exact sp_34
/-- a header of quoted words, read back -/
theorem parse_words (ws : List (List Nat)) : parse (joinL [44, 32] (ws.map quo)) = ws.map fun w => 34 :: (w ++ [34]) := by
  cases e : ws.reverse with
  | nil =>
    rw [List.reverse_eq_nil_iff] at e
    subst e
    rfl
  | cons w r =>
    have e' : ws = r.reverse ++ [w] := by rw [← List.reverse_reverse ws, e, List.reverse_cons]
    have h : Rel2 Passes (ws.map quo) ((r.reverse.map fun w => 34 :: (w ++ [34])) ++ [34 :: (w ++ [34])]) := by
      have := Rel2.of_map (R := Passes) quo (fun w => 34 :: (w ++ [34])) ws fun x _ => pass_quo x
      rw [e', List.map_append, List.map_append] at this
      rw [e', List.map_append]
      exact this
    have he : Edge [] [32] := ⟨(fun _ h => nomatch h), (fun c h => by rw [List.mem_singleton.mp h]; decide), (fun _ h => nomatch h), fun c h => by rw [List.mem_singleton.mp h]; exact sp_32⟩
    have := parse_join he h (fun x hx => by
      rcases List.mem_append.mp hx with hx | hx
      · obtain ⟨u, _, rfl⟩ := List.mem_map.mp hx
        exact trim_quoted u
      · rw [List.mem_singleton.mp hx]; exact trim_quoted w)
    rw [show ([] : List Nat) ++ 44 :: [32] = [44, 32] from rfl] at this
    rw [this, if_neg (by simp), e', List.map_append]
    rfl

-- words
def low (c : Nat) : Nat := altN (altN c) - 128
/-- unctrl and its reading, by the rest by 256 -/
def uncK (k : Nat) (d : Bool) : List Nat :=
  (if k / 128 % 2 = 1 then [33] else []) ++ (if d then [94, 63] else if 32 ≤ k % 128 ∧ k % 128 ≤ 126 then [k % 128] else [94, if k % 128 = 127 then 159 else k % 128 + 64])
def sameK (k : Nat) (d : Bool) : Int := (if k % 128 = 127 ∧ d = false then 383 else ((k % 128 : Nat) : Int)) + 128 * ((k / 128 % 2 : Nat) : Int)
theorem unc_K (n : Int) : unc n = uncK (n % 256).toNat (decide (n = 127)) := by
  have h1 : (n % 256).toNat % 128 = (n % 128).toNat := by omega
  have h2 : (n / 128 % 2 = 1) = ((n % 256).toNat / 128 % 2 = 1) := propext (by omega)
  have h3 : (32 ≤ n % 128 ∧ n % 128 ≤ 126) = (32 ≤ (n % 128).toNat ∧ (n % 128).toNat ≤ 126) := propext (by omega)
  have h4 : (n % 128 = 127) = ((n % 128).toNat = 127) := propext (by omega)
  unfold unc uncK
  simp only [h1, h2, h3, h4, decide_eq_true_eq]
theorem same_K (n : Int) : same n = sameK (n % 256).toNat (decide (n = 127)) := by
  unfold same sameK
  have h1 : (n % 256).toNat % 128 = (n % 128).toNat := by omega
  have h2 : (((n % 256).toNat / 128 % 2 : Nat) : Int) = n / 128 % 2 := by omega
  have h3 : (((n % 256).toNat % 128 : Nat) : Int) = n % 128 := by omega
  have h4 : ((n % 256).toNat % 128 = 127) = (n % 128 = 127) := propext (by omega)
  rw [h2, h3]
  simp only [h4, decide_eq_false_iff_not]
def wordOk (k : Nat) (d : Bool) : Bool :=
  (!d || k == 127) → (num (uncK k d) == sameK k d && num ((uncK k d).map low) == sameK k d && (uncK k d).all (fun c => c < 128 || c == 159))
theorem word_all : ∀ k : Fin 256, ∀ d : Bool, wordOk k.val d = true := by decide +kernel
theorem word_ok (n : Int) : num (unc n) = same n ∧ num ((unc n).map low) = same n ∧ ∀ c ∈ unc n, c < 128 ∨ c = 159 := by
  have h := word_all ⟨(n % 256).toNat, by omega⟩ (decide (n = 127))
  have hc : (!(decide (n = 127)) || (n % 256).toNat == 127) = true := by
    by_cases e : n = 127
    · subst e; rfl
    · rw [decide_eq_false e]; rfl
  rw [unc_K, same_K]
  unfold wordOk at h
  simp only [hc, decide_eq_true_eq, forall_const, Bool.and_eq_true, beq_iff_eq, List.all_eq_true, Bool.or_eq_true] at h
  exact ⟨h.1.1, h.1.2, fun c hc => by simpa using h.2 c hc⟩
theorem esc_low {c : Nat} (h : c < 128 ∨ c = 159) : (escC c).map low = escC (low c) := by
  have key : ∀ c : Fin 160, (c.val < 128 ∨ c.val = 159) → (escC c.val).map low = escC (low c.val) := by decide +kernel
  exact key ⟨c, by omega⟩ h
theorem quo_low {l : List Nat} (h : ∀ c ∈ l, c < 128 ∨ c = 159) : (quo l).map low = quo (l.map low) := by
  have key : (l.flatMap escC).map low = (l.map low).flatMap escC := by
    induction l with
    | nil => rfl
    | cons a r ih =>
      rw [List.flatMap_cons, List.map_append, List.map_cons, List.flatMap_cons, ih fun c hc => h c (List.mem_cons_of_mem _ hc), esc_low (h a (List.mem_cons_self ..))]
  unfold quo
  rw [List.map_cons, List.map_append, key]
  have e : low 34 = 34 := by decide
  rw [List.map_cons, e]; rfl
theorem join_map (f : Nat → Nat) (g : List Nat) : ∀ ls : List (List Nat), (joinL g ls).map f = joinL (g.map f) (ls.map (List.map f))
  | [] => rfl
  | [x] => rfl
  | x :: y :: r => by
    show (x ++ g ++ joinL g (y :: r)).map f = _
    rw [List.map_append, List.map_append, join_map f g (y :: r)]
    rfl
/-- a row's line, low or not -/
theorem line_low (row : List Int) : (lineR row).map low = joinL [44, 32] ((row.map fun c => (unc c).map low).map quo) := by
  unfold lineR
  rw [join_map]
  have e : [44, 32].map low = [44, 32] := by decide
  rw [e, List.map_map, List.map_map]
  congr 1
  exact List.map_congr_left fun c _ => quo_low (word_ok c).2.2
theorem parse_line (row : List Int) : parse (lineR row) = row.map fun c => 34 :: (unc c ++ [34]) := by
  have : lineR row = joinL [44, 32] ((row.map unc).map quo) := by unfold lineR; rw [List.map_map]; rfl
  rw [this, parse_words, List.map_map]; rfl
theorem parse_low (row : List Int) : parse ((lineR row).map low) = row.map fun c => 34 :: ((unc c).map low ++ [34]) := by
  rw [line_low, parse_words, List.map_map]; rfl
theorem mid_34 (l : List Nat) : (34 :: (l ++ [34])).tail.dropLast = l := by rw [List.tail_cons, List.dropLast_concat]
/-- what an item of the wire is -/
def val (line : List Nat) (b : Bool) : List Nat := if b then line.map (fun c => altN (altN c)) else 34 :: (line ++ [34])
theorem altN_ge (n : Nat) : 128 ≤ altN (altN n) := by
  have h : 128 ≤ altN n := by unfold altN; split <;> omega
  unfold altN at h ⊢
  (repeat' split) <;> omega
theorem lineOf_val (line : List Nat) (b : Bool) : lineOf (val line b) = if b then line.map low else line := by
  cases b with
  | false =>
    show lineOf (34 :: (line ++ [34])) = line
    unfold lineOf
    rw [if_neg (fun h => absurd h.2 (by show ¬ 127 < 34; decide)), mid_34]
  | true =>
    show lineOf (line.map (fun c => altN (altN c))) = line.map low
    unfold lineOf
    cases line with
    | nil => rfl
    | cons c r =>
      rw [if_pos ⟨by simp, by show 127 < altN (altN c); exact altN_ge c⟩, List.map_map]
      rfl
theorem read_val (row : List Int) (b : Bool) : readRow (val (lineR row) b) = row.map same := by
  unfold readRow
  rw [lineOf_val]
  cases b with
  | false =>
    rw [if_neg Bool.false_ne_true, parse_line, List.map_map]
    refine List.map_congr_left fun c _ => ?_
    show num (34 :: (unc c ++ [34])).tail.dropLast = _
    rw [mid_34, (word_ok c).1]
  | true =>
    rw [if_pos rfl, parse_low, List.map_map]
    refine List.map_congr_left fun c _ => ?_
    show num (34 :: ((unc c).map low ++ [34])).tail.dropLast = _
    rw [mid_34, (word_ok c).2.1]
theorem mem_quo {l : List Nat} {c : Nat} (h : c ∈ quo l) : c = 34 ∨ c = 92 ∨ c ∈ l := by
  unfold quo at h
  rcases List.mem_cons.mp h with h | h
  · exact .inl h
  · rcases List.mem_append.mp h with h | h
    · obtain ⟨d, hd, hc⟩ := List.mem_flatMap.mp h
      unfold escC at hc
      split at hc
      · simp at hc; exact .inr (.inl hc)
      · split at hc
        · simp at hc; rcases hc with h | h
          · exact .inr (.inl h)
          · exact .inl h
        · rw [List.mem_singleton.mp hc]; exact .inr (.inr hd)
    · exact .inl (List.mem_singleton.mp h)
theorem mem_join {g : List Nat} {c : Nat} : ∀ {ls : List (List Nat)}, c ∈ joinL g ls → c ∈ g ∨ ∃ l ∈ ls, c ∈ l
  | [], h => nomatch h
  | [x], h => .inr ⟨x, List.mem_cons_self .., h⟩
  | x :: y :: r, h => by
    have h : c ∈ x ++ g ++ joinL g (y :: r) := h
    rcases List.mem_append.mp h with h | h
    · rcases List.mem_append.mp h with h | h
      · exact .inr ⟨x, List.mem_cons_self .., h⟩
      · exact .inl h
    · rcases mem_join h with h | ⟨l, hl, hc⟩
      · exact .inl h
      · exact .inr ⟨l, List.mem_cons_of_mem _ hl, hc⟩
theorem line_sign {row : List Int} {c : Nat} (h : c ∈ lineR row) : c < 256 := by
  rcases mem_join h with h | ⟨l, hl, hc⟩
  · simp at h; omega
  · obtain ⟨n, _, rfl⟩ := List.mem_map.mp hl
    rcases mem_quo hc with h | h | h
    · omega
    · omega
    · have := (word_ok n).2.2 c h; omega
theorem join_len {g : List Nat} {B : Nat} : ∀ {ls : List (List Nat)}, (∀ l ∈ ls, l.length ≤ B) → (joinL g ls).length ≤ ls.length * (B + g.length)
  | [], _ => Nat.zero_le _
  | [x], h => by have := h x (List.mem_cons_self ..); show x.length ≤ 1 * _; omega
  | x :: y :: r, h => by
    have h1 := h x (List.mem_cons_self ..)
    have h2 := join_len (g := g) fun l hl => h l (List.mem_cons_of_mem x hl)
    show (x ++ g ++ joinL g (y :: r)).length ≤ _
    rw [List.length_append, List.length_append, List.length_cons (as := y :: r), Nat.succ_mul]
    omega
theorem line_len {row : List Int} (h : row.length ≤ 9) : (lineR row).length ≤ 90 := by
  have h1 : ∀ x ∈ row.map fun c => quo (unc c), x.length ≤ 8 := fun x hx => by
    obtain ⟨c, _, rfl⟩ := List.mem_map.mp hx
    have := quo_len (unc c)
    have := unc_len c
    omega
  have := join_len (g := [44, 32]) h1
  rw [List.length_map] at this
  unfold lineR
  have e : ([44, 32] : List Nat).length = 2 := rfl
  rw [e] at this
  omega
theorem line_nil {row : List Int} (h : lineR row = []) : row = [] := by
  cases row with
  | nil => rfl
  | cons a r =>
    cases r with
    | nil => simp [lineR, joinL, quo] at h
    | cons b r => simp [lineR, joinL, quo] at h
theorem line_head {row : List Int} (hne : row ≠ []) : (lineR row).head? = some 34 := by
  cases row with
  | nil => exact absurd rfl hne
  | cons a r =>
    cases r with
    | nil => rfl
    | cons b r => rfl
theorem join_last {g : List Nat} : ∀ {ls : List (List Nat)} {x : List Nat}, ∃ p, joinL g (ls ++ [x]) = p ++ x
  | [], x => ⟨[], rfl⟩
  | [y], x => ⟨y ++ g, rfl⟩
  | y :: z :: r, x => by
    obtain ⟨p, e⟩ := join_last (g := g) (ls := z :: r) (x := x)
    exact ⟨y ++ g ++ p, by show y ++ g ++ joinL g (z :: r ++ [x]) = _; rw [e]; simp⟩
theorem line_last {row : List Int} (hne : row ≠ []) : (lineR row).getLast? = some 34 := by
  obtain ⟨pre, a, e⟩ := last_of (l := row) (by cases row with | nil => exact absurd rfl hne | cons a r => simp)
  unfold lineR
  rw [e, List.map_append]
  obtain ⟨p, e2⟩ := join_last (g := [44, 32]) (ls := pre.map fun c => quo (unc c)) (x := quo (unc a))
  show (joinL _ (_ ++ [quo (unc a)])).getLast? = _
  rw [e2]
  unfold quo
  rw [← List.cons_append, ← List.append_assoc, List.getLast?_append]
  rfl
theorem trim_val (row : List Int) (b : Bool) : TrimE (val (lineR row) b) := by
  cases b with
  | false => exact trim_quoted _
  | true =>
    show TrimE ((lineR row).map _)
    by_cases h : row = []
    · subst h
      exact ⟨fun _ h => (nomatch h), fun _ h => (nomatch h)⟩
    · have e : altN (altN 34) = 162 := by decide
      constructor
      · intro c hc
        rw [List.head?_map, line_head h] at hc
        rw [← Option.some.inj hc]; show sp (altN (altN 34)) = false; rw [e]; exact sp_162
      · intro c hc
        rw [List.getLast?_map, line_last h] at hc
        rw [← Option.some.inj hc]; show sp (altN (altN 34)) = false; rw [e]; exact sp_162
theorem pass_sent (line : List Nat) (b : Bool) : Passes (sentOf line b) (val line b) := by
  cases b with
  | false => exact pass_quo line
  | true =>
    refine pass_plain fun c hc => ?_
    obtain ⟨d, _, rfl⟩ := List.mem_map.mp hc
    have := altN_ge d
    omega
theorem val_nil {row : List Int} {b : Bool} : val (lineR row) b = [] ↔ b = true ∧ row = [] := by
  cases b with
  | false => simp [val]
  | true =>
    simp only [val, if_pos, List.map_eq_nil_iff, true_and]
    exact ⟨line_nil, fun h => by rw [h]; rfl⟩
theorem rel_zip : ∀ (rows : List (List Int)) (bits : List Bool), bits.length = rows.length → Rel2 Passes (List.zipWith sentOf (rows.map lineR) bits) (List.zipWith (fun row b => val (lineR row) b) rows bits)
  | [], [], _ => .nil
  | row :: rows, b :: bits, h => .cons (pass_sent _ _) (rel_zip rows bits (by simpa using h))
theorem zip_snoc {α β γ : Type} (f : α → β → γ) {as : List α} {bs : List β} (h : bs.length = as.length) (a : α) (b : β) : List.zipWith f (as ++ [a]) (bs ++ [b]) = List.zipWith f as bs ++ [f a b] := by
  rw [List.zipWith_append h.symm]; rfl
theorem read_zip : ∀ (rows : List (List Int)) (bits : List Bool), bits.length = rows.length → (List.zipWith (fun row b => val (lineR row) b) rows bits).map readRow = rows.map (List.map same)
  | [], [], _ => rfl
  | row :: rows, b :: bits, h => by
    rw [List.zipWith_cons_cons, List.map_cons, List.map_cons, read_val, read_zip rows bits (by simpa using h)]
theorem mem_zip {rows : List (List Int)} {bits : List Bool} {x : List Nat} (h : x ∈ List.zipWith (fun row b => val (lineR row) b) rows bits) : ∃ row ∈ rows, ∃ b, x = val (lineR row) b := by
  induction rows generalizing bits with
  | nil => simp at h
  | cons l r ih =>
    cases bits with
    | nil => simp at h
    | cons b bs =>
      rw [List.zipWith_cons_cons] at h
      rcases List.mem_cons.mp h with h | h
      · exact ⟨l, List.mem_cons_self .., b, h⟩
      · obtain ⟨l', h1, b', h2⟩ := ih h
        exact ⟨l', List.mem_cons_of_mem _ h1, b', h2⟩
theorem val_ok {row : List Int} (h : row.length ≤ 9) (b : Bool) : ItOk (val (lineR row) b) := by
  have h1 := line_len h
  refine ⟨?_, ?_, ?_⟩
  · cases b with
    | false => show (34 :: (lineR row ++ [34])).length ≤ _; rw [List.length_cons, List.length_append, List.length_singleton]; omega
    | true => show ((lineR row).map _).length ≤ _; rw [List.length_map]; omega
  · intro _ hm c hc
    cases b with
    | false => exact absurd hm (by show ¬ 127 < 34; decide)
    | true =>
      obtain ⟨d, hd, rfl⟩ := List.mem_map.mp hc
      have h2 := line_sign hd
      have h3 := altN_lt (altN_lt h2)
      exact ⟨altN_ge d, by omega⟩
  · intro wd hw
    rw [lineOf_val] at hw
    cases b with
    | false =>
      rw [if_neg Bool.false_ne_true, parse_line] at hw
      obtain ⟨c, _, rfl⟩ := List.mem_map.mp hw
      have := unc_len c
      rw [mid_34, List.length_cons, List.length_append, List.length_singleton]
      omega
    | true =>
      rw [if_pos rfl, parse_low] at hw
      obtain ⟨c, _, rfl⟩ := List.mem_map.mp hw
      have := unc_len c
      rw [mid_34, List.length_cons, List.length_append, List.length_singleton, List.length_map]
      omega
/-- both wires at once -/
theorem wire_parse {a b : List Nat} (he : Edge a b) {rpre : List (List Int)} {rl : List Int} {bpre : List Bool} {bl : Bool} (h : bpre.length = rpre.length) (hp : rpre ≠ []) :
    parse (wire ((rpre ++ [rl]).map lineR) (bpre ++ [bl]) (a ++ 44 :: b)) =
      if (bl = true ∧ rl = []) ∧ b = [] then List.zipWith (fun row b => val (lineR row) b) rpre bpre else List.zipWith (fun row b => val (lineR row) b) (rpre ++ [rl]) (bpre ++ [bl]) := by
  have h2 := rel_zip (rpre ++ [rl]) (bpre ++ [bl]) (by simp [h])
  rw [zip_snoc _ h] at h2
  have := parse_join he h2 fun x hx => by
    rw [← zip_snoc (fun row b => val (lineR row) b) h] at hx
    obtain ⟨row, _, b, rfl⟩ := mem_zip hx
    exact trim_val row b
  unfold wire
  rw [this, zip_snoc _ h]
  have hz : ¬ List.zipWith (fun row b => val (lineR row) b) rpre bpre = [] := fun e => hp (by
    have := congrArg List.length e
    rw [List.length_zipWith, h, Nat.min_self] at this
    exact List.length_eq_zero_iff.mp this)
  simp only [val_nil, hz, false_or]
theorem law_read {a b : List Nat} (he : Edge a b) {rpre : List (List Int)} {rl : List Int} {bpre : List Bool} {bl : Bool} (h : bpre.length = rpre.length) (hp : rpre ≠ []) :
    readW (wire ((rpre ++ [rl]).map lineR) (bpre ++ [bl]) (a ++ 44 :: b)) = if (bl = true ∧ rl = []) ∧ b = [] then rpre.map (List.map same) else (rpre ++ [rl]).map (List.map same) := by
  unfold readW
  rw [wire_parse he h hp]
  split
  · exact read_zip _ _ h
  · exact read_zip _ _ (by simp [h])
theorem law_items {a b : List Nat} (he : Edge a b) {rows : List (List Int)} {rpre : List (List Int)} {rl : List Int} {bpre : List Bool} {bl : Bool} (hr : rows = rpre ++ [rl]) (h : bpre.length = rpre.length) (hp : rpre ≠ []) (h9 : ∀ row ∈ rows, row.length ≤ 9) :
    ∀ it ∈ parse (wire (rows.map lineR) (bpre ++ [bl]) (a ++ 44 :: b)), ItOk it := by
  subst hr
  rw [wire_parse he h hp]
  intro it hi
  split at hi
  · obtain ⟨row, hm, b, rfl⟩ := mem_zip hi
    exact val_ok (h9 row (List.mem_append_left _ hm)) b
  · obtain ⟨row, hm, b, rfl⟩ := mem_zip hi
    exact val_ok (h9 row hm) b
theorem wire_len {gap : List Nat} {rows : List (List Int)} {bits : List Bool} (hr : rows.length ≤ 5) (h9 : ∀ row ∈ rows, row.length ≤ 9) (hg : gap.length ≤ 8) : (wire (rows.map lineR) bits gap).length ≤ 100000 := by
  have h1 : ∀ l ∈ List.zipWith sentOf (rows.map lineR) bits, l.length ≤ 200 := fun x hx => by
    obtain ⟨l, hl, b, rfl⟩ := mem_zw hx
    obtain ⟨row, hm, rfl⟩ := List.mem_map.mp hl
    have := sentOf_len (lineR row) b
    have := line_len (h9 row hm)
    omega
  have h2 := join_len (g := gap) h1
  have h3 : (List.zipWith sentOf (rows.map lineR) bits).length ≤ 5 := by rw [List.length_zipWith, List.length_map]; omega
  have h4 := Nat.mul_le_mul h3 (show 200 + gap.length ≤ 208 by omega)
  unfold wire
  omega
theorem lines_ok {rows : List (List Int)} (h9 : ∀ row ∈ rows, row.length ≤ 9) : ∀ l ∈ rows.map lineR, l.length ≤ 1000 ∧ ∀ c ∈ l, c < 256 := fun l hl => by
  obtain ⟨row, hm, rfl⟩ := List.mem_map.mp hl
  exact ⟨Nat.le_trans (line_len (h9 row hm)) (by decide), fun c hc => line_sign hc⟩
def whites : List Nat := [9, 10, 11, 12, 13, 28, 29, 30, 31, 32]
theorem white_all : ∀ c ∈ whites, sp c = true ∧ c ≠ 44 ∧ c ≠ 34 := by decide +kernel
theorem edge_1 {c : Nat} (h : c ∈ whites) : Edge [c] [] := by
  have := white_all c h
  exact ⟨(fun d hd => by rw [List.mem_singleton.mp hd]; exact this.2), (fun _ h => nomatch h), (fun d hd => by rw [List.mem_singleton.mp hd]; exact this.1), fun _ h => nomatch h⟩
theorem edge_2 {c : Nat} (h : c ∈ whites) : Edge [] [c] := by
  have := white_all c h
  exact ⟨(fun _ h => nomatch h), (fun d hd => by rw [List.mem_singleton.mp hd]; exact this.2), (fun _ h => nomatch h), fun d hd => by rw [List.mem_singleton.mp hd]; exact this.1⟩
end Mine

/-! part LawF -/
namespace Mine
theorem white_get (i : Nat) (h : i < 10) : ∃ wc : Nat, wc ∈ whites ∧ ([9, 10, 11, 12, 13, 28, 29, 30, 31, 32] : List Int).getD i 0 = (wc : Int) := by
  have key : ∀ i : Fin 10, ([9, 10, 11, 12, 13, 28, 29, 30, 31, 32] : List Int).getD i.val 0 = ((whites.getD i.val 0 : Nat) : Int) ∧ whites.getD i.val 0 ∈ whites := by decide +kernel
  exact ⟨_, (key ⟨i, h⟩).2, (key ⟨i, h⟩).1⟩
theorem white_le {c : Nat} (h : c ∈ whites) : (0 : Int) ≤ (c : Int) ∧ (c : Int) ≤ 1114111 := by
  have key : ∀ c ∈ whites, (0 : Int) ≤ (c : Int) ∧ (c : Int) ≤ 1114111 := by decide +kernel
  exact key c h
theorem gap_1 (c : Nat) : (⟨#[(c : Int).toNat]⟩ : Str) ++ Str.ofString "," = S [c, 44] := by
  have e : Str.ofString "," = S [44] := by decide +kernel
  rw [e, Int.toNat_natCast, show (⟨#[c]⟩ : Str) = S [c] from rfl, S_app]; rfl
theorem gap_2 (c : Nat) : Str.ofString "," ++ (⟨#[(c : Int).toNat]⟩ : Str) = S [44, c] := by
  have e : Str.ofString "," = S [44] := by decide +kernel
  rw [e, Int.toNat_natCast, show (⟨#[c]⟩ : Str) = S [c] from rfl, S_app]; rfl
theorem rel_dat {tl : List (Addr × Obj)} {vs : List Value} {rows : List (List Int)} (h : Rel2 (RowIn tl) vs rows) : DatAll tl vs (rows.map fun r => Dat.list (r.map Dat.int)) := by
  have hints : ∀ {us : List Value} {r : List Int}, IntsAre us r → DatAll tl us (r.map Dat.int) := by
    intro us r hi
    induction hi with
    | nil => exact .nil
    | cons i t _ ih => exact .cons (.int i t) ih
  induction h with
  | nil => exact .nil
  | cons r _ ih =>
    obtain ⟨a, us, k, rfl, hm, hi⟩ := r
    exact .cons (.list (by unfold listOf at hm; exact hm) (hints hi)) ih
theorem dat_ok (rows : List (List Int)) : ∀ d ∈ rows.map fun r => Dat.list (r.map Dat.int), kqdOk 8 d = true := by
  intro d hd
  obtain ⟨r, _, rfl⟩ := List.mem_map.mp hd
  show (r.map Dat.int).all (kqdOk 7) = true
  rw [List.all_eq_true]
  intro x hx
  obtain ⟨i, _, rfl⟩ := List.mem_map.mp hx
  rfl
section
variable {prog : Program} {w : World} {A : Around} {E : Value → Shared → Prop} {s : Shared} {h₀ : Heap} {L a b : Addr} {news n₁ n₂ : List (Addr × Obj)} {its : Array Value} {n kb : Nat} {ys : List Value} {ob : Obj} {r1 r2 : List (List Int)} {Q : Value → Shared → Prop}
theorem nest_ne (N : News h₀ L s.heap news) (ma : (a, W.listOf its n) ∈ news) (Da : Rel2 (RowIn n₁) its.toList r1) (sa : ∀ p ∈ n₁, p ∈ news)
    (mb : (b, ob) ∈ news) (cb : ob.cls = .type "list") (db : ob.data = .seq ys.toArray kb) (Db : Rel2 (RowIn n₂) ys r2) (sb : ∀ p ∈ n₂, p ∈ news) (hu : A.units + 64 < cLine) (e : r1 = r2) (h : Q (.bool false) s) :
    wpAny (model prog w) A (compareOp .NotEq (.ref a) (.ref b)) Q E s := by
  refine kqd_ne N ma rfl (by unfold W.listOf; rw [Array.toArray_toList]) (rel_dat Da) sa mb cb db (rel_dat Db) sb (dat_ok _) (dat_ok _) hu ?_
  subst e
  simp only [decide_true, Bool.not_true]
  exact h
theorem nest_eq (N : News h₀ L s.heap news) (ma : (a, W.listOf its n) ∈ news) (Da : Rel2 (RowIn n₁) its.toList r1) (sa : ∀ p ∈ n₁, p ∈ news)
    (mb : (b, ob) ∈ news) (cb : ob.cls = .type "list") (db : ob.data = .seq ys.toArray kb) (Db : Rel2 (RowIn n₂) ys r2) (sb : ∀ p ∈ n₂, p ∈ news) (hu : A.units + 64 < cLine) (e : r1 = r2) (h : Q (.bool true) s) :
    wpAny (model prog w) A (compareOp .Eq (.ref a) (.ref b)) Q E s := by
  refine kqd_eq N ma rfl (by unfold W.listOf; rw [Array.toArray_toList]) (rel_dat Da) sa mb cb db (rel_dat Db) sb (dat_ok _) (dat_ok _) hu ?_
  subst e
  simp only [decide_true]
  exact h
end
theorem not_snoc {bs : List Bool} {i : Nat} {b : Bool} {ys : List Value} (h : ys = ((bs.take i).map not).map Value.bool) (e : bs[i]? = some b) : ys ++ [.bool (!b)] = ((bs.take (i + 1)).map not).map Value.bool := by
  rw [List.take_add_one, e, Option.toList_some, List.map_append, List.map_append, h]; rfl
theorem not_all {bs : List Bool} {ys : List Value} (h : ys = ((bs.take (bs.map Value.bool).toArray.size).map not).map Value.bool) : ys = (bs.map not).map Value.bool := by
  rw [List.size_toArray, List.length_map, List.take_length] at h
  exact h
theorem pick_last {l pre : List Value} {v : Value} (h : l = pre ++ [v]) : kms_pick l none (some (-1)) = pre := by
  unfold kms_pick
  have h1 : kms_lo none l.length = 0 := rfl
  have h2 : kms_hi (some (-1)) l.length = l.length - 1 := by
    show (if (-1 : Int) < 0 then l.length - (-(-1 : Int)).toNat else min (-1 : Int).toNat l.length) = _
    rw [if_pos (by decide)]; rfl
  rw [h1, h2, List.drop_zero, h, List.length_append, List.length_singleton, Nat.sub_zero, Nat.add_sub_cancel, List.take_left]
theorem rel_front {tm : List (Addr × Obj)} {ys ypre : List Value} {yv : Value} {rows rpre : List (List Int)} {rl : List Int} (h : Rel2 (RowIn tm) ys (rows.map (List.map same))) (hy : ys = ypre ++ [yv]) (hr : rows = rpre ++ [rl]) : Rel2 (RowIn tm) ypre (rpre.map (List.map same)) := by
  rw [hy, hr, List.map_append] at h
  obtain ⟨bs', b, e, h1, _⟩ := h.split
  rw [(List.append_inj' e rfl).1]; exact h1
theorem first_read {rows rpre : List (List Int)} {rl : List Int} {bs bpre : List Bool} {b : Bool} (hr : rows = rpre ++ [rl]) (hb : bs = bpre ++ [b]) (h : bpre.length = rpre.length) (hp : rpre ≠ []) :
    ∀ wc ∈ whites, readW (wire (rows.map lineR) bs [wc, 44]) = if b = true ∧ rl = [] then rpre.map (List.map same) else rows.map (List.map same) := by
  intro wc hwc
  have := law_read (edge_1 hwc) (bl := b) (rl := rl) h hp
  rw [← hr, ← hb, show [wc] ++ 44 :: ([] : List Nat) = [wc, 44] from rfl] at this
  rw [this]
  simp only [and_true]
theorem second_read {rows rpre : List (List Int)} {rl : List Int} {bs bpre : List Bool} {b : Bool} (hr : rows = rpre ++ [rl]) (hb : bs = bpre ++ [b]) (h : bpre.length = rpre.length) (hp : rpre ≠ []) :
    ∀ wc ∈ whites, readW (wire (rows.map lineR) bs [44, wc]) = rows.map (List.map same) := by
  intro wc hwc
  have := law_read (edge_2 hwc) (bl := b) (rl := rl) h hp
  rw [← hr, ← hb, show ([] : List Nat) ++ 44 :: [wc] = [44, wc] from rfl] at this
  rw [this, if_neg (fun h => absurd h.2 (by simp))]
theorem nil_of_empty {us : List Value} {r : List Int} (h : IntsAre us r) (e : us.isEmpty = true) : r = [] := by
  cases h with
  | nil => rfl
  | cons _ _ _ => simp at e
theorem ne_of_empty {us : List Value} {r : List Int} (h : IntsAre us r) (e : us.isEmpty = false) : r ≠ [] := by
  cases h with
  | nil => simp at e
  | cons _ _ _ => simp
local macro_rules | `(tactic| k_all) => `(tactic| assumption)
local macro_rules | `(tactic| walk_at "call ref") => `(tactic| (k_here; (with_reducible show wpAny _ _ (call (Value.ref _) _) _ _ _); refine stop_here ?_))
local macro_rules | `(tactic| walk_at "exec Assign cons ListComp") => `(tactic| (k_here; refine stop_here ?_))
local macro_rules | `(tactic| walk_at "eval ListComp") => `(tactic| (k_here; refine stop_here ?_))
local macro_rules | `(tactic| walk_at "call builtin:str.join") => `(tactic| (k_here; refine stop_here ?_))
local macro_rules | `(tactic| walk_at "compareOp NotEq ref ref") => `(tactic| (k_here; refine stop_here ?_))
local macro_rules | `(tactic| walk_at "compareOp Eq ref ref") => `(tactic| (k_here; refine stop_here ?_))
local macro_rules | `(tactic| walk_at "CompSrc") => `(tactic| (k_here; refine stop_here ?_))
local macro_rules | `(tactic| walk_at "call ref") => `(tactic| (k_here; (with_reducible show wpAny _ _ (call (Value.ref _) _) _ _ _); k_dflt (refine' TellV.use ?kH ?k1 ?k2 ?k3 ?k4 ?k5 ?kK ?kd ?ku ?_; (case k1 => k_asm); (case k2 => k_asm); (case k3 => k_asm); (case k4 => k_asm); (case k5 => k_asm); (case kK => first | exact rfl | assumption); (case kH => first | exact t_unctrl _ _ | exact t_quoted _ _ (unc_len9 _) | exact t_same _ _); (case kd => ktr_room); (case ku => ktr_units); k_whole); intro r9 h9 tk9 F9 N9 ho9; (obtain ⟨t9, e9⟩ := ho9; subst e9); (try dsimp only); (try k_fold)))
local macro_rules | `(tactic| walk_at "call builtin:chr") => `(tactic| refine chr_of_range (white_le (by assumption)).1 (white_le (by assumption)).2 ?_)
local macro_rules | `(tactic| walk_at "subscriptTail Name Slice ref ref") => `(tactic| (k_here; (with_reducible show wpAny _ _ (subscriptTail _ (PySem.Expr.Slice _ _ none _) (Value.ref _) (Value.ref _)) _ _ _); k_dflt (refine' kms_slice_lit ?F ?N ?l ?p ?q ?e ?_ ?s ?t ?z; (case F => k_asm); (case N => k_asm); (case l => exact News.isList (by k_asm) (List.mem_cons_of_mem _ (List.mem_cons_self ..))); (case p => kmk_part); (case q => kmk_part); (case e => exact pick_last (by assumption)); (case s => with_unfolding_all rfl); (case t => kmk_pure); (case z => rw [List.size_toArray, sizeLine_eq]; omega)); intro D' h' F' N' l1))
local macro_rules | `(tactic| walk_at "truthy ref") => `(tactic| (k_here; (with_reducible show wpAny _ _ (truthy (Value.ref _)) _ _ _); refine kgr_truthy (by k_asm) (List.mem_cons_self ..) rfl rfl (by omega) ?_))
theorem law_holds : PySem.Challenge.rw_mq0121_01.Holds := Mine.hd (by
  w_top off
  w_strict (k_go0; (all_goals try k_fold); k_steps)
  refine Stop.go ?_
  refine LCg.Assign_ListComp_U (F₀ := by k_asm) (by rfl) (by with_unfolding_all rfl) (by with_unfolding_all rfl) (by decide) (by rfl) (by decide) (by rfl) (by rfl) (by rfl) ?_
  k_steps
  refine Stop.go ?_
  (rename IntsAre _ (List.take _ _) => hI6)
  (rename News _ _ _ _ => N6)
  have hl6 := hI6.length
  rw [List.length_take] at hl6
  refine LCg.CompSrc.ledger (by rfl) (by k_asm) N6 (List.mem_cons_self ..) (by rw [List.size_toArray, sizeLine_eq]; omega) ?_
  intro g6
  refine comp_rest (fun i ys nw => nw = _ ∧ ∃ ms, IntsAre ys ms ∧ ms.length = i) ?_ ?_ ⟨rfl, [], .nil, rfl⟩
  · intro i ys nw v I oI C oC D m₂ h tk E' hi hJ hv hC hm₂ F3 N3 off ne
    obtain ⟨rfl, ms, hys, hms⟩ := hJ
    obtain ⟨k6, t6, rfl⟩ := ints_some hI6 hv
    k_steps
    exact LCg.CompEnd.intro (by k_asm) (by k_asm) _ (fun p hp => hp) off (.inr ⟨_, List.mem_cons_self .., rfl, _, rfl⟩) ⟨rfl, _, hys.append (.cons _ _ .nil), by rw [List.length_append, hms]; rfl⟩
  intro ys nw hJ
  obtain ⟨rfl, ms, hI8, hms⟩ := hJ
  intro D6 h6 tk6 F6 N66 off6
  have hD61 : @Ne Nat _ _ := off6.1
  have hD62 : @Ne Nat _ _ := off6.2.1
  clear N6
  dsimp only
  k_steps
  refine Stop.go ?_
  k_dflt (refine' Tell.use (t_rows (nc := List.length _) hI8 (by rw [hms, List.size_toArray]; omega)) ?k1 ?k2 ?k3 ?k4 ?k5 ?kK ?kd ?ku ?kp ?_; (case k1 => k_asm); (case k2 => k_asm); (case k3 => k_asm); (case k4 => k_asm); (case k5 => k_asm); (case kK => first | exact rfl | assumption); (case kd => ktr_room); (case ku => ktr_units); (case kp => exact List.mem_cons_self ..))
  intro r9 tl h9 tk9 F9 N9 off9 ho9
  obtain ⟨rows, hnest, hr3, hr5, hr9⟩ := ho9
  obtain ⟨d9, its, n9, rfl, hm9, hrel⟩ := id hnest
  have N10 := led_law N9 hm9
  simp only [List.cons_append, List.nil_append] at N10
  have hsz : its.size = rows.length := by have := hrel.length; rwa [Array.length_toList] at this
  have ho1 := off9 _ (List.mem_cons_self ..)
  have ho2 := off9 _ (List.mem_cons_of_mem _ (List.mem_cons_self ..))
  have ho3 := off9 _ (List.mem_cons_of_mem _ (List.mem_cons_of_mem _ (List.mem_cons_self ..)))
  have hd1 : @Ne Nat _ _ := ho1 _ hm9
  have hd2 : @Ne Nat _ _ := ho2 _ hm9
  have hd3 : @Ne Nat _ _ := ho3 _ hm9
  dsimp only at ho1 ho2 ho3 hd1 hd2 hd3 ⊢
  clear N9
  k_steps
  refine Stop.go ?_
  refine LCg.Assign_ListComp_U (F₀ := by k_asm) (by rfl) (by with_unfolding_all rfl) (by with_unfolding_all rfl) (by decide) (by rfl) (by decide) (by rfl) (by rfl) (by rfl) ?_
  k_steps
  refine Stop.go ?_
  (rename News _ _ _ _ => N11)
  refine LCg.CompSrc.range (by rfl) (by k_asm) N11 (by assumption) (by first | decide | exact small_one (by l_bnd) (by l_bnd) (by l_bnd) (by l_bnd)) (by first | exact rangeSize_nat _ _ | rfl) (by rw [sizeLine_eq]; omega) ?_
  intro g7
  refine comp_rest (fun i ys nw => nw = _ ∧ ∃ bs : List Bool, ys = bs.map Value.bool ∧ bs.length = i) ?_ ?_ ⟨rfl, [], rfl, rfl⟩
  · intro i ys nw v I oI C oC D m₂ h tk E' hi hJ hv hC hm₂ F3 N3 off ne
    obtain ⟨rfl, bs, hys, hbs⟩ := hJ
    obtain ⟨t7, rfl⟩ := hv
    have hi5 : i < 5 := by omega
    k_steps
    exact LCg.CompEnd.intro (by k_asm) (by k_asm) _ (fun p hp => hp) off trivial ⟨rfl, bs ++ [_], by rw [hys, List.map_append]; rfl, by rw [List.length_append, hbs]; rfl⟩
  intro ys nw hJ
  obtain ⟨rfl, bs, rfl, hbs⟩ := hJ
  intro D7 h7 tk7 F7 N77 off7
  have hbl : bs.length = rows.length := by rw [hbs]; omega
  clear N11
  dsimp only
  k_steps
  refine Stop.go ?_
  refine LCg.Assign_ListComp_U (F₀ := by k_asm) (by rfl) (by with_unfolding_all rfl) (by with_unfolding_all rfl) (by decide) (by rfl) (by decide) (by rfl) (by rfl) (by rfl) ?_
  k_steps
  refine Stop.go ?_
  (rename News _ _ _ _ => N8')
  have N8 : News _ _ _ ((D7, LCg.lst (bs.map Value.bool)) :: (d9, W.listOf its n9) :: tl) := cb_drop N8' (led_8 _ _ _ _)
  clear N8'
  refine LCg.CompSrc.ledger (by rfl) (by k_asm) N8 (List.mem_cons_of_mem _ (List.mem_cons_self ..)) (by rw [hsz, sizeLine_eq]; omega) ?_
  intro g8
  refine comp_rest (fun i ys nw => nw = _ ∧ StrsAre ys (((rows.take i).map lineR).map S)) ?_ ?_ ⟨rfl, .nil⟩
  · intro i ys nw v I oI C oC D m₂ h tk E' hi hJ hv hC hm₂ F3 N3 off ne
    obtain ⟨rfl, hys⟩ := hJ
    obtain ⟨row, hrow, a8, us8, k8, rfl, hm8, hu8⟩ := hrel.at (by rw [Array.getElem?_toList]; exact hv)
    have hrl := hr9 row (List.mem_of_getElem? hrow)
    have hul := hu8.length
    k_steps
    refine Stop.go ?_
    refine LCg.ListComp_U (F₀ := by k_asm) (by with_unfolding_all rfl) (by decide) (by rfl) (by decide) (by rfl) ?_
    k_steps
    refine Stop.go ?_
    refine LCg.CompSrc.ledger (by rfl) (by k_asm) (by k_asm) (its := us8.toArray) (k := k8) (List.mem_cons_of_mem _ (List.mem_cons_of_mem _ (List.mem_cons_of_mem _ (List.mem_cons_of_mem _ (List.mem_cons_of_mem _ hm8))))) (by rw [List.size_toArray, sizeLine_eq]; omega) ?_
    intro g9
    refine comp_rest (fun j zs nw => nw = _ ∧ StrsAre zs (((row.take j).map fun c => quo (unc c)).map S)) ?_ ?_ ⟨rfl, .nil⟩
    · intro j zs nw v I2 oI2 C2 oC2 D2 m₃ h3 tk3 E3 hi3 hJ3 hv3 hC3 hm₃ F4 N4 off4 ne4
      obtain ⟨rfl, hzs⟩ := hJ3
      obtain ⟨c9, t9, rfl, hc9⟩ := IntsAre.at hu8 j v (by simpa using hv3)
      k_steps
      exact LCg.CompEnd.intro (by k_asm) (by k_asm) _ (fun p hp => hp) off4 (.inr ⟨_, List.mem_cons_of_mem _ (List.mem_cons_of_mem _ (List.mem_cons_of_mem _ (List.mem_cons_of_mem _ (List.mem_cons_of_mem _ hm8)))), rfl, _, rfl⟩) ⟨rfl, quo_snoc hzs hc9⟩
    · intro zs nw hJ3
      obtain ⟨rfl, hzs⟩ := hJ3
      intro D2 h4 tk4 F4 N4 off4
      dsimp only
      k_steps
      refine Stop.go ?_
      refine join_listW (News.isList (by k_asm) (List.mem_cons_self ..)) (quo_all hu8 hzs) (by decide +kernel) (row_weight hrl) ?_
      intro t5 k5
      rw [o_sep, joinL_S]
      exact LCg.CompEnd.intro (by k_asm) N4 _ (fun p hp => List.mem_cons_of_mem _ hp) off (.inr ⟨_, List.mem_cons_of_mem _ (List.mem_cons_self ..), rfl, _, rfl⟩) ⟨rfl, line_snoc hys hrow⟩
  intro ys8 nw hJ
  obtain ⟨rfl, hys8⟩ := hJ
  intro D8 h8 tk8 F8 N88 off8
  clear N8
  dsimp only
  k_steps
  refine Stop.go ?_
  refine LCg.Assign_ListComp_U (F₀ := by k_asm) (by rfl) (by with_unfolding_all rfl) (by with_unfolding_all rfl) (by decide) (by rfl) (by decide) (by rfl) (by rfl) (by rfl) ?_
  k_steps
  refine Stop.go ?_
  (rename News _ _ _ _ => N9')
  refine LCg.CompSrc.ledger (by rfl) (by k_asm) N9' (List.mem_cons_of_mem _ (List.mem_cons_of_mem _ (List.mem_cons_self ..))) (by rw [hsz, sizeLine_eq]; omega) ?_
  intro g9
  refine comp_rest (fun i ys nw => ∃ tm, nw = tm ++ _ ∧ Rel2 (RowIn tm) ys ((rows.take i).map (List.map same))) ?_ ?_ ⟨[], rfl, .nil⟩
  · intro i ys nw v I oI C oC D m₂ h tk E' hi hJ hv hC hm₂ F3 N3 off ne
    obtain ⟨tm, rfl, hys⟩ := hJ
    obtain ⟨row, hrow, a8, us8, k8, rfl, hm8, hu8⟩ := hrel.at (by rw [Array.getElem?_toList]; exact hv)
    have hrl := hr9 row (List.mem_of_getElem? hrow)
    have hul := hu8.length
    obtain ⟨rest9, hrest9⟩ : ∃ rest9, rest9 = tm ++ ((D8, LCg.lst ys8) :: (D7, LCg.lst (bs.map Value.bool)) :: (d9, W.listOf its n9) :: tl) := ⟨_, rfl⟩
    rw [← hrest9] at N3 off
    have hmr : (a8, listOf us8 k8) ∈ rest9 := by
      rw [hrest9]
      exact List.mem_append_right _ (List.mem_cons_of_mem _ (List.mem_cons_of_mem _ (List.mem_cons_of_mem _ hm8)))
    k_steps
    refine Stop.go ?_
    refine LCg.ListComp_U (F₀ := by k_asm) (by with_unfolding_all rfl) (by decide) (by rfl) (by decide) (by rfl) ?_
    k_steps
    refine Stop.go ?_
    refine LCg.CompSrc.ledger (by rfl) (by k_asm) (by k_asm) (its := us8.toArray) (k := k8) (List.mem_cons_of_mem _ (List.mem_cons_of_mem _ (List.mem_cons_of_mem _ hmr))) (by rw [List.size_toArray, sizeLine_eq]; omega) ?_
    intro g10
    refine comp_rest (fun j zs nw => nw = _ ∧ IntsAre zs ((row.take j).map same)) ?_ ?_ ⟨rfl, .nil⟩
    · intro j zs nw v I2 oI2 C2 oC2 D2 m₃ h3 tk3 E3 hi3 hJ3 hv3 hC3 hm₃ F4 N4 off4 ne4
      obtain ⟨rfl, hzs⟩ := hJ3
      obtain ⟨c9, t9, rfl, hc9⟩ := IntsAre.at hu8 j v (by simpa using hv3)
      k_steps
      exact LCg.CompEnd.intro (by k_asm) (by k_asm) _ (fun p hp => hp) off4 (.inr ⟨_, List.mem_cons_of_mem _ (List.mem_cons_of_mem _ (List.mem_cons_of_mem _ hmr)), rfl, _, rfl⟩) ⟨rfl, same_snoc hzs hc9⟩
    · intro zs nw hJ3
      obtain ⟨rfl, hzs⟩ := hJ3
      intro D2 h4 tk4 F4 N4 off4
      exact LCg.CompEnd.intro F4 N4 ((D2, LCg.lst zs) :: rest9) (led_c _ _ _ _) ⟨⟨Ne.symm off4.1, Ne.symm off4.2.1, Ne.symm off4.2.2.1⟩, off⟩ (.inr ⟨_, List.mem_cons_of_mem _ (by rw [hrest9]; exact List.mem_append_right _ (List.mem_cons_of_mem _ (List.mem_cons_of_mem _ (List.mem_cons_self ..)))), rfl, _, rfl⟩) ⟨(D2, LCg.lst zs) :: tm, by rw [hrest9]; rfl, same_row hys hrow (same_all hu8 hzs)⟩
  intro ys9 nw hJ
  obtain ⟨tm, rfl, hys9⟩ := hJ
  intro D9 h9 tk9 F9 N99 off9
  clear N9'
  dsimp only
  have hys8' := line_all hsz hys8
  have hys9' := meant_all hsz hys9
  have N12 := led_12 N99
  clear N99 hys8 hys9
  k_steps
  obtain ⟨bpre, b, hbb⟩ := last_of (l := bs) (by omega)
  obtain ⟨ipre, iv, hii⟩ := last_of (l := its.toList) (by rw [Array.length_toList]; omega)
  obtain ⟨rl, hrlast, al, usl, kl, rfl, hml, hul⟩ := rel_last hrel hii
  have N13 : News _ _ _ ((al, listOf usl kl) :: (D9, LCg.lst ys9) :: (D8, LCg.lst ys8) :: (D7, LCg.lst (bs.map Value.bool)) :: (d9, W.listOf its n9) :: (tm ++ tl)) := led_add N12 (List.mem_cons_of_mem _ (List.mem_cons_of_mem _ (List.mem_cons_of_mem _ (List.mem_cons_of_mem _ (List.mem_append_right _ hml)))))
  clear N12
  refine item_last (pre := bpre.map Value.bool) (v := .bool b) (News.isList N13 (List.mem_cons_of_mem _ (List.mem_cons_of_mem _ (List.mem_cons_of_mem _ (List.mem_cons_self ..))))) (by rw [hbb]; simp) ?_
  k_steps
  · obtain ⟨rpre, hrp⟩ := id hrlast
    have hul9 := hul.length
    have hrl9 : rl.length ≤ 9 := hr9 rl (by rw [hrp]; exact List.mem_append_right _ (List.mem_cons_self ..))
    have hyl9 := hys9'.length
    rw [List.length_map] at hyl9
    have hll : (rows.map lineR).length ≤ 8 := by rw [List.length_map]; omega
    have hbl2 : bs.length = (rows.map lineR).length := by rw [List.length_map]; exact hbl
    have hbr : bpre.length = rpre.length := by have := hbl; rw [hbb, hrp, List.length_append, List.length_append] at this; simpa using this
    have hpn : rpre ≠ [] := fun e => by rw [hrp, e] at hr3; simp at hr3
    have hfr := first_read hrp hbb hbr hpn
    obtain ⟨ypre, yv, hy9⟩ := last_of (l := ys9) (by omega)
    refine item_last (News.isList (by k_asm) (List.mem_cons_of_mem _ (List.mem_cons_of_mem _ (List.mem_cons_of_mem _ (List.mem_cons_of_mem _ (List.mem_cons_self ..)))))) hii ?_
    k_steps
    · have hRd := fun wc hw => (hfr wc hw).trans (if_pos ⟨‹b = true›, nil_of_empty hul ‹usl.isEmpty = true›⟩)
      have hR1 := rel_front hys9' hy9 hrp
      (rename News _ _ _ _ => NF)
      obtain ⟨wc, hwc, hwe⟩ := white_get ((ms.sum + 6).fmod 10).toNat (by omega)
      (rename Fr _ _ _ (fun y => if y = Str.ofString "first" then _ else _) => FB)
      rw [hwe] at FB
      rw [hwe]
      clear F6
      k_steps
      refine Stop.go ?_
      rw [gap_1]
      k_dflt (refine' Tell.use (t_wire (rows.map lineR) bs [wc, 44] _ (vs1 := ys8) hys8' hll hbl2 (lines_ok hr9) (by show 2 ≤ 8; decide)) ?k1 ?k2 ?k3 ?k4 ?k5 ?kK ?kd ?ku ?kp ?_; (case k1 => k_asm); (case k2 => k_asm); (case k3 => k_asm); (case k4 => k_asm); (case k5 => k_asm); (case kK => first | exact rfl | assumption); (case kd => ktr_room); (case ku => ktr_units); (case kp => exact ⟨(List.mem_cons_of_mem _ (List.mem_cons_of_mem _ (List.mem_cons_of_mem _ (List.mem_cons_self ..)))), (List.mem_cons_of_mem _ (List.mem_cons_of_mem _ (List.mem_cons_of_mem _ (List.mem_cons_of_mem _ (List.mem_cons_self ..)))))⟩))
      intro r10 tl10 h10 tk10 F10 N10 off10 ho10
      obtain ⟨rfl, t10, rfl⟩ := ho10
      rw [List.nil_append] at N10
      dsimp only
      k_steps
      refine Stop.go ?_
      have hw1 := wire_len (gap := [wc, 44]) (bits := bs) hr5 hr9 (by show 2 ≤ 8; decide)
      have hi1 := law_items (edge_1 hwc) (bl := b) hrp hbr hpn hr9
      rw [← hbb, show [wc] ++ 44 :: ([] : List Nat) = [wc, 44] from rfl] at hi1
      k_dflt (refine' Tell.use (t_read _ _ hw1 hi1) ?k1 ?k2 ?k3 ?k4 ?k5 ?kK ?kd ?ku trivial ?_; (case k1 => k_asm); (case k2 => k_asm); (case k3 => k_asm); (case k4 => k_asm); (case k5 => k_asm); (case kK => first | exact rfl | assumption); (case kd => ktr_room); (case ku => ktr_units))
      intro r11 tl11 h11 tk11 F11 N11 off11 ho11
      obtain ⟨d11, its11, n11, rfl, hm11, hrel11⟩ := ho11
      dsimp only
      k_steps
      refine Stop.go ?_
      refine nest_ne N11 (List.mem_append_left _ hm11) hrel11 (fun p hp => List.mem_append_left _ hp) (List.mem_append_right _ (List.mem_cons_self ..)) rfl rfl hR1 (fun p hp => List.mem_append_right _ (List.mem_cons_of_mem _ (List.mem_cons_of_mem _ (List.mem_cons_of_mem _ (List.mem_cons_of_mem _ (List.mem_cons_of_mem _ (List.mem_cons_of_mem _ (List.mem_append_left _ hp)))))))) (by ke_room) (hRd wc hwc) ?_
      have N12 := cb_drop N11 fun p hp => List.mem_append_right _ hp
      clear N11 N10
      k_steps
      refine Stop.go ?_
      refine LCg.ListComp_U (F₀ := by k_asm) (by with_unfolding_all rfl) (by decide) (by rfl) (by decide) (by rfl) ?_
      k_steps
      refine Stop.go ?_
      refine LCg.CompSrc.ledger (by rfl) (by k_asm) N12 (List.mem_cons_of_mem _ (List.mem_cons_of_mem _ (List.mem_cons_of_mem _ (List.mem_cons_of_mem _ (List.mem_cons_self ..))))) (by rw [List.size_toArray, List.length_map, sizeLine_eq]; omega) ?_
      intro g12
      refine comp_rest (fun i ys nw => nw = _ ∧ ys = ((bs.take i).map not).map Value.bool) ?_ ?_ ⟨rfl, rfl⟩
      · intro i ys nw v I oI C oC D m₂ h tk E' hi hJ hv hC hm₂ F3 N3 off ne
        obtain ⟨rfl, hys⟩ := hJ
        obtain ⟨b9, hb9, rfl⟩ := bool_at (by simpa using hv)
        k_steps
        exact LCg.CompEnd.intro (by k_asm) (by k_asm) _ (fun p hp => hp) off (.inr ⟨_, (List.mem_cons_of_mem _ (List.mem_cons_of_mem _ (List.mem_cons_of_mem _ (List.mem_cons_of_mem _ (List.mem_cons_self ..))))), rfl, _, rfl⟩) ⟨rfl, not_snoc hys hb9⟩
      intro ys12 nw hJ
      obtain ⟨rfl, hys12⟩ := hJ
      have hys13 := not_all hys12
      clear hys12
      subst hys13
      intro D12 h12 tk12 F12 N13 off12
      clear N12
      dsimp only
      k_steps
      refine Stop.go ?_
      rw [gap_2]
      have hbl3 : (bs.map not).length = (rows.map lineR).length := by rw [List.length_map]; exact hbl2
      have hbb2 : bs.map not = bpre.map not ++ [!b] := by rw [hbb, List.map_append]; rfl
      have hbr2 : (bpre.map not).length = rpre.length := by rw [List.length_map]; exact hbr
      k_dflt (refine' Tell.use (t_wire (rows.map lineR) (bs.map not) [44, wc] _ (vs1 := ys8) hys8' hll hbl3 (lines_ok hr9) (by show 2 ≤ 8; decide)) ?k1 ?k2 ?k3 ?k4 ?k5 ?kK ?kd ?ku ?kp ?_; (case k1 => k_asm); (case k2 => k_asm); (case k3 => k_asm); (case k4 => k_asm); (case k5 => k_asm); (case kK => first | exact rfl | assumption); (case kd => ktr_room); (case ku => ktr_units); (case kp => exact ⟨(List.mem_cons_of_mem _ (List.mem_cons_of_mem _ (List.mem_cons_of_mem _ (List.mem_cons_of_mem _ (List.mem_cons_self ..))))), (List.mem_cons_self ..)⟩))
      intro r14 tl14 h14 tk14 F14 N14 off14 ho14
      obtain ⟨rfl, t14, rfl⟩ := ho14
      rw [List.nil_append] at N14
      clear N13
      dsimp only
      k_steps
      refine Stop.go ?_
      have hw2 := wire_len (gap := [44, wc]) (bits := bs.map not) hr5 hr9 (by show 2 ≤ 8; decide)
      have hi2 := law_items (edge_2 hwc) (bl := !b) hrp hbr2 hpn hr9
      rw [← hbb2, show ([] : List Nat) ++ 44 :: [wc] = [44, wc] from rfl] at hi2
      k_dflt (refine' Tell.use (t_read _ _ hw2 hi2) ?k1 ?k2 ?k3 ?k4 ?k5 ?kK ?kd ?ku trivial ?_; (case k1 => k_asm); (case k2 => k_asm); (case k3 => k_asm); (case k4 => k_asm); (case k5 => k_asm); (case kK => first | exact rfl | assumption); (case kd => ktr_room); (case ku => ktr_units))
      intro r15 tl15 h15 tk15 F15 N15 off15 ho15
      obtain ⟨d15, its15, n15, rfl, hm15, hrel15⟩ := ho15
      clear N14
      dsimp only
      k_steps
      refine Stop.go ?_
      refine nest_eq N15 (List.mem_append_left _ hm15) hrel15 (fun p hp => List.mem_append_left _ hp) (List.mem_append_right _ (List.mem_cons_of_mem _ (List.mem_cons_of_mem _ (List.mem_cons_of_mem _ (List.mem_cons_self ..))))) rfl rfl hys9' (fun p hp => List.mem_append_right _ (List.mem_cons_of_mem _ (List.mem_cons_of_mem _ (List.mem_cons_of_mem _ (List.mem_cons_of_mem _ (List.mem_cons_of_mem _ (List.mem_cons_of_mem _ (List.mem_cons_of_mem _ (List.mem_append_left _ hp))))))))) (by ke_room) (second_read hrp hbb2 hbr2 hpn wc hwc) ?_
      k_steps
    · have hRd := fun wc hw => (hfr wc hw).trans (if_neg fun h => ne_of_empty hul ‹usl.isEmpty = false› h.2)
      have hR1 := id hys9'
      (rename News _ _ _ _ => NE)
      have NF := led_add NE (List.mem_cons_of_mem _ (List.mem_cons_self ..))
      clear NE
      obtain ⟨wc, hwc, hwe⟩ := white_get ((ms.sum + 6).fmod 10).toNat (by omega)
      (rename Fr _ _ _ (fun y => if y = Str.ofString "first" then _ else _) => FB)
      rw [hwe] at FB
      rw [hwe]
      clear F6
      k_steps
      refine Stop.go ?_
      rw [gap_1]
      k_dflt (refine' Tell.use (t_wire (rows.map lineR) bs [wc, 44] _ (vs1 := ys8) hys8' hll hbl2 (lines_ok hr9) (by show 2 ≤ 8; decide)) ?k1 ?k2 ?k3 ?k4 ?k5 ?kK ?kd ?ku ?kp ?_; (case k1 => k_asm); (case k2 => k_asm); (case k3 => k_asm); (case k4 => k_asm); (case k5 => k_asm); (case kK => first | exact rfl | assumption); (case kd => ktr_room); (case ku => ktr_units); (case kp => exact ⟨(List.mem_cons_of_mem _ (List.mem_cons_of_mem _ (List.mem_cons_of_mem _ (List.mem_cons_self ..)))), (List.mem_cons_of_mem _ (List.mem_cons_of_mem _ (List.mem_cons_of_mem _ (List.mem_cons_of_mem _ (List.mem_cons_self ..)))))⟩))
      intro r10 tl10 h10 tk10 F10 N10 off10 ho10
      obtain ⟨rfl, t10, rfl⟩ := ho10
      rw [List.nil_append] at N10
      dsimp only
      k_steps
      refine Stop.go ?_
      have hw1 := wire_len (gap := [wc, 44]) (bits := bs) hr5 hr9 (by show 2 ≤ 8; decide)
      have hi1 := law_items (edge_1 hwc) (bl := b) hrp hbr hpn hr9
      rw [← hbb, show [wc] ++ 44 :: ([] : List Nat) = [wc, 44] from rfl] at hi1
      k_dflt (refine' Tell.use (t_read _ _ hw1 hi1) ?k1 ?k2 ?k3 ?k4 ?k5 ?kK ?kd ?ku trivial ?_; (case k1 => k_asm); (case k2 => k_asm); (case k3 => k_asm); (case k4 => k_asm); (case k5 => k_asm); (case kK => first | exact rfl | assumption); (case kd => ktr_room); (case ku => ktr_units))
      intro r11 tl11 h11 tk11 F11 N11 off11 ho11
      obtain ⟨d11, its11, n11, rfl, hm11, hrel11⟩ := ho11
      dsimp only
      k_steps
      refine Stop.go ?_
      refine nest_ne N11 (List.mem_append_left _ hm11) hrel11 (fun p hp => List.mem_append_left _ hp) (List.mem_append_right _ (List.mem_cons_self ..)) rfl rfl hR1 (fun p hp => List.mem_append_right _ (List.mem_cons_of_mem _ (List.mem_cons_of_mem _ (List.mem_cons_of_mem _ (List.mem_cons_of_mem _ (List.mem_cons_of_mem _ (List.mem_cons_of_mem _ (List.mem_append_left _ hp)))))))) (by ke_room) (hRd wc hwc) ?_
      have N12 := cb_drop N11 fun p hp => List.mem_append_right _ hp
      clear N11 N10
      k_steps
      refine Stop.go ?_
      refine LCg.ListComp_U (F₀ := by k_asm) (by with_unfolding_all rfl) (by decide) (by rfl) (by decide) (by rfl) ?_
      k_steps
      refine Stop.go ?_
      refine LCg.CompSrc.ledger (by rfl) (by k_asm) N12 (List.mem_cons_of_mem _ (List.mem_cons_of_mem _ (List.mem_cons_of_mem _ (List.mem_cons_of_mem _ (List.mem_cons_self ..))))) (by rw [List.size_toArray, List.length_map, sizeLine_eq]; omega) ?_
      intro g12
      refine comp_rest (fun i ys nw => nw = _ ∧ ys = ((bs.take i).map not).map Value.bool) ?_ ?_ ⟨rfl, rfl⟩
      · intro i ys nw v I oI C oC D m₂ h tk E' hi hJ hv hC hm₂ F3 N3 off ne
        obtain ⟨rfl, hys⟩ := hJ
        obtain ⟨b9, hb9, rfl⟩ := bool_at (by simpa using hv)
        k_steps
        exact LCg.CompEnd.intro (by k_asm) (by k_asm) _ (fun p hp => hp) off (.inr ⟨_, (List.mem_cons_of_mem _ (List.mem_cons_of_mem _ (List.mem_cons_of_mem _ (List.mem_cons_of_mem _ (List.mem_cons_self ..))))), rfl, _, rfl⟩) ⟨rfl, not_snoc hys hb9⟩
      intro ys12 nw hJ
      obtain ⟨rfl, hys12⟩ := hJ
      have hys13 := not_all hys12
      clear hys12
      subst hys13
      intro D12 h12 tk12 F12 N13 off12
      clear N12
      dsimp only
      k_steps
      refine Stop.go ?_
      rw [gap_2]
      have hbl3 : (bs.map not).length = (rows.map lineR).length := by rw [List.length_map]; exact hbl2
      have hbb2 : bs.map not = bpre.map not ++ [!b] := by rw [hbb, List.map_append]; rfl
      have hbr2 : (bpre.map not).length = rpre.length := by rw [List.length_map]; exact hbr
      k_dflt (refine' Tell.use (t_wire (rows.map lineR) (bs.map not) [44, wc] _ (vs1 := ys8) hys8' hll hbl3 (lines_ok hr9) (by show 2 ≤ 8; decide)) ?k1 ?k2 ?k3 ?k4 ?k5 ?kK ?kd ?ku ?kp ?_; (case k1 => k_asm); (case k2 => k_asm); (case k3 => k_asm); (case k4 => k_asm); (case k5 => k_asm); (case kK => first | exact rfl | assumption); (case kd => ktr_room); (case ku => ktr_units); (case kp => exact ⟨(List.mem_cons_of_mem _ (List.mem_cons_of_mem _ (List.mem_cons_of_mem _ (List.mem_cons_of_mem _ (List.mem_cons_self ..))))), (List.mem_cons_self ..)⟩))
      intro r14 tl14 h14 tk14 F14 N14 off14 ho14
      obtain ⟨rfl, t14, rfl⟩ := ho14
      rw [List.nil_append] at N14
      clear N13
      dsimp only
      k_steps
      refine Stop.go ?_
      have hw2 := wire_len (gap := [44, wc]) (bits := bs.map not) hr5 hr9 (by show 2 ≤ 8; decide)
      have hi2 := law_items (edge_2 hwc) (bl := !b) hrp hbr2 hpn hr9
      rw [← hbb2, show ([] : List Nat) ++ 44 :: [wc] = [44, wc] from rfl] at hi2
      k_dflt (refine' Tell.use (t_read _ _ hw2 hi2) ?k1 ?k2 ?k3 ?k4 ?k5 ?kK ?kd ?ku trivial ?_; (case k1 => k_asm); (case k2 => k_asm); (case k3 => k_asm); (case k4 => k_asm); (case k5 => k_asm); (case kK => first | exact rfl | assumption); (case kd => ktr_room); (case ku => ktr_units))
      intro r15 tl15 h15 tk15 F15 N15 off15 ho15
      obtain ⟨d15, its15, n15, rfl, hm15, hrel15⟩ := ho15
      clear N14
      dsimp only
      k_steps
      refine Stop.go ?_
      refine nest_eq N15 (List.mem_append_left _ hm15) hrel15 (fun p hp => List.mem_append_left _ hp) (List.mem_append_right _ (List.mem_cons_of_mem _ (List.mem_cons_of_mem _ (List.mem_cons_of_mem _ (List.mem_cons_self ..))))) rfl rfl hys9' (fun p hp => List.mem_append_right _ (List.mem_cons_of_mem _ (List.mem_cons_of_mem _ (List.mem_cons_of_mem _ (List.mem_cons_of_mem _ (List.mem_cons_of_mem _ (List.mem_cons_of_mem _ (List.mem_cons_of_mem _ (List.mem_append_left _ hp))))))))) (by ke_room) (second_read hrp hbb2 hbr2 hpn wc hwc) ?_
      k_steps
  · obtain ⟨rpre, hrp⟩ := id hrlast
    have hul9 := hul.length
    have hrl9 : rl.length ≤ 9 := hr9 rl (by rw [hrp]; exact List.mem_append_right _ (List.mem_cons_self ..))
    have hyl9 := hys9'.length
    rw [List.length_map] at hyl9
    have hll : (rows.map lineR).length ≤ 8 := by rw [List.length_map]; omega
    have hbl2 : bs.length = (rows.map lineR).length := by rw [List.length_map]; exact hbl
    have hbr : bpre.length = rpre.length := by have := hbl; rw [hbb, hrp, List.length_append, List.length_append] at this; simpa using this
    have hpn : rpre ≠ [] := fun e => by rw [hrp, e] at hr3; simp at hr3
    have hfr := first_read hrp hbb hbr hpn
    have hRd := fun wc hw => (hfr wc hw).trans (if_neg fun h => Bool.false_ne_true ((Eq.symm ‹b = false›).trans h.1))
    have hR1 := id hys9'
    (rename News _ _ _ _ => NE)
    have NF := led_add NE (List.mem_cons_of_mem _ (List.mem_cons_self ..))
    clear NE
    obtain ⟨wc, hwc, hwe⟩ := white_get ((ms.sum + 6).fmod 10).toNat (by omega)
    (rename Fr _ _ _ (fun y => if y = Str.ofString "first" then _ else _) => FB)
    rw [hwe] at FB
    rw [hwe]
    clear F6
    k_steps
    refine Stop.go ?_
    rw [gap_1]
    k_dflt (refine' Tell.use (t_wire (rows.map lineR) bs [wc, 44] _ (vs1 := ys8) hys8' hll hbl2 (lines_ok hr9) (by show 2 ≤ 8; decide)) ?k1 ?k2 ?k3 ?k4 ?k5 ?kK ?kd ?ku ?kp ?_; (case k1 => k_asm); (case k2 => k_asm); (case k3 => k_asm); (case k4 => k_asm); (case k5 => k_asm); (case kK => first | exact rfl | assumption); (case kd => ktr_room); (case ku => ktr_units); (case kp => exact ⟨(List.mem_cons_of_mem _ (List.mem_cons_of_mem _ (List.mem_cons_of_mem _ (List.mem_cons_self ..)))), (List.mem_cons_of_mem _ (List.mem_cons_of_mem _ (List.mem_cons_of_mem _ (List.mem_cons_of_mem _ (List.mem_cons_self ..)))))⟩))
    intro r10 tl10 h10 tk10 F10 N10 off10 ho10
    obtain ⟨rfl, t10, rfl⟩ := ho10
    rw [List.nil_append] at N10
    dsimp only
    k_steps
    refine Stop.go ?_
    have hw1 := wire_len (gap := [wc, 44]) (bits := bs) hr5 hr9 (by show 2 ≤ 8; decide)
    have hi1 := law_items (edge_1 hwc) (bl := b) hrp hbr hpn hr9
    rw [← hbb, show [wc] ++ 44 :: ([] : List Nat) = [wc, 44] from rfl] at hi1
    k_dflt (refine' Tell.use (t_read _ _ hw1 hi1) ?k1 ?k2 ?k3 ?k4 ?k5 ?kK ?kd ?ku trivial ?_; (case k1 => k_asm); (case k2 => k_asm); (case k3 => k_asm); (case k4 => k_asm); (case k5 => k_asm); (case kK => first | exact rfl | assumption); (case kd => ktr_room); (case ku => ktr_units))
    intro r11 tl11 h11 tk11 F11 N11 off11 ho11
    obtain ⟨d11, its11, n11, rfl, hm11, hrel11⟩ := ho11
    dsimp only
    k_steps
    refine Stop.go ?_
    refine nest_ne N11 (List.mem_append_left _ hm11) hrel11 (fun p hp => List.mem_append_left _ hp) (List.mem_append_right _ (List.mem_cons_self ..)) rfl rfl hR1 (fun p hp => List.mem_append_right _ (List.mem_cons_of_mem _ (List.mem_cons_of_mem _ (List.mem_cons_of_mem _ (List.mem_cons_of_mem _ (List.mem_cons_of_mem _ (List.mem_cons_of_mem _ (List.mem_append_left _ hp)))))))) (by ke_room) (hRd wc hwc) ?_
    have N12 := cb_drop N11 fun p hp => List.mem_append_right _ hp
    clear N11 N10
    k_steps
    refine Stop.go ?_
    refine LCg.ListComp_U (F₀ := by k_asm) (by with_unfolding_all rfl) (by decide) (by rfl) (by decide) (by rfl) ?_
    k_steps
    refine Stop.go ?_
    refine LCg.CompSrc.ledger (by rfl) (by k_asm) N12 (List.mem_cons_of_mem _ (List.mem_cons_of_mem _ (List.mem_cons_of_mem _ (List.mem_cons_of_mem _ (List.mem_cons_self ..))))) (by rw [List.size_toArray, List.length_map, sizeLine_eq]; omega) ?_
    intro g12
    refine comp_rest (fun i ys nw => nw = _ ∧ ys = ((bs.take i).map not).map Value.bool) ?_ ?_ ⟨rfl, rfl⟩
    · intro i ys nw v I oI C oC D m₂ h tk E' hi hJ hv hC hm₂ F3 N3 off ne
      obtain ⟨rfl, hys⟩ := hJ
      obtain ⟨b9, hb9, rfl⟩ := bool_at (by simpa using hv)
      k_steps
      exact LCg.CompEnd.intro (by k_asm) (by k_asm) _ (fun p hp => hp) off (.inr ⟨_, (List.mem_cons_of_mem _ (List.mem_cons_of_mem _ (List.mem_cons_of_mem _ (List.mem_cons_of_mem _ (List.mem_cons_self ..))))), rfl, _, rfl⟩) ⟨rfl, not_snoc hys hb9⟩
    intro ys12 nw hJ
    obtain ⟨rfl, hys12⟩ := hJ
    have hys13 := not_all hys12
    clear hys12
    subst hys13
    intro D12 h12 tk12 F12 N13 off12
    clear N12
    dsimp only
    k_steps
    refine Stop.go ?_
    rw [gap_2]
    have hbl3 : (bs.map not).length = (rows.map lineR).length := by rw [List.length_map]; exact hbl2
    have hbb2 : bs.map not = bpre.map not ++ [!b] := by rw [hbb, List.map_append]; rfl
    have hbr2 : (bpre.map not).length = rpre.length := by rw [List.length_map]; exact hbr
    k_dflt (refine' Tell.use (t_wire (rows.map lineR) (bs.map not) [44, wc] _ (vs1 := ys8) hys8' hll hbl3 (lines_ok hr9) (by show 2 ≤ 8; decide)) ?k1 ?k2 ?k3 ?k4 ?k5 ?kK ?kd ?ku ?kp ?_; (case k1 => k_asm); (case k2 => k_asm); (case k3 => k_asm); (case k4 => k_asm); (case k5 => k_asm); (case kK => first | exact rfl | assumption); (case kd => ktr_room); (case ku => ktr_units); (case kp => exact ⟨(List.mem_cons_of_mem _ (List.mem_cons_of_mem _ (List.mem_cons_of_mem _ (List.mem_cons_of_mem _ (List.mem_cons_self ..))))), (List.mem_cons_self ..)⟩))
    intro r14 tl14 h14 tk14 F14 N14 off14 ho14
    obtain ⟨rfl, t14, rfl⟩ := ho14
    rw [List.nil_append] at N14
    clear N13
    dsimp only
    k_steps
    refine Stop.go ?_
    have hw2 := wire_len (gap := [44, wc]) (bits := bs.map not) hr5 hr9 (by show 2 ≤ 8; decide)
    have hi2 := law_items (edge_2 hwc) (bl := !b) hrp hbr2 hpn hr9
    rw [← hbb2, show ([] : List Nat) ++ 44 :: [wc] = [44, wc] from rfl] at hi2
    k_dflt (refine' Tell.use (t_read _ _ hw2 hi2) ?k1 ?k2 ?k3 ?k4 ?k5 ?kK ?kd ?ku trivial ?_; (case k1 => k_asm); (case k2 => k_asm); (case k3 => k_asm); (case k4 => k_asm); (case k5 => k_asm); (case kK => first | exact rfl | assumption); (case kd => ktr_room); (case ku => ktr_units))
    intro r15 tl15 h15 tk15 F15 N15 off15 ho15
    obtain ⟨d15, its15, n15, rfl, hm15, hrel15⟩ := ho15
    clear N14
    dsimp only
    k_steps
    refine Stop.go ?_
    refine nest_eq N15 (List.mem_append_left _ hm15) hrel15 (fun p hp => List.mem_append_left _ hp) (List.mem_append_right _ (List.mem_cons_of_mem _ (List.mem_cons_of_mem _ (List.mem_cons_of_mem _ (List.mem_cons_self ..))))) rfl rfl hys9' (fun p hp => List.mem_append_right _ (List.mem_cons_of_mem _ (List.mem_cons_of_mem _ (List.mem_cons_of_mem _ (List.mem_cons_of_mem _ (List.mem_cons_of_mem _ (List.mem_cons_of_mem _ (List.mem_cons_of_mem _ (List.mem_append_left _ hp))))))))) (by ke_room) (second_read hrp hbb2 hbr2 hpn wc hwc) ?_
    k_steps)
end Mine

theorem PySem.Challenge.cw_mq0121_01_holds : PySem.Challenge.rw_mq0121_01.Holds :=
  Mine.law_holds
