import PyProof.Rows.All
import Wide.All
import OpenK.AllK
import Wide.FinOn
import PySem.Challenge.RW_fb5001_01
set_option Elab.async false

-- part: Comp
section
open PySem PySem.W PyProof.Rows PySem.Spec PySem.Calls
namespace Mine
open PyProof.Rows.LCg PyProof.Rows.LCt
section
variable {prog : Program} {w : World} {A : Around} {E : Value → Shared → Prop} {s : Shared} {h₀ : Heap} {L : Addr} {m : Str → Option Value} {env : Env}

/-- what an iterable's iterator must be, for a comprehension's block to be walked -/
structure Walked (prog : Program) (w : World) (A : Around) (h₀ : Heap) (L : Addr) (m : Str → Option Value) (I : Addr) (n : Nat) (P : Nat → Value → Prop) (St : Nat → Heap → Prop) (news : List (Addr × Obj)) (s₂ : Shared) : Prop where
  walks : Walks prog w A I [I] [I] n P St
  small : n ≤ sizeLine
  there : ∀ i h, St i h → ∃ o, h.get? I = some o
  same : ∀ i h h' o, St i h → h.get? I = some o → h'.get? I = some o → St i h'
  start : St 0 s₂.heap
  below : I < s₂.heap.objs.size
  fr : Fr h₀ L s₂.heap m
  led : News h₀ L s₂.heap news
  off : L ≠ I
  fresh : h₀.get? I = none
  apart : ∀ p ∈ news, p.1 ≠ I

theorem post_of_fin {Q : Value → Shared → Prop} {D C : Addr} {h : Heap} {tk : Nat} {m' : Str → Option Value} {ys : List Value} {news' : List (Addr × Obj)} {s₂ : Shared} {acc : Value}
    (F' : Fr h₀ L h m) (N' : News h₀ L h ((D, lst ys) :: news')) (o1 : Off1 D news') (hn : h.Ns C m') (hC₀ : h₀.get? C = none) (hCL : C ≠ L) (hCD : C ≠ D) (offC : ∀ p ∈ news', p.1 ≠ C) (hacc : acc = .ref D)
    (fin : FinE h₀ L m s₂ Q ys news') : compPost (model prog w) A E none Q acc C (.ok .next) { s₂ with heap := h, toks := tk } := by
  subst hacc
  refine ⟨m', hn, fun h'' hs'' => fin D h'' tk (F'.change hs'' hCL hC₀) (fun p hp => ?_) o1⟩
  refine ⟨hs''.extBut _ _ ?_ (N' p hp).1, (N' p hp).2⟩
  rcases List.mem_cons.mp hp with rfl | hp
  · exact Ne.symm hCD
  · exact offC p hp

theorem comp_W {elt iter : Expr} {x : Str} {px : Pos} {scope : Scope} {cl : List (Str × Addr)} {pos : Pos} {Q : Value → Shared → Prop} (F₀ : Fr h₀ L s.heap m)
    (hclos : closureFor scope env = pure cl) (hcell : ∀ y ∈ scope.names, y.2 ≠ .cell) (hkind : scope.kind = .function)
    (hnames : ∀ y ∈ scope.names, y.2 = .local → scope.names.lookup y.1 = some .local) (hx : scope.names.lookup x = some .local)
    (h : wpAny (model prog w) A (eval iter env) (fun xv s₁ => wpAny (model prog w) A (pyIter xv) (fun it s₂ => ∃ I n P St news, it = .ref I ∧ Walked prog w A h₀ L m I n P St news s₂ ∧
      CompRest prog w A h₀ L m env elt x scope cl s₂ (fun _ => True) P (FinE h₀ L m s₂ Q) n 0 [] news) E s₁) E s)
    (hs : ∀ x, foldedSetIterable iter env x = pure x := by intro _; rfl) :
    wpAny (model prog w) A (eval (.ListComp elt [⟨.Name x px, iter, [], 0⟩] scope pos) env) Q E s := by
  rw [eval_ListComp]
  refine wpAny_comprehension_free (use := none) rfl hs hclos hkind hnames (wpAny_mono h (fun xv s₁ h₁ => wpAny_mono h₁ (fun it s₂ h₂ => ?_) fun _ _ e => e) fun _ _ e => e)
  obtain ⟨I, n, P, St, news, rfl, V, R⟩ := h₂
  refine block_U V.walks V.small V.there (fun i h h' o _ st e e' _ _ _ => V.same i h h' o st e e') hcell hkind hx V.start (fun b hb => (List.mem_singleton.mp hb) ▸ V.below) V.fr V.led V.off V.fresh V.apart trivial R ?_
  intro D C h tk m' ys news' F' N' o1 hn hC₀ hD₀ hCL hDL hCD offC fin
  exact post_of_fin F' N' o1 hn hC₀ hCL hCD offC rfl fin

theorem comp_WT {ct elt iter : Expr} {x : Str} {px : Pos} {scope : Scope} {cl : List (Str × Addr)} {pos : Pos} {Q : Value → Shared → Prop} (F₀ : Fr h₀ L s.heap m)
    (hclos : closureFor scope env = pure cl) (hcell : ∀ y ∈ scope.names, y.2 ≠ .cell) (hkind : scope.kind = .function)
    (hnames : ∀ y ∈ scope.names, y.2 = .local → scope.names.lookup y.1 = some .local) (hx : scope.names.lookup x = some .local)
    (h : wpAny (model prog w) A (eval iter env) (fun xv s₁ => wpAny (model prog w) A (pyIter xv) (fun it s₂ => ∃ I n P St news, it = .ref I ∧ Walked prog w A h₀ L m I n P St news s₂ ∧
      CompRestT prog w A h₀ L m env ct elt x scope cl s₂ (fun _ => True) P (FinE h₀ L m s₂ Q) n 0 [] news) E s₁) E s)
    (hs : ∀ x, foldedSetIterable iter env x = pure x := by intro _; rfl) :
    wpAny (model prog w) A (eval (.ListComp elt [⟨.Name x px, iter, [ct], 0⟩] scope pos) env) Q E s := by
  rw [eval_ListComp]
  refine wpAny_comprehension_free (use := none) rfl hs hclos hkind hnames (wpAny_mono h (fun xv s₁ h₁ => wpAny_mono h₁ (fun it s₂ h₂ => ?_) fun _ _ e => e) fun _ _ e => e)
  obtain ⟨I, n, P, St, news, rfl, V, R⟩ := h₂
  refine block_T V.walks V.small V.there (fun i h h' o _ st e e' _ _ _ => V.same i h h' o st e e') hcell hkind hx V.start (fun b hb => (List.mem_singleton.mp hb) ▸ V.below) V.fr V.led V.off V.fresh V.apart trivial R ?_
  intro D C h tk m' ys news' F' N' o1 hn hC₀ hD₀ hCL hDL hCD offC fin
  exact post_of_fin F' N' o1 hn hC₀ hCL hCD offC rfl fin

theorem walked_push {I : Addr} {n : Nat} {P : Nat → Value → Prop} {St : Nat → Heap → Prop} {news : List (Addr × Obj)} {s₁ : Shared} {o : Obj} (hI : I = s₁.heap.objs.size)
    (W : Walks prog w A I [I] [I] n P St) (hn : n ≤ sizeLine) (there : ∀ i h, St i h → ∃ o, h.get? I = some o) (same : ∀ i h h' o, St i h → h.get? I = some o → h'.get? I = some o → St i h')
    (start : St 0 (s₁.heap.push o)) (F : Fr h₀ L s₁.heap m) (N : News h₀ L s₁.heap news) : Walked prog w A h₀ L m I n P St news { s₁ with heap := s₁.heap.push o } := by
  subst hI
  exact ⟨W, hn, there, same, start, by show _ < (s₁.heap.push o).objs.size; rw [Heap.size_push]; exact Nat.lt_succ_self _, F.keeps fun _ _ e => Heap.get?_push_of_some _ e, N.grown fun _ _ e => Heap.get?_push_of_some _ e,
    Nat.ne_of_lt F.ns.lt, next_is_new F, fun p hp => Nat.ne_of_lt (Heap.lt_size (N p hp).1)⟩

/-- a range of any step -/
theorem src_range {r : Addr} {a b c : Int} {t u v : Tok} {n : Nat} {news : List (Addr × Obj)} {s₁ : Shared} {R : Value → Shared → Prop}
    (hh : A.handled = none) (F : Fr h₀ L s₁.heap m) (N : News h₀ L s₁.heap news) (hr : IsRange s₁.heap r a b c t u v) (hsm : Builtin.Range.small a b c = true) (hn : Builtin.Range.rangeSize a b c = ((n : Nat) : Int)) (hsz : n ≤ sizeLine)
    (h : ∀ I g St, Walked prog w A h₀ L m I n (fun i v => ∃ t, v = .int (a + (i : Int) * c) t) St news { s₁ with heap := g } → R (.ref I) { s₁ with heap := g }) : wpAny (model prog w) A (pyIter (.ref r)) R E s₁ := by
  refine wpAny_pyIter_range hr hsm (h _ _ _ (walked_push rfl (Walks.range hh s₁.heap.objs.size a c n) hsz (fun i h st => ⟨_, st⟩) (fun i h h' o st e e' => ?_) ?_ F N))
  · have st' : h.get? s₁.heap.objs.size = some _ := st
    show h'.get? _ = some _
    rw [e', ← e]; exact st'
  · show IsRangeIter _ _ _ _ _
    rw [hn]
    simpa using Heap.get?_push_size _ rfl

/-- a text, sign by sign -/
theorem src_str {xt : Str} {t : Tok} {news : List (Addr × Obj)} {s₁ : Shared} {R : Value → Shared → Prop}
    (hh : A.handled = none) (F : Fr h₀ L s₁.heap m) (N : News h₀ L s₁.heap news) (hsz : xt.cps.size ≤ sizeLine)
    (h : ∀ I g St, Walked prog w A h₀ L m I xt.cps.size (SignAt xt) St news { s₁ with heap := g } → R (.ref I) { s₁ with heap := g }) : wpAny (model prog w) A (pyIter (.str xt t)) R E s₁ := by
  have same : ∀ ty (i : Nat) (h h' : Heap) (o : Obj), h.IsStrIter s₁.heap.objs.size ty xt t i → h.get? s₁.heap.objs.size = some o → h'.get? s₁.heap.objs.size = some o → h'.IsStrIter s₁.heap.objs.size ty xt t i := by
    rintro ty i h h' o ⟨o', e1, r⟩ e e'
    rw [e] at e1; cases e1
    exact ⟨o, e', r⟩
  cases ha : xt.cps.all (· < 128)
  · exact wpAny_pyIter_wide ha (h _ _ _ (walked_push rfl (Walks.strWide hh _ xt t) hsz (fun i h st => let ⟨o, e, _⟩ := st; ⟨o, e⟩) (same _) ⟨_, Heap.get?_push_size _ rfl, rfl, rfl⟩ F N))
  · exact wpAny_pyIter_ascii ha (h _ _ _ (walked_push rfl (Walks.strAscii hh _ xt t) hsz (fun i h st => let ⟨o, e, _⟩ := st; ⟨o, e⟩) (same _) ⟨_, Heap.get?_push_size _ rfl, rfl, rfl⟩ F N))
end
end Mine
end

-- part: NC
section
open PySem PySem.W PyProof.Rows PySem.Calls
open Sem (wp)
set_option maxRecDepth 100000
namespace Mine
/-- code that, standing on the stack, does not hold a bytearray's memory -/
def quietC : Code → Bool
  | .builtin id _ => !(["bytearray.__contains__", "bytearray.__mod__", "bytearray.__rmod__", "_struct.pack_into.held", "bytearray.find.held"].contains id || Builtin.Bytes.decodersThatHold.contains id)
  | _ => true
def CleanB (Γ : Ctx) : Prop := ∀ x ∈ Γ.below, quietC x.1 = true
def Clean (Γ : Ctx) : Prop := quietC Γ.code = true ∧ CleanB Γ
/-- as wpAny, for stacks that hold no bytearray's memory -/
def wpN {α : Type} (M : Model) (A : Around) (t : Sem α) (Q : α → Shared → Prop) (E : Value → Shared → Prop) (s : Shared) : Prop :=
  ∀ Γ p, Γ.In A → Clean Γ → wp M Γ t (fun a _ s' => Q a s') (fun e _ s' => E e s') p s
def codeN (M : Model) (A : Around) (c : Code) (R : Result → Shared → Prop) (s : Shared) : Prop :=
  ∀ Γ p, Γ.code = c → Γ.Below A → CleanB Γ → wpCode M Γ R p s
namespace N
section
variable {α β : Type} {M : Model} {A : Around} {E : Value → Shared → Prop} {s : Shared}
theorem of_any {t : Sem α} {Q : α → Shared → Prop} (h : wpAny M A t Q E s) : wpN M A t Q E s := fun Γ p hΓ _ => h Γ p hΓ
theorem of_code {c : Code} {R : Result → Shared → Prop} (h : codeAny M A c R s) : codeN M A c R s := fun Γ p hc hΓ _ => h Γ p hc hΓ
theorem bind {m : Sem α} {f : α → Sem β} {Q : β → Shared → Prop} (h : wpN M A m (fun a s' => wpN M A (f a) Q E s') E s) : wpN M A (m >>= f) Q E s := fun Γ p hΓ hC => by
  rw [Sem.wp_bind']
  exact Sem.wp_mono M Γ m (fun a p' s' h' => h' Γ p' hΓ hC) (fun _ _ _ h' => h') p s (h Γ p hΓ hC)
theorem bindA {m : Sem α} {f : α → Sem β} {Q : β → Shared → Prop} (h : wpAny M A m (fun a s' => wpN M A (f a) Q E s') E s) : wpN M A (m >>= f) Q E s := bind (of_any h)
theorem mono {t : Sem α} {Q Q' : α → Shared → Prop} {E' : Value → Shared → Prop} (h : wpN M A t Q E s) (hQ : ∀ a s, Q a s → Q' a s) (hE : ∀ e s, E e s → E' e s) : wpN M A t Q' E' s :=
  fun Γ p hΓ hC => Sem.wp_mono M Γ t (fun a _ s => hQ a s) (fun e _ s => hE e s) p s (h Γ p hΓ hC)
theorem code_mono {c : Code} {R R' : Result → Shared → Prop} (h : codeN M A c R s) (hR : ∀ r s, R r s → R' r s) : codeN M A c R' s := fun Γ p hc hΓ hC => wpCode_mono hR (h Γ p hc hΓ hC)
theorem pure {a : α} {Q : α → Shared → Prop} (h : Q a s) : wpN M A (Pure.pure a) Q E s := fun _ _ _ _ => h
theorem holding {vs : List Value} {m : Sem α} {Q : α → Shared → Prop} (h : wpN M A m Q E s) : wpN M A (holding vs m) Q E s := fun Γ p hΓ hC => by rw [Sem.wp_holding]; exact h Γ p hΓ hC
theorem onRaise {m : Sem α} {k : Value → Sem Unit} {Q : α → Shared → Prop}
    (h : wpN M A m Q (fun e s' => wpAny M A (k e) (fun _ s'' => E e s'') E s') s) : wpN M A (m.onRaise k) Q E s := fun Γ p hΓ hC => by
  rw [Sem.wp_onRaise]
  exact Sem.wp_mono M Γ m (fun _ _ _ h' => h') (fun e p' s' h' => h' Γ p' hΓ) p s (h Γ p hΓ hC)
theorem if_false {c : Bool} {a b : Sem α} {Q : α → Shared → Prop} (hc : c = false) (h : wpN M A b Q E s) : wpN M A (if c = true then a else b) Q E s := by subst hc; exact h
theorem if_true {c : Bool} {a b : Sem α} {Q : α → Shared → Prop} (hc : c = true) (h : wpN M A a Q E s) : wpN M A (if c = true then a else b) Q E s := by subst hc; exact h
theorem runValue {c : Code} {Q : Value → Shared → Prop}
    (hc : codeN M A c (fun r s' => match r with | .ok (.ret v) => Q v s' | .ok _ => False | .error e => E e s') s) :
    wpN M A (runValue c) Q E s := fun Γ p hΓ hC => by
  rw [Sem.wp_runValue]
  refine hc _ p rfl (hΓ.enter c none p (by intro x; cases x)) fun x hx => ?_
  rcases List.mem_cons.mp hx with rfl | hx
  · exact hC.1
  · exact hC.2 x hx
theorem of_tree {c : Code} {R : Result → Shared → Prop} (hq : quietC c = true)
    (h : wpN M (A.under c) (M.den c) (fun fin s' => match fin with | .done f => R (.ok f) s' | .again c' => c'.quiet = true ∧ codeN M A c' R s')
      (fun e s' => R (.error e) s') s) : codeN M A c R s := fun Γ p hc hΓ hC => by
  rw [wpCode_iff_wp, hc]
  refine Sem.wp_mono M Γ _ (fun fin p' s' h' => ?_) (fun _ _ _ h' => h') p s (h Γ p (hc ▸ hΓ.in) ⟨by rw [hc]; exact hq, hC⟩)
  cases fin with
  | done f => exact h'
  | again c' => exact ⟨h'.1, h'.2 (Γ.goto c') p' rfl (hΓ.goto c') hC⟩
theorem exported {self : Value} {Q : Bool → Shared → Prop} (h : Q false s) : wpN M A (Builtin.Bytes.exported self) Q E s := fun Γ p _ hC => by
  have key : ∀ (l : List (Code × Pos)), (∀ x ∈ l, quietC x.1 = true) → (l.any fun
    | (.builtin "bytearray.__contains__" ⟨v :: _, _⟩, _) | (.builtin "bytearray.__mod__" ⟨v :: _, _⟩, _)
    | (.builtin "bytearray.__rmod__" ⟨_ :: v :: _, _⟩, _) | (.builtin "_struct.pack_into.held" ⟨v :: _, _⟩, _) => Builtin.Bytes.sameRef v self
    | (.builtin "bytearray.find.held" ⟨_ :: _ :: held, _⟩, _) => held.any (Builtin.Bytes.sameRef self)
    | (.builtin id ⟨v :: _, _⟩, _) => Builtin.Bytes.sameRef v self && Builtin.Bytes.decodersThatHold.contains id
    | _ => false) = false := by
    intro l hl
    rw [List.any_eq_false]
    intro x hx
    have h1 := hl x hx
    split <;> simp_all [quietC]
  show Q (List.any ((Γ.code, p) :: Γ.below) _) s
  have := key ((Γ.code, p) :: Γ.below) (fun x hx => by
    rcases List.mem_cons.mp hx with rfl | hx
    · exact hC.1
    · exact hC.2 x hx)
  erw [this]
  exact h
end
end N
end Mine
end

-- part: NE
section
open PySem PySem.W PyProof.Rows PySem.Calls
open Sem (wp)
set_option maxRecDepth 100000
namespace Mine
namespace N
section
variable {M : Model} {A : Around} {E : Value → Shared → Prop} {s : Shared} {env : Env}
theorem execs_cons_ {st : Stmt} {rest : List Stmt} {Q : Flow → Shared → Prop}
    (h : wpN M A (exec st env) (fun f s' => match f with | .next => wpN M A (execs rest env) Q E s' | f => Q f s') E s) : wpN M A (execs (st :: rest) env) Q E s := by
  rw [execs_cons]
  refine N.bind (N.mono h (fun f s' h' => ?_) fun _ _ x => x)
  cases f <;> first | exact h' | exact N.pure h'
theorem execs_at {ys : List Stmt} {Q : Flow → Shared → Prop} {Γ : Ctx} (hΓ : Γ.In A) (hC : Clean Γ) : ∀ (xs : List Stmt) (p : Pos) (s : Shared),
    wp M Γ (execs xs env) (fun f _ s' => match f with | .next => wpN M A (execs ys env) Q E s' | f => Q f s') (fun e _ s' => E e s') p s → wp M Γ (execs (xs ++ ys) env) (fun f _ s' => Q f s') (fun e _ s' => E e s') p s
  | [], p, s, h => by
    have e : execs [] env = Pure.pure Flow.next := rfl
    rw [e, Sem.wp_pure'] at h
    exact h Γ p hΓ hC
  | x :: xs, p, s, h => by
    rw [execs_cons, Sem.wp_bind'] at h
    show wp M Γ (execs (x :: (xs ++ ys)) env) _ _ p s
    rw [execs_cons, Sem.wp_bind']
    refine Sem.wp_mono M Γ _ (fun f p' s' h' => ?_) (fun _ _ _ h' => h') p s h
    cases f with
    | next => exact execs_at hΓ hC xs p' s' h'
    | _ => rw [Sem.wp_pure'] at h' ⊢; exact h'
/-- the first statements by the walk, the rest with a clean stack -/
theorem execs_app {ys : List Stmt} {Q : Flow → Shared → Prop} (xs : List Stmt)
    (h : wpAny M A (execs xs env) (fun f s' => match f with | .next => wpN M A (execs ys env) Q E s' | f => Q f s') E s) : wpN M A (execs (xs ++ ys) env) Q E s :=
  fun Γ p hΓ hC => execs_at hΓ hC xs p s (h Γ p hΓ)
theorem assign_Name {x : Str} {pos' : Pos} {value : Expr} {pos : Pos} {Q : Flow → Shared → Prop} (hs : swapsWith value (some (.Name x pos')) pos.line env = Pure.pure false)
    (h : wpN M A (eval value env) (fun v s₁ => wpAny M A (storeName env x v) (fun _ s₂ => Q .next s₂) E s₁) E s) : wpN M A (exec (.Assign [.Name x pos'] value pos) env) Q E s := by
  rw [exec_Assign_Name env x pos' value pos hs]
  refine N.bindA (wpAny_standAt ?_)
  refine N.bind (N.mono h (fun v s₁ h₁ => N.bindA (wpAny_standAt (N.of_any (wpAny_bind (wpAny_bindName (wpAny_mono h₁ (fun _ _ h' => wpAny_pure h') fun _ _ x => x)))))) fun _ _ x => x)
theorem spliced_ {x : Sem Value} {rest : List (Bool × Sem Value)} {Q : List Value → Shared → Prop}
    (h : wpN M A x (fun v s₁ => wpAny M A (spliced rest) (fun vs s₂ => Q (v :: vs) s₂) E s₁) E s) : wpN M A (spliced ((false, x) :: rest)) Q E s := by
  show wpN M A (x >>= fun v => (Pure.pure [v] : Sem (List Value)) >>= fun here => PySem.holding here (spliced rest) >>= fun r => Pure.pure (here ++ r)) Q E s
  exact N.bind (N.mono h (fun v s₁ h₁ => N.of_any (wpAny_bind (wpAny_pure (wpAny_bind (wpAny_holding (wpAny_mono h₁ (fun vs s₂ h₂ => wpAny_pure h₂) fun _ _ x => x)))))) fun _ _ x => x)
theorem evalArgs_ {f : Value} {x : Sem Value} {rest : List (Bool × Sem Value)} {Q : Args → Shared → Prop}
    (h : wpN M A (spliced ((false, x) :: rest)) (fun vs s' => Q ⟨vs, []⟩ s') E s) : wpN M A (evalArgs f true ((false, x) :: rest) []) Q E s := by
  unfold evalArgs
  show wpN M A (spliced ((false, x) :: rest) >>= _) Q E s
  refine N.bind (N.mono h (fun vs s' h' => ?_) fun _ _ x => x)
  exact N.of_any (wpAny_holding (wpAny_bind (wpAny_pure (wpAny_bind (wpAny_pure (wpAny_pure h'))))))
theorem call_Name {id : Str} {p pos : Pos} {args : List Expr} {Q : Value → Shared → Prop}
    (h : wpAny M A (eval (.Name id p) env) (fun f s₁ => wpN M A (callWith pos f [] (backTo pos (starEach args env)) []) Q E s₁) E s) : wpN M A (eval (.Call (.Name id p) args [] pos) env) Q E s := by
  rw [arm_eval_Call_Name']
  exact N.bindA h
/-- the arguments hold the delicate step -/
theorem callWith_args {pos : Pos} {f : Value} {P : Heap → Prop} {args : List (Bool × Sem Value)} {Q : Value → Shared → Prop} (hplain : args.any (·.1) = false)
    (hk : ∀ h, P h → ∃ k, (k = Keeper.frame ∨ k = Keeper.machine ∨ k = Keeper.boundFrame) ∧ Looks M h (keeperOf f) k)
    (h : wpN M A (evalArgs f true args []) (fun a s₁ => P s₁.heap ∧ wpAny M A (call f ([] ++ a.pos) a.kw) Q E s₁) E s) : wpN M A (callWith pos f [] args []) Q E s := by
  unfold callWith
  refine N.bind (N.holding (N.mono h (fun a s₁ h₁ => N.bindA (wpAny_standAt ?_)) fun _ _ x => x))
  obtain ⟨k, hk', L⟩ := hk _ h₁.1
  simp only [hplain, List.any_nil, Bool.or_false]
  refine N.of_any (wpAny_bind (L.here ?_))
  have tail : ∀ {t : Sem Value}, wpAny M A t Q E s₁ → wpAny M A (t >>= fun r => PySem.holding [r] point >>= fun _ => Pure.pure r) Q E s₁ :=
    fun ht => wpAny_bind (wpAny_mono ht (fun r s₂ hr => wpAny_bind (wpAny_holding (wpAny_point (wpAny_pure hr)))) fun _ _ x => x)
  have marked (mk : Value) : wpAny M A (callMarked mk f ([] ++ a.pos) a.kw) Q E s₁ := by unfold callMarked; exact Calls.wpAny_keep h₁.2
  rcases hk' with rfl | rfl | rfl <;> dsimp only <;> first | exact tail h₁.2 | (split <;> first | exact tail h₁.2 | exact tail (marked _))
/-- the call itself is the delicate step -/
theorem callWith_type {pos : Pos} {T : String} {args : List (Bool × Sem Value)} {Q : Value → Shared → Prop} (hplain : args.any (·.1) = false)
    (h : wpAny M A (evalArgs (.type T) true args []) (fun a s₁ => wpN M A (call (.type T) ([] ++ a.pos) a.kw) Q E s₁) E s) : wpN M A (callWith pos (.type T) [] args []) Q E s := by
  unfold callWith
  refine N.bindA (wpAny_holding (wpAny_mono h (fun a s₁ h₁ => N.bindA (wpAny_standAt ?_)) fun _ _ x => x))
  simp only [hplain, List.any_nil, Bool.or_false]
  refine N.bindA (wpAny_of_eq (a := Keeper.machine) rfl ?_)
  exact N.bind (N.mono h₁ (fun r s₂ hr => N.bindA (wpAny_holding (wpAny_point (N.pure hr)))) fun _ _ x => x)
end
section
variable {prog : Program} {w : World} {A : Around} {E : Value → Shared → Prop} {s : Shared} {R : Result → Shared → Prop}
theorem func_ {body : List Stmt} {env : Env}
    (h : wpN (model prog w) (A.deeper env) (execs body env) (fun f s' => R (.ok (.ret (match f with | .ret v => v | _ => .none))) s')
      (fun e s' => wpAny (model prog w) (A.deeper env) (leaving env e) (fun _ s'' => R (.error e) s'') (fun e' s'' => R (.error e') s'') s') s) :
    codeN (model prog w) A (.func body env) R s := by
  refine N.of_tree rfl ?_
  show wpN _ (A.deeper env) (do point; match ← (execs body env).onRaise (leaving env) with | .ret v => ret v | _ => ret .none) _ _ s
  refine N.bindA (wpAny_point (N.bind (N.onRaise (N.mono h (fun f s' h' => ?_) fun _ _ h' => h'))))
  cases f <;> exact N.pure h'
theorem call_function {a : Addr} {args : Args} {o : Obj} {fd : FuncData} {body : List Stmt} (hroom : A.depth < recursionLimit)
    (ho : s.heap.get? a = some o)
    (hd' : o.data = .func fd) (hco : fd.scope.isCoroutine = false) (hgen : fd.scope.isGenerator = false) (hbody : fd.body = .stmts body) (hcd : s.heap.CodeRec fd.code fd.qualname)
    (h : wpAny (model prog w) A.in1 (bindArgs fd args) (fun binds s₁ =>
      wpAny (model prog w) A.in1 (newFunctionEnv fd.scope fd.globals fd.closure binds (fd.qualname ++ ".<locals>.") (some a) fd.code none fd.builtins)
        (fun env s₂ => s₂.heap.NoLimit ∧ codeN (model prog w) A (.func body env) R s₂) (fun e s' => R (.error e) s') s₁) (fun e s' => R (.error e) s') s) :
    codeN (model prog w) A (.call (.ref a) args) R s := by
  refine N.of_tree rfl ?_
  show wpN _ A.in1 (callAny (.ref a) args) _ _ s
  simp only [callAny]
  refine N.bindA (wpAny_load ho ?_)
  obtain ⟨c, oc, vs, tq, hc, hoc, hdc, hq⟩ := hcd
  simp only [hd', callFunction, hco, hgen, hbody, hc]
  rw [hc] at h
  refine N.bindA (m := field (.ref c) 1) (wpAny_field hoc hdc hq (N.bindA (wpAny_pure ?_)))
  exact N.bindA (wpAny_mono h (fun binds s₁ h₁ => N.bindA (wpAny_mono h₁ (fun env s₂ h₂ => N.bindA (wpAny_enterFrame h₂.1 hroom
    (N.pure (And.intro rfl h₂.2)))) fun _ _ h' => h')) fun _ _ h' => h')
end
end N
end Mine
end

-- part: NH
section
open PySem PySem.W PyProof.Rows PySem.Calls
open Sem (wp)
namespace Mine
/-- the caller's stack is clean -/
theorem caller_clean : Clean ⟨.builtin "claim.caller" {}, none, none, [], none⟩ := ⟨by simp only [quietC]; decide +kernel, fun _ hx => nomatch hx⟩
/-- the thread of a claim, walked with a clean stack -/
theorem thread_N {prog : Program} {w : World} {t : Sem Fin} {s : Shared} {R : Result → Shared → Prop} (hreg : s.asleep)
    (h : wpN (model prog w) callerA t (fun fin s' => ∃ f, fin = .done f ∧ R (.ok f) s' ∧ AllBare s'.gens) (fun e s' => R (.error e) s' ∧ AllBare s'.gens) s) :
    ∃ n r s' s'', runN (denote table) prog w n s ⟨t, .builtin "claim.caller" {}, default, []⟩ = .halted (outcomeOf r) s' ∧
      schedN (denote table) prog w n (.single s ⟨t, .builtin "claim.caller" {}, default, []⟩) = .halted (outcomeOf r) s' ∧ s'.forget = s''.forget ∧ R r s'' := by
  have h2 := Sem.wp_mono (model prog w) _ t (post' := Sem.finPost (model prog w) ⟨.builtin "claim.caller" {}, none, none, [], none⟩ fun r s' => R r s' ∧ leftWithCleanup s'.gens = false) (exc' := fun e _ s' => R (.error e) s' ∧ leftWithCleanup s'.gens = false)
    (fun fin p' s' ⟨f, e, h1, h3⟩ => by subst e; exact ⟨h1, leftWithCleanup_false_of_bare h3⟩) (fun e p' s' h' => ⟨h'.1, leftWithCleanup_false_of_bare h'.2⟩) default s (h _ default caller_in caller_clean)
  obtain ⟨n, r, s₁, s₂, hs, hn, hfo, hR⟩ := wp_halts_full (M := model prog w) (R := R) hreg h2
  exact ⟨n, r, s₂, s₁, hn, hs, hfo, hR⟩
theorem callFrom_N {c : ClaimW} {tree : List Value → Sem Fin} {w : World} {s : Shared} {free : Addr → Prop} {gens : Prop} {kept : Heap → Prop} (hz : s.asleep) (hgens : s.gens = #[])
    (hspec : ∀ args, c.pre args = true → WData.layableAll args = true → ∀ ord : List DictEntry → List DictEntry, (∀ l, (ord l).Perm l) →
      ∃ vs s₁, layAllW c.records (classAt s.heap) w.params ord args s = some (vs, s₁) ∧
        wpN (model c.prog w) callerA (tree vs) (fun fin s' => ∃ f, fin = .done f ∧ (c.Ends s args vs s₁ (.ok f) s' ∧ s'.os = s.os ∧ kept s'.heap) ∧ AllBare s'.gens)
          (fun e s' => (c.Ends s args vs s₁ (.error e) s' ∧ s'.os = s.os ∧ kept s'.heap) ∧ AllBare s'.gens) s₁) :
    c.CallFrom (fun vs => ⟨tree vs, .builtin "claim.caller" {}, default, []⟩) w free gens kept s := by
  intro args hpre hlay ord hord
  obtain ⟨vs, s₁, hlaid, hcode⟩ := hspec args hpre hlay ord hord
  have hal := layAllW_rest _ _ _ hlaid
  obtain ⟨k, r, s', s'', hrun, hsched, hfo, hcase, hos, hkp⟩ := thread_N (R := fun r s' => c.Ends s args vs s₁ r s' ∧ s'.os = s.os ∧ kept s'.heap) (Shared.asleep_of_life hal.2.2.2 hz) hcode
  obtain ⟨eh, _, _, eo, _⟩ := Shared.forget_eq hfo
  have hcase := hcase.congr eh
  have hlife : s'.heap.life = s.heap.life := (runN_life _ _ _ hrun).trans hal.2.2.2
  refine ⟨vs, s₁, hlaid, k, _, s', hsched, ?_, (fun _ i x hx => by rw [hgens] at hx; simp at hx), by rw [eh]; exact hkp, by rw [hlife], Shared.rest_eq (eo.trans hos)⟩
  rcases hcase with ⟨v, rfl, d1, d2, d3, d4, d5⟩ | ⟨e, ob, cls, rfl, d1, d2, d3, d4, d5⟩
  · exact .inl ⟨v, rfl, d1, d2, d3, fun b o y _ => d4 b o y, d5⟩
  · exact .inr ⟨e, ob, cls, rfl, d1, d2, d3, d4, fun b o y _ => d5 b o y⟩
/-- what the walk of a law has to show, with a clean stack -/
abbrev WalkClean (q : Program) (loose : List Str) (XP : (Str → Option Value) → Heap → Prop) (YP : World → Heap → Prop) (r : RowW) (d : DefRec) (kwd : List (Str × Expr)) : Prop :=
  ∀ (w : World) (s₀ s₁ : Shared) (mg mb : Str → Option Value), Ground q loose r.records XP w s₀ mg mb s₁.heap → YP w s₁.heap → ∀ (a : Addr) (o : Obj) (pm cd doc dV kV : Value), s₁.heap.get? a = some o →
    o.data = .func { docDef d.name d.params d.body d.scope pm cd doc with defaults := dV, kwdefaults := kV } → s₁.heap.CodeRec cd d.name → Dflts mg s₁.heap d.params kwd dV kV → mg d.name = some (.ref a) → s₁.gens = #[] →
    ∀ (args : List WData) (vals : List Value) (as : List Addr), r.claim.pre args = true → WData.layableAll args = true → ReadsAllW r.records (classAt s₀.heap) s₁.heap vals args as → WellAll w.params s₁.heap vals args → (∀ a ∈ as, (a == sysModules) = false) →
      codeN (model r.prog w) callerA (.call (.ref a) ⟨vals, []⟩) (GoodWG r.claim (classAt s₀.heap) (ExcName.means s₀.heap) args s₁) s₁
theorem PySem.W.holds_open {r : OpenRow} {q : Program} {loose : List Str} {Xt : Shared → Bool} {XP : (Str → Option Value) → Heap → Prop} {α : Type} {Yf : Shared → α} {Ya : World → α} {YP : World → Heap → Prop} {d : DefRec} {kwd : List (Str × Expr)} {N : Nat}
    (left : LeftO r.prog q loose Xt Yf Ya N) (hY : ∀ w s, Yf s = Ya w → YP w s.heap) (hYk : ∀ w h h', YP w h → (∀ b o, h.get? b = some o → h'.get? b = some o) → YP w h')
    (hX : ∀ s, Xt s = true → XP (s.heap.nsMap mainGlobals) s.heap) (hXk : ∀ mg h h', XP mg h → (∀ b o, h.get? b = some o → h'.get? b = some o) → XP mg h')
    (hdef : defOf q r.name = some (d, kwd)) (hp : r.prog.theDef r.name = some (d.params, d.body, d.scope)) (hk : kwWritten? d.params.kwonlyargs d.params.kw_defaults = some kwd) (hRf : ∀ s, Xt s = true → RecFacts r.records s.heap) (hwr : (!r.writes || r.records.isEmpty) = true)
    (k1 : r.wellSaid = true) (ok : (chainsOk q && opensWell r.prog && (frees r.toRowW && r.within.isEmpty)) = true) (hb : r.prog.bare) (hw : r.toRowW.promised)
    (call : WalkClean q loose XP YP r.toRowW d kwd) : r.Holds := by
  obtain ⟨ok, k5⟩ := Bool.and_eq_true_iff.mp ok
  obtain ⟨hch, o1⟩ := Bool.and_eq_true_iff.mp ok
  obtain ⟨k5, k6⟩ := Bool.and_eq_true_iff.mp k5
  obtain ⟨hsame, hu, ha, hap, hm⟩ := frees_parts k5
  refine ⟨k1, hw, ⟨hb, o1, by show r.makers.map _ = []; rw [hm]; rfl⟩, hw.witness, fun w => ⟨(left.behind hX hch w).1, fun s' hs' => ?_⟩⟩
  obtain ⟨s₀, hf, hg0, s, hT, hz, hgens, hg, G00, y⟩ := (left.behind (XP := fun mg h => XP mg h ∧ RecFacts r.records h) (fun s hs => ⟨hX s hs, hRf s hs⟩) hch w).2 s' hs'
  have G0 : Ground q loose [] XP w s (s.heap.nsMap mainGlobals) (s.heap.nsMap builtinsNs) s.heap := ⟨G00.T, G00.B, G00.D, G00.TE, G00.TD, G00.W, G00.X.1, G00.cls, G00.has, G00.apart, G00.once, G00.K⟩
  have RF := G00.X.2
  refine ⟨s₀, hf, hg0, s, hT, fun n hn => ?_, RF.1, RF.2.1, ?_⟩
  · obtain rfl : n = r.name := by split at hn <;> simp_all
    exact pinned_of_view hg G0 hdef hp hk
  have hgens : s.gens = #[] := Array.eq_empty_of_size_eq_zero (beq_iff_eq.mp hgens)
  have G : Ground q loose r.records XP w s _ _ s.heap := RF.ground G0
  refine callFrom_N (c := r.toRowW.claim) hz hgens fun args hpre hlay ord hord => ?_
  obtain ⟨⟨vs, s₁⟩, hlaid⟩ := Option.isSome_iff_exists.mp (layAllW_isSome (P := w.params) (ord := ord) G.has args r.args s (pre_splitW hpre).1)
  have keeps := layAllW_keeps _ _ _ hlaid
  have hal := layAllW_rest _ _ _ hlaid
  obtain ⟨as, hrd, hin, hold⟩ := reads_layAllW hord _ _ _ hlaid hlay s₁.heap (fun _ _ e => e)
  have L : Laid r.records w s s₁ args vs as := ⟨⟨ord, hord, hlaid⟩, hrd, hin, hold, keeps, hal.1.trans hgens, hal.2.2.1⟩
  have G₁ := G.keeps hXk keeps
  obtain ⟨a, o, pm, cd, doc, dV, kV, h1, h2, h3, h4, h5⟩ := G₁.fn hdef
  have h := call w s s₁ _ _ G₁ (hYk _ _ _ (hY w s y) keeps) a o pm cd doc dV kV h2 h3 h4 h5 (defOf_name hdef ▸ h1) L.gens args vs as hpre hlay L.reads L.well (L.low G.low)
  have hi := ident_freeW hu ha hap
  have hwi : r.toRowW.claim.within = [] := List.isEmpty_iff.mp k6
  refine ⟨vs, s₁, hlaid, Mine.N.bindA (wpAny_nsGet G₁.T.g ?_)⟩
  rw [show s.heap.nsMap mainGlobals r.name = some (.ref a) from h1]
  refine Mine.N.bind (Mine.N.runValue (Mine.N.code_mono h fun res s' g => ?_))
  have z := g.laid (c := r.toRowW.claim) hsame hwi hi L
  rcases id g.1 with ⟨v, _, _, rfl, _⟩ | ⟨e, _, _, rfl, _⟩
  · exact Mine.N.pure ⟨_, rfl, ⟨z.1, z.2.1, fun q => ⟨namesKept_of hT hg _ keeps g.2.1.old, noTable hwr q⟩⟩, z.2.2⟩
  · exact ⟨⟨z.1, z.2.1, fun q => ⟨namesKept_of hT hg _ keeps g.2.1.old, noTable hwr q⟩⟩, z.2.2⟩
end Mine
end

-- part: Top
section
open PySem PySem.W PyProof.Rows
namespace Mine
set_option maxRecDepth 100000 in
set_option maxHeartbeats 8000000 in
open_top hd for PySem.Challenge.rw_fb5001_01
end Mine
end

-- part: Base
section
open PySem PySem.W PyProof.Rows
namespace Mine
/-- puts the walk's switch back, as a fresh text has it -/
theorem off_ : True := by
  w_top off
  trivial
/-- the top as the walk sees it: btox's table of inner codes lies in the ledger, so no table is told of here -/
noncomputable abbrev LV : List Str := looseW hd.view_39 [Str.ofString "btox", Str.ofString "xtob"]
noncomputable abbrev GP : Program := topProg
noncomputable abbrev GL : List Str := LV ++ (recsOf hd.view_39).map (·.name) ++ (litsOf hd.view_39).map (·.1) ++ (clssOf hd.view_39 LV).map (·.name)
abbrev Led := List (Addr × Obj)

def Ct (k : Nat) (f : Addr) (news : Led) (vs : List Value) (Ret : Value → Led → Prop) : Prop :=
  ∀ (w : World) (mean : ExcName → Option Value) (mg mb : Str → Option Value) (dp un : Nat) (gd : Option (List Code)) (cn : Str) (cs : Scope) (a : Addr) (ccd : Value) (cl : List (Str × Addr)) (outer : List Env) (A₀ : Around) (base h₀ : Heap) (L : Addr) (m : Str → Option Value) (s : Shared) (Q E : Value → Shared → Prop),
    Below A₀ base outer h₀ → Fr h₀ L s.heap m → (hd.heap_39 w.params).In h₀ → News h₀ L s.heap news →
    Top GP GL mean mg mb h₀ → cs.kind = .function → dp + k < recursionLimit → un + 8 * k < cLine →
    (∀ r tl h' tk', Fr h₀ L h' m → News h₀ L h' (tl ++ news) → Ret r tl → Q r { s with heap := h', toks := tk' }) →
    wpAny (model PySem.Challenge.rw_fb5001_01.row.prog w) (ktrTop dp un gd cn cs L a ccd cl outer) (call (.ref f) vs) Q E s

/-- as Ct, with a second way out: a built-in exception, raised and on its way -/
def CtX (k : Nat) (f : Addr) (news : Led) (vs : List Value) (cls : String) (Ret : Value → Led → Prop) (Err : Prop) : Prop :=
  ∀ (w : World) (mean : ExcName → Option Value) (mg mb : Str → Option Value) (dp un : Nat) (gd : Option (List Code)) (cn : Str) (cs : Scope) (a : Addr) (ccd : Value) (cl : List (Str × Addr)) (outer : List Env) (A₀ : Around) (base h₀ : Heap) (L : Addr) (m : Str → Option Value) (s : Shared) (Q E : Value → Shared → Prop),
    Below A₀ base outer h₀ → Fr h₀ L s.heap m → (hd.heap_39 w.params).In h₀ → News h₀ L s.heap news →
    Top GP GL mean mg mb h₀ → cs.kind = .function → dp + k < recursionLimit → un + 8 * k < cLine →
    (∀ r tl h' tk', Fr h₀ L h' m → News h₀ L h' (tl ++ news) → Ret r tl → Q r { s with heap := h', toks := tk' }) →
    (∀ e g' h' tk', Fr h₀ L g' m → g'.UpToSlots h' → RaisedSN base g' (envX cn cs L a ccd cl :: outer) e (.type cls) news h' → Err → E (.ref e) { s with heap := h', toks := tk' }) →
    wpAny (model PySem.Challenge.rw_fb5001_01.row.prog w) (ktrTop dp un gd cn cs L a ccd cl outer) (call (.ref f) vs) Q E s

/-- as Ct, for a call out of the law's own frame: below it stands no other -/
def Ct0 (k : Nat) (f : Addr) (news : Led) (vs : List Value) (Ret : Value → Led → Prop) : Prop :=
  ∀ (w : World) (mean : ExcName → Option Value) (mg mb : Str → Option Value) (dp un : Nat) (gd : Option (List Code)) (cn : Str) (cs : Scope) (a : Addr) (ccd : Value) (A₀ : Around) (base h₀ : Heap) (L : Addr) (m : Str → Option Value) (s : Shared) (Q E : Value → Shared → Prop),
    Below A₀ base [] h₀ → Fr h₀ L s.heap m → (hd.heap_39 w.params).In h₀ → News h₀ L s.heap news →
    Top GP GL mean mg mb h₀ → (hd.heap_39 w.params).In base →
    Top GP GL mean mg mb base → cs.kind = .function → dp + k < recursionLimit → un + 8 * k < cLine →
    (∀ r tl h' tk', Fr h₀ L h' m → News h₀ L h' (tl ++ news) → Ret r tl → Q r { s with heap := h', toks := tk' }) →
    wpAny (model PySem.Challenge.rw_fb5001_01.row.prog w) (ktrTop dp un gd cn cs L a ccd [] []) (call (.ref f) vs) Q E s
end Mine
end

-- part: PlainA
section
open PySem PySem.W PyProof.Rows
namespace Mine
abbrev one (c : Nat) : Str := ⟨#[c]⟩
def hexv (c : Nat) : Option Nat :=
  if 48 ≤ c && c ≤ 57 then some (c - 48) else if 97 ≤ c && c ≤ 102 then some (c - 87) else if 65 ≤ c && c ≤ 70 then some (c - 55) else none
abbrev smallT : Str := Str.ofString "0123456789abcdef"
abbrev bigT : Str := Str.ofString "ABCDEF"
def hexd (j : Nat) : Nat := if j < 10 then 48 + j else 87 + j
theorem len_small : smallT.length = 16 := by decide +kernel
theorem len_big : bigT.length = 6 := by decide +kernel
theorem item_small : ∀ j : Fin 16, Txt.item smallT ((j : Nat) : Int) = one (hexd j) := by decide +kernel
theorem item_big : ∀ j : Fin 6, Txt.item bigT ((j : Nat) : Int) = one (65 + j) := by decide +kernel
theorem item_small' {k : Int} (h0 : 0 ≤ k) (h1 : k < 16) : Txt.item smallT k = one (hexd k.toNat) := by
  have := item_small ⟨k.toNat, by omega⟩
  rwa [show ((k.toNat : Nat) : Int) = k by omega] at this
theorem item_big' {k : Int} (h0 : 0 ≤ k) (h1 : k < 6) : Txt.item bigT k = one (65 + k.toNat) := by
  have := item_big ⟨k.toNat, by omega⟩
  rwa [show ((k.toNat : Nat) : Int) = k by omega] at this
theorem one_inj {c d : Nat} (h : one c = one d) : c = d := by
  have := congrArg (fun s : Str => s.cps.toList) h
  simpa using this
theorem hexv_hexd {j : Nat} (h : j < 16) : hexv (hexd j) = some j := by
  have : ∀ j : Fin 16, hexv (hexd j) = some (j : Nat) := by decide
  exact this ⟨j, h⟩
theorem small_hit {c : Nat} {k : Int} (h0 : 0 ≤ k) (h1 : k < 16) (h : (one c == Txt.item smallT k) = true) : hexv c = some k.toNat := by
  rw [item_small' h0 h1] at h
  rw [one_inj (eq_of_beq h)]
  exact hexv_hexd (by omega)
theorem big_hit {c : Nat} {k : Int} (h0 : 0 ≤ k) (h1 : k < 6) (h : (one c == Txt.item bigT k) = true) : hexv c = some (10 + k).toNat := by
  rw [item_big' h0 h1] at h
  rw [one_inj (eq_of_beq h)]
  unfold hexv
  rw [if_neg (by simp; omega), if_neg (by simp; omega), if_pos (by simp; omega)]
  congr 1; omega
theorem no_hit {c : Nat} (h1 : ∀ v ∈ rangeKs 0 16, one c ≠ Txt.item smallT v) (h2 : ∀ v ∈ rangeKs 0 6, one c ≠ Txt.item bigT v) : hexv c = none := by
  have m1 : ∀ j : Nat, j < 16 → c ≠ hexd j := fun j hj e => h1 (j : Int) (by simp [rangeKs]; exact ⟨j, hj, rfl⟩) (by rw [item_small' (by omega) (by omega), e]; rfl)
  have m2 : ∀ j : Nat, j < 6 → c ≠ 65 + j := fun j hj e => h2 (j : Int) (by simp [rangeKs]; exact ⟨j, hj, rfl⟩) (by rw [item_big' (by omega) (by omega), e]; rfl)
  unfold hexv
  split
  · rename_i h; simp at h
    exact absurd (by unfold hexd; rw [if_pos (by omega)]; omega) (m1 (c - 48) (by omega))
  · split
    · rename_i h; simp at h
      exact absurd (by unfold hexd; rw [if_neg (by omega)]; omega) (m1 (c - 87) (by omega))
    · split
      · rename_i h; simp at h
        exact absurd (by omega) (m2 (c - 65) (by omega))
      · rfl
theorem all_snoc {P : Int → Prop} {pre : List Int} {k : Int} (h : ∀ v ∈ pre, P v) (hk : P k) : ∀ v ∈ pre ++ [k], P v := fun v hv => by
  rcases List.mem_append.mp hv with h1 | h1
  · exact h v h1
  · rw [List.mem_singleton.mp h1]; exact hk
theorem ne_of_beq {x y : Str} (h : (x == y) = false) : x ≠ y := by
  intro e; subst e; simp at h
def Ret49 (c : Nat) (r : Value) (tl : Led) : Prop := tl = [] ∧ match hexv c with
  | some v => ∃ t, r = .int (v : Int) t
  | none => r = .none
theorem news_left {h₀ h : Heap} {L : Addr} {a b : Led} (N : News h₀ L h (a ++ b)) : News h₀ L h a := fun p hp => N p (List.mem_append.mpr (.inl hp))
end Mine
end

-- part: T49
section
open PySem PySem.W PyProof.Rows
namespace Mine
theorem ret49_small {c : Nat} {k : Int} {t : Tok} (h0 : 0 ≤ k) (h1 : k < 16) (h : (one c == Txt.item smallT k) = true) : Ret49 c (.int k t) [] := by
  refine ⟨rfl, ?_⟩
  rw [small_hit h0 h1 h]
  exact ⟨t, by rw [show ((k.toNat : Nat) : Int) = k by omega]⟩
theorem ret49_big {c : Nat} {k : Int} {t : Tok} (h0 : 0 ≤ k) (h1 : k < 6) (h : (one c == Txt.item bigT k) = true) : Ret49 c (.int (10 + k) t) [] := by
  refine ⟨rfl, ?_⟩
  rw [big_hit h0 h1 h]
  exact ⟨t, by rw [show (((10 + k).toNat : Nat) : Int) = 10 + k by omega]⟩
theorem ret49_none {c : Nat} (h1 : ∀ v ∈ rangeKs 0 16, one c ≠ Txt.item smallT v) (h2 : ∀ v ∈ rangeKs 0 6, one c ≠ Txt.item bigT v) : Ret49 c .none [] := by
  refine ⟨rfl, ?_⟩
  rw [no_hit h1 h2]
set_option maxRecDepth 100000 in
set_option maxHeartbeats 4000000 in
theorem ct49 (news : Led) (c : Nat) (t : Tok) : Ct 2 49 news [.str (one c) t] (Ret49 c) := by
  unfold Ct; k_fill
  intro w mean mg mb dp un gd cn cs a ccd cl outer A₀ base h₀ L m s Q E B F X N T hk hd hu hret
  refine wpAny_call ?_
  have hret0 := fun r h' tk' a b c => hret r [] h' tk' a b c
  simp only [List.nil_append] at hret0
  have hls : (Str.ofString "0123456789abcdef").length = 16 := len_small
  have hlb : (Str.ofString "ABCDEF").length = 6 := len_big
  k_dflt cell_enter
  (k_with "pyIter ref" => first
    | k_search (fun pre => ∀ v ∈ pre, one c ≠ Txt.item (Str.ofString "0123456789abcdef") v)
    | ((with_reducible show wpAny _ _ (pyIter (Value.ref _)) (fun it s₂ => LoopAtV _ _ _ _ _ _ _ _ _ it s₂) _ _); k_here; (rename Fr _ _ _ _ => lF'); (rename News _ _ _ _ => lN'); (rename IsRange _ _ _ _ _ _ _ _ => rgX);
       (with_unfolding_all refine' kst_range (fun _ : Unit => news) (fun _ => []) (fun _ => True) [Str.ofString "k"] (fun pre _ => ∀ v ∈ pre, one c ≠ Txt.item (Str.ofString "ABCDEF") v) () (by rfl) (by first | exact rgX | assumption) (by first | decide | exact small_one (by l_bnd) (by l_bnd) (by l_bnd) (by l_bnd)) (by first | exact rangeSize_nat _ _ | rfl) lF' lN' True.intro (List.forall_mem_nil _) (List.forall_mem_nil _) ?g1 ?g2);
       (case' g1 => intro c2 pre2 k2 t2 u2 h2 tk2 own2 hk2 hlt2 hoff2 hf2 hp2 F2 N2; (try dsimp only [kstB] at F2); (try k_fold));
       (case' g2 => intro c2 u2 h2 tk2 hf2 hp2 F2 N2; (try dsimp only [kstB] at F2); (try k_fold))))
  (k_with "state" => exact all_snoc (by assumption) (ne_of_beq (by assumption)))
  k_steps
  all_goals refine hret0 _ _ _ ?_ ?_ ?_
  all_goals first | assumption | exact news_left (by assumption) | exact ret49_small (by omega) (by omega) (by assumption) | exact ret49_none (by assumption) (by assumption) | exact ret49_big (by omega) (by omega) (by assumption)
end Mine
end

-- part: Use49
section
open PySem PySem.W PyProof.Rows
namespace Mine
theorem use49 {c : Nat} {t : Tok} {news : Led} {w : World} {mean : ExcName → Option Value} {mg mb : Str → Option Value} {dp un : Nat} {gd : Option (List Code)} {cn : Str} {cs : Scope} {a : Addr} {ccd : Value} {cl : List (Str × Addr)} {outer : List Env} {A₀ : Around} {base h₀ : Heap} {L : Addr} {m : Str → Option Value} {s : Shared} {Q E : Value → Shared → Prop}
    (B : Below A₀ base outer h₀) (F : Fr h₀ L s.heap m) (X : (hd.heap_39 w.params).In h₀) (N : News h₀ L s.heap news)
    (T : Top GP GL mean mg mb h₀) (hk : cs.kind = .function) (hd : dp + 2 < recursionLimit) (hu : un + 8 * 2 < cLine)
    (h1 : ∀ v t h' tk', hexv c = some v → Fr h₀ L h' m → News h₀ L h' news → Q (.int (v : Int) t) { s with heap := h', toks := tk' })
    (h2 : ∀ h' tk', hexv c = none → Fr h₀ L h' m → News h₀ L h' news → Q .none { s with heap := h', toks := tk' }) :
    wpAny (model PySem.Challenge.rw_fb5001_01.row.prog w) (ktrTop dp un gd cn cs L a ccd cl outer) (call (.ref 49) [.str ⟨#[c]⟩ t]) Q E s := by
  refine ct49 news c t _ _ _ _ _ _ _ _ _ _ _ _ _ _ _ _ _ _ _ _ _ B F X N T hk hd hu ?_
  rintro r tl h' tk' F' N' ⟨rfl, hR⟩
  cases hv : hexv c with
  | none => rw [hv] at hR; dsimp only at hR; subst hR; exact h2 _ _ hv F' N'
  | some v => rw [hv] at hR; obtain ⟨t, rfl⟩ := hR; exact h1 _ _ _ _ hv F' N'
end Mine
end

-- part: CompF
section
open PySem PySem.W PyProof.Rows PySem.Spec PySem.Calls
namespace Mine
open PyProof.Rows.LCg PyProof.Rows.LCt
def StrEl (news : Led) (c : Nat) (y : Value) (news' : Led) : Prop := news' = news ∧ ∃ t, y = .str (one c) t
section
variable {prog : Program} {w : World} {A : Around} {E : Value → Shared → Prop} {s : Shared} {h₀ : Heap} {L : Addr} {m : Str → Option Value} {env : Env} {ct elt : Expr} {x : Str} {scope : Scope} {cl : List (Str × Addr)} {news : Led} {Fin : List Value → Led → Prop}
theorem restT_filter {xt : Str} (p : Nat → Bool)
    (turn : ∀ (c : Nat) t I oI C oC D m₂ ys h tk (E' : Value → Shared → Prop), NsObj oC m₂ → m₂ x = some (.str (one c) t) → Fr h₀ L h m → News h₀ L h ((I, oI) :: (C, oC) :: (D, lst ys) :: news) → Off3 I C D news → ((@Ne Nat I C) ∧ (@Ne Nat I D) ∧ (@Ne Nat C D)) →
      wpAny (model prog w) A (isTrue ct (compEnvC scope cl C env) (eval ct (compEnvC scope cl C env))) (fun ok s' => if ok = true then
        wpAny (model prog w) A (eval elt (compEnvC scope cl C env)) (CompEnd h₀ L m { s with heap := h, toks := tk } I oI C oC D (lst ys) (fun _ => True) (fun y news' => p c = true ∧ StrEl news c y news')) E' s'
        else CompEnd h₀ L m { s with heap := h, toks := tk } I oI C oC D (lst ys) (fun _ => True) (fun _ news' => p c = false ∧ news' = news) Value.none s') E' { s with heap := h, toks := tk })
    (fin : ∀ ys, StrsAre ys ((xt.cps.toList.filter p).map one) → Fin ys news) :
    CompRestT prog w A h₀ L m env ct elt x scope cl s (fun _ => True) (SignAt xt) Fin xt.cps.size 0 [] news := by
  have key : ∀ (j i : Nat) (ys : List Value), i + j = xt.cps.size → StrsAre ys (((xt.cps.toList.take i).filter p).map one) →
      CompRestT prog w A h₀ L m env ct elt x scope cl s (fun _ => True) (SignAt xt) Fin j i ys news := by
    intro j
    induction j with
    | zero =>
      intro i ys hi hy
      have e : i = xt.cps.toList.length := by rw [Array.length_toList]; omega
      subst e
      rw [List.take_length] at hy
      exact CompRestT.zero (fin ys hy)
    | succ j ih =>
      intro i ys hi hy
      refine CompRestT.succ ?_
      rintro v I oI C oC D m₂ h tk E' ⟨c, t, hc, rfl⟩ hC hx F N off ne
      have hc' : xt.cps.toList[i]? = some c := by rw [Array.getElem?_toList]; exact hc
      have htake : xt.cps.toList.take (i + 1) = xt.cps.toList.take i ++ [c] := by rw [List.take_add_one, hc']; rfl
      refine wpAny_mono (turn c t I oI C oC D m₂ ys h tk E' hC hx F N off ne) (fun ok s₂ hq => ?_) fun _ _ e => e
      cases ok with
      | true =>
        simp only [if_true] at hq ⊢
        refine wpAny_mono hq (fun y s₃ hq => ?_) fun _ _ e => e
        obtain ⟨h', tk', nw, e, F', N', off', hS, hp, hn, t', hy'⟩ := hq
        subst hn
        refine ⟨h', tk', nw, e, F', N', off', hS, ?_⟩
        rw [hy']
        refine ih (i + 1) _ (by omega) ?_
        rw [htake, List.filter_append, List.map_append, List.filter_cons, if_pos hp]
        exact hy.append' (.cons _ _ .nil)
      | false =>
        simp only [Bool.false_eq_true, if_false] at hq ⊢
        obtain ⟨h', tk', nw, e, F', N', off', hS, hp, hn⟩ := hq
        subst hn
        refine ⟨h', tk', nw, e, F', N', off', hS, ?_⟩
        refine ih (i + 1) _ (by omega) ?_
        rw [htake, List.filter_append, List.filter_cons, if_neg (by rw [hp]; exact Bool.false_ne_true), List.filter_nil, List.append_nil]
        exact hy
  exact key xt.cps.size 0 [] (by omega) (by rw [List.take_zero]; exact .nil)
end
theorem join_ones' (l : List Nat) : Txt.join (Str.ofString "") (l.map one) = ⟨l.toArray⟩ := by
  show Builtin.Str.glued (Str.ofString "") (l.map one) = _
  rw [StrLaws.glued_eq_join]
  exact join_ones l
theorem sum_ones (l : List Nat) : ((l.map one).map (·.length)).sum = l.length := by
  induction l with
  | nil => rfl
  | cons a r ih => simp only [List.map_cons, List.sum_cons, ih, List.length_cons]; show 1 + r.length = _; omega
end Mine
end

-- part: Loop54
section
open PySem PySem.W PyProof.Rows PySem.W.KStt
namespace Mine
def readI (pre : List Int) : List Int := pre.filterMap fun (c : Int) => Option.map (fun (v : Nat) => (v : Int)) (hexv c.toNat)
theorem readI_le {x pre post : List Int} (e : x = pre ++ post) : (readI pre).length ≤ (readI x).length := by
  subst e
  unfold readI
  rw [List.filterMap_append, List.length_append]
  omega
theorem readI_none {c : Nat} {pre : List Int} (h : hexv c = none) : readI (pre ++ [(c : Int)]) = readI pre := by
  unfold readI
  rw [List.filterMap_append]
  simp [h]
theorem readI_some {c v : Nat} {pre : List Int} (h : hexv c = some v) : readI (pre ++ [(c : Int)]) = readI pre ++ [(v : Int)] := by
  unfold readI
  rw [List.filterMap_append]
  simp [h]
abbrev L54 (l : Addr) (rest : Led) (c : List Value × List Int × Nat) : Led := (l, listOf c.1.toArray c.2.2) :: rest
section
variable {prog : Program} {w : World} {A : Around} {E : Value → Shared → Prop} {s : Shared} {env : Env} {h₀ : Heap} {x : Str} {body : List Stmt} {Q : Flow → Shared → Prop}
theorem loop54 {xt : Str} {tx : Tok} {m₀ : Str → Option Value} {l : Addr} {rest : Led}
    (hh : A.handled = none) (F : Fr h₀ env.locals s.heap m₀) (N : News h₀ env.locals s.heap ((l, listOf #[] 0) :: rest))
    (turn : ∀ (vs : List Value) (k : Nat) (pre post : List Int) (n : Nat) t (u : Str → Option Value) h tk own, codes xt = pre ++ (n : Int) :: post → OwnOff own (l :: rest.map (·.1)) → IntsAre vs (readI pre) →
      Fr h₀ env.locals h (fun y => if y = x then some (.str ⟨#[n]⟩ t) else (if [Str.ofString "value"].contains y then u y else m₀ y)) → News h₀ env.locals h ((l, listOf vs.toArray k) :: (rest ++ own)) →
      wpAny (model prog w) A (execs body env) (InvPostN h₀ env.locals (KstS (L54 l rest) (fun _ => []) (fun c => IntsAre c.1 c.2.1) x [Str.ofString "value"] m₀ (fun pre c => c.2.1 = readI pre) (pre ++ [(n : Int)])) own (l :: rest.map (·.1)) { s with heap := h, toks := tk } Q) E { s with heap := h, toks := tk })
    (done : ∀ (vs : List Value) (k : Nat) (u : Str → Option Value) h tk, IntsAre vs (readI (codes xt)) → Fr h₀ env.locals h (fun y => if y = x then u y else (if [Str.ofString "value"].contains y then u y else m₀ y)) → News h₀ env.locals h ((l, listOf vs.toArray k) :: rest) → Q .next { s with heap := h, toks := tk }) :
    wpAny (model prog w) A (pyIter (.str xt tx)) (fun it s₂ => LoopAtV prog w A h₀ env x body Q E it s₂) E s :=
  KStt.kst_text (L54 l rest) (fun _ => []) (fun c => IntsAre c.1 c.2.1) [Str.ofString "value"] (fun pre c => c.2.1 = readI pre) ([], [], 0) hh F N (.nil) (List.forall_mem_nil _) rfl
    (fun c pre post n t u h tk own e o f p F' N' => by
      obtain ⟨vs, ns, k⟩ := c
      dsimp only at p f
      subst p
      exact turn vs k pre post n t u h tk own e o f F' N')
    (fun c u h tk f p F' N' => by
      obtain ⟨vs, ns, k⟩ := c
      dsimp only at p f
      subst p
      exact done vs k u h tk f F' N')
end
end Mine
end

-- part: End54
section
open PySem PySem.W PyProof.Rows PySem.W.KStt
namespace Mine
theorem mem_keep {α : Type} {a b : α} {n o : List α} : ∀ p ∈ a :: b :: n, p ∈ a :: b :: (n ++ o) := fun p hp => by
  rcases List.mem_cons.mp hp with rfl | hp
  · exact List.mem_cons_self
  · rcases List.mem_cons.mp hp with rfl | hp
    · exact List.mem_cons_of_mem _ List.mem_cons_self
    · exact List.mem_cons_of_mem _ (List.mem_cons_of_mem _ (List.mem_append.mpr (.inl hp)))
theorem mem_own {α : Type} {a b : α} {n o : List α} : ∀ p ∈ o, p ∈ a :: b :: (n ++ o) := fun _ hp =>
  List.mem_cons_of_mem _ (List.mem_cons_of_mem _ (List.mem_append.mpr (.inr hp)))
section
variable {h₀ : Heap} {L : Addr} {m₀ m' : Str → Option Value} {x : Str} {c : Nat} {pre : List Int} {vs : List Value} {k : Nat} {l : Addr} {b : Addr × Obj} {news own : Led} {h' : Heap} {tk : Nat} {s₁ : Shared}
theorem end54_none (F : Fr h₀ L h' m') (N : News h₀ L h' ((l, listOf vs.toArray k) :: b :: (news ++ own))) (hi : IntsAre vs (readI pre)) (hv : hexv c = none)
    (hr : ∀ z, z ≠ x → (∀ p ∈ ([] : List (Str × Value)), z ≠ p.1) → [Str.ofString "value"].contains z = false → m' z = m₀ z) :
    InvEndN h₀ L (KstS (L54 l (b :: news)) (fun _ => []) (fun c => IntsAre c.1 c.2.1) x [Str.ofString "value"] m₀ (fun pre c => c.2.1 = readI pre) (pre ++ [(c : Int)])) own (l :: List.map (fun x => x.1) (b :: news)) s₁ { s₁ with heap := h', toks := tk } :=
  kst_end (vs, readI pre, k) F N mem_keep mem_own rfl hi (List.forall_mem_nil _) hr (readI_none hv).symm
theorem end54_some {v : Nat} {t : Tok} (F : Fr h₀ L h' m') (N : News h₀ L h' ((l, listOf (vs.toArray.push (.int (v : Int) t)) (k + 1)) :: b :: (news ++ own))) (hi : IntsAre vs (readI pre)) (hv : hexv c = some v)
    (hr : ∀ z, z ≠ x → (∀ p ∈ ([] : List (Str × Value)), z ≠ p.1) → [Str.ofString "value"].contains z = false → m' z = m₀ z) :
    InvEndN h₀ L (KstS (L54 l (b :: news)) (fun _ => []) (fun c => IntsAre c.1 c.2.1) x [Str.ofString "value"] m₀ (fun pre c => c.2.1 = readI pre) (pre ++ [(c : Int)])) own (l :: List.map (fun x => x.1) (b :: news)) s₁ { s₁ with heap := h', toks := tk } := by
  rw [List.push_toArray] at N
  exact kst_end (vs ++ [.int (v : Int) t], readI pre ++ [(v : Int)], k + 1) F N mem_keep mem_own rfl (IntsAre.append hi (.cons _ _ .nil)) (List.forall_mem_nil _) hr (readI_some hv).symm
end
theorem small_two {n : Nat} (h : n ≤ 1000) : Builtin.Range.small 0 (n : Int) 2 = true := by
  have hs : Builtin.Range.rangeSize 0 (n : Int) 2 = (((n + 1) / 2 : Nat) : Int) := by
    unfold Builtin.Range.rangeSize
    rw [if_pos (by decide)]
    split <;> omega
  unfold Builtin.Range.small
  rw [hs]
  have fits : ∀ v : Int, -1000 ≤ v → v ≤ 2000 → Builtin.Range.rangeFitsLong v = true := fun v h1 h2 => by
    unfold Builtin.Range.rangeFitsLong
    rw [Bool.and_eq_true, decide_eq_true_eq, decide_eq_true_eq]
    omega
  rw [fits 0 (by omega) (by omega), fits (n : Int) (by omega) (by omega), fits 2 (by omega) (by omega), fits _ (by omega) (by omega), if_pos (by decide), fits _ (by omega) (by omega)]
  simp only [Bool.and_self, Bool.or_true]
theorem size_two {n : Nat} (h : (n : Int).fmod 2 ≠ 1) : Builtin.Range.rangeSize 0 (n : Int) 2 = ((n / 2 : Nat) : Int) := by
  unfold Builtin.Range.rangeSize
  rw [if_pos (by decide)]
  rw [Int.fmod_eq_emod_of_nonneg _ (by decide)] at h
  split <;> omega
def evens (n : Nat) : List Int := (List.range n).map fun i => 0 + ((i : Nat) : Int) * 2
theorem evens_length (n : Nat) : (evens n).length = n := by simp [evens]
theorem evens_get {n i : Nat} (h : i < n) : (evens n)[i]? = some (0 + (i : Int) * 2) := by simp [evens, h]
theorem evens_mem {n : Nat} {k : Int} (h : k ∈ evens n) : 0 ≤ k ∧ k + 1 < 2 * (n : Int) := by
  simp only [evens, List.mem_map, List.mem_range] at h
  obtain ⟨i, hi, rfl⟩ := h
  omega
def pairI : List Int → List Int
  | a :: b :: r => (a * 16 + b) :: pairI r
  | _ => []
def pairAt (vals : List Int) (k : Int) : Int := vals.getD k.toNat 0 * 16 + vals.getD (k + 1).toNat 0
theorem pair_map : ∀ (vals : List Int) (n : Nat), vals.length = 2 * n → (evens n).map (pairAt vals) = pairI vals
  | [], n, h => by
    have : n = 0 := by simp at h; omega
    subst this; rfl
  | [a], n, h => by simp at h; omega
  | a :: b :: r, n, h => by
    obtain ⟨j, rfl⟩ : ∃ j, n = j + 1 := ⟨n - 1, by simp at h; omega⟩
    have hr : r.length = 2 * j := by simp at h; omega
    rw [pairI, ← pair_map r j hr]
    simp only [evens, List.map_map]
    rw [List.range_succ_eq_map, List.map_cons, List.map_map]
    congr 1
    refine List.map_congr_left fun i _ => ?_
    simp only [Function.comp, pairAt]
    rw [show (0 + ((i + 1 : Nat) : Int) * 2).toNat = (0 + (i : Int) * 2).toNat + 2 by omega, show (0 + ((i + 1 : Nat) : Int) * 2 + 1).toNat = (0 + (i : Int) * 2 + 1).toNat + 2 by omega]
    simp only [List.getD_cons_succ]
theorem hexv_lt {c v : Nat} (h : hexv c = some v) : v < 16 := by
  unfold hexv at h
  split at h
  · rename_i q; simp at q h; omega
  · split at h
    · rename_i q; simp at q h; omega
    · split at h
      · rename_i q; simp at q h; omega
      · simp at h
theorem readI_lt {x : List Int} {v : Int} (h : v ∈ readI x) : 0 ≤ v ∧ v < 16 := by
  simp only [readI, List.mem_filterMap] at h
  obtain ⟨c, _, hc⟩ := h
  obtain ⟨u, hu, rfl⟩ := Option.map_eq_some_iff.mp hc
  have := hexv_lt hu
  omega
theorem getD_lt {l : List Int} (h : ∀ v ∈ l, 0 ≤ v ∧ v < 16) (k : Nat) : 0 ≤ l.getD k 0 ∧ l.getD k 0 < 16 := by
  rw [List.getD_eq_getElem?_getD]
  cases e : l[k]? with
  | none => simp
  | some v => simpa using h v (List.mem_of_getElem? e)
end Mine
end

-- part: T54
section
open PySem PySem.W PyProof.Rows
namespace Mine
def readV (x : Str) : List Int := readI (KStt.codes x)
def Ret54 (x : Str) (r : Value) (tl : Led) : Prop :=
  ((readV x).length % 2 = 1 ∧ tl = [] ∧ r = .none) ∨ ((readV x).length % 2 = 0 ∧ ∃ l vs n, tl = [(l, listOf vs.toArray n)] ∧ r = .ref l ∧ IntsAre vs (pairI (readV x)))
theorem ret54_some {x : Str} {ys : List Value} {D : Addr} (h : (readV x).length % 2 = 0) (hi : IntsAre ys (pairI (readV x))) : Ret54 x (.ref D) [(D, LCg.lst ys)] := .inr ⟨h, D, ys, ys.length, rfl, rfl, hi⟩
local macro_rules | `(tactic| walk_at "eval ListComp") => `(tactic| (k_here; k_dflt (refine comp_W (F₀ := by k_asm) (by with_unfolding_all rfl) (by decide) (by rfl) (by decide) (by rfl) ?_)))
set_option maxRecDepth 100000 in
set_option maxHeartbeats 4000000 in
theorem ct54 (news : Led) (x : Str) (t : Tok) (hx : (readI (KStt.codes x)).length ≤ 1000) : Ct 4 54 news [.str x t] (Ret54 x) := by
  unfold Ct; k_fill
  intro w mean mg mb dp un gd cn cs a ccd cl outer A₀ base h₀ L m s Q E B F X N T hk hd hu hret
  refine wpAny_call ?_
  k_dflt (refine' code_defC ?k1 ?k2 ?k3 ?k4 ?k5 ?kA ?kF ?kK ?k6 ?k7 ?k8 ?k9 ?kB ?kD ?_ ?c2 ?c3 ?c4; (case kA => exact rfl); (case kF => exact rfl); (case kK => assumption); (case k1 => k_asm); (case k2 => k_asm); (case k3 => k_asm); (case k4 => k_asm); (case k5 => k_asm); (case k6 => k_is); (case k7 => k_is); (case k8 => ktr_room); (case k9 => first | exact BindsTo.of_eq rfl | exact binds_K (by k_in) rfl (by k_is) rfl rfl rfl | fail "k_enter: no rule for these arguments"); (case kB => exact rfl); (case kD => decide +kernel); (case c2 => exact rfl); (case c3 => exact rfl); (case c4 => exact rfl); k_whole; intro g' L' h' tk' cells' FG' F' N' Y' B' X' T' l1; k_cells Y'; (try simp only [List.cons_append, List.nil_append] at N'); (try dsimp only); (try k_lift B'); (try k_fold))
  have kMark := kstMark
  have l2 : ∀ p ∈ news, p.1 < L' + 1 := fun p hp => Nat.lt_succ_of_lt (l1 p hp)
  (k_with "pyIter str" => ((with_reducible show wpAny _ _ (pyIter (Value.str _ _)) (fun it s₂ => LoopAtV _ _ _ _ _ _ _ _ _ it s₂) _ _); k_here; (rename Fr _ _ _ _ => lF'); (rename News _ _ _ _ => lN'); (with_unfolding_all refine' loop54 (by rfl) lF' lN' ?g1 ?g2); (case' g1 => intro vs9 k9 pre9 post9 c9 t9 u9 h9 tk9 own9 e9 o9 i9 F9 N9; have hb9 := Nat.le_trans (readI_le e9) hx; have hl9 := i9.length); (case' g2 => intro vs9 k9 u9 h9 tk9 i9 F9 N9); (all_goals (try clear lF' lN')); (all_goals (try simp only [List.cons_append] at N9)); (all_goals (try k_fold))))
  (k_with "call ref" => (k_here; (with_reducible show wpAny _ _ (call (Value.ref 49) _) _ _ _); k_dflt (refine' use49 ?k1 ?k2 ?k3 ?k4 ?k5 ?k6 ?k7 ?k8 ?k9 ?k10; (case k1 => k_asm); (case k2 => k_asm); (case k3 => k_asm); (case k4 => k_asm); (case k5 => k_asm); (case k6 => first | exact rfl | assumption); (case k7 => ktr_room); (case k8 => ktr_units)); (case' k9 => intro v9 t9 h9 tk9 hv9 F9 N9); (case' k10 => intro h9 tk9 hv9 F9 N9); (all_goals (try dsimp only)); (all_goals (try k_fold))))
  k_steps
  · refine hret _ [] _ _ (by assumption) (fun p hp => ?_) (.inl ⟨?_, rfl, rfl⟩)
    · rename News _ _ _ _ => kN
      exact kN p (List.mem_cons_of_mem _ (List.mem_cons_of_mem _ hp))
    · unfold readV
      rename Int.fmod _ 2 = 1 => hf
      rw [Int.fmod_eq_emod_of_nonneg _ (by decide)] at hf
      omega
  · rename Int.fmod _ 2 ≠ 1 => hf
    have hev := hf
    rw [Int.fmod_eq_emod_of_nonneg _ (by decide)] at hev
    refine src_range (by rfl) (by assumption) (by assumption) (by assumption) (small_two hx) (size_two hf) (by rw [PySem.sizeLine_eq]; omega) ?_
    intro I g St W
    refine ⟨I, _, _, St, _, rfl, W, ?_⟩
    have hall := getD_lt (fun v (hv : v ∈ readI (KStt.codes x)) => readI_lt hv)
    refine kcf_rest (ks := evens ((readI (KStt.codes x)).length / 2)) (pairAt (readI (KStt.codes x))) (evens_length _) (fun i v hi hv => ⟨_, hv.choose, evens_get hi, hv.choose_spec⟩) ?_ ?_
    · intro k' t' I' oI' C' oC' D' m' ys' h' tk' E' hk' hC' hx' F' N' off' ne' hMark'
      have hkr := evens_mem hk'
      have hg1 := hall k'.toNat
      have hg2 := hall (k' + 1).toNat
      have hl9 := IntsAre.length (by assumption : IntsAre _ (readI (KStt.codes x)))
      try simp only [LCg.Off3, and_true] at off'
      try k_fold
      k_steps
      exact ⟨rfl, _, rfl⟩
    · unfold KPfDone
      intro ys hys
      rw [pair_map _ _ (by omega)] at hys
      k_steps
      refine hret _ _ _ _ (by assumption) (fun p hp => ?_) (ret54_some ?_ hys)
      · rename News _ _ _ _ => kN
        refine kN p ?_
        rcases List.mem_cons.mp hp with rfl | hp
        · exact List.mem_cons_self
        · exact List.mem_cons_of_mem _ (List.mem_cons_of_mem _ (List.mem_cons_of_mem _ hp))
      · unfold readV; omega
  · exact end54_none (by assumption) (by assumption) (by assumption) (by assumption) (by kst_same)
  · exact end54_some (by assumption) (by assumption) (by assumption) (by assumption) (by kst_same)
end Mine
end

-- part: FromHex
section
open PySem PySem.W PyProof.Rows PySem.Calls
set_option maxRecDepth 100000
namespace Mine
namespace FH
/-- two digits an octet, taken in order -/
def pairB : List Nat → List UInt8
  | c :: d :: r => (((hexv c).getD 0) * 16 + (hexv d).getD 0).toUInt8 :: pairB r
  | _ => []
theorem digit_cases {c : Nat} (h : (hexv c).isSome = true) : (48 ≤ c ∧ c ≤ 57) ∨ (97 ≤ c ∧ c ≤ 102) ∨ (65 ≤ c ∧ c ≤ 70) := by
  unfold hexv at h
  split at h
  · rename_i q; simp at q; omega
  · split at h
    · rename_i q; simp at q; omega
    · split at h
      · rename_i q; simp at q; omega
      · simp at h
theorem digit_lt {c : Nat} (h : (hexv c).isSome = true) : c < 128 := by have := digit_cases h; omega
theorem digit_no_space : ∀ c : Fin 128, (hexv c).isSome = true → Builtin.Bytes.isSpace (c : Nat).toUInt8 = false := by decide +kernel
theorem spec_of {F : Nat → Nat → List Nat → Array UInt8 → Except Nat (Array UInt8)} 
    (h0 : ∀ i l out, F 0 i l out = .ok out) (h1 : ∀ n i out, F (n + 1) i [] out = .ok out)
    (h2 : ∀ n i c rest out, F (n + 1) i (c :: rest) out = if (decide (c < 128) && Builtin.Bytes.isSpace c.toUInt8) = true then F n (i + 1) rest out
      else match hexv c, rest with
        | none, _ => .error i
        | some _, [] => .error (i + 1)
        | some hi, d :: rest => match hexv d with
          | none => .error (i + 1)
          | some lo => F n (i + 2) rest (out.push (hi * 16 + lo).toUInt8)) :
    ∀ (l : List Nat) (n i : Nat) (out : Array UInt8), l.length ≤ n → (∀ c ∈ l, (hexv c).isSome = true) →
      F n i l out = if l.length % 2 = 1 then .error (i + l.length) else .ok (out ++ (pairB l).toArray)
  | [], n, i, out, _, _ => by
    cases n with
    | zero => rw [h0]; simp [pairB]
    | succ n => rw [h1]; simp [pairB]
  | [c], n, i, out, hn, hl => by
    obtain ⟨k, rfl⟩ : ∃ k, n = k + 1 := ⟨n - 1, by simp at hn; omega⟩
    have hc := hl c List.mem_cons_self
    have hs := digit_no_space ⟨c, digit_lt hc⟩ hc
    rw [h2, if_neg (by simp only [hs, Bool.and_false]; exact Bool.false_ne_true)]
    obtain ⟨v, hv⟩ := Option.isSome_iff_exists.mp hc
    rw [hv]
    simp
  | c :: d :: r, n, i, out, hn, hl => by
    obtain ⟨k, rfl⟩ : ∃ k, n = k + 1 := ⟨n - 1, by simp at hn; omega⟩
    have hc := hl c List.mem_cons_self
    have hd := hl d (List.mem_cons_of_mem _ List.mem_cons_self)
    have hs := digit_no_space ⟨c, digit_lt hc⟩ hc
    rw [h2, if_neg (by simp only [hs, Bool.and_false]; exact Bool.false_ne_true)]
    obtain ⟨v, hv⟩ := Option.isSome_iff_exists.mp hc
    obtain ⟨u, hu⟩ := Option.isSome_iff_exists.mp hd
    rw [hv]
    simp only [hu]
    rw [spec_of h0 h1 h2 r k (i + 2) _ (by simp at hn; omega) (fun c hc => hl c (List.mem_cons_of_mem _ (List.mem_cons_of_mem _ hc)))]
    have e1 : (c :: d :: r).length % 2 = r.length % 2 := by simp only [List.length_cons]; omega
    rw [e1]
    split
    · simp only [List.length_cons]; congr 1; omega
    · rw [pairB, hv, hu]
      simp

def bound : Obj := { cls := .type "builtin_function_or_method", data := .fields #[.builtin "bytes.fromhex", .type "bytes"] }
theorem type_fh : typeOf (.builtin "bytes.fromhex") = pure (.type "classmethod_descriptor") := by show builtinType _ = _; rw [builtinType_eq_fast]; kernel_rfl
theorem entry_fh : entryFor table "bytes.fromhex" = some Builtin.«bytes.fromhex» := by first | exact entryFor_of_fast (by kernel_rfl) | exact entryFor_of_tree (by kernel_rfl)
theorem quiet_fh {as : Args} : (Code.builtin "bytes.fromhex" as).quiet = true := Code.quiet_builtin _ (by decide +kernel)
theorem type_bytes : isType (.type "bytes") = pure true := by first | rfl | kernel_rfl | (unfold isType; rw [isSubtype_type]; kernel_rfl)
theorem owner_fh : (kfb_private% "ownerAndName") "bytes.fromhex" = ("bytes", "fromhex") := by first | decide +kernel | kernel_rfl
theorem name_bytes : typeNameWhole (.type "bytes") = pure "bytes" := by unfold typeNameWhole typeName; dsimp only; rw [find?_eq_fast]; kernel_rfl
theorem check_fh {x : Str} {t : Tok} : checkBoundCall "bytes.fromhex" ⟨[.type "bytes", .str x t], []⟩ = pure () := by first | kernel_rfl | rfl
section
variable {prog : Program} {w : World} {M : Model} {A : Around} {E : Value → Shared → Prop} {s : Shared} {K : Frag} {h₀ : Heap} {L : Addr} {m : Str → Option Value} {news : Led}
theorem run_get {P : Fin → Shared → Prop} (h : P (.done (.ret (.ref s.heap.objs.size))) { s with heap := s.heap.push bound }) :
    wpAny M A (Builtin.«classmethod_descriptor.__get__» ⟨[.builtin "bytes.fromhex", .none, .type "bytes"], []⟩) P E s := by
  unfold Builtin.«classmethod_descriptor.__get__»
  refine wpAny_bind (wpAny_of_eq (a := (.builtin "bytes.fromhex", none, some (.type "bytes"))) (by first | rfl | kernel_rfl) ?_)
  simp only [owner_fh]
  refine wpAny_bind (wpAny_of_eq (a := .type "bytes") rfl ?_)
  refine wpAny_bind (wpAny_of_eq (a := true) type_bytes ?_)
  refine KFB.if_not rfl ?_
  refine wpAny_bind (wpAny_of_eq (a := true) F.bm_sub ?_)
  refine KFB.if_not rfl ?_
  exact wpAny_bind (wpAny_newObj_type (wpAny_pure h))
theorem getm {pl : Sem Bool} {Q : Value × List Value → Shared → Prop} (F : Fr h₀ L s.heap m) (N : News h₀ L s.heap news) (X₀ : K.In h₀)
    (e : findCls K (.type "bytes") (.type "type") (Str.ofString "fromhex") = some (.get (.builtin "classmethod_descriptor.__get__") (.builtin "bytes.fromhex") .none (.type "bytes")))
    (h : ∀ x h', Fr h₀ L h' m → News h₀ L h' ((x, bound) :: news) → (∀ p ∈ news, p.1 < x) → Q (.ref x, []) { s with heap := h', toks := s.toks + 1 }) :
    wpAny (model prog w) A (getMethod (.type "bytes") (Str.ofString "fromhex") pl) Q E s := by
  have X := X₀.keeps F.keep
  have hstub : opaqueClassAbove (.type "bytes") = pure none := by unfold opaqueClassAbove; dsimp only; rw [show Manifest.isStub "bytes" = false by decide +kernel]; rfl
  have ht : typeOf (.type "bytes") = pure (.type "type") := by first | rfl | kernel_rfl
  have L0 : Looks (model prog w) s.heap (typeOf (.type "bytes")) (.type "type") := Looks.of_pure ht
  have hg : findIn K (.type "type") "__getattribute__" = some (some (.builtin "type.__getattribute__")) := type_tga
  unfold getMethod specialOf
  refine wpAny_bind (wpAny_bind (L0.here ((looks_findIn X hg).here ?_)))
  dsimp only
  rw [if_pos canon_tga]
  refine wpAny_bind (wpAny_mono (Q := fun v => Q (v, [])) (E := E) ?_ (fun _ _ z => wpAny_pure z) fun _ _ z => z)
  have LO : Looks (model prog w) s.heap (opaqueClassAbove (.type "bytes")) none := Looks.of_pure hstub
  refine cls_open X LO L0 hg (looks_hook X (r := none) (by rfl)) (by show subIn K _ _ = _; rfl) e ?_
  show wpAny _ _ (holding [.builtin "bytes.fromhex"] (call (.builtin "classmethod_descriptor.__get__") [.builtin "bytes.fromhex", .none, .type "bytes"]) >>= fun v => ret v) _ _ _
  refine wpAny_bind (wpAny_holding (wpAny_call_entry KFB.slot_get type_fh KFB.entry_get (run_get ⟨_, rfl, wpAny_pure (wpAny_pure (h _ _ (F.push _) (News.push F N _) fun p hp => Heap.lt_size (N p hp).1))⟩) (KFB.args_get _ _ _)))
/-- one argument, no keyword: the call of a bound built-in -/
theorem callWith_bound {pos : Pos} {u : Addr} {env : Env} {e : PySem.Expr} {Q : Value → Shared → Prop}
    (h : wpAny M A (spliced (backTo pos (starEach [e] env))) (fun vs s₁ => s₁.heap.get? u = some bound ∧ wpAny M A (call (.ref u) vs) Q E s₁) E s)
    (he : starEach [e] env = [(false, eval e env)] := by rfl) :
    wpAny M A (callWith pos (.ref u) [] (backTo pos (starEach [e] env)) []) Q E s := by
  rw [he] at h ⊢
  unfold callWith
  refine wpAny_bind (wpAny_holding (evalArgs_plain (wpAny_mono h (fun vs s₁ h₁ => ?_) fun _ _ x => x)))
  obtain ⟨ho, hcall⟩ := h₁
  refine wpAny_bind (wpAny_standAt ?_)
  refine wpAny_bind (m := keeperOf (.ref u)) ?_
  unfold keeperOf
  refine wpAny_bind (wpAny_load ho ?_)
  simp only [bound, show (Value.type "builtin_function_or_method" != Value.type "method") = true by decide, show (Value.type "builtin_function_or_method" == Value.type "builtin_function_or_method" || Value.type "builtin_function_or_method" == Value.type "method-wrapper") = true by decide, if_true]
  refine wpAny_pure ?_
  exact wpAny_bind (wpAny_mono hcall (fun r s₂ hr => wpAny_bind (wpAny_holding (wpAny_point (wpAny_pure hr)))) fun _ _ x => x)
end
end FH
end Mine
end

-- part: FromHex2
section
open PySem PySem.W PyProof.Rows PySem.Calls
set_option maxRecDepth 100000
namespace Mine
namespace FH
theorem msg_fits {i : Nat} (hi : i ≤ 4096) : (Str.ofString s!"non-hexadecimal number found in fromhex() arg at position {i}").length ≤ sizeLine := by
  rw [Str.ofString_eq_toList]
  show ((s!"non-hexadecimal number found in fromhex() arg at position {i}").toList.map Char.toNat).toArray.size ≤ sizeLine
  have h1 : (Nat.repr i).length ≤ 13 := nat_repr_length_le (by decide) (by omega)
  have h2 : (Nat.repr i).toList.length ≤ 13 := by rw [String.length_toList]; exact h1
  have e : s!"non-hexadecimal number found in fromhex() arg at position {i}" = "non-hexadecimal number found in fromhex() arg at position " ++ Nat.repr i := rfl
  rw [e, PySem.sizeLine_eq]
  simp only [List.size_toArray, List.length_map, String.toList_append, List.length_append]
  have h3 : "non-hexadecimal number found in fromhex() arg at position ".toList.length = 58 := by decide
  omega
theorem pairB_length : ∀ l, (pairB l).length ≤ l.length
  | [] => Nat.le_refl _
  | [_] => Nat.zero_le _
  | _ :: _ :: r => by have := pairB_length r; simp only [pairB, List.length_cons]; omega
section
variable {prog : Program} {w : World} {M : Model} {A : Around} {E : Value → Shared → Prop} {s : Shared}
theorem tree {x : Str} {t : Tok} {P : Fin → Shared → Prop} (hall : ∀ c ∈ x.cps.toList, (hexv c).isSome = true) (hn : x.length ≤ 1000) (hh : A.handled = none)
    (hok : x.length % 2 = 0 → P (.done (.ret (.bytes (pairB x.cps.toList).toArray s.toks))) { s with toks := s.toks + 1 })
    (herr : x.length % 2 = 1 → ∀ h' tk e, Heap.NewExc s.heap h' e "ValueError" → E (.ref e) { s with heap := h', toks := tk }) :
    wpAny M A (Builtin.«bytes.fromhex» ⟨[.type "bytes", .str x t], []⟩) P E s := by
  unfold Builtin.«bytes.fromhex» Builtin.Bytes.fromhexM
  refine wpAny_bind (wpAny_of_eq (a := "bytes") name_bytes ?_)
  refine KFB.if_not rfl ?_
  refine wpAny_bind (wpAny_of_eq (a := some x) rfl ?_)
  have hno : x.cps.findIdx? (fun c => decide (c ≥ 128)) = none := by
    rw [Array.findIdx?_eq_none_iff]
    intro c hc
    have := digit_lt (hall c (by simpa using hc))
    simp; omega
  simp only [hno]
  refine wpAny_bind (wpAny_pure ?_)
  have hsz : x.cps.toList.length = x.length := by rw [Array.length_toList]; rfl
  split
  · rename_i i heq
    have e := (spec_of (by intros; rfl) (by intros; rfl) (by intros; rfl) x.cps.toList x.cps.size 0 #[] (by rw [Array.length_toList]; exact Nat.le_refl _) hall).symm.trans heq
    by_cases ho : x.cps.toList.length % 2 = 1
    · rw [if_pos ho] at e
      have hi : i ≤ 4096 := by injection e with e; omega
      refine wpAny_bind (wpAny_rule ?_)
      exact wpAny_raiseErrorMade plainExc_ValueError hh (fun h' tk e hx => herr (by omega) h' tk e hx) (msg_fits hi)
    · rw [if_neg ho] at e; cases e
  · rename_i b heq
    have e := (spec_of (by intros; rfl) (by intros; rfl) (by intros; rfl) x.cps.toList x.cps.size 0 #[] (by rw [Array.length_toList]; exact Nat.le_refl _) hall).symm.trans heq
    by_cases ho : x.cps.toList.length % 2 = 1
    · rw [if_pos ho] at e; cases e
    · rw [if_neg ho] at e
      have hb : b = (pairB x.cps.toList).toArray := by injection e with e; rw [← e]; simp
      subst hb
      refine KFB.if_so (by decide) ?_
      refine wpAny_bind (wpAny_mkBytes ?_ ?_)
      · exact wpAny_pure (hok (by omega))
      · rw [PySem.sizeLine_eq, List.size_toArray]
        have := pairB_length x.cps.toList
        omega

theorem call_fh {u : Addr} {x : Str} {t : Tok} {Q : Value → Shared → Prop} (ho : s.heap.get? u = some bound) (hall : ∀ c ∈ x.cps.toList, (hexv c).isSome = true) (hn : x.length ≤ 1000) (hh : A.handled = none)
    (hok : x.length % 2 = 0 → ∀ t' k, Q (.bytes (pairB x.cps.toList).toArray t') { s with toks := k })
    (herr : x.length % 2 = 1 → ∀ h' tk e, Heap.NewExc s.heap h' e "ValueError" → E (.ref e) { s with heap := h', toks := tk }) :
    wpAny (model prog w) A (call (.ref u) [.str x t]) Q E s := by
  refine wpAny_call (codeAny_of_tree ?_)
  show wpAny _ A.in1 (callAny (.ref u) ⟨[.str x t], []⟩) _ _ s
  simp only [callAny]
  refine wpAny_bind (wpAny_load ho ?_)
  simp only [bound, show (Value.type "builtin_function_or_method" == Value.type "method" || Value.type "builtin_function_or_method" == Value.type "builtin_function_or_method" || Value.type "builtin_function_or_method" == Value.type "method-wrapper") = true by decide, if_true]
  refine KFB.if_so (by decide) ?_
  refine wpAny_bind (wpAny_of_eq (a := ()) check_fh ?_)
  refine wpAny_bind (wpAny_pure (wpAny_pure ?_))
  exact ⟨quiet_fh, codeAny_builtin entry_fh (tree hall hn hh (fun h => hok h _ _) herr)⟩
end
end FH
end Mine
end

-- part: T28
section
open PySem PySem.W PyProof.Rows
namespace Mine
abbrev litT : Str := Str.ofString "0123456789abcdefABCDEF"
theorem lit_list : litT.cps.toList = [48, 49, 50, 51, 52, 53, 54, 55, 56, 57, 97, 98, 99, 100, 101, 102, 65, 66, 67, 68, 69, 70] := by decide +kernel
theorem lit_mem (c : Nat) : decide (c ∈ litT.cps.toList) = (hexv c).isSome := by
  rw [lit_list]
  unfold hexv
  by_cases h1 : 48 ≤ c ∧ c ≤ 57
  · rw [if_pos (by simpa using h1)]
    simp only [Option.isSome_some, decide_eq_true_eq, List.mem_cons, List.not_mem_nil, or_false]
    omega
  · rw [if_neg (by simpa using h1)]
    by_cases h2 : 97 ≤ c ∧ c ≤ 102
    · rw [if_pos (by simpa using h2)]
      simp only [Option.isSome_some, decide_eq_true_eq, List.mem_cons, List.not_mem_nil, or_false]
      omega
    · rw [if_neg (by simpa using h2)]
      by_cases h3 : 65 ≤ c ∧ c ≤ 70
      · rw [if_pos (by simpa using h3)]
        simp only [Option.isSome_some, decide_eq_true_eq, List.mem_cons, List.not_mem_nil, or_false]
        omega
      · rw [if_neg (by simpa using h3)]
        simp only [Option.isSome_none, decide_eq_false_iff_not, List.mem_cons, List.not_mem_nil, or_false]
        omega
theorem lit_yes {c : Nat} (h : (Builtin.Str.occurrences litT (one c) 0 litT.length 1).isEmpty = false) : (hexv c).isSome = true := by
  rw [← lit_mem]
  rw [empty_one] at h
  simpa using h
theorem lit_no {c : Nat} (h : (Builtin.Str.occurrences litT (one c) 0 litT.length 1).isEmpty = true) : (hexv c).isSome = false := by
  rw [← lit_mem]
  rw [empty_one] at h
  simpa using h
def digits (x : Str) : List Nat := x.cps.toList.filter fun c => (hexv c).isSome
theorem digits_le (x : Str) : (digits x).length ≤ x.length := by
  unfold digits
  have := List.length_filter_le (fun c => (hexv c).isSome) x.cps.toList
  rw [Array.length_toList] at this
  exact this
theorem digits_all (x : Str) : ∀ c ∈ (⟨(digits x).toArray⟩ : Str).cps.toList, (hexv c).isSome = true := fun c hc => by
  have : c ∈ digits x := by simpa using hc
  exact (List.mem_filter.mp this).2
theorem raised_sub {base G h : Heap} {l : List Env} {e : Addr} {cls : Value} {a b : Led} (R : RaisedSN base G l e cls a h) (hs : ∀ p ∈ b, p ∈ a) : RaisedSN base G l e cls b h :=
  let ⟨B, a0, hB, hG, hl, hfl⟩ := R
  ⟨B, a0, hB, hG, fun q hq => hl q (hs q hq), hfl⟩
def Ret28 (x : Str) (r : Value) (tl : Led) : Prop := tl = [] ∧ (digits x).length % 2 = 0 ∧ ∃ t, r = .bytes (FH.pairB (digits x)).toArray t
local macro_rules | `(tactic| walk_at "eval ListComp") => `(tactic| (k_here; k_dflt (refine comp_WT (F₀ := by k_asm) (by with_unfolding_all rfl) (by decide) (by rfl) (by decide) (by rfl) ?_)))
local macro_rules | `(tactic| walk_at "getMethod type:bytes") => `(tactic| (k_here; k_dflt (refine' FH.getm ?kfbF ?kfbN ?kfbX ?kfbE ?_; (case kfbF => k_asm); (case kfbN => k_asm); (case kfbX => k_asm); (case kfbE => k_is); k_whole; intro x' h' F' N' l1)))
local macro_rules | `(tactic| walk_at "callWith ref") => `(tactic| (k_here; k_dflt (refine FH.callWith_bound ?_)))
set_option maxRecDepth 100000 in
set_option maxHeartbeats 4000000 in
theorem ct28 (news : Led) (x sep : Str) (t u : Tok) (hx : x.length ≤ 1000) : CtX 2 28 news [.str x t, .str sep u] "ValueError" (Ret28 x) ((digits x).length % 2 = 1) := by
  unfold CtX; k_fill
  intro w mean mg mb dp un gd cn cs a ccd cl outer A₀ base h₀ L m s Q E B F X N T hk hd hu hret herr
  refine wpAny_call ?_
  k_dflt (refine' code_def ?k1 ?k2 ?k3 ?k4 ?k5 ?kA ?kF ?kK ?k6 ?k7 ?k8 ?k9 ?kB ?_ ?c2 ?c3 ?c4 ?c5; (case kA => exact rfl); (case kF => exact rfl); (case kK => assumption); (case k1 => k_asm); (case k2 => k_asm); (case k3 => k_asm); (case k4 => k_asm); (case k5 => k_asm); (case k6 => k_is); (case k7 => k_is); (case k8 => ktr_room); (case k9 => exact binds_K (by k_in) rfl (by k_is) rfl rfl rfl); (case c5 => decide); (case kB => exact locs rfl); (case c2 => exact rfl); (case c3 => exact rfl); (case c4 => exact rfl); k_whole; intro g' L' h' FG' F' N' B' X' T'; (try dsimp only); (try k_lift B'); (try k_fold))
  have kMark := kstMark
  have kD := ktsDicts_nil (g := g')
  k_steps
  refine src_str (by rfl) (by assumption) (by assumption) (by rw [PySem.sizeLine_eq]; show x.length ≤ _; omega) ?_
  intro I g St W
  refine ⟨I, _, _, St, _, rfl, W, ?_⟩
  refine restT_filter (fun c => (hexv c).isSome) ?_ ?_
  · intro c' t' I' oI' C' oC' D' m' ys' h' tk' E' hC' hx' F' N' off' ne'
    try k_fold
    k_steps
    · exact LCg.CompEnd.intro (by assumption) (by assumption) news (fun _ hp => hp) off' trivial ⟨lit_no (by assumption), rfl⟩
    · exact LCg.CompEnd.intro (by assumption) (by assumption) news (fun _ hp => hp) off' trivial ⟨lit_yes (by assumption), rfl, _, rfl⟩
  · intro ys hys
    have hl := hys.length
    k_steps
    rename News _ _ _ (_ :: _) => kN
    have hdl := digits_le x
    refine join_listW (items := ys.toArray) ⟨_, (kN _ List.mem_cons_self).1, rfl, _, rfl⟩ hys (by decide) ?_ ?_
    · show (((digits x).map one).map (·.length)).sum + ((digits x).map one).length ≤ _
      rw [sum_ones, List.length_map]; omega
    · intro tj kj
      show _ 
      rw [show Txt.join (Str.ofString "") (List.map one (List.filter (fun c => (hexv c).isSome) x.cps.toList)) = ⟨(digits x).toArray⟩ from join_ones' (digits x)]
      k_steps
      · rename News _ _ _ (_ :: _ :: _) => kN2
        exact kN2.get List.mem_cons_self
      · rename News _ _ _ (_ :: _ :: _) => kN2
        have hdz : (⟨(digits x).toArray⟩ : Str).length = (digits x).length := by show (digits x).toArray.size = _; rw [List.size_toArray]
        refine FH.call_fh (kN2.get List.mem_cons_self) (digits_all x) (by rw [hdz]; omega) (by rfl) ?_ ?_
        · intro heven tq kq
          rw [hdz] at heven
          k_steps
          refine hret _ [] _ _ (by assumption) (fun p hp => ?_) ⟨rfl, heven, _, rfl⟩
          rename News _ _ _ (_ :: _ :: _) => kN3
          exact kN3 p (List.mem_cons_of_mem _ (List.mem_cons_of_mem _ hp))
        · intro hodd hq tq eq hxq
          rw [hdz] at hodd
          k_steps
          refine herr _ _ _ _ FG' (by assumption) (raised_sub (by assumption) fun p hp => List.mem_cons_of_mem _ (List.mem_cons_of_mem _ hp)) hodd
set_option maxRecDepth 100000 in
set_option maxHeartbeats 4000000 in
theorem ct28d (news : Led) (x : Str) (t : Tok) (hx : x.length ≤ 1000) : CtX 2 28 news [.str x t] "ValueError" (Ret28 x) ((digits x).length % 2 = 1) := by
  unfold CtX; k_fill
  intro w mean mg mb dp un gd cn cs a ccd cl outer A₀ base h₀ L m s Q E B F X N T hk hd hu hret herr
  refine wpAny_call ?_
  k_dflt (refine' code_def ?k1 ?k2 ?k3 ?k4 ?k5 ?kA ?kF ?kK ?k6 ?k7 ?k8 ?k9 ?kB ?_ ?c2 ?c3 ?c4 ?c5; (case kA => exact rfl); (case kF => exact rfl); (case kK => assumption); (case k1 => k_asm); (case k2 => k_asm); (case k3 => k_asm); (case k4 => k_asm); (case k5 => k_asm); (case k6 => k_is); (case k7 => k_is); (case k8 => ktr_room); (case k9 => exact binds_K (by k_in) rfl (by k_is) rfl rfl rfl); (case c5 => decide); (case kB => exact locs rfl); (case c2 => exact rfl); (case c3 => exact rfl); (case c4 => exact rfl); k_whole; intro g' L' h' FG' F' N' B' X' T'; (try dsimp only); (try k_lift B'); (try k_fold))
  have kMark := kstMark
  have kD := ktsDicts_nil (g := g')
  k_steps
  refine src_str (by rfl) (by assumption) (by assumption) (by rw [PySem.sizeLine_eq]; show x.length ≤ _; omega) ?_
  intro I g St W
  refine ⟨I, _, _, St, _, rfl, W, ?_⟩
  refine restT_filter (fun c => (hexv c).isSome) ?_ ?_
  · intro c' t' I' oI' C' oC' D' m' ys' h' tk' E' hC' hx' F' N' off' ne'
    try k_fold
    k_steps
    · exact LCg.CompEnd.intro (by assumption) (by assumption) news (fun _ hp => hp) off' trivial ⟨lit_no (by assumption), rfl⟩
    · exact LCg.CompEnd.intro (by assumption) (by assumption) news (fun _ hp => hp) off' trivial ⟨lit_yes (by assumption), rfl, _, rfl⟩
  · intro ys hys
    have hl := hys.length
    k_steps
    rename News _ _ _ (_ :: _) => kN
    have hdl := digits_le x
    refine join_listW (items := ys.toArray) ⟨_, (kN _ List.mem_cons_self).1, rfl, _, rfl⟩ hys (by decide) ?_ ?_
    · show (((digits x).map one).map (·.length)).sum + ((digits x).map one).length ≤ _
      rw [sum_ones, List.length_map]; omega
    · intro tj kj
      show _ 
      rw [show Txt.join (Str.ofString "") (List.map one (List.filter (fun c => (hexv c).isSome) x.cps.toList)) = ⟨(digits x).toArray⟩ from join_ones' (digits x)]
      k_steps
      · rename News _ _ _ (_ :: _ :: _) => kN2
        exact kN2.get List.mem_cons_self
      · rename News _ _ _ (_ :: _ :: _) => kN2
        have hdz : (⟨(digits x).toArray⟩ : Str).length = (digits x).length := by show (digits x).toArray.size = _; rw [List.size_toArray]
        refine FH.call_fh (kN2.get List.mem_cons_self) (digits_all x) (by rw [hdz]; omega) (by rfl) ?_ ?_
        · intro heven tq kq
          rw [hdz] at heven
          k_steps
          refine hret _ [] _ _ (by assumption) (fun p hp => ?_) ⟨rfl, heven, _, rfl⟩
          rename News _ _ _ (_ :: _ :: _) => kN3
          exact kN3 p (List.mem_cons_of_mem _ (List.mem_cons_of_mem _ hp))
        · intro hodd hq tq eq hxq
          rw [hdz] at hodd
          k_steps
          refine herr _ _ _ _ FG' (by assumption) (raised_sub (by assumption) fun p hp => List.mem_cons_of_mem _ (List.mem_cons_of_mem _ hp)) hodd
end Mine
end

-- part: ListBytes
section
open PySem PySem.W PyProof.Rows PySem.Calls
set_option maxRecDepth 100000
namespace Mine
namespace LB
section
variable {prog : Program} {w : World} {A : Around} {E : Value → Shared → Prop} {s : Shared}
abbrev ByteAt (b : Array UInt8) (i : Nat) (v : Value) : Prop := ∃ c u, b[i]? = some c ∧ v = .int (c.toNat : Int) u
theorem extend_bytes {R : Result → Shared → Prop} (hh : A.handled = none) (b : Array UInt8) (t : Tok) (S : Addr) (res : Value) (c₀ : Nat) (hS : s.heap.get? S = some { cls := .type "list", data := .seq #[] c₀ })
    (hR : ∀ h' tk acc' c', (∀ a o, a ≠ S → s.heap.get? a = some o → h'.get? a = some o) → h'.get? S = some { cls := .type "list", dict := none, data := .seq acc' c', slots := #[] } →
      ItemsOf (ByteAt b) acc' b.size → R (.ok (.ret res)) { s with heap := h', toks := tk }) (hn : b.size ≤ sizeLine) :
    wpAny (model prog w) A.in1 (Builtin.List.listExtendWith (.ref S) (.bytes b t) res)
      (fun fin s' => match fin with | .done f => R (.ok f) s' | .again c' => c'.quiet = true ∧ codeAny (model prog w) A c' R s') (fun e s' => R (.error e) s') s := by
  have hSI : S ≠ s.heap.objs.size := Nat.ne_of_lt (Heap.lt_size hS)
  have hSf : S ∉ [s.heap.objs.size] := fun hm => hSI (List.mem_singleton.mp hm)
  unfold Builtin.List.listExtendWith
  refine wpAny_bind (wpAny_typeOf (T := "bytes") (v := .bytes b t) rfl ?_)
  have h1 : Builtin.List.listSameRef (.ref S) (.bytes b t) = false := rfl
  have h2 : (Value.type "bytes" == Value.type "list") = false := by decide
  have h3 : (Value.type "bytes" == Value.type "tuple") = false := by decide
  simp only [h1, h2, h3, Bool.or_false, Bool.false_eq_true, if_false]
  refine wpAny_bind (KBw.pyIter_bytes ?_)
  refine wpAny_bind (wpAny_holding ?_)
  unfold Builtin.List.listLengthHint
  refine wpAny_bind (wpAny_specialOf (T := "bytes") (v := .bytes b t) rfl FB.slot_bytes_len.lookup ?_)
  wp_delta
  refine wpAny_bind (wpAny_isInstance (T := "bytes") (v := .bytes b t) (b := true) rfl (by rw [isSubtype_type]; kernel_rfl) ?_)
  show wpAny _ _ (typeOf (Value.bytes b t) >>= _) _ _ _
  refine wpAny_bind (wpAny_typeOf (T := "bytes") (v := .bytes b t) rfl ?_)
  refine wpAny_pure ?_
  rw [if_neg (by decide)]
  refine wpAny_pure ⟨plainId_quiet F.plain_extend_loop _, codeAny_extend_loopS (KBw.walks (A := A.in1) hh s.heap.objs.size b t).toS hn _ hSf _ b.size 0 _ _ _ rfl (Nat.zero_le _) ⟨_, Heap.get?_push_size _ rfl, rfl, rfl⟩ (Heap.get?_push_of_some _ hS) (ItemsOf.nil _) fun s' acc' c' hm hS' hacc => ?_⟩
  rw [Moved.eq_with hm]
  refine hR s'.heap s'.toks acc' c' (fun a ob hb e => hm.heap a ob (fun hmem => ?_) (Heap.get?_push_of_some _ e)) hS' hacc
  rcases List.mem_cons.mp hmem with e' | hmem
  · exact hb e'
  · exact absurd (Heap.lt_size e) (by rw [List.mem_singleton.mp hmem]; exact Nat.lt_irrefl _)
theorem init_bytes {R : Result → Shared → Prop} (hh : A.handled = none) (b : Array UInt8) (t : Tok) (S : Addr) (hS : s.heap.get? S = some { cls := .type "list", data := .seq #[] })
    (hR : ∀ h' tk acc' c', (∀ a o, a ≠ S → s.heap.get? a = some o → h'.get? a = some o) → h'.get? S = some { cls := .type "list", dict := none, data := .seq acc' c', slots := #[] } →
      ItemsOf (ByteAt b) acc' b.size → R (.ok (.ret .none)) { s with heap := h', toks := tk }) (hn : b.size ≤ sizeLine) :
    wpAny (model prog w) A.in1 (Builtin.«list.__init__» ⟨[.ref S, .bytes b t], []⟩)
      (fun fin s' => match fin with | .done f => R (.ok f) s' | .again c' => c'.quiet = true ∧ codeAny (model prog w) A c' R s') (fun e s' => R (.error e) s') s := by
  show wpAny _ _ (do let old ← Builtin.List.listItems (.ref S); Builtin.List.listUpdate (.ref S) (fun _ => #[]); letGo old.toList.reverse; Builtin.List.listExtendWith (.ref S) (.bytes b t) .none) _ _ s
  refine wpAny_bind ?_
  unfold Builtin.List.listItems
  refine wpAny_bind (wpAny_seqItems hS rfl (wpAny_pure ?_))
  show wpAny _ _ (updateSeq S (fun _ => #[]) >>= fun _ => letGo (#[] : Array Value).toList.reverse >>= fun _ => Builtin.List.listExtendWith (.ref S) (.bytes b t) .none) _ _ s
  refine wpAny_bind (wpAny_updateSeq hS rfl ?_)
  have hS₂ := Heap.get?_update_self (Obj.mapSeq (fun _ => (#[] : Array Value))) hS rfl
  refine wpAny_bind (wpAny_letGo ?_)
  refine extend_bytes (hn := hn) hh b t S .none _ hS₂ fun h' tk acc' c' hk hS' hacc => ?_
  exact hR h' tk acc' c' (fun a o hb e => hk a o hb ((Heap.get?_update_other _ _ (Ne.symm hb)).trans e)) hS' hacc
theorem ints_of {b : Array UInt8} {acc : Array Value} (h : ItemsOf (ByteAt b) acc b.size) : IntsAre acc.toList (KBw.bInts b) := by
  have key : ∀ (l : List Value) (ns : List Int), l.length = ns.length → (∀ (j : Nat) v, l[j]? = some v → ∃ n t, ns[j]? = some n ∧ v = .int n t) → IntsAre l ns := by
    intro l
    induction l with
    | nil => intro ns hl _; rw [List.length_nil] at hl; rw [List.length_eq_zero_iff.mp hl.symm]; exact .nil
    | cons v r ih =>
      intro ns hl hj
      cases ns with
      | nil => simp at hl
      | cons n ns =>
        obtain ⟨n', t, hn, rfl⟩ := hj 0 v rfl
        have e : n = n' := by simpa using hn
        subst e
        exact .cons n t (ih ns (by simpa using hl) fun j v hv => by simpa using hj (j + 1) v (by simpa using hv))
  refine key _ _ (by rw [Array.length_toList, h.1, KBw.ints_length]) fun j v hj => ?_
  obtain ⟨c, u, hc, rfl⟩ := h.2 j v (by rw [← Array.getElem?_toList]; exact hj)
  exact ⟨_, u, KBw.ints_get hc, rfl⟩
theorem call_list_bytes {Q : Value → Shared → Prop} {h₀ : Heap} {L : Addr} {m : Str → Option Value} {news : List (Addr × Obj)} (F₀ : Fr h₀ L s.heap m) (N : News h₀ L s.heap news) (hh : A.handled = none) {b : Array UInt8} {t : Tok} (hn : b.size ≤ sizeLine)
    (hQ : ∀ D us c h' tk, Fr h₀ L h' m → News h₀ L h' ((D, listOf (List.toArray us) c) :: news) → (∀ p ∈ news, p.1 < D) → IntsAre us (KBw.bInts b) → Q (.ref D) { s with heap := h', toks := tk }) :
    wpAny (model prog w) A (call (.type "list") [.bytes b t]) Q E s := by
  refine callType_codes (Q₁ := fun obj s₁ => obj = .ref s.heap.objs.size ∧ s₁ = { s with heap := s.heap.push { cls := .type "list", data := .seq #[] } }) F.called_list (F.typeCall_list_1 _) F.entry_list_init
    (code_list_new _ ⟨rfl, rfl⟩) fun obj s₁ h₁ => ?_
  obtain ⟨rfl, rfl⟩ := h₁
  have hS : (s.heap.push { cls := .type "list", data := .seq #[] }).get? s.heap.objs.size = some { cls := .type "list", data := .seq #[] } := Heap.get?_push_size _ rfl
  refine ⟨⟨_, hS, rfl⟩, F.args_list_init_2 _ _, init_bytes (A := A.in1) (hn := hn) hh b t _ hS fun h' tk acc' c' hk hS' hacc => ⟨rfl, ?_⟩⟩
  have hk' : ∀ a o, s.heap.get? a = some o → h'.get? a = some o := fun a o e => hk a o (Nat.ne_of_lt (Heap.lt_size e)) (Heap.get?_push_of_some _ e)
  have hD' : h'.get? s.heap.objs.size = some (listOf (List.toArray acc'.toList) c') := by
    rw [Array.toArray_toList]
    exact hS'
  exact hQ _ acc'.toList c' h' tk (F₀.keeps hk') (news_pushed F₀ N hk' hD' rfl) (fun p hp => Heap.lt_size (N p hp).1) (ints_of hacc)
end
end LB
end Mine
end

-- part: Told
section
open PySem PySem.W PyProof.Rows
namespace Mine
theorem readI_digits (l : List Nat) : readI (l.map fun (c : Nat) => (c : Int)) = (l.filter fun c => (hexv c).isSome).map fun c => (((hexv c).getD 0 : Nat) : Int) := by
  unfold readI
  induction l with
  | nil => rfl
  | cons c r ih =>
    rw [List.map_cons, List.filterMap_cons, List.filter_cons]
    simp only [Int.toNat_natCast]
    cases h : hexv c with
    | none => simpa using ih
    | some v => simp [h, ih]
theorem readV_digits (x : Str) : readV x = (digits x).map fun c => (((hexv c).getD 0 : Nat) : Int) := readI_digits _
theorem readV_length (x : Str) : (readV x).length = (digits x).length := by rw [readV_digits, List.length_map]
theorem pair_same : ∀ l : List Nat, (∀ c ∈ l, (hexv c).isSome = true) → (FH.pairB l).map (fun c => ((c.toNat : Nat) : Int)) = pairI (l.map fun c => (((hexv c).getD 0 : Nat) : Int))
  | [], _ => rfl
  | [_], _ => rfl
  | c :: d :: r, h => by
    obtain ⟨u, hu⟩ := Option.isSome_iff_exists.mp (h c List.mem_cons_self)
    obtain ⟨v, hv⟩ := Option.isSome_iff_exists.mp (h d (List.mem_cons_of_mem _ List.mem_cons_self))
    have h1 := hexv_lt hu
    have h2 := hexv_lt hv
    simp only [FH.pairB, List.map_cons, pairI, hu, hv, Option.getD_some]
    rw [pair_same r fun c hc => h c (List.mem_cons_of_mem _ (List.mem_cons_of_mem _ hc))]
    congr 1
    show (((UInt8.ofNat (u * 16 + v)).toNat : Nat) : Int) = _
    rw [UInt8.toNat_ofNat']
    omega
theorem told_ints (x : Str) : KBw.bInts (FH.pairB (digits x)).toArray = pairI (readV x) := by
  rw [KBw.ints_list, readV_digits]
  exact pair_same _ fun c hc => (List.mem_filter.mp hc).2
theorem ret61_some {x : Str} {us : List Value} {D : Addr} {c : Nat} (h : (digits x).length % 2 = 0) (hi : IntsAre us (KBw.bInts (FH.pairB (digits x)).toArray)) : Ret54 x (.ref D) [(D, listOf us.toArray c)] :=
  .inr ⟨by rw [readV_length]; exact h, D, us, c, rfl, rfl, by rw [← told_ints]; exact hi⟩
theorem ret61_none {x : Str} (h : (digits x).length % 2 = 1) : Ret54 x .none [] := .inl ⟨by rw [readV_length]; exact h, rfl, rfl⟩
end Mine
end

-- part: T61
section
open PySem PySem.W PyProof.Rows
namespace Mine
section
variable {x sep : Str} {t u : Tok} {news : Led} {w : World} {mean : ExcName → Option Value} {mg mb : Str → Option Value} {dp un : Nat} {gd : Option (List Code)} {cn : Str} {cs : Scope} {a : Addr} {ccd : Value} {cl : List (Str × Addr)} {outer : List Env} {A₀ : Around} {base h₀ : Heap} {L : Addr} {m : Str → Option Value} {s : Shared} {Q E : Value → Shared → Prop}
theorem use28 (hx : x.length ≤ 1000) (B : Below A₀ base outer h₀) (F : Fr h₀ L s.heap m) (X : (hd.heap_39 w.params).In h₀) (N : News h₀ L s.heap news)
    (T : Top GP GL mean mg mb h₀) (hk : cs.kind = .function) (hd : dp + 2 < recursionLimit) (hu : un + 8 * 2 < cLine)
    (h1 : (digits x).length % 2 = 0 → ∀ t h' tk', Fr h₀ L h' m → News h₀ L h' news → Q (.bytes (FH.pairB (digits x)).toArray t) { s with heap := h', toks := tk' })
    (h2 : (digits x).length % 2 = 1 → ∀ e g' h' tk', Fr h₀ L g' m → g'.UpToSlots h' → RaisedSN base g' (envX cn cs L a ccd cl :: outer) e (.type "ValueError") news h' → E (.ref e) { s with heap := h', toks := tk' }) :
    wpAny (model PySem.Challenge.rw_fb5001_01.row.prog w) (ktrTop dp un gd cn cs L a ccd cl outer) (call (.ref 28) [.str x t, .str sep u]) Q E s := by
  refine ct28 news x sep t u hx _ _ _ _ _ _ _ _ _ _ _ _ _ _ _ _ _ _ _ _ _ B F X N T hk hd hu ?_ ?_
  · rintro r tl h' tk' F' N' ⟨rfl, hev, t, rfl⟩
    exact h1 hev _ _ _ F' N'
  · exact fun e g' h' tk' F' U R ho => h2 ho e g' h' tk' F' U R
theorem use28d (hx : x.length ≤ 1000) (B : Below A₀ base outer h₀) (F : Fr h₀ L s.heap m) (X : (Mine.hd.heap_39 w.params).In h₀) (N : News h₀ L s.heap news)
    (T : Top GP GL mean mg mb h₀) (hk : cs.kind = .function) (hd : dp + 2 < recursionLimit) (hu : un + 8 * 2 < cLine)
    (h1 : (digits x).length % 2 = 0 → ∀ t h' tk', Fr h₀ L h' m → News h₀ L h' news → Q (.bytes (FH.pairB (digits x)).toArray t) { s with heap := h', toks := tk' })
    (h2 : (digits x).length % 2 = 1 → ∀ e g' h' tk', Fr h₀ L g' m → g'.UpToSlots h' → RaisedSN base g' (envX cn cs L a ccd cl :: outer) e (.type "ValueError") news h' → E (.ref e) { s with heap := h', toks := tk' }) :
    wpAny (model PySem.Challenge.rw_fb5001_01.row.prog w) (ktrTop dp un gd cn cs L a ccd cl outer) (call (.ref 28) [.str x t]) Q E s := by
  refine ct28d news x t hx _ _ _ _ _ _ _ _ _ _ _ _ _ _ _ _ _ _ _ _ _ B F X N T hk hd hu ?_ ?_
  · rintro r tl h' tk' F' N' ⟨rfl, hev, t, rfl⟩
    exact h1 hev _ _ _ F' N'
  · exact fun e g' h' tk' F' U R ho => h2 ho e g' h' tk' F' U R
end
local macro_rules | `(tactic| walk_at "call type:list") => `(tactic| (k_here; (with_reducible show wpAny _ _ (call (Value.type _) [Value.bytes _ _]) _ _ _); k_dflt (refine LB.call_list_bytes (by k_asm) (by k_asm) (by rfl) (by assumption) ?_); intro D' us' c' h' tk' F' N' l1 i'))
set_option maxRecDepth 100000 in
set_option maxHeartbeats 4000000 in
theorem ct61 (news : Led) (x sep : Str) (t u : Tok) (hx : x.length ≤ 1000) : Ct0 4 61 news [.str x t, .str sep u] (Ret54 x) := by
  unfold Ct0; k_fill
  intro w mean mg mb dp un gd cn cs a ccd A₀ base h₀ L m s Q E B F X N T XB TB hk hd hu hret
  have hbz : (FH.pairB (digits x)).toArray.size ≤ sizeLine := by
    rw [PySem.sizeLine_eq, List.size_toArray]
    have h1 := FH.pairB_length (digits x)
    have h2 := digits_le x
    omega
  have hr1 : ∀ D us c h' tk', Fr h₀ L h' m → News h₀ L h' ((D, listOf (List.toArray us) c) :: news) → (digits x).length % 2 = 0 → IntsAre us (KBw.bInts (FH.pairB (digits x)).toArray) → Q (.ref D) { s with heap := h', toks := tk' } :=
    fun D us c h' tk' a b e i => hret _ [(D, listOf (List.toArray us) c)] h' tk' a b (ret61_some e i)
  have hr0 : ∀ h' tk', Fr h₀ L h' m → News h₀ L h' news → (digits x).length % 2 = 1 → Q .none { s with heap := h', toks := tk' } := fun h' tk' a b e => hret _ [] h' tk' a b (ret61_none e)
  refine wpAny_call ?_
  k_dflt (refine' code_defS0 ?k1 ?k2 ?k3 ?k4 ?k5 ?kA ?k6 ?k7 ?k8 ?k9 ?kB ?_ ?cK ?c2 ?c3 ?c4 ?c5; (case kA => exact rfl); (case k2 => k_asm); (case k1 => k_asm); (case k3 => k_asm); (case k4 => k_asm); (case k5 => k_asm); (case k6 => k_is); (case k7 => k_is); (case k8 => ktr_room); (case k9 => first | exact binds_K (by k_in) rfl (by k_is) rfl rfl rfl | exact BindsTo.of_eq rfl | fail "kts_go: no rule for these arguments"); (case kB => exact locs rfl); (case cK => assumption); (case c2 => exact rfl); (case c3 => exact rfl); (case c4 => exact rfl); (case c5 => decide); k_whole; intro g' L' h' FG' F' N' B' X' T' D'; (try dsimp only); (try k_lift B'); (try k_fold))
  have kMark := kstMark
  (k_with "call ref" => (k_here; (with_reducible show wpAny _ _ (call (Value.ref 28) _) _ _ _); k_dflt (first
    | refine use28 hx (by k_asm) (by k_asm) (by k_asm) (by k_asm) (by k_asm) (by first | exact rfl | assumption) (by ktr_room) (by ktr_units) (fun v9 t9 h9 tk9 F9 N9 => ?_) (fun v9 e9 g9 h9 tk9 F9 U9 R9 => ?_)
    | refine use28d hx (by k_asm) (by k_asm) (by k_asm) (by k_asm) (by k_asm) (by first | exact rfl | assumption) (by ktr_room) (by ktr_units) (fun v9 t9 h9 tk9 F9 N9 => ?_) (fun v9 e9 g9 h9 tk9 F9 U9 R9 => ?_)); (all_goals (try dsimp only))))
  k_steps
  all_goals first
    | exact hr1 _ _ _ _ _ (by assumption) (by assumption) (by assumption) (by assumption)
    | exact hr0 _ _ (by assumption) (by assumption) (by assumption)
end Mine
end

-- part: PlainW
section
open PySem PySem.W PyProof.Rows
namespace Mine
/-- an octet's two digits, the high one first -/
def hex2 (c : UInt8) : Str := ⟨#[hexd (c.toNat / 16), hexd (c.toNat % 16)]⟩
def wr (sep : Str) (l : List UInt8) : Str := Str.join sep (l.map hex2)
theorem str_ext {a b : Str} (h : a.cps.toList = b.cps.toList) : a = b := by
  cases a; cases b; simp only [Str.mk.injEq]; exact Array.toList_inj.mp h
theorem cps_app (a b : Str) : (a ++ b).cps.toList = a.cps.toList ++ b.cps.toList := by
  show (a.cps ++ b.cps).toList = _
  rw [Array.toList_append]
theorem app_assoc (a b c : Str) : a ++ b ++ c = a ++ (b ++ c) := by
  apply str_ext; simp only [cps_app, List.append_assoc]
theorem app_empty (a : Str) : a ++ Str.empty = a := by
  apply str_ext; simp [cps_app, Str.empty]
theorem join_snoc (sep : Str) : ∀ (l : List Str) (y : Str), l ≠ [] → Str.join sep (l ++ [y]) = Str.join sep l ++ sep ++ y
  | [], _, h => absurd rfl h
  | [x], y, _ => by show x ++ sep ++ y = _; rfl
  | x :: x' :: r, y, _ => by
    have ih := join_snoc sep (x' :: r) y (by simp)
    show x ++ sep ++ Str.join sep (x' :: r ++ [y]) = x ++ sep ++ Str.join sep (x' :: r) ++ sep ++ y
    rw [ih]
    simp only [app_assoc]
theorem wr_nil (sep : Str) : wr sep [] = Str.empty := rfl
theorem wr_one (sep : Str) (c : UInt8) : wr sep [c] = hex2 c := rfl
theorem wr_snoc (sep : Str) (l : List UInt8) (c : UInt8) (h : l ≠ []) : wr sep (l ++ [c]) = wr sep l ++ sep ++ hex2 c := by
  unfold wr
  rw [List.map_append]
  exact join_snoc sep _ _ (by simpa using h)
theorem len_app (a b : Str) : (a ++ b).length = a.length + b.length := by
  show (a.cps ++ b.cps).size = _
  rw [Array.size_append]; rfl
theorem hex2_len (c : UInt8) : (hex2 c).length = 2 := rfl
theorem wr_len (sep : Str) : ∀ l : List UInt8, (wr sep l).length ≤ l.length * (sep.length + 2)
  | [] => by rw [wr_nil]; exact Nat.zero_le _
  | [c] => by rw [wr_one, hex2_len]; simp
  | c :: d :: r => by
    have ih := wr_len sep (d :: r)
    show (hex2 c ++ sep ++ wr sep (d :: r)).length ≤ _
    rw [len_app, len_app, hex2_len, List.length_cons, Nat.add_mul]
    omega
theorem item_hex {c : Nat} (h : c < 256) : Txt.item smallT ((c : Int).fdiv 16) ++ Txt.item smallT ((c : Int).fmod 16) = ⟨#[hexd (c / 16), hexd (c % 16)]⟩ := by
  have e1 : (c : Int).fdiv 16 = ((c / 16 : Nat) : Int) := by rw [Int.fdiv_eq_ediv_of_nonneg _ (by decide)]; rfl
  have e2 : (c : Int).fmod 16 = ((c % 16 : Nat) : Int) := by rw [Int.fmod_eq_emod_of_nonneg _ (by decide)]; rfl
  rw [e1, e2, item_small' (by omega) (by omega), item_small' (by omega) (by omega)]
  rfl
theorem byte_item {b : Array UInt8} {pre : List Int} {kN : Int} (e : kN = 0 + (pre.length : Int)) (lt : pre.length < ((b.size : Int) - 0).toNat) :
    ∃ c, b.toList.take (pre.length + 1) = b.toList.take pre.length ++ [c] ∧ Txt.item smallT (((KBw.bInts b).getD kN.toNat 0).fdiv 16) ++ Txt.item smallT (((KBw.bInts b).getD kN.toNat 0).fmod 16) = hex2 c := by
  have hn : kN.toNat = pre.length := by omega
  have hz : b.toList.length = b.size := Array.length_toList
  have hl : pre.length < b.toList.length := by omega
  refine ⟨b.toList[pre.length], ?_, ?_⟩
  · rw [List.take_add_one, List.getElem?_eq_getElem hl]; rfl
  · have hg : (KBw.bInts b).getD kN.toNat 0 = ((b.toList[pre.length].toNat : Nat) : Int) := by
      rw [hn, List.getD_eq_getElem?_getD]
      unfold KBw.bInts
      rw [List.getElem?_map, List.getElem?_eq_getElem hl]
      rfl
    rw [hg]
    exact item_hex (UInt8.toNat_lt _)
theorem wr_turn1 {b : Array UInt8} {sep text : Str} {pre : List Int} {kN : Int} (i : text = wr sep (b.toList.take pre.length)) (e : kN = 0 + (pre.length : Int)) (lt : pre.length < ((b.size : Int) - 0).toNat) (h : 0 < kN) :
    text ++ sep ++ (Txt.item smallT (((KBw.bInts b).getD kN.toNat 0).fdiv 16) ++ Txt.item smallT (((KBw.bInts b).getD kN.toNat 0).fmod 16)) = wr sep (b.toList.take (pre ++ [kN]).length) := by
  obtain ⟨c, h1, h2⟩ := byte_item e lt
  rw [h2, List.length_append, List.length_singleton, h1, wr_snoc, i]
  intro h0
  have hz : b.toList.length = b.size := Array.length_toList
  have := congrArg List.length h0
  rw [List.length_take, hz, List.length_nil] at this
  omega
theorem wr_turn0 {b : Array UInt8} {sep text : Str} {pre : List Int} {kN : Int} (i : text = wr sep (b.toList.take pre.length)) (e : kN = 0 + (pre.length : Int)) (lt : pre.length < ((b.size : Int) - 0).toNat) (h : ¬ 0 < kN) :
    text ++ (Txt.item smallT (((KBw.bInts b).getD kN.toNat 0).fdiv 16) ++ Txt.item smallT (((KBw.bInts b).getD kN.toNat 0).fmod 16)) = wr sep (b.toList.take (pre ++ [kN]).length) := by
  obtain ⟨c, h1, h2⟩ := byte_item e lt
  have h0 : pre.length = 0 := by omega
  rw [h0, List.take_zero, List.nil_append] at h1
  rw [h2, List.length_append, List.length_singleton, h0, h1, i, h0, List.take_zero, wr_nil, wr_one]
  apply str_ext
  rw [cps_app]
  rfl
theorem wr_all {b : Array UInt8} {sep text : Str} (h : text = wr sep (b.toList.take (rangeKs 0 ((b.size : Int) - 0).toNat).length)) : text = wr sep b.toList := by
  have hz : b.toList.length = b.size := Array.length_toList
  rw [h, rangeKs_length, List.take_of_length_le]
  omega
end Mine
end

-- part: T42
section
open PySem PySem.W PyProof.Rows
namespace Mine
def RetS (x : Str) (r : Value) (tl : Led) : Prop := tl = [] ∧ ∃ t, r = .str x t
theorem wr_start {sep : Str} {l : List UInt8} : Str.ofString "" = wr sep (List.take ([] : List Int).length l) := by
  show _ = Str.empty
  decide
local macro_rules | `(tactic| walk_at "pyIter ref") => `(tactic| (kst_has; k_extra "pyIter ref"))
local macro_rules | `(tactic| walk_at "exec For Name Call cons nil") => `(tactic| (k_here; kst_src; (rename Fr _ _ _ _ => lF'); (with_unfolding_all refine' For_invVF lF' ?k1 ?k2 ?_; (case k1 => exact rfl); (case k2 => exact rfl); k_whole)))
local macro_rules | `(tactic| walk_at "subscriptTail") => `(tactic| (k_here; (with_reducible show wpAny _ _ (subscriptTail _ _ (Value.bytes _ _) (Value.int _ _)) _ _ _); k_dflt (refine KBw.item_K rfl (by rw [KBw.ints_length]; omega) (by omega) (by rw [KBw.ints_length]; omega) ?_); intro _ _ _ _))
set_option maxRecDepth 100000 in
set_option maxHeartbeats 4000000 in
theorem ct42 (news : Led) (b : Array UInt8) (sep : Str) (t u : Tok) (hb : b.size ≤ 64) (hs : sep.length ≤ 16) : Ct 2 42 news [.bytes b t, .str sep u] (RetS (wr sep b.toList)) := by
  unfold Ct; k_fill
  intro w mean mg mb dp un gd cn cs a ccd cl outer A₀ base h₀ L m s Q E B F X N T hk hd hu hret
  have hls : (Str.ofString "0123456789abcdef").length = 16 := len_small
  have hW : ∀ k, (wr sep (b.toList.take k)).length ≤ 1152 := fun k => by
    have h1 := wr_len sep (b.toList.take k)
    have h2 : (b.toList.take k).length ≤ 64 := by rw [List.length_take, Array.length_toList]; omega
    have h3 := Nat.mul_le_mul h2 (show sep.length + 2 ≤ 18 by omega)
    omega
  have hr0 : ∀ x t h' tk', Fr h₀ L h' m → News h₀ L h' news → x = wr sep b.toList → Q (.str x t) { s with heap := h', toks := tk' } := fun x t h' tk' a c e => hret _ [] h' tk' a c ⟨rfl, t, by rw [e]⟩
  refine wpAny_call ?_
  k_dflt cell_enter
  have kMark := kstMark
  (k_with "pyIter ref" => (k_state (fun pre text => text = wr sep (b.toList.take pre.length)) "text"; (all_goals (try (have hz9 := hW kPre.length; rw [← kInv] at hz9)))))
  (k_with "state" => first | exact wr_start | exact wr_turn1 (by assumption) (by assumption) (by assumption) (by assumption) | exact wr_turn0 (by assumption) (by assumption) (by assumption) (by assumption))
  k_steps
  all_goals exact hr0 _ _ _ _ (by assumption) (by assumption) (wr_all (by assumption))
end Mine
end

-- part: Hex
section
open PySem PySem.W PyProof.Rows PySem.Calls
set_option maxRecDepth 100000
namespace Mine
namespace HX
theorem fold_hex (f : Array Nat → UInt8 × Nat → Array Nat) (hf : ∀ out c i, f out (c, i) = (out.push (hexd (c.toNat / 16))).push (hexd (c.toNat % 16))) :
    ∀ (l : List UInt8) (k : Nat) (out : Array Nat), ((l.zipIdx k).foldl f out).toList = out.toList ++ (wr Str.empty l).cps.toList
  | [], k, out => by
    simp [wr_nil, Str.empty]
  | [c], k, out => by
    simp [hf, wr_one, hex2]
  | c :: d :: r, k, out => by
    rw [List.zipIdx_cons, List.foldl_cons, hf, fold_hex f hf (d :: r) (k + 1)]
    show _ = out.toList ++ (hex2 c ++ Str.empty ++ wr Str.empty (d :: r)).cps.toList
    rw [app_empty, cps_app]
    simp [hex2]
theorem bind_hex {id : String} : Builtin.Bytes.bindOptional id "hex" ["sep", "bytes_per_sep"] [] [] = pure [none, none] := by kernel_rfl
section
variable {prog : Program} {w : World} {M : Model} {A : Around} {E : Value → Shared → Prop} {s : Shared}
theorem tree_hex {id : String} {held : Bool} {self : Value} {b : Array UInt8} {bytesOf : Value → Sem (Array UInt8)} {P : Fin → Shared → Prop} (hb : b.size ≤ 64)
    (hp : ∀ (Q : Array UInt8 → Shared → Prop), Q b s → wpAny M A (bytesOf self) Q E s)
    (h : ∀ x, x = wr Str.empty b.toList → P (.done (.ret (.str x s.toks))) { s with toks := s.toks + 1 }) :
    wpAny M A (Builtin.Bytes.hexOf id held bytesOf (fun _ => pure ()) ⟨[self], []⟩) P E s := by
  unfold Builtin.Bytes.hexOf
  refine wpAny_bind (wpAny_of_eq bind_hex ?_)
  dsimp only
  refine wpAny_bind (wpAny_pure ?_)
  refine wpAny_bind (wpAny_pure ?_)
  refine wpAny_bind (wpAny_pure ?_)
  refine wpAny_bind (hp _ ?_)
  unfold retStr
  have e := fold_hex (fun out x => (out.push (Builtin.Bytes.hexDigit (x.1.toNat / 16))).push (Builtin.Bytes.hexDigit (x.1.toNat % 16))) (fun _ _ _ => rfl) b.toList 0 #[]
  have e2 : (⟨(b.toList.zipIdx).foldl (fun (out : Array Nat) x => (out.push (Builtin.Bytes.hexDigit (x.1.toNat / 16))).push (Builtin.Bytes.hexDigit (x.1.toNat % 16))) #[]⟩ : Str) = wr Str.empty b.toList := str_ext (by simpa using e)
  refine wpAny_bind (wpAny_mkStr (wpAny_pure (h _ e2)) ?_)
  have hl := wr_len Str.empty b.toList
  have hz : b.toList.length = b.size := Array.length_toList
  have h3 := Nat.mul_le_mul (show b.toList.length ≤ 64 by omega) (Nat.le_refl (Str.empty.length + 2))
  have h4 : Str.empty.length = 0 := rfl
  rw [PySem.sizeLine_eq]
  show Str.length (⟨(b.toList.zipIdx).foldl (fun (out : Array Nat) x => (out.push (Builtin.Bytes.hexDigit (x.1.toNat / 16))).push (Builtin.Bytes.hexDigit (x.1.toNat % 16))) #[]⟩ : Str) ≤ _
  rw [e2]
  omega
theorem payload_bytes {b : Array UInt8} {t : Tok} (Q : Array UInt8 → Shared → Prop) (hQ : Q b s) : wpAny M A (Builtin.Bytes.payload (.bytes b t)) Q E s := by
  unfold Builtin.Bytes.payload Builtin.Bytes.payload?
  exact wpAny_bind (wpAny_pure (wpAny_pure hQ))
theorem payload_array {b : Array UInt8} {a : Addr} {n : Nat} {o : Obj} (ho : s.heap.get? a = some o) (hd : o.data = .bytearray b n) (Q : Array UInt8 → Shared → Prop) (hQ : Q b s) : wpAny M A (Builtin.Bytes.payload (.ref a)) Q E s := by
  unfold Builtin.Bytes.payload Builtin.Bytes.payload?
  refine wpAny_bind (wpAny_bind (wpAny_load ho ?_))
  rw [hd]
  exact wpAny_pure (wpAny_pure hQ)
theorem tree_bytes {b : Array UInt8} {t : Tok} {P : Fin → Shared → Prop} (hb : b.size ≤ 64) (h : ∀ x, x = wr Str.empty b.toList → P (.done (.ret (.str x s.toks))) { s with toks := s.toks + 1 }) :
    wpAny M A (Builtin.«bytes.hex» ⟨[.bytes b t], []⟩) P E s := tree_hex hb payload_bytes h
theorem tree_array {b : Array UInt8} {a : Addr} {n : Nat} {o : Obj} (ho : s.heap.get? a = some o) (hd : o.data = .bytearray b n) {P : Fin → Shared → Prop} (hb : b.size ≤ 64) (h : ∀ x, x = wr Str.empty b.toList → P (.done (.ret (.str x s.toks))) { s with toks := s.toks + 1 }) :
    wpAny M A (Builtin.«bytearray.hex» ⟨[.ref a], []⟩) P E s := tree_hex hb (payload_array ho hd) h
end
theorem slot_bytes : Slot "bytes" "hex" "bytes.hex" :=
  .of (owner := "bytes") (n := "hex") (by rw [typeLookup_type, builtinLookup_eq_fast]; kernel_rfl) (by decide +kernel) (by decide +kernel) (by decide +kernel)
    (by first | exact .inl (by decide +kernel) | exact .inr (by decide +kernel)) (by rw [isSubtype_type]; kernel_rfl)
theorem slot_array : Slot "bytearray" "hex" "bytearray.hex" :=
  .of (owner := "bytearray") (n := "hex") (by rw [typeLookup_type, builtinLookup_eq_fast]; kernel_rfl) (by decide +kernel) (by decide +kernel) (by decide +kernel)
    (by first | exact .inl (by decide +kernel) | exact .inr (by decide +kernel)) (by rw [isSubtype_type]; kernel_rfl)
theorem type_bytes : typeOf (.builtin "bytes.hex") = pure (.type "method_descriptor") := by show builtinType _ = _; rw [builtinType_eq_fast]; kernel_rfl
theorem type_array : typeOf (.builtin "bytearray.hex") = pure (.type "method_descriptor") := by show builtinType _ = _; rw [builtinType_eq_fast]; kernel_rfl
theorem entry_bytes : entryFor table "bytes.hex" = some Builtin.«bytes.hex» := by first | exact entryFor_of_fast (by kernel_rfl) | exact entryFor_of_tree (by kernel_rfl)
theorem entry_array : entryFor table "bytearray.hex" = some Builtin.«bytearray.hex» := by first | exact entryFor_of_fast (by kernel_rfl) | exact entryFor_of_tree (by kernel_rfl)
theorem args_bytes (a : Value) : argsOk "bytes.hex" ⟨[a], []⟩ := by unfold argsOk; kernel_rfl
theorem args_array (a : Value) : argsOk "bytearray.hex" ⟨[a], []⟩ := by unfold argsOk; kernel_rfl
theorem plain_array : PlainAttrs "bytearray" :=
  ⟨⟨"bytearray.__getattribute__", by rw [typeLookup_type, builtinLookup_eq_fast]; kernel_rfl, by decide +kernel⟩, by rw [typeLookup_type, builtinLookup_eq_fast]; kernel_rfl⟩
section
variable {prog : Program} {w : World} {M : Model} {A : Around} {E : Value → Shared → Prop} {s : Shared} {b : Array UInt8} {t : Tok} {a : Addr} {n : Nat} {o : Obj}
theorem getm_bytes {pl : Sem Bool} {Q : Value × List Value → Shared → Prop} (h : Q (.builtin "bytes.hex", [.bytes b t]) s) : wpAny M A (getMethod (.bytes b t) "hex" pl) Q E s := by
  with_reducible exact getMethod_builtin (typeIs_bytes _ _ _) FB.plainAttrs_bytes slot_bytes type_bytes (fun _ e => nomatch e) h
theorem getm_array {pl : Sem Bool} {Q : Value × List Value → Shared → Prop} (ho : s.heap.get? a = some o) (hc : o.cls = .type "bytearray") (hd : o.dict = none) (h : Q (.builtin "bytearray.hex", [.ref a]) s) : wpAny M A (getMethod (.ref a) "hex" pl) Q E s :=
  getMethod_builtin ⟨o, ho, hc⟩ plain_array slot_array type_array (fun _ e => by cases e; exact ⟨o, ho, hd⟩) h
theorem call_bytes {Q : Value → Shared → Prop} (hb : b.size ≤ 64) (h : ∀ x t' k, x = wr Str.empty b.toList → Q (.str x t') { s with toks := k }) : wpAny (model prog w) A (call (.builtin "bytes.hex") [.bytes b t]) Q E s :=
  wpAny_call_entry slot_bytes (typeIs_bytes _ _ _) entry_bytes (tree_bytes hb fun x e => ⟨_, rfl, h x _ _ e⟩) (args_bytes _)
theorem call_array {Q : Value → Shared → Prop} (ho : s.heap.get? a = some o) (hc : o.cls = .type "bytearray") (hd : o.data = .bytearray b n) (hb : b.size ≤ 64) (h : ∀ x t' k, x = wr Str.empty b.toList → Q (.str x t') { s with toks := k }) :
    wpAny (model prog w) A (call (.builtin "bytearray.hex") [.ref a]) Q E s :=
  wpAny_call_entry slot_array ⟨o, ho, hc⟩ entry_array (tree_array ho hd hb fun x e => ⟨_, rfl, h x _ _ e⟩) (args_array _)
end
end HX
end Mine
end

-- part: Gen22
section
open PySem PySem.W PyProof.Rows PySem.Spec PySem.Calls
namespace Mine
section
variable {prog : Program} {w : World} {A : Around} {E : Value → Shared → Prop} {s : Shared} {env : Env} {c P : Addr} {ps : Array Value}

theorem gen_code {M : Model} {pos : Pos} {qualname : Str} {scope : Scope} {Q : Value → Shared → Prop} (hc : env.code = .ref c) (hok : s.heap.IsCode c P ps) (htab : s.heap.TableAt c P ps)
    (hQ : ∀ code h' tk ps', Heap.ExtBut P s.heap h' → s.heap.objs.size ≤ h'.objs.size → h'.IsCode c P ps' → h'.TableAt c P ps' → Q code { s with heap := h', toks := tk }) :
    wpAny M A (genexprCode env pos qualname scope) Q E s := by
  cases hnf : codeAmong pos ps.toList with
  | none => exact wpAny_genexprCodeX hc hok htab hnf fun c' h' tk hx hge hlt hcode _ ht _ => hQ _ _ _ _ hx (by omega) hcode ht
  | some c' => exact wpAny_genexprCode_hit hc hok hnf (hQ c' s.heap s.toks ps (Heap.ExtBut.refl _ _) (Nat.le_refl _) hok htab)

theorem passing_all (n : Nat) : passing (fun _ => true) n 0 = List.range n := by
  unfold passing
  rw [List.drop_zero, List.filter_eq_self]
  intros; rfl

/-- a generator that will give n texts, and writes from I on only -/
def GenJ (prog : Program) (w : World) (A : Around) (a I : Addr) (n : Nat) (tx : Nat → Str) (s : Shared) : Prop :=
  ∃ fp wr g St, WalksS prog w A.in4 a fp wr (GenOnlyQ g) (passing (fun _ => true) n 0).length (fun j y => ∃ i, (passing (fun _ => true) n 0)[j]? = some i ∧ ∃ u, y = .str (tx i) u) St ∧ St 0 s ∧ (∀ i s', St i s' → s'.TypeIs (.ref a) "generator") ∧ a ∈ fp ∧
    (∀ b ∈ fp, b < s.heap.objs.size) ∧ ∀ b ∈ wr, I ≤ b

/-- what is asked of the iterator, and what follows of the generator -/
def GenFin (prog : Program) (w : World) (A : Around) (env : Env) (c P : Addr) (elt : Expr) (x : Str) (scope : Scope) (cl : List (Str × Addr)) (Q : Value → Shared → Prop) (it : Value) (s₂ : Shared) : Prop :=
  ∃ I n Pi St ps tx mg bm ob, it = .ref I ∧ (∀ A' : Around, A'.handled = none → Walks prog w A' I [I] [I] n Pi St) ∧ St 0 s₂.heap ∧ I < s₂.heap.objs.size ∧ I ≠ P ∧ s₂.heap.IsCode c P ps ∧ s₂.heap.TableAt c P ps ∧
    BMod s₂.heap env.globals mg bm ob ∧ s₂.heap.NoLimit ∧ cStatics ≠ I ∧ cStatics ≠ P ∧ AllBare s₂.gens ∧
    (∀ (C : Addr) (code : Value) (A' : Around) E' i v (s₃ : Shared) m₃, A'.handled = none → Pi i v → s₃.heap.Ns C m₃ → m₃ x = some v → (∀ b o, b ≠ P → b ≠ I → s₂.heap.get? b = some o → s₃.heap.get? b = some o) →
      wpAny (model prog w) A' (eval elt (genEnv scope cl C code builtinsNs env)) (fun y s₄ => (∃ u, y = .str (tx i) u) ∧ Keeps s₃ s₄) E' s₃) ∧
    (∀ a s₅ ps', (∀ b o, b ≠ P → s₂.heap.get? b = some o → s₅.heap.get? b = some o) → s₅.heap.IsCode c P ps' → s₅.heap.TableAt c P ps' → AllBare s₅.gens → s₅.os = s₂.os → GenJ prog w A a I n tx s₅ → Q (.ref a) s₅)

theorem gen_rule {elt iter : Expr} {x : Str} {px : Pos} {scope : Scope} {cl : List (Str × Addr)} {pos : Pos} {Q : Value → Shared → Prop} (hcode : env.code = .ref c)
    (hh : A.handled = none) (hco : scope.isCoroutine = false) (hclos : closureFor scope env = pure cl) (hcell : ∀ y ∈ scope.names, y.2 ≠ .cell) (h0 : scope.names.lookup (".0" : Str) = some NameKind.local)
    (hx : scope.names.lookup x = some .local) (hkind : scope.kind = .function) (hroom : A.depth < recursionLimit)
    (h : wpAny (model prog w) A (eval iter env) (fun xv s₁ => wpAny (model prog w) A (pyIter xv) (GenFin prog w A env c P elt x scope cl Q) E s₁) E s)
    (hs : ∀ x, genFold iter env x = pure x) :
    wpAny (model prog w) A (eval (.GeneratorExp elt [⟨.Name x px, iter, [], 0⟩] scope pos) env) Q E s := by
  refine wpAny_GeneratorExp_walksQ hh hco hclos hcell h0 hx hkind hroom (wpAny_mono h (fun xv s₁ h₁' => wpAny_mono h₁' (fun it s₂ h₂ => ?_) fun _ _ e => e) fun _ _ e => e) hs
  obtain ⟨I, n, Pi, St, ps, tx, mg, bm, ob, rfl, W, hst, hI, hIP, hok, htab, M, hlim, hcI, hcP, hG, hel, hQ⟩ := h₂
  refine ⟨hlim, gen_code hcode hok htab fun code h₃ tk₃ ps' hx₃ hsz hok₃ htab₃ => ?_⟩
  have M₃ := M.extBut htab hx₃
  have hl₃ : h₃.NoLimit := hlim.extBut hx₃ hcP
  refine wpAny_builtinsFor M₃.ns M₃.name M₃.ne M₃.obj M₃.cls M₃.dict M₃.data ?_
  refine ⟨I, [I], [I], n, Pi, St, (fun _ => true), (fun i y => ∃ u, y = .str (tx i) u), rfl, W, ?_, ?_, hl₃, ?_, ?_, ?_⟩
  · exact (W A hh).frame _ _ _ hst fun b hb o e => hx₃ b o (fun e' => hIP (by rw [← e', List.mem_singleton.mp hb])) e
  · intro b hb
    rw [List.mem_singleton.mp hb]
    exact Nat.lt_of_lt_of_le hI hsz
  · intro hb; exact hcI (List.mem_singleton.mp hb)
  · intro href hk
    refine ⟨fun A' E' i v s₂' m₂ hA hP hn hm hkp => ?_, fun A' E' i v s₂' m₂ hA hP _ hn hm hkp => ?_⟩
    · exact wpAny_pure ⟨rfl, _, _, rfl, fun _ _ e => e⟩
    · refine hel _ code A' E' i v s₂' m₂ hA hP hn hm fun b o hb hbI e => ?_
      have e3 := hx₃ b o hb e
      exact hkp b (List.mem_range.mpr (Heap.lt_size e3)) (fun hm => hbI (List.mem_singleton.mp hm)) o (hk b o e3)
  · intro a h₅ tk gs hgb hag hsz₅ hk₅ W' hat
    refine hQ a _ ps' (fun b o hb e => hk₅ b o (hx₃ b o hb e)) (hok₃.keeps hk₅) (htab₃.keeps hk₅) (hG.push hgb) rfl ⟨_, _, _, _, W', hat, (fun i s' st => st.1.typeIs), List.mem_cons_self, ?_, ?_⟩
    · intro b hb
      show b < h₅.objs.size
      rw [hsz₅]
      rcases List.mem_cons.mp hb with rfl | hb
      · exact Nat.lt_succ_self _
      · rcases List.mem_cons.mp hb with rfl | hb
        · exact Nat.lt_succ_of_lt hag
        · exact Nat.lt_succ_of_lt (Nat.lt_trans (List.mem_range.mp hb) hag)
    · intro b hb
      rcases List.mem_cons.mp hb with rfl | hb
      · exact Nat.le_of_lt (Nat.lt_of_lt_of_le hI hsz)
      · rw [List.mem_singleton.mp hb]; exact Nat.le_refl _

theorem join_rule {sep : Str} {t : Tok} {a I : Addr} {n : Nat} {tx : Nat → Str} {Q : Value → Shared → Prop} (G : AllBare s.gens) (X : GenJ prog w A a I n tx s) (hn : n ≤ sizeLine) (hok : JoinOk sep ((List.range n).map tx) = true)
    (hQ : ∀ s' t', (∀ b o, b < I → s.heap.get? b = some o → s'.heap.get? b = some o) → AllBare s'.gens → s'.os = s.os → Q (.str (Txt.join sep ((List.range n).map tx)) t') s') :
    wpAny (model prog w) A (call (.builtin "str.join") [.str sep t, .ref a]) Q E s := by
  obtain ⟨fp, wr, g, St, W, hst, hT, ha, hfp, hwr⟩ := X
  rw [passing_all] at W
  have W := W.in4_2
  refine SC.joinGen W hT hst hfp ha (fun j v hv => let ⟨i, _, u, e⟩ := hv; ⟨_, u, e⟩) (fun s' lt hm hacc => ?_) (by simpa using hn)
  have hl : lt.map (·.1) = (List.range n).map tx := by
    apply List.ext_getElem?
    intro j
    have hsz : lt.length = n := by simpa [strValues] using hacc.1
    by_cases hj : j < n
    · have hj' : j < lt.length := hsz ▸ hj
      obtain ⟨i, hi, u, hv⟩ := hacc.2 j (.str lt[j].1 lt[j].2) (by simp [strValues, List.getElem?_eq_getElem hj'])
      injection hv with h1 _
      have e : i = j := by
        rw [List.getElem?_range hj] at hi
        exact (Option.some.inj hi).symm
      subst e
      simp [List.getElem?_eq_getElem hj', hj, h1]
    · rw [List.getElem?_eq_none (by simpa [hsz] using Nat.le_of_not_lt hj), List.getElem?_eq_none (by simpa using Nat.le_of_not_lt hj)]
  rw [hl]
  have g1 := G.movedS hm
  have o1 := hm.os
  have k1 : ∀ b o, b < I → s.heap.get? b = some o → s'.heap.get? b = some o := fun b o hb e => hm.heap b o (fun hmem => Nat.lt_irrefl _ (Nat.lt_of_lt_of_le hb (hwr b hmem))) e
  exact ⟨hok, fun t' k => hQ { s' with toks := k } t' k1 g1 o1⟩
end
end Mine
end

-- part: Elt22
section
open PySem PySem.W PyProof.Rows PySem.Spec PySem.Calls
namespace Mine
/-- the k-th pair of signs -/
def pair2 (x : Str) (k : Nat) : Str := ⟨((x.cps.toList.drop (2 * k)).take 2).toArray⟩
section
variable {prog : Program} {w : World} {A : Around} {E : Value → Shared → Prop} {s : Shared} {cenv : Env} {m : Str → Option Value}
theorem elt_22 {x : Str} {t u : Tok} {cc : Addr} {k : Nat} {n : Int} {p1 p2 p3 p4 p5 p6 p7 : Pos} (hk : cenv.scope.kind = .function) (hf : cenv.kindOf "hex_str" = some .free) (hc : cenv.cells.lookup ("hex_str" : Str) = some cc)
    (hcell : s.heap.IsCell cc (some (.str x t))) (hi : cenv.kindOf "i" = some .local) (hn : s.heap.Ns cenv.locals m) (hm : m ("i" : Str) = some (.int n u)) (en : n = ((2 * k : Nat) : Int)) (hlt : 2 * k + 2 ≤ x.length) :
    wpAny (model prog w) A (eval (.Subscript (.Name "hex_str" p1) (.Slice (some (.Name "i" p2)) (some (.BinOp (.Name "i" p3) .Add (.Constant (.int 2) 0 p4) p5)) none p6) p7) cenv)
      (fun y s₄ => (∃ u, y = .str (pair2 x k) u) ∧ Keeps s s₄) E s := by
  subst en
  refine wpAny_Subscript_str_slice (wpAny_Name (wpAny_loadName_free hk hf hc hcell ?_))
  refine wpAny_Name (wpAny_loadName_local hk hi hn hm ?_)
  refine wpAny_BinOp (wpAny_Name (wpAny_loadName_local hk hi hn hm ?_))
  refine wpAny_Constant_int (wpAny_add_int ?_)
  refine ⟨x, t, some (((2 * k : Nat) : Int), u), some (((2 * k : Nat) : Int) + 2, _), rfl, rfl, rfl, ?_⟩
  have e2 : ((2 * k : Nat) : Int) + 2 = ((2 * k + 2 : Nat) : Int) := by omega
  have hp : (slicePicked x (some (((2 * k : Nat) : Int), u)) (some (((2 * k : Nat) : Int) + 2, s.toks + 1)) none).filterMap (x.cps[·]?) = (pair2 x k).cps.toList := by
    show (Builtin.Str.strSliceIndices (some ((2 * k : Nat) : Int)) (some (((2 * k : Nat) : Int) + 2)) 1 x.length).filterMap (x.cps[·]?) = _
    rw [e2, StrLaws.sliced_plain x (by omega) hlt]
    show (x.cps.toList.drop (2 * k)).take (2 * k + 2 - 2 * k) = _
    rw [show 2 * k + 2 - 2 * k = 2 by omega]
    simp [pair2]
  have hl : (slicePicked x (some (((2 * k : Nat) : Int), u)) (some (((2 * k : Nat) : Int) + 2, s.toks + 1)) none).length = 2 := by
    show (Builtin.Str.strSliceIndices (some ((2 * k : Nat) : Int)) (some (((2 * k : Nat) : Int) + 2)) 1 x.length).length = 2
    rw [e2, StrLaws.strSliceIndices_plain (by omega) hlt, List.length_map, List.length_range]
    omega
  unfold sliceMade
  split
  · rename_i h
    have hx : x.length = 2 := by
      simp only [Bool.and_eq_true, beq_iff_eq] at h
      rw [← h.2]; exact hl
    have hxx : x = pair2 x k := by
      have hk0 : k = 0 := by omega
      subst hk0
      apply str_ext
      simp only [pair2, Nat.mul_zero, List.drop_zero]
      rw [List.take_of_length_le]
      have : x.cps.size = 2 := hx
      simp [this]
    exact ⟨⟨t, by rw [← hxx]⟩, _, _, rfl, fun b o e => Heap.get?_push_of_some _ e⟩
  · rw [hp]
    refine ⟨?_, ⟨_, rfl⟩, _, _, rfl, fun b o e => Heap.get?_push_of_some _ e⟩
    have h2 : (pair2 x k).cps.size ≤ 2 := by
      simp only [pair2, List.size_toArray, List.length_take]
      omega
    show (pair2 x k).cps.size ≤ sizeLine
    rw [sizeLine_eq]; omega
end
end Mine
end

-- part: K22
section
open PySem PySem.W PyProof.Rows PySem.Spec PySem.Calls
namespace Mine
section
variable {prog : Program} {w : World} {A : Around} {E : Value → Shared → Prop} {s : Shared} {env : Env} {c P : Addr} {ps : Array Value} {h₀ : Heap} {L : Addr} {m mg mb : Str → Option Value} {news : Led} {gg : Obj → Led} {p : Program} {loose : List Str} {mean : ExcName → Option Value}

theorem rangeSize_two (n : Nat) : Builtin.Range.rangeSize 0 ((2 * n : Nat) : Int) 2 = (n : Int) := by
  unfold Builtin.Range.rangeSize
  rw [if_pos (by decide)]
  split <;> omega

theorem walks_bound {I : Addr} {fp wr : List Addr} {n : Nat} {Pi : Nat → Value → Prop} {St : Nat → Heap → Prop} (W : Walks prog w A I fp wr n Pi St) : Walks prog w A I fp wr n (fun i v => i < n ∧ Pi i v) St where
  sub := W.sub
  frame := W.frame
  item := fun i s Q E hi st hQ => W.item i s Q E hi st fun v h' tk hP => hQ v h' tk ⟨hi, hP⟩
  done := W.done
  self := W.self

theorem led_upd {h h' : Heap} {o o' : Obj} (U : UpdF P o news gg) (N : News h₀ L h news) (hk : ∀ b x, b ≠ P → b < I → h.get? b = some x → h'.get? b = some x) (hlt : ∀ p ∈ news, p.1 < I) (hP : h'.get? P = some o') : News h₀ L h' (gg o') ∧ ∀ p ∈ gg o', p.1 < I := by
  obtain ⟨own, rest, rfl, hgr, h1, h2⟩ := U.split
  have hm := N (P, o) (List.mem_append_right _ (.head _))
  rw [hgr]
  constructor
  · intro q hq
    rcases List.mem_append.mp hq with hq | hq
    · have n := N q (List.mem_append_left _ hq)
      exact ⟨hk _ _ (h1 q hq) (hlt q (List.mem_append_left _ hq)) n.1, n.2⟩
    · rcases List.mem_cons.mp hq with rfl | hq
      · exact ⟨hP, hm.2⟩
      · have n := N q (List.mem_append_right _ (.tail _ hq))
        exact ⟨hk _ _ (h2 q hq) (hlt q (List.mem_append_right _ (.tail _ hq))) n.1, n.2⟩
  · intro q hq
    rcases List.mem_append.mp hq with hq | hq
    · exact hlt q (List.mem_append_left _ hq)
    · rcases List.mem_cons.mp hq with rfl | hq
      · exact hlt (P, o) (List.mem_append_right _ (.head _))
      · exact hlt q (List.mem_append_right _ (.tail _ hq))

theorem gen_src {r : Addr} {b : Int} {t u v t' : Tok} {n : Nat} {x : Str} {cc : Addr} {oc : Obj} {scope : Scope} {cl : List (Str × Addr)} {p1 p2 p3 p4 p5 p6 p7 : Pos} {Q : Value → Shared → Prop}
    (hh : A.handled = none) (F : Fr h₀ L s.heap m) (N : News h₀ L s.heap news) (T : Top p loose mean mg mb h₀) (C : CodeHd h₀ c P) (U : UpdF P (tabObj ps) news gg) (ht : TriplesOk ps.toList) (G : AllBare s.gens)
    (hr : IsRange s.heap r 0 b 2 t u v) (hb : b = ((2 * n : Nat) : Int)) (hn : n ≤ 1000) (hge : env.globals = mainGlobals) (hx : x.length = 2 * n)
    (hk : scope.kind = .function) (hf : ∀ C code, (genEnv scope cl C code builtinsNs env).kindOf "hex_str" = some .free) (hi : ∀ C code, (genEnv scope cl C code builtinsNs env).kindOf "i" = some .local)
    (hc : cl.lookup ("hex_str" : Str) = some cc) (hcm : (cc, oc) ∈ news) (hcd : oc.data = .cell (some (.str x t')))
    (fin : ∀ a I s₅ ps', Fr h₀ L s₅.heap m → News h₀ L s₅.heap (gg (tabObj ps')) → TriplesOk ps'.toList → AllBare s₅.gens → s₅.os = s.os → GenJ prog w A a I n (pair2 x) s₅ → L < I → (∀ p ∈ gg (tabObj ps'), p.1 < I) → Q (.ref a) s₅) :
    wpAny (model prog w) A (pyIter (.ref r)) (GenFin prog w A env c P (.Subscript (.Name "hex_str" p1) (.Slice (some (.Name "i" p2)) (some (.BinOp (.Name "i" p3) .Add (.Constant (.int 2) 0 p4) p5)) none p6) p7) "i" scope cl Q) E s := by
  subst hb
  obtain ⟨own, rest, hnews, hgr, h1, h2⟩ := U.split
  have hPm : (P, tabObj ps) ∈ news := by rw [hnews]; exact List.mem_append_right _ (.head _)
  have hP := N _ hPm
  obtain ⟨mc, hst, hlim⟩ := T.nolimit
  have hcP : cStatics ≠ P := fun q => by
    obtain ⟨o, es, ep, e, _⟩ := hst
    rw [q, hP.2.2] at e; cases e
  have hcs : cStatics < h₀.objs.size := hst.lt
  have hLs : L < s.heap.objs.size := F.ns.lt
  have hcc := N _ hcm
  have hccP : cc ≠ P := fun q => by
    have e1 := hcc.1
    rw [q, hP.1] at e1
    cases e1; cases hcd
  obtain ⟨bm, ob, M⟩ := bmod_of_top T
  have e2 : (2 : Int) ^ 63 = 9223372036854775808 := by decide
  have hsmall : Builtin.Range.small 0 ((2 * n : Nat) : Int) 2 = true := by
    unfold Builtin.Range.small
    rw [rangeSize_two]
    simp [Builtin.Range.rangeFitsLong]
    omega
  have hlt : ∀ p ∈ news, p.1 < s.heap.objs.size := fun p hp => Heap.lt_size (N p hp).1
  refine wpAny_pyIter_range hr hsmall ?_
  have kp : ∀ (o : Obj) b x, s.heap.get? b = some x → (s.heap.push o).get? b = some x := fun o b x e => Heap.get?_push_of_some _ e
  refine ⟨s.heap.objs.size, n, _, _, ps, pair2 x, mg, bm, ob, rfl, (fun A' hA => walks_bound (Walks.range hA s.heap.objs.size 0 2 n)), ?_, ?_, ?_, ?_, ?_, ?_, ?_, ?_, hcP, G, ?_, ?_⟩
  · show IsRangeIter _ _ _ _ _
    rw [rangeSize_two]
    simpa using Heap.get?_push_size _ rfl
  · show _ < (s.heap.push _).objs.size
    rw [Heap.size_push]; exact Nat.lt_succ_self _
  · exact Nat.ne_of_gt (Heap.lt_size hP.1)
  · exact (C.keeps fun b o e => kp _ b o (F.keep b o e)).code (kp _ _ _ hP.1) ht
  · exact (C.keeps fun b o e => kp _ b o (F.keep b o e)).tab (kp _ _ _ hP.1)
  · rw [hge]; exact M.keeps fun b o e => kp _ b o (F.keep b o e)
  · exact ⟨mc, (hst.keeps F.keep).push _, hlim⟩
  · exact Nat.ne_of_lt (Nat.lt_of_lt_of_le hcs (Nat.le_trans F.above (Nat.le_of_lt hLs)))
  · rintro C₂ code A' E' i vv s₃ m₃ hA ⟨hin, tt, hv⟩ hns hm hkp
    refine elt_22 (n := 0 + (i : Int) * 2) (cc := cc) (t := t') (u := tt) hk (hf C₂ code) hc ⟨oc, hkp _ _ hccP (Nat.ne_of_lt (Heap.lt_size hcc.1)) (kp _ _ _ hcc.1), hcd⟩ (hi C₂ code) hns (hm.trans (by rw [hv])) (by omega) (by omega)
  · intro a s₅ ps' hk₅ hok₅ htab₅ hG₅ hos₅ hX
    have htr : TriplesOk ps'.toList := by
      obtain ⟨o', vs', file', tf', flags', tg', inF', text', tt', op', ho', _, h11, _, _, _, _, hop', hpd', htr', _⟩ := hok₅
      exact htr'
    obtain ⟨N₅, l₅⟩ := led_upd (I := s.heap.objs.size) U N (fun b o hb _ e => hk₅ b o hb (kp _ _ _ e)) hlt htab₅.2
    refine fin a s.heap.objs.size s₅ ps' ⟨F.ns.at fun o e => hk₅ _ _ (Ne.symm hP.2.1) (kp _ _ _ e), fun b o e => hk₅ b o (fun q => by rw [q, hP.2.2] at e; cases e) (kp _ _ _ (F.keep b o e)), F.above⟩ N₅ htr hG₅ hos₅ hX hLs l₅

theorem join_K {sep : Str} {t : Tok} {a I : Addr} {n : Nat} {tx : Nat → Str} {Q : Value → Shared → Prop} (F : Fr h₀ L s.heap m) (N : News h₀ L s.heap news) (G : AllBare s.gens) (X : GenJ prog w A a I n tx s) (hLI : L < I) (hNI : ∀ p ∈ news, p.1 < I)
    (hn : n ≤ sizeLine) (hok : JoinOk sep ((List.range n).map tx) = true)
    (fin : ∀ s' t', Fr h₀ L s'.heap m → News h₀ L s'.heap news → AllBare s'.gens → s'.os = s.os → Q (.str (Txt.join sep ((List.range n).map tx)) t') s') :
    wpAny (model prog w) A (call (.builtin "str.join") [.str sep t, .ref a]) Q E s :=
  join_rule G X hn hok fun s' t' hk hG hos => fin s' t' ⟨F.ns.at fun o e => hk _ _ hLI e, fun b o e => hk b o (Nat.lt_of_lt_of_le (Heap.lt_size e) (Nat.le_trans F.above (Nat.le_of_lt hLI))) (F.keep b o e), F.above⟩
    (fun p hp => ⟨hk _ _ (hNI p hp) (N p hp).1, (N p hp).2⟩) hG hos
end

/-- btox's contract: it may fill its own table of inner codes (ledger: gg), and may leave a spent generator behind -/
def CtB (k : Nat) (f : Addr) (news : Led) (gg : Obj → Led) (vs : List Value) (Ret : Value → Prop) : Prop :=
  ∀ (w : World) (mean : ExcName → Option Value) (mg mb : Str → Option Value) (dp un : Nat) (gd : Option (List Code)) (cn : Str) (cs : Scope) (a : Addr) (ccd : Value) (A₀ : Around) (base h₀ : Heap) (L : Addr) (m : Str → Option Value) (s : Shared) (ps : Array Value) (Q E : Value → Shared → Prop),
    Below A₀ base [] h₀ → Fr h₀ L s.heap m → (hd.heap_39 w.params).In h₀ → News h₀ L s.heap news → Top GP GL mean mg mb h₀ →
    CodeHd h₀ 21 17 → UpdF 17 (tabObj ps) news gg → TriplesOk ps.toList → AllBare s.gens → cs.kind = .function → dp + k < recursionLimit → un + 8 * k < cLine →
    (∀ r s' ps', Fr h₀ L s'.heap m → News h₀ L s'.heap (gg (tabObj ps')) → TriplesOk ps'.toList → AllBare s'.gens → s'.os = s.os → Ret r → Q r s') →
    wpAny (model PySem.Challenge.rw_fb5001_01.row.prog w) (ktrTop dp un gd cn cs L a ccd [] []) (call (.ref f) vs) Q E s
end Mine
end

-- part: PlainX
section
open PySem PySem.W PyProof.Rows
namespace Mine
theorem wr_empty_cps : ∀ l : List UInt8, (wr Str.empty l).cps.toList = l.flatMap fun c => (hex2 c).cps.toList
  | [] => rfl
  | [c] => by rw [wr_one]; simp
  | c :: d :: r => by
    have ih := wr_empty_cps (d :: r)
    show (hex2 c ++ Str.empty ++ wr Str.empty (d :: r)).cps.toList = _
    rw [cps_app, cps_app, ih, List.flatMap_cons]
    simp [Str.empty]
theorem flat_len : ∀ l : List UInt8, (l.flatMap fun c => (hex2 c).cps.toList).length = 2 * l.length
  | [] => rfl
  | c :: r => by
    rw [List.flatMap_cons, List.length_append, flat_len r]
    show 2 + _ = _
    rw [List.length_cons]; omega
theorem wr_empty_len (l : List UInt8) : (wr Str.empty l).length = 2 * l.length := by
  rw [← flat_len, ← wr_empty_cps, Array.length_toList]; rfl
theorem flat_pairs : ∀ (l : List UInt8) (k : Nat) (h : k < l.length), ((l.flatMap fun c => (hex2 c).cps.toList).drop (2 * k)).take 2 = (hex2 l[k]).cps.toList
  | [], _, h => absurd h (Nat.not_lt_zero _)
  | c :: r, 0, _ => by
    rw [List.flatMap_cons]
    rfl
  | c :: r, k + 1, h => by
    have ih := flat_pairs r k (by simpa using h)
    rw [List.flatMap_cons, show 2 * (k + 1) = (hex2 c).cps.toList.length + 2 * k by show _ = 2 + 2 * k; omega, List.drop_append, Nat.add_sub_cancel_left, List.drop_of_length_le (Nat.le_add_right _ _), List.nil_append]
    exact ih
theorem pairs_wr (l : List UInt8) : (List.range l.length).map (pair2 (wr Str.empty l)) = l.map hex2 := by
  apply List.ext_getElem (by simp)
  intro k h1 h2
  simp only [List.getElem_map, List.getElem_range]
  apply str_ext
  show (((wr Str.empty l).cps.toList.drop (2 * k)).take 2).toArray.toList = _
  rw [wr_empty_cps, flat_pairs l k (by simpa using h1)]
theorem join_wr (sep : Str) (l : List UInt8) : Txt.join sep ((List.range l.length).map (pair2 (wr Str.empty l))) = wr sep l := by
  rw [pairs_wr]
  exact StrLaws.glued_eq_join sep _
theorem sep_none {sep : Str} (h : sep.length = 0) : sep = Str.empty := by
  apply str_ext
  have : sep.cps.toList.length = 0 := by rw [Array.length_toList]; exact h
  rw [List.length_eq_zero_iff.mp this]; rfl
theorem joinOk_wr {sep : Str} {l : List UInt8} (hl : l.length ≤ 64) (hs : sep.length ≤ 16) : JoinOk sep ((List.range l.length).map (pair2 (wr Str.empty l))) = true := by
  rw [pairs_wr]
  refine joinOk_of_weight ?_ hs
  have : ((l.map hex2).map (·.length)).sum = 2 * l.length := by
    clear hl
    induction l with
    | nil => rfl
    | cons c r ih => rw [List.map_cons, List.map_cons, List.sum_cons, ih, hex2_len, List.length_cons]; omega
  rw [this, List.length_map]; omega
end Mine
end

-- part: T22
section
open PySem PySem.W PyProof.Rows
namespace Mine
theorem upd_cons {h₀ h : Heap} {L P : Addr} {o : Obj} {q : Addr × Obj} {news : Led} {g : Obj → Led} (N : News h₀ L h (q :: news)) (U : UpdF P o news g) (hq : q.2 ≠ o) : UpdF P o (q :: news) (fun o' => q :: g o') := by
  refine .tail (fun e => hq ?_) U
  obtain ⟨own, rest, hn, _, _, _⟩ := U.split
  have h1 := (N q (.head _)).1
  have h2 := (N (P, o) (.tail _ (by rw [hn]; exact List.mem_append_right _ (.head _)))).1
  rw [e] at h1
  exact Option.some.inj (h1.symm.trans h2)
theorem hex_len {x : Str} {b : Array UInt8} (e : x = wr Str.empty b.toList) : x.length = 2 * b.size := by
  rw [e, wr_empty_len, Array.length_toList]
local macro_rules | `(tactic| walk_at "getMethod bytes") => `(tactic| (k_here; (with_reducible refine HX.getm_bytes ?_)))
local macro_rules | `(tactic| walk_at "call builtin:bytes.hex") => `(tactic| (k_here; (with_reducible refine HX.call_bytes (by assumption) ?_); intro x' t' k' e'; have z9 := hex_len e'))
local macro_rules | `(tactic| walk_at "getMethod ref") => `(tactic| (k_here; k_dflt (refine HX.getm_array (News.get (by k_asm) (List.mem_cons_of_mem _ (by assumption))) (by assumption) (by assumption) ?_)))
local macro_rules | `(tactic| walk_at "call builtin:bytearray.hex") => `(tactic| (k_here; k_dflt (refine HX.call_array (News.get (by k_asm) (List.mem_cons_of_mem _ (by assumption))) (by assumption) (by assumption) (by assumption) ?_); intro x' t' k' e'; have z9 := hex_len e'))
local macro_rules | `(tactic| walk_at "eval GeneratorExp") => `(tactic| (k_here; k_dflt (refine gen_rule (c := 21) (P := 17) rfl rfl rfl rfl (by decide) rfl rfl rfl (by first | ktr_room | omega) ?_ (by intro _; rfl))))
theorem cell_ne {o : Obj} {v : Option Value} {ps : Array Value} (h : o.data = .cell v) : o ≠ tabObj ps := fun q => by rw [q] at h; cases h
theorem upd_self {P : Addr} {o : Obj} {news : Led} {g : Obj → Led} (U : UpdF P o news g) : g o = news := by
  obtain ⟨own, rest, rfl, h, _, _⟩ := U.split
  exact h o
theorem joinOk_b {sep x : Str} {b : Array UInt8} (e : x = wr Str.empty b.toList) (hb : b.size ≤ 64) (hs : sep.length ≤ 16) : JoinOk sep ((List.range b.size).map (pair2 x)) = true := by
  rw [e, ← Array.length_toList]
  exact joinOk_wr (by rw [Array.length_toList]; exact hb) hs
theorem join_b {sep x : Str} {b : Array UInt8} (e : x = wr Str.empty b.toList) : Txt.join sep ((List.range b.size).map (pair2 x)) = wr sep b.toList := by
  rw [e, ← Array.length_toList]
  exact join_wr sep b.toList
theorem news_tl {h₀ h : Heap} {L : Addr} {q : Addr × Obj} {news : Led} (N : News h₀ L h (q :: news)) : News h₀ L h news := fun p hp => N p (.tail _ hp)
def LtAll (gg : Obj → Led) (K : Nat) : Prop := ∀ o, ∀ p ∈ gg o, @LT.lt Nat _ p.1 K
theorem LtAll.at_ {gg : Obj → Led} {K : Nat} (x : LtAll gg K) (o : Obj) : ∀ p ∈ gg o, @LT.lt Nat _ p.1 K := x o
theorem ltAll_of {P : Addr} {o : Obj} {news : Led} {gg : Obj → Led} {K : Nat} (U : UpdF P o news gg) (h : ∀ p ∈ news, @LT.lt Nat _ p.1 K) : LtAll gg K := by
  obtain ⟨own, rest, rfl, hg, _, _⟩ := U.split
  intro o' p hp
  rw [hg] at hp
  rcases List.mem_append.mp hp with hp | hp
  · exact h p (List.mem_append_left _ hp)
  · rcases List.mem_cons.mp hp with rfl | hp
    · exact h (P, o) (List.mem_append_right _ (.head _))
    · exact h p (List.mem_append_right _ (.tail _ hp))
local macro_rules | `(tactic| walk_at "pyIter ref") => `(tactic| (k_here; k_dflt (refine' gen_src ?hh ?F ?N ?T ?C ?U ?ht ?G ?hr ?hb ?hn ?hge ?hx ?hk ?hf ?hi ?hc ?hcm ?hcd ?_); (case hh => exact rfl); (case F => k_asm); (case N => k_asm); (case T => k_asm); (case C => assumption); (case U => exact upd_cons (by k_asm) (by assumption) (cell_ne (by assumption))); (case ht => assumption); (case G => assumption); (case hr => assumption); (case hx => assumption); (case hb => omega); (case hn => omega); (case hge => exact rfl); (case hk => exact rfl); (case hf => exact fun _ _ => rfl); (case hi => exact fun _ _ => rfl); (case hc => exact rfl); (case hcm => k_mem); (case hcd => assumption); intro a5 I5 s5 ps5 F5 N5 t5 G5 o5 X5 l5 l6; (try dsimp only at N5 l6); have l7 := LtAll.at_ (by assumption) (tabObj ps5)))
local macro_rules | `(tactic| walk_at "call builtin:str.join") => `(tactic| (k_here; k_dflt (refine join_K (by assumption) (by assumption) (by assumption) (by assumption) (by assumption) (by assumption) (by rw [PySem.sizeLine_eq]; omega) (joinOk_b (by assumption) (by assumption) (by assumption)) ?_); intro s6 t6 F6 N6 G6 o6; have o7 := Eq.trans o6 (by assumption); (rw [join_b (by assumption)])))
set_option maxRecDepth 100000 in
set_option maxHeartbeats 4000000 in
theorem ct22 (news : Led) (gg : Obj → Led) (b : Array UInt8) (sep : Str) (t u : Tok) (hs : sep.length ≤ 16) (hb : b.size ≤ 64) : CtB 2 22 news gg [.bytes b t, .str sep u] (fun r => ∃ t, r = .str (wr sep b.toList) t) := by
  unfold CtB; k_fill
  intro w mean mg mb dp un gd cn cs a ccd A₀ base h₀ L m s ps Q E B F X N T C U ht G hk hd hu hret
  have fin1 : ∀ (q : Addr × Obj) (s' : Shared) ps' x t, Fr h₀ L s'.heap m → News h₀ L s'.heap (q :: gg (tabObj ps')) → TriplesOk ps'.toList → AllBare s'.gens → s'.os = s.os → x = wr sep b.toList → Q (.str x t) s' :=
    fun q s' ps' x t a1 a2 a3 a4 a5 a6 => hret _ s' ps' a1 (news_tl a2) a3 a4 a5 ⟨t, by rw [a6]⟩
  have fin0 : ∀ (q : Addr × Obj) (s' : Shared) x t, Fr h₀ L s'.heap m → News h₀ L s'.heap (q :: news) → AllBare s'.gens → s'.os = s.os → x = wr sep b.toList → Q (.str x t) s' :=
    fun q s' x t a1 a2 a4 a5 a6 => hret _ s' ps a1 (by rw [upd_self U]; exact news_tl a2) ht a4 a5 ⟨t, by rw [a6]⟩
  refine wpAny_call ?_
  k_dflt (refine' code_defC ?k1 ?k2 ?k3 ?k4 ?k5 ?kA ?kF ?kK ?k6 ?k7 ?k8 ?k9 ?kB ?kD ?_ ?c2 ?c3 ?c4; (case kA => exact rfl); (case kF => exact rfl); (case kK => assumption); (case k1 => k_asm); (case k2 => k_asm); (case k3 => k_asm); (case k4 => k_asm); (case k5 => k_asm); (case k6 => k_is); (case k7 => k_is); (case k8 => ktr_room); (case k9 => first | exact binds_K (by k_in) rfl (by k_is) rfl rfl rfl | exact BindsTo.of_eq rfl | fail "k_enter: no rule for these arguments"); (case kB => exact rfl); (case kD => decide +kernel); (case c2 => exact rfl); (case c3 => exact rfl); (case c4 => exact rfl); k_whole; intro g' L' h' tk' cells' FG' F' N' Y' B' X' T' l1; k_cells Y'; (try simp only [List.cons_append, List.nil_append] at N'); (try dsimp only); (try k_lift B'); (try k_fold))
  have kMark := kstMark
  have C2 := C.keeps FG'.keep
  have l2 : ∀ p ∈ news, p.1 < L' + 1 := fun p hp => Nat.lt_succ_of_lt (l1 p hp)
  have l3 : LtAll gg (L' + 1) := ltAll_of U l2
  k_steps
  · exact fin1 _ _ _ _ _ (by assumption) (by assumption) (by assumption) (by assumption) (by assumption) rfl
  · refine fin0 _ _ _ _ (by assumption) (by assumption) (by assumption) rfl ?_
    rw [sep_none (sep := sep) (by omega)]
    assumption
set_option maxRecDepth 100000 in
set_option maxHeartbeats 4000000 in
theorem ct22a (news : Led) (gg : Obj → Led) (b : Array UInt8) (sep : Str) (aa : Addr) (oa : Obj) (nn : Nat) (u : Tok) (hs : sep.length ≤ 16) (hmem : (aa, oa) ∈ news) (hoc : oa.cls = .type "bytearray") (hod : oa.dict = none) (hoa : oa.data = .bytearray b nn) (hb : b.size ≤ 64) : CtB 2 22 news gg [.ref aa, .str sep u] (fun r => ∃ t, r = .str (wr sep b.toList) t) := by
  unfold CtB; k_fill
  intro w mean mg mb dp un gd cn cs a ccd A₀ base h₀ L m s ps Q E B F X N T C U ht G hk hd hu hret
  have fin1 : ∀ (q : Addr × Obj) (s' : Shared) ps' x t, Fr h₀ L s'.heap m → News h₀ L s'.heap (q :: gg (tabObj ps')) → TriplesOk ps'.toList → AllBare s'.gens → s'.os = s.os → x = wr sep b.toList → Q (.str x t) s' :=
    fun q s' ps' x t a1 a2 a3 a4 a5 a6 => hret _ s' ps' a1 (news_tl a2) a3 a4 a5 ⟨t, by rw [a6]⟩
  have fin0 : ∀ (q : Addr × Obj) (s' : Shared) x t, Fr h₀ L s'.heap m → News h₀ L s'.heap (q :: news) → AllBare s'.gens → s'.os = s.os → x = wr sep b.toList → Q (.str x t) s' :=
    fun q s' x t a1 a2 a4 a5 a6 => hret _ s' ps a1 (by rw [upd_self U]; exact news_tl a2) ht a4 a5 ⟨t, by rw [a6]⟩
  refine wpAny_call ?_
  k_dflt (refine' code_defC ?k1 ?k2 ?k3 ?k4 ?k5 ?kA ?kF ?kK ?k6 ?k7 ?k8 ?k9 ?kB ?kD ?_ ?c2 ?c3 ?c4; (case kA => exact rfl); (case kF => exact rfl); (case kK => assumption); (case k1 => k_asm); (case k2 => k_asm); (case k3 => k_asm); (case k4 => k_asm); (case k5 => k_asm); (case k6 => k_is); (case k7 => k_is); (case k8 => ktr_room); (case k9 => first | exact binds_K (by k_in) rfl (by k_is) rfl rfl rfl | exact BindsTo.of_eq rfl | fail "k_enter: no rule for these arguments"); (case kB => exact rfl); (case kD => decide +kernel); (case c2 => exact rfl); (case c3 => exact rfl); (case c4 => exact rfl); k_whole; intro g' L' h' tk' cells' FG' F' N' Y' B' X' T' l1; k_cells Y'; (try simp only [List.cons_append, List.nil_append] at N'); (try dsimp only); (try k_lift B'); (try k_fold))
  have kMark := kstMark
  have C2 := C.keeps FG'.keep
  have l2 : ∀ p ∈ news, p.1 < L' + 1 := fun p hp => Nat.lt_succ_of_lt (l1 p hp)
  have l3 : LtAll gg (L' + 1) := ltAll_of U l2
  k_steps
  · exact fin1 _ _ _ _ _ (by assumption) (by assumption) (by assumption) (by assumption) (by assumption) rfl
  · refine fin0 _ _ _ _ (by assumption) (by assumption) (by assumption) rfl ?_
    rw [sep_none (sep := sep) (by omega)]
    assumption
set_option maxRecDepth 100000 in
set_option maxHeartbeats 4000000 in
theorem ct22d (news : Led) (gg : Obj → Led) (b : Array UInt8) (t : Tok) (hb : b.size ≤ 64) : CtB 2 22 news gg [.bytes b t] (fun r => ∃ t, r = .str (wr Str.empty b.toList) t) := by
  unfold CtB; k_fill
  intro w mean mg mb dp un gd cn cs a ccd A₀ base h₀ L m s ps Q E B F X N T C U ht G hk hd hu hret
  have fin1 : ∀ (q : Addr × Obj) (s' : Shared) ps' x t, Fr h₀ L s'.heap m → News h₀ L s'.heap (q :: gg (tabObj ps')) → TriplesOk ps'.toList → AllBare s'.gens → s'.os = s.os → x = wr Str.empty b.toList → Q (.str x t) s' :=
    fun q s' ps' x t a1 a2 a3 a4 a5 a6 => hret _ s' ps' a1 (news_tl a2) a3 a4 a5 ⟨t, by rw [a6]⟩
  have fin0 : ∀ (q : Addr × Obj) (s' : Shared) x t, Fr h₀ L s'.heap m → News h₀ L s'.heap (q :: news) → AllBare s'.gens → s'.os = s.os → x = wr Str.empty b.toList → Q (.str x t) s' :=
    fun q s' x t a1 a2 a4 a5 a6 => hret _ s' ps a1 (by rw [upd_self U]; exact news_tl a2) ht a4 a5 ⟨t, by rw [a6]⟩
  refine wpAny_call ?_
  k_dflt (refine' code_defC ?k1 ?k2 ?k3 ?k4 ?k5 ?kA ?kF ?kK ?k6 ?k7 ?k8 ?k9 ?kB ?kD ?_ ?c2 ?c3 ?c4; (case kA => exact rfl); (case kF => exact rfl); (case kK => assumption); (case k1 => k_asm); (case k2 => k_asm); (case k3 => k_asm); (case k4 => k_asm); (case k5 => k_asm); (case k6 => k_is); (case k7 => k_is); (case k8 => ktr_room); (case k9 => first | exact binds_K (by k_in) rfl (by k_is) rfl rfl rfl | exact BindsTo.of_eq rfl | fail "k_enter: no rule for these arguments"); (case kB => exact rfl); (case kD => decide +kernel); (case c2 => exact rfl); (case c3 => exact rfl); (case c4 => exact rfl); k_whole; intro g' L' h' tk' cells' FG' F' N' Y' B' X' T' l1; k_cells Y'; (try simp only [List.cons_append, List.nil_append] at N'); (try dsimp only); (try k_lift B'); (try k_fold))
  have kMark := kstMark
  have C2 := C.keeps FG'.keep
  have l2 : ∀ p ∈ news, p.1 < L' + 1 := fun p hp => Nat.lt_succ_of_lt (l1 p hp)
  have l3 : LtAll gg (L' + 1) := ltAll_of U l2
  k_steps
  · exact fin0 _ _ _ _ (by assumption) (by assumption) (by assumption) rfl (by assumption)
end Mine
end

-- part: BA
section
open PySem PySem.W PyProof.Rows PySem.Calls
open Sem (wp)
set_option maxRecDepth 100000
namespace Mine
namespace BA
theorem mro : mroOf (.type "bytearray") = pure [.type "bytearray", .type "object"] := by rw [mroOf_type]; kernel_rfl
theorem lookup_new : typeLookup (.type "bytearray") "__new__" = pure (some (.builtin "bytearray.__new__")) := by rw [typeLookup_type, builtinLookup_eq_fast]; kernel_rfl
theorem slot_init : Slot "bytearray" "__init__" "bytearray.__init__" :=
  .of (owner := "bytearray") (n := "__init__") (by rw [typeLookup_type, builtinLookup_eq_fast]; kernel_rfl) (by decide +kernel) (by decide +kernel) (by decide +kernel)
    (by first | exact .inl (by decide +kernel) | exact .inr (by decide +kernel)) (by rw [isSubtype_type]; kernel_rfl)
theorem sub_self : isSubtype (.type "bytearray") (.type "bytearray") = pure true := by rw [isSubtype_type]; kernel_rfl
theorem called : TypeCalled "bytearray" "bytearray.__new__" "bytearray.__init__" :=
  ⟨by decide +kernel, by decide +kernel, ⟨_, _, mro⟩, madeBy_type mro lookup_new (by decide +kernel), by decide +kernel, sub_self, slot_init⟩
theorem typeCall (a : Value) : checkTypeCall "bytearray" ⟨[a], []⟩ = pure () := by kernel_rfl
theorem newCall (a : Value) : checkBuiltinCall "bytearray.__new__" ⟨[.type "bytearray", a], []⟩ = pure () := by kernel_rfl
theorem entry_new : entryFor table "bytearray.__new__" = some Builtin.«list.__new__» := entryFor_alias (id' := "list.__new__") (by rw [fastTable_eq_tree]; kernel_rfl) (by decide +kernel) (by decide +kernel) (by rw [fastTable_eq_tree]; kernel_rfl)
theorem entry_init : entryFor table "bytearray.__init__" = some Builtin.«bytearray.__init__» := by first | exact entryFor_of_fast (by kernel_rfl) | exact entryFor_of_tree (by kernel_rfl)
theorem plain_new : plainId "bytearray.__new__" = true := by decide +kernel
theorem args_init (a b : Value) : argsOk "bytearray.__init__" ⟨[a, b], []⟩ := by unfold argsOk; kernel_rfl
theorem bind_init (v : Value) : Builtin.Bytes.bindOptional "bytearray.__init__" "bytearray" ["source", "encoding", "errors"] [v] [] = pure [some v, none, none] := by kernel_rfl
set_option maxRecDepth 1000000 in
set_option maxHeartbeats 4000000 in
theorem owner_new : ("bytearray.__new__".splitOn ".__new__").headD "" = "bytearray" := by simp +decide [String.splitOn, String.splitOnAux]
section
variable {prog : Program} {w : World} {A : Around} {E : Value → Shared → Prop} {s : Shared}
theorem code_new (a : Value) {Q₁ : Value → Shared → Prop}
    (h : Q₁ (.ref s.heap.objs.size) { s with heap := s.heap.push { cls := .type "bytearray", data := .bytearray #[] } }) :
    codeAny (model prog w) A (.call (.builtin "bytearray.__new__") ⟨[.type "bytearray", a], []⟩) (wants Q₁ E) s := by
  refine codeAny_of_tree ?_
  show wpAny _ A.in1 (do checkBuiltinCall "bytearray.__new__" ⟨[.type "bytearray", a], []⟩; again (.builtin "bytearray.__new__" ⟨[.type "bytearray", a], []⟩)) _ _ s
  refine wpAny_bind (wpAny_of_eq (newCall a) (wpAny_pure ⟨plainId_quiet plain_new _, codeAny_builtin_stack entry_new rfl fun p st => ?_⟩))
  rw [Around.under_plainId plain_new _]
  have hsub := sub_self
  have hown := owner_new
  obtain ⟨hp, g, d, tk, os⟩ := s
  simp only [hown]
  wp_walk
  exact h
end
end BA
end Mine
end

-- part: BA2
section
open PySem PySem.W PyProof.Rows PySem.Calls
open Sem (wp)
set_option maxRecDepth 100000
namespace Mine
namespace BA
open Builtin
theorem look_rel : typeLookup (.type "bytearray") "__release_buffer__" = pure (some (.builtin "bytearray.__release_buffer__")) := by rw [typeLookup_type, builtinLookup_eq_fast]; kernel_rfl
theorem noIndex : typeLookup (.type "bytes") "__index__" = pure none := by rw [typeLookup_type, builtinLookup_eq_fast]; kernel_rfl
section
variable {prog : Program} {w : World} {M : Model} {A : Around} {E : Value → Shared → Prop} {s : Shared}
theorem own_rel {S : Addr} {Q : Bool → Shared → Prop} (hT : s.TypeIs (.ref S) "bytearray") (h : Q false s) : wpAny M A (Bytes.ownRelease (.ref S)) Q E s := by
  unfold Bytes.ownRelease
  refine wpAny_bind ?_
  unfold Bytes.slotIsOwn
  refine wpAny_bind (wpAny_specialOf hT look_rel ?_)
  dsimp only
  refine bm_if_false (by decide +kernel) ?_
  have key : ∀ x : String, x = "bytearray" → wpAny M A (isInstance (.ref S) (.type x)) (fun a s' => wpAny M A (pure (!a)) Q E s') E s := fun x hx => by
    subst hx
    exact wpAny_isInstance hT sub_self (wpAny_pure h)
  exact key _ (by decide +kernel)
theorem write_ {S : Addr} {o : Array UInt8} {n : Nat} {f : Array UInt8 → Array UInt8} {Q : Unit → Shared → Prop} (ho : s.heap.get? S = some { cls := .type "bytearray", data := .bytearray o n }) (hz : (f o).size ≤ sizeLine)
    (h : ∀ h', (∀ a x, a ≠ S → s.heap.get? a = some x → h'.get? a = some x) → h'.get? S = some { cls := .type "bytearray", data := .bytearray (f o) n } → Q () { s with heap := h' }) : wpAny M A (Bytes.write (.ref S) f) Q E s := by
  unfold Bytes.write
  show wpAny _ _ (updateBytearray S f) _ _ _
  unfold updateBytearray
  refine wpAny_bind (wpAny_load ho ?_)
  show wpAny _ _ (update S (Obj.mapBytearray f) >>= fun _ => lookBehind S) _ _ _
  refine wpAny_bind (wpAny_update ho ?_)
  have h2 : (s.heap.update S (Obj.mapBytearray f)).get? S = some { cls := .type "bytearray", data := .bytearray (f o) n } := Heap.get?_update_self (Obj.mapBytearray f) ho rfl
  refine wpAny_lookBehind h2 ?_ (h _ (fun a x ha e => (Heap.get?_update_other _ _ (Ne.symm ha)).trans e) h2)
  show (if (f o).size > sizeLine then some "bytearray:memory" else none) = none
  rw [if_neg (Nat.not_lt.mpr hz)]
/-- bytearray's own __init__ with octets -/
theorem tree_init {S : Addr} {b : Array UInt8} {t : Tok} {P : Fin → Shared → Prop} (ho : s.heap.get? S = some { cls := .type "bytearray", data := .bytearray #[] }) (hz : b.size ≤ sizeLine)
    (h : ∀ h', (∀ a x, a ≠ S → s.heap.get? a = some x → h'.get? a = some x) → h'.get? S = some { cls := .type "bytearray", data := .bytearray b } → P (.done (.ret .none)) { s with heap := h' }) :
    wpN M A (Builtin.«bytearray.__init__» ⟨[.ref S, .bytes b t], []⟩) P E s := by
  have hT : s.TypeIs (.ref S) "bytearray" := ⟨_, ho, rfl⟩
  unfold Builtin.«bytearray.__init__»
  refine N.bindA (own_rel hT ?_)
  refine N.if_false rfl ?_
  refine N.bindA (wpAny_of_eq (bind_init _) ?_)
  dsimp only
  refine N.bindA (wpAny_of_eq (a := ()) rfl ?_)
  refine N.bindA (wpAny_of_eq (a := ()) rfl ?_)
  refine N.bind ?_
  refine N.bind (N.exported ?_)
  show wpN M A (Bytes.exportsOf (.ref S) >>= fun x => pure (decide (x > 0))) _ E s
  refine N.bindA ?_
  unfold Bytes.exportsOf
  refine wpAny_bind (wpAny_load ho (wpAny_pure ?_))
  refine N.pure ?_
  refine N.if_false (by decide) ?_
  refine N.bindA (write_ ho (Nat.zero_le _) fun h₁ hk₁ ho₁ => ?_)
  refine N.bindA (wpAny_of_eq (a := none) rfl ?_)
  with_reducible apply N.if_false
  · rfl
  refine N.bindA (wpAny_of_eq (a := ()) rfl ?_)
  refine N.bindA (wpAny_specialOf (T := "bytes") (v := .bytes b t) rfl noIndex ?_)
  with_reducible apply N.if_false
  · rfl
  refine N.bindA (wpAny_of_eq KBy.buffer_eq ?_)
  dsimp only
  refine N.bindA (wpAny_rule ?_)
  refine N.bindA (write_ ho₁ hz fun h₂ hk₂ ho₂ => ?_)
  refine N.of_any (wpAny_pure ?_)
  exact h h₂ (fun a x ha e => hk₂ a x ha (hk₁ a x ha e)) ho₂
end
end BA
end Mine
end

-- part: BA3
section
open PySem PySem.W PyProof.Rows PySem.Calls
open Sem (wp)
set_option maxRecDepth 100000
namespace Mine
namespace BA
open Builtin
section
variable {prog : Program} {w : World} {A : Around} {E : Value → Shared → Prop} {s : Shared}
theorem N_builtin {id : String} {args : Args} {B : Builtin} {R : Result → Shared → Prop} (hq : quietC (.builtin id args) = true) (hb : entryFor table id = some B)
    (h : wpN (model prog w) (A.under (.builtin id args)) (B args) (fun fin s' => match fin with | .done f => R (.ok f) s' | .again c' => c'.quiet = true ∧ codeN (model prog w) A c' R s') (fun e s' => R (.error e) s') s) :
    codeN (model prog w) A (.builtin id args) R s := by
  refine N.of_tree hq ?_
  show wpN _ _ (match entryFor table id with | some b => b args | none => unsupported ((withoutEnding? id "#data").getD id)) _ _ s
  rw [hb]; exact h
theorem quiet_tc (args : Args) : quietC (.builtin "type.__call__" args) = true := by
  simp only [quietC]
  decide +kernel
theorem quiet_init (args : Args) : quietC (.builtin "bytearray.__init__" args) = true := by
  simp only [quietC]
  decide +kernel
theorem N_call_builtin {id : String} {args : Args} {B : Builtin} {R : Result → Shared → Prop} (hq : plainId id = true) (hc : quietC (.builtin id args) = true) (hb : entryFor table id = some B)
    (h : wpAny (model prog w) A.in1 (checkBuiltinCall id args) (fun _ s₁ => wpN (model prog w) A.in1 (B args)
      (fun fin s' => match fin with | .done f => R (.ok f) s' | .again c' => c'.quiet = true ∧ codeN (model prog w) A c' R s') (fun e s' => R (.error e) s') s₁)
      (fun e s' => R (.error e) s') s) : codeN (model prog w) A (.call (.builtin id) args) R s := by
  refine N.of_tree rfl ?_
  show wpN _ A.in1 (do checkBuiltinCall id args; again (.builtin id args)) _ _ s
  refine N.bindA (wpAny_mono h (fun _ s₁ h₁ => N.pure (And.intro (plainId_quiet hq args) (N_builtin hc hb ?_))) fun _ _ h' => h')
  rw [Around.under_plainId hq args]; exact h₁
set_option maxHeartbeats 1000000 in
theorem call_N {b : Array UInt8} {t : Tok} {Q : Value → Shared → Prop} (hz : b.size ≤ sizeLine)
    (h : ∀ h', (∀ a x, s.heap.get? a = some x → h'.get? a = some x) → h'.get? s.heap.objs.size = some { cls := .type "bytearray", data := .bytearray b } → Q (.ref s.heap.objs.size) { s with heap := h' }) :
    wpN (model prog w) A (call (.type "bytearray") [.bytes b t]) Q E s := by
  obtain ⟨c, tl, hmro⟩ := called.mro
  have hmade := called.made
  have hsub := called.sub
  have h1 := called.notType
  have h2 := called.canCreate
  have hct := typeCall (.bytes b t)
  refine N.runValue (N.of_tree rfl ?_)
  show wpN _ _ (callAny (.type "bytearray") _) _ _ _
  refine N.pure ⟨Code.quiet_builtin _ (by decide +kernel), N_builtin (quiet_tc _) F.entry_type_call ?_⟩
  rw [Around.under_plain (weight_type_call_type "bytearray" _ []) rfl]
  unfold Builtin.«type.__call__»
  dsimp only
  with_reducible apply N.if_false
  · exact h1
  with_reducible apply N.if_false
  · exact h2
  refine N.bindA (wpAny_of_eq hct ?_)
  refine N.bindA (wpAny_of_eq hmro ?_)
  with_reducible apply N.if_false
  · rfl
  refine N.bindA (wpAny_of_eq hmade ?_)
  dsimp only
  refine N.bindA (wpAny_pure ?_)
  refine N.bindA (wpAny_holding (wpAny_call (code_new _ ?_)))
  have ho : (s.heap.push { cls := .type "bytearray", data := .bytearray #[] }).get? s.heap.objs.size = some { cls := .type "bytearray", data := .bytearray #[] } := Heap.get?_push_size _ rfl
  have hT : ({ s with heap := s.heap.push { cls := .type "bytearray", data := .bytearray #[] } } : Shared).TypeIs (.ref s.heap.objs.size) "bytearray" := ⟨_, ho, rfl⟩
  refine N.bindA (wpAny_isInstance hT hsub ?_)
  with_reducible apply N.if_false
  · rfl
  refine N.bind (N.holding ?_)
  unfold callSpecial?
  refine N.bindA (wpAny_specialOf hT slot_init.lookup ?_)
  dsimp only
  refine N.holding ?_
  refine N.bindA (wpAny_of_eq (slot_init.bind _) ?_)
  dsimp only
  refine N.bind ?_
  refine N.runValue (N_call_builtin slot_init.plain (quiet_init _) entry_init (slot_init.check _ _ _ _ _ _ _ _ hT (args_init _ _) ?_))
  refine tree_init ho hz fun h' hk ho' => ?_
  refine N.pure ?_
  dsimp only
  with_reducible apply N.if_false
  · rfl
  refine N.pure ?_
  exact h h' (fun a x e => hk a x (Nat.ne_of_lt (Heap.lt_size e)) (Heap.get?_push_of_some _ e)) ho'
end
end BA
end Mine
end

-- part: W2
section
open PySem PySem.W PyProof.Rows PySem.Calls
namespace Mine
/-- the heap's written part, and btox's table of inner codes -/
noncomputable def heapT (P : Params) : Frag := (17, tabObj #[]) :: hd.heap_39 P
def codeHdIn (K : Frag) (c P : Addr) : Bool := match K.lookup c with
  | some ⟨.type t, _, .fields vs, _⟩ => t == "code" && decide ((vs[11]? : Option Value) = some (.ref P)) && decide (c ≠ P) && (match vs.getD 18 .none, vs.getD 7 .none, vs.getD 9 .none, vs.getD 10 .none with
    | .str _ _, .int _ _, .bool _, .int _ _ => true
    | _, _, _, _ => false)
  | _ => false
theorem codeHd_of {K : Frag} {h : Heap} {c P : Addr} (X : K.In h) (e : codeHdIn K c P = true) : CodeHd h c P := by
  unfold codeHdIn at e
  split at e
  · rename_i t od vs sl hl
    simp only [Bool.and_eq_true, beq_iff_eq, decide_eq_true_eq] at e
    obtain ⟨⟨⟨e1, e2⟩, e3⟩, e4⟩ := e
    split at e4
    · rename_i a1 a2 a3 a4 a5 a6 a7 b1 b2 b3 b4
      exact ⟨_, vs, _, _, _, _, _, _, _, X _ _ hl, by rw [e1], rfl, e2, by rw [Array.getD_eq_getD_getElem?, e2]; rfl, b1, b2, b3, b4, e3⟩
    · cases e4
  · cases e
theorem heapT_rest {p : Params} {h : Heap} (X : (heapT p).In h) (e : (hd.heap_39 p).lookup 17 = none) : (hd.heap_39 p).In h := fun a o ha => X a o (by
  unfold heapT
  rw [List.lookup_cons]
  split
  · rename_i q
    rw [beq_iff_eq.mp q, e] at ha; cases ha
  · exact ha)
theorem tabs_of {p : Params} {h : Heap} (X : (heapT p).In h) : TabsAt [(21, 17)] h :=
  List.forall_mem_cons.mpr ⟨⟨codeHd_of (heapT_rest X (by kernel_rfl)) (by kernel_rfl), X 17 _ (by rfl)⟩, fun _ h => nomatch h⟩
end Mine
end

-- part: L1
section
open PySem PySem.W PyProof.Rows PySem.Calls
namespace Mine
namespace N
theorem code_K {prog : Program} {w : World} {A : Around} {K : Frag} {R : Result → Shared → Prop} {s : Shared} {name qual : Str} {params : Arguments} {body : List Stmt} {scope : Scope} {dV kV doc pm cdv ct oc : Value} {an od : Option Addr} {osl : Array (Option Value)} {f : Addr} {args : Args} {binds : List (Str × Value)}
    (X₀ : K.In s.heap) (hlim : s.heap.NoLimit) (ho : K.lookup f = some ⟨oc, od, .func (fnOf name qual params body scope dV kV doc pm an cdv ct), osl⟩) (hcd : codeIn K cdv qual = true) (hroom : A.depth < recursionLimit)
    (hbind : BindsTo s (fnOf name qual params body scope dV kV doc pm an cdv ct) args binds) (hloc : ∀ y ∈ binds, scope.names.lookup y.1 = some .local)
    (h : ∀ h₁, Fr s.heap s.heap.objs.size h₁ (fun x => binds.reverse.lookup x) →
      wpN (model prog w) (A.deeper (envX qual scope s.heap.objs.size f cdv [])) (execs body (envX qual scope s.heap.objs.size f cdv []))
        (fun fl s' => R (.ok (.ret (match fl with | .ret v => v | _ => .none))) s')
        (fun e s' => wpAny (model prog w) (A.deeper (envX qual scope s.heap.objs.size f cdv [])) (leaving (envX qual scope s.heap.objs.size f cdv []) e) (fun _ s'' => R (.error e) s'') (fun e' s'' => R (.error e') s'') s')
        { s with heap := h₁, toks := s.toks + binds.length })
    (hco : scope.isCoroutine = false) (hgen : scope.isGenerator = false) (hk : scope.kind = .function) (hcell : ∀ x ∈ scope.names, x.2 ≠ .cell) : codeN (model prog w) A (.call (.ref f) args) R s := by
  refine N.call_function (fd := fnOf name qual params body scope dV kV doc pm an cdv ct) (body := body) hroom (X₀ _ _ ho) rfl hco hgen rfl (codeRec_of X₀ hcd) (hbind _ _ _ _ ?_)
  refine wpAny_newFunctionEnv hcell hloc (fun h₀ hns₀ hsb₀ => ⟨hlim.fresh _ hsb₀, N.func_ (h h₀ ⟨hns₀, fun b o e => ?_, Nat.le_refl _⟩)⟩) hk
  exact hsb₀.extBut b o (Nat.ne_of_lt (Heap.lt_size e)) (Heap.get?_push_of_some _ e)
end N
def Fine (s₁ : Shared) (res : Result) (s' : Shared) : Prop :=
  res = .ok (.ret (.bool true)) ∧ (∀ b o, (ghostOf s₁.heap [(21, 17)]).get? b = some o → s'.heap.get? b = some o) ∧ GrownAt 17 s'.heap ∧ s'.os = s₁.os ∧ AllBare s'.gens
def LawRuns : Prop := ∀ (w : World) (mean : ExcName → Option Value) (mg mb : Str → Option Value) (s₁ : Shared) (l : Addr) (vs : List Value) (ns : List Int),
  Top hd.view_39 LV mean mg mb s₁.heap → (hd.heap_39 w.params).In s₁.heap → TabsAt [(21, 17)] s₁.heap → s₁.gens = #[] → s₁.heap.IsList l vs.toArray → IntsAre vs ns → ns.length ≤ 63 →
  codeN (model PySem.Challenge.rw_fb5001_01.row.prog w) callerA (.call (.ref 66) ⟨[.ref l], []⟩) (Fine s₁) s₁
end Mine
end

-- part: Use22
section
open PySem PySem.W PyProof.Rows PySem.Calls
namespace Mine
theorem str_nil : Str.ofString "" = Str.empty := by decide
section
variable {w : World} {mean : ExcName → Option Value} {mg mb : Str → Option Value} {dp un : Nat} {gd : Option (List Code)} {cn : Str} {cs : Scope} {a : Addr} {ccd : Value} {A₀ : Around} {base h₀ : Heap} {L : Addr} {m : Str → Option Value} {s : Shared} {news : Led} {gg : Obj → Led} {ps : Array Value} {Q E : Value → Shared → Prop} {os : OsState}
theorem use22d {b : Array UInt8} {t : Tok} (hb : b.size ≤ 24) (B : Below A₀ base [] h₀) (F : Fr h₀ L s.heap m) (X : (hd.heap_39 w.params).In h₀) (N : News h₀ L s.heap news) (T : Top GP GL mean mg mb h₀)
    (C : CodeHd h₀ 21 17) (U : UpdF 17 (tabObj ps) news gg) (ht : TriplesOk ps.toList) (G : AllBare s.gens) (ho : s.os = os) (hk : cs.kind = .function) (hd : dp + 2 < recursionLimit) (hu : un + 8 * 2 < cLine)
    (h : ∀ t s' ps', Fr h₀ L s'.heap m → News h₀ L s'.heap (gg (tabObj ps')) → TriplesOk ps'.toList → AllBare s'.gens → s'.os = os → Q (.str (wr (Str.ofString "") b.toList) t) s') :
    wpAny (model PySem.Challenge.rw_fb5001_01.row.prog w) (ktrTop dp un gd cn cs L a ccd [] []) (call (.ref 22) [.bytes b t]) Q E s := by
  refine ct22d news gg b t (by omega) w mean mg mb dp un gd cn cs a ccd A₀ base h₀ L m s ps Q E B F X N T C U ht G hk hd hu ?_
  rintro r s' ps' F' N' ht' G' o' ⟨t', rfl⟩
  rw [← str_nil]
  exact h _ _ _ F' N' ht' G' (o'.trans ho)
theorem use22 {b : Array UInt8} {sep : Str} {t u : Tok} (hb : b.size ≤ 24) (hs : sep.length ≤ 2) (B : Below A₀ base [] h₀) (F : Fr h₀ L s.heap m) (X : (Mine.hd.heap_39 w.params).In h₀) (N : News h₀ L s.heap news) (T : Top GP GL mean mg mb h₀)
    (C : CodeHd h₀ 21 17) (U : UpdF 17 (tabObj ps) news gg) (ht : TriplesOk ps.toList) (G : AllBare s.gens) (ho : s.os = os) (hk : cs.kind = .function) (hd : dp + 2 < recursionLimit) (hu : un + 8 * 2 < cLine)
    (h : ∀ t s' ps', Fr h₀ L s'.heap m → News h₀ L s'.heap (gg (tabObj ps')) → TriplesOk ps'.toList → AllBare s'.gens → s'.os = os → Q (.str (wr sep b.toList) t) s') :
    wpAny (model PySem.Challenge.rw_fb5001_01.row.prog w) (ktrTop dp un gd cn cs L a ccd [] []) (call (.ref 22) [.bytes b t, .str sep u]) Q E s := by
  refine ct22 news gg b sep t u (by omega) (by omega) w mean mg mb dp un gd cn cs a ccd A₀ base h₀ L m s ps Q E B F X N T C U ht G hk hd hu ?_
  rintro r s' ps' F' N' ht' G' o' ⟨t', rfl⟩
  exact h _ _ _ F' N' ht' G' (o'.trans ho)
theorem use22a {b : Array UInt8} {sep : Str} {aa : Addr} {u : Tok} (hb : b.size ≤ 24) (hs : sep.length ≤ 2) (B : Below A₀ base [] h₀) (F : Fr h₀ L s.heap m) (X : (Mine.hd.heap_39 w.params).In h₀) (N : News h₀ L s.heap news) (hm : (aa, ({ cls := .type "bytearray", data := .bytearray b } : Obj)) ∈ news) (T : Top GP GL mean mg mb h₀)
    (C : CodeHd h₀ 21 17) (U : UpdF 17 (tabObj ps) news gg) (ht : TriplesOk ps.toList) (G : AllBare s.gens) (ho : s.os = os) (hk : cs.kind = .function) (hd : dp + 2 < recursionLimit) (hu : un + 8 * 2 < cLine)
    (h : ∀ t s' ps', Fr h₀ L s'.heap m → News h₀ L s'.heap (gg (tabObj ps')) → TriplesOk ps'.toList → AllBare s'.gens → s'.os = os → Q (.str (wr sep b.toList) t) s') :
    wpAny (model PySem.Challenge.rw_fb5001_01.row.prog w) (ktrTop dp un gd cn cs L a ccd [] []) (call (.ref 22) [.ref aa, .str sep u]) Q E s := by
  refine ct22a news gg b sep aa _ _ u (by omega) hm rfl rfl rfl (by omega) w mean mg mb dp un gd cn cs a ccd A₀ base h₀ L m s ps Q E B F X N T C U ht G hk hd hu ?_
  rintro r s' ps' F' N' ht' G' o' ⟨t', rfl⟩
  exact h _ _ _ F' N' ht' G' (o'.trans ho)
end
section
variable {w : World} {mean : ExcName → Option Value} {mg mb : Str → Option Value} {dp un : Nat} {gd : Option (List Code)} {cn : Str} {cs : Scope} {a : Addr} {ccd : Value} {A₀ : Around} {base h₀ : Heap} {L : Addr} {m : Str → Option Value} {s : Shared} {news : Led} {Q E : Value → Shared → Prop}
theorem use42 {b : Array UInt8} {sep : Str} {t u : Tok} (hb : b.size ≤ 24) (hs : sep.length ≤ 2) (B : Below A₀ base [] h₀) (F : Fr h₀ L s.heap m) (X : (hd.heap_39 w.params).In h₀) (N : News h₀ L s.heap news) (T : Top GP GL mean mg mb h₀)
    (hk : cs.kind = .function) (hd : dp + 2 < recursionLimit) (hu : un + 8 * 2 < cLine)
    (h : ∀ t h' tk', Fr h₀ L h' m → News h₀ L h' news → Q (.str (wr sep b.toList) t) { s with heap := h', toks := tk' }) :
    wpAny (model PySem.Challenge.rw_fb5001_01.row.prog w) (ktrTop dp un gd cn cs L a ccd [] []) (call (.ref 42) [.bytes b t, .str sep u]) Q E s := by
  refine ct42 news b sep t u (by omega) (by omega) w mean mg mb dp un gd cn cs a ccd [] [] A₀ base h₀ L m s Q E B F X N T hk hd hu ?_
  rintro r tl h' tk' F' N' ⟨rfl, t', rfl⟩
  exact h _ _ _ F' N'
/-- read: the digits' octets, or None -/
theorem use54 {x : Str} {t : Tok} (hx : x.length ≤ 1000) (B : Below A₀ base [] h₀) (F : Fr h₀ L s.heap m) (X : (Mine.hd.heap_39 w.params).In h₀) (N : News h₀ L s.heap news) (T : Top GP GL mean mg mb h₀)
    (hk : cs.kind = .function) (hd : dp + 4 < recursionLimit) (hu : un + 8 * 4 < cLine)
    (h1 : (readV x).length % 2 = 0 → ∀ l vs n h' tk', Fr h₀ L h' m → News h₀ L h' ((l, listOf (List.toArray vs) n) :: news) → IntsAre vs (pairI (readV x)) → Q (.ref l) { s with heap := h', toks := tk' })
    (h2 : (readV x).length % 2 = 1 → ∀ h' tk', Fr h₀ L h' m → News h₀ L h' news → Q .none { s with heap := h', toks := tk' }) :
    wpAny (model PySem.Challenge.rw_fb5001_01.row.prog w) (ktrTop dp un gd cn cs L a ccd [] []) (call (.ref 54) [.str x t]) Q E s := by
  have hr : (readI (KStt.codes x)).length ≤ 1000 := by
    have e := readV_length x
    have h3 := digits_le x
    show (readV x).length ≤ 1000
    omega
  refine ct54 news x t hr w mean mg mb dp un gd cn cs a ccd [] [] A₀ base h₀ L m s Q E B F X N T hk hd hu ?_
  rintro r tl h' tk' F' N' (⟨ho, rfl, rfl⟩ | ⟨he, l, vs, n, rfl, rfl, hi⟩)
  · exact h2 ho _ _ F' N'
  · exact h1 he _ _ _ _ _ F' N' hi
theorem use61 {x sep : Str} {t u : Tok} (hx : x.length ≤ 1000) (B : Below A₀ base [] h₀) (F : Fr h₀ L s.heap m) (X : (Mine.hd.heap_39 w.params).In h₀) (N : News h₀ L s.heap news) (T : Top GP GL mean mg mb h₀)
    (XB : (Mine.hd.heap_39 w.params).In base) (TB : Top GP GL mean mg mb base) (hk : cs.kind = .function) (hd : dp + 4 < recursionLimit) (hu : un + 8 * 4 < cLine)
    (h1 : (readV x).length % 2 = 0 → ∀ l vs n h' tk', Fr h₀ L h' m → News h₀ L h' ((l, listOf (List.toArray vs) n) :: news) → IntsAre vs (pairI (readV x)) → Q (.ref l) { s with heap := h', toks := tk' })
    (h2 : (readV x).length % 2 = 1 → ∀ h' tk', Fr h₀ L h' m → News h₀ L h' news → Q .none { s with heap := h', toks := tk' }) :
    wpAny (model PySem.Challenge.rw_fb5001_01.row.prog w) (ktrTop dp un gd cn cs L a ccd [] []) (call (.ref 61) [.str x t, .str sep u]) Q E s := by
  refine ct61 news x sep t u hx w mean mg mb dp un gd cn cs a ccd A₀ base h₀ L m s Q E B F X N T XB TB hk hd hu ?_
  rintro r tl h' tk' F' N' (⟨ho, rfl, rfl⟩ | ⟨he, l, vs, n, rfl, rfl, hi⟩)
  · exact h2 ho _ _ F' N'
  · exact h1 he _ _ _ _ _ F' N' hi
end
end Mine
end

-- part: PlainL
section
open PySem PySem.W PyProof.Rows
namespace Mine
theorem digits_app (a b : Str) : digits (a ++ b) = digits a ++ digits b := by
  unfold digits
  rw [cps_app, List.filter_append]
theorem digits_hex2 (c : UInt8) : digits (hex2 c) = [hexd (c.toNat / 16), hexd (c.toNat % 16)] := by
  have h1 := hexv_hexd (j := c.toNat / 16) (by have := UInt8.toNat_lt c; omega)
  have h2 := hexv_hexd (j := c.toNat % 16) (by omega)
  show List.filter (fun c => (hexv c).isSome) [hexd (c.toNat / 16), hexd (c.toNat % 16)] = _
  simp [List.filter, h1, h2]
theorem digits_wr {sep : Str} (hs : digits sep = []) : ∀ l : List UInt8, digits (wr sep l) = l.flatMap fun c => [hexd (c.toNat / 16), hexd (c.toNat % 16)]
  | [] => rfl
  | [c] => by rw [wr_one, digits_hex2]; rfl
  | c :: d :: r => by
    have ih := digits_wr hs (d :: r)
    show digits (hex2 c ++ sep ++ wr sep (d :: r)) = _
    rw [digits_app, digits_app, digits_hex2, hs, ih, List.append_nil]
    rfl
theorem pairs_back : ∀ l : List UInt8, pairI ((l.flatMap fun c => [hexd (c.toNat / 16), hexd (c.toNat % 16)]).map fun c => (((hexv c).getD 0 : Nat) : Int)) = l.map fun c => ((c.toNat : Nat) : Int)
  | [] => rfl
  | c :: r => by
    have h1 := hexv_hexd (j := c.toNat / 16) (by have := UInt8.toNat_lt c; omega)
    have h2 := hexv_hexd (j := c.toNat % 16) (by omega)
    have ih := pairs_back r
    rw [List.flatMap_cons, List.map_append, List.map_cons]
    show pairI ((((hexv (hexd (c.toNat / 16))).getD 0 : Nat) : Int) :: (((hexv (hexd (c.toNat % 16))).getD 0 : Nat) : Int) :: _) = _
    rw [pairI, h1, h2]
    refine (congrArg (List.cons _) ih).trans ?_
    rw [List.map_cons]
    congr 1
    simp only [Option.getD_some]
    omega
theorem even_back : ∀ l : List UInt8, (l.flatMap fun c => [hexd (c.toNat / 16), hexd (c.toNat % 16)]).length = 2 * l.length
  | [] => rfl
  | c :: r => by rw [List.flatMap_cons, List.length_append, even_back r]; simp only [List.length_cons, List.length_nil]; omega
/-- what was written is read as the same octets, if the separator holds no digits -/
theorem read_wr {sep : Str} {b : Array UInt8} (hs : digits sep = []) : pairI (readV (wr sep b.toList)) = KBw.bInts b ∧ (readV (wr sep b.toList)).length % 2 = 0 := by
  constructor
  · rw [readV_digits, digits_wr hs, pairs_back]; rfl
  · rw [readV_length, digits_wr hs, even_back]; omega
theorem digits_nil : digits (Str.ofString "") = [] := by decide
theorem wr_short {sep : Str} {b : Array UInt8} (hb : b.size ≤ 24) (hs : sep.length ≤ 2) : (wr sep b.toList).length ≤ 96 := by
  have h1 := wr_len sep b.toList
  rw [Array.length_toList] at h1
  have h3 := Nat.mul_le_mul hb (show sep.length + 2 ≤ 4 by omega)
  omega
end Mine
end

-- part: NoisyC
section
open PySem PySem.W PyProof.Rows PySem.Spec PySem.Calls
namespace Mine
open PyProof.Rows.LCg
def StrG (news : Led) (r : Str) (y : Value) (news' : Led) : Prop := news' = news ∧ ∃ t, y = .str r t
section
variable {prog : Program} {w : World} {A : Around} {s : Shared} {h₀ : Heap} {L : Addr} {m : Str → Option Value} {env : Env} {elt : Expr} {x : Str} {scope : Scope} {cl : List (Str × Addr)} {news : Led} {Fin : List Value → Led → Prop} {S : Led → Prop}
theorem strs_list {vs : List Value} {ns : List Int} (g : Int → Str) (hi : IntsAre vs ns)
    (turn : ∀ k t I oI C oC D m₂ ys h tk (E' : Value → Shared → Prop), NsObj oC m₂ → m₂ x = some (.int k t) → Fr h₀ L h m → News h₀ L h ((I, oI) :: (C, oC) :: (D, lst ys) :: news) → Off3 I C D news → ((@Ne Nat I C) ∧ (@Ne Nat I D) ∧ (@Ne Nat C D)) → S news →
      wpAny (model prog w) A (eval elt (compEnvC scope cl C env)) (CompEnd h₀ L m { s with heap := h, toks := tk } I oI C oC D (lst ys) S (fun y news' => StrG news (g k) y news')) E' { s with heap := h, toks := tk })
    (hS : S news) (fin : ∀ ys, StrsAre ys (ns.map g) → Fin ys news) : CompRest prog w A h₀ L m env elt x scope cl s S (fun i v => vs.toArray[i]? = some v) Fin vs.toArray.size 0 [] news := by
  have hlen : vs.toArray.size = ns.length := by rw [List.size_toArray]; exact hi.length
  have key : ∀ (j i : Nat) (ys : List Value), i + j = ns.length → StrsAre ys ((ns.take i).map g) → CompRest prog w A h₀ L m env elt x scope cl s S (fun i v => vs.toArray[i]? = some v) Fin j i ys news := by
    intro j
    induction j with
    | zero =>
      intro i ys hii hy
      have e : i = ns.length := by omega
      subst e
      rw [List.take_length] at hy
      exact CompRest.zero (fin ys hy)
    | succ j ih =>
      intro i ys hii hy
      refine CompRest.succ ?_
      intro v I oI C oC D m₂ h tk E' hv hC hx F N off ne
      obtain ⟨k, t, hv', hk⟩ := IntsAre.at hi i v (by simpa using hv)
      rw [hv'] at hx
      refine wpAny_mono (turn k t I oI C oC D m₂ ys h tk E' hC hx F N off ne hS) (fun y s₂ hq => ?_) fun _ _ e => e
      obtain ⟨h', tk', nw, e, F', N', off', hS', hn, t', hy'⟩ := hq
      subst hn
      refine ⟨h', tk', nw, e, F', N', off', hS', ?_⟩
      rw [hy']
      refine ih (i + 1) _ (by omega) ?_
      rw [List.take_add_one, hk, List.map_append]
      exact hy.append' (.cons _ _ .nil)
  rw [hlen]
  exact key ns.length 0 [] (by omega) (by rw [List.take_zero]; exact .nil)
theorem strEnd {I C D : Addr} {oI oC : Obj} {ys : List Value} {s : Shared} {r : Str} {t : Tok} {h' : Heap} {tk' : Nat} (F : Fr h₀ L h' m) (N : News h₀ L h' ((I, oI) :: (C, oC) :: (D, lst ys) :: news)) (off : Off3 I C D news) (hS : S news) :
    CompEnd h₀ L m s I oI C oC D (lst ys) S (fun y news' => StrG news r y news') (.str r t) { s with heap := h', toks := tk' } :=
  CompEnd.intro F N news (fun _ hp => hp) off hS ⟨rfl, t, rfl⟩
end
theorem item_le (T : Str) (k : Int) : (Txt.item T k).length ≤ 1 := by
  exact Nat.le_refl 1
theorem noisy_len (l : List Int) (g : Int → Str) (hg : ∀ k, (g k).length ≤ 1) : (Txt.join (Str.ofString "") (l.map g)).length ≤ l.length := by
  have e : Txt.join (Str.ofString "") (l.map g) = Str.join (Str.ofString "") (l.map g) := StrLaws.glued_eq_join _ _
  rw [e]
  have h1 := StrLaws.join_length_le (Str.ofString "") (l.map g)
  have h2 : ((l.map g).map (·.length)).sum ≤ l.length := by
    clear h1 e
    induction l with
    | nil => exact Nat.le_refl _
    | cons k r ih => simp only [List.map_cons, List.sum_cons, List.length_cons]; have := hg k; omega
  have h3 : (Str.ofString "").length = 0 := by decide
  rw [h3, Nat.mul_zero] at h1
  omega
end Mine
end

-- part: Law
section
open PySem PySem.W PyProof.Rows PySem.Calls
namespace Mine
def AtNext (I : Shared → Prop) (f : Flow) (s' : Shared) : Prop := f = .next ∧ I s'
namespace N
theorem execs_seg {M : Model} {A : Around} {E : Value → Shared → Prop} {s : Shared} {env : Env} {ys : List Stmt} {Q : Flow → Shared → Prop} (I : Shared → Prop) (xs : List Stmt)
    (h1 : wpAny M A (execs xs env) (AtNext I) E s) (h2 : ∀ s', I s' → wpN M A (execs ys env) Q E s') : wpN M A (execs (xs ++ ys) env) Q E s :=
  N.execs_app xs (wpAny_mono h1 (fun f s' h => by obtain ⟨rfl, h⟩ := h; exact h2 s' h) fun _ _ x => x)
end N
theorem fr_same {h₀ h : Heap} {L : Addr} {m m' : Str → Option Value} (F : Fr h₀ L h m) (e : m = m') : Fr h₀ L h m' := e ▸ F
theorem one_bind {x : Str} {v : Value} : (fun y => ([(x, v)] : List (Str × Value)).reverse.lookup y) = fun y => if y = x then some v else none := by
  funext y
  by_cases hy : y = x
  · subst hy; simp
  · have : (y == x) = false := by simpa using hy
    simp [List.lookup, this, hy]
theorem ints_one {vs : List Value} {ns : List Int} (h : IntsAre vs ns) : ns = [] ∨ 1 ≤ ns.length := by
  cases ns with
  | nil => exact .inl rfl
  | cons => exact .inr (by simp)
def lawM (l : Addr) (f : Int) (b : Array UInt8) (sp : Str) (t1 t2 t3 : Tok) : Str → Option Value :=
  fun y => if y = "sep" then some (.str sp t3) else if y = "octets" then some (.bytes b t2) else if y = "first" then some (.int f t1) else if y = "script" then some (.ref l) else none
def SepOk (f : Int) (sp : Str) : Prop := sp.length ≤ 2 ∧ ((f.fdiv 256).fmod 8 < 6 → digits sp = [])
/-- the state behind the first three statements -/
def SegA (G : Heap) (L l : Addr) (s₁ s' : Shared) : Prop := ∃ f b sp t1 t2 t3 h tk, s' = { s₁ with heap := h, toks := tk } ∧ Fr G L h (lawM l f b sp t1 t2 t3) ∧ News G L h [(17, tabObj #[])] ∧ b.size ≤ 24 ∧ SepOk f sp
theorem segA_of {G h : Heap} {L l : Addr} {s₁ : Shared} {tk : Tok} {f : Int} {b : Array UInt8} {sp : Str} {t1 t2 t3 : Tok} {news : Led} (F : Fr G L h (lawM l f b sp t1 t2 t3)) (N : News G L h news) (hm : (17, tabObj #[]) ∈ news) (hb : b.size ≤ 24) (hs : SepOk f sp) :
    AtNext (SegA G L l s₁) .next { s₁ with heap := h, toks := tk } :=
  ⟨rfl, f, b, sp, t1, t2, t3, h, tk, rfl, F, fun p hp => by rw [List.mem_singleton.mp hp]; exact N _ hm, hb, hs⟩
/-- the state behind the fifth statement -/
def SegB (G : Heap) (L l : Addr) (s₁ s' : Shared) : Prop := ∃ f b sp t1 t2 t3 tx t4 ps, Fr G L s'.heap (fun y => if y = "text" then some (.str tx t4) else lawM l f b sp t1 t2 t3 y) ∧ News G L s'.heap [(17, tabObj ps)] ∧ b.size ≤ 24 ∧ SepOk f sp ∧ tx = wr (Str.ofString "") b.toList ∧ TriplesOk ps.toList ∧ AllBare s'.gens ∧ s'.os = s₁.os
theorem segB_of {G : Heap} {L l : Addr} {s₁ s' : Shared} {f : Int} {b : Array UInt8} {sp : Str} {t1 t2 t3 t4 : Tok} {ps : Array Value} (F : Fr G L s'.heap (fun y => if y = "text" then some (.str (wr (Str.ofString "") b.toList) t4) else lawM l f b sp t1 t2 t3 y)) (N : News G L s'.heap [(17, tabObj ps)])
    (hb : b.size ≤ 24) (hs : SepOk f sp) (ht : TriplesOk ps.toList) (g : AllBare s'.gens) (o : s'.os = s₁.os) : AtNext (SegB G L l s₁) .next s' := ⟨rfl, f, b, sp, t1, t2, t3, _, t4, ps, F, N, hb, hs, rfl, ht, g, o⟩
local macro_rules | `(tactic| walk_at "call ref") => `(tactic| (k_here; (with_reducible show wpAny _ _ (call (Value.ref 61) _) _ _ _); k_dflt (refine' use61 ?hx ?B ?F ?X ?N ?T ?XB ?TB ?hk ?hd ?hu ?_ ?_); (case hx => omega); (case B => k_asm); (case F => k_asm); (case X => k_asm); (case N => k_asm); (case T => k_asm); (case XB => assumption); (case TB => assumption); (case hk => rfl); (case hd => decide); (case hu => decide); (all_goals first | (intro e9 h9 tk9 F9 N9; exfalso; omega; done) | (intro e9 l9 vs9 n9 h9 tk9 F9 N9 i9; exfalso; omega; done) | (intro e9 l9 vs9 n9 h9 tk9 F9 N9 i9) | (intro e9 h9 tk9 F9 N9) | skip)))
local macro_rules | `(tactic| walk_at "call ref") => `(tactic| (k_here; (with_reducible show wpAny _ _ (call (Value.ref 54) _) _ _ _); k_dflt (refine' use54 ?hx ?B ?F ?X ?N ?T ?hk ?hd ?hu ?_ ?_); (case hx => omega); (case B => k_asm); (case F => k_asm); (case X => k_asm); (case N => k_asm); (case T => k_asm); (case hk => rfl); (case hd => decide); (case hu => decide); (all_goals first | (intro e9 h9 tk9 F9 N9; exfalso; omega; done) | (intro e9 l9 vs9 n9 h9 tk9 F9 N9 i9; exfalso; omega; done) | (intro e9 l9 vs9 n9 h9 tk9 F9 N9 i9) | (intro e9 h9 tk9 F9 N9) | skip)))
local macro_rules | `(tactic| walk_at "call type:list") => `(tactic| (k_here; (with_reducible show wpAny _ _ (call (Value.type _) [Value.bytes _ _]) _ _ _); k_dflt (refine LB.call_list_bytes (by k_asm) (by k_asm) (by rfl) (by rw [PySem.sizeLine_eq]; omega) ?_); intro D' us' c' h' tk' F' N' l1 i'))
/-- the state behind the tenth statement -/
def SegD (G : Heap) (L l : Addr) (s₁ s' : Shared) : Prop := ∃ f b sp t1 t2 t3 tx t4 jx t5 ps, Fr G L s'.heap (fun y => if y = "joined" then some (.str jx t5) else if y = "text" then some (.str tx t4) else lawM l f b sp t1 t2 t3 y) ∧ News G L s'.heap [(17, tabObj ps)] ∧ AllBare s'.gens ∧ s'.os = s₁.os
theorem segD_of {G : Heap} {L l : Addr} {s₁ s' : Shared} {f : Int} {b : Array UInt8} {sp tx jx : Str} {t1 t2 t3 t4 t5 : Tok} {ps : Array Value} {news : Led} (F : Fr G L s'.heap (fun y => if y = "joined" then some (.str jx t5) else if y = "text" then some (.str tx t4) else lawM l f b sp t1 t2 t3 y)) (N : News G L s'.heap news)
    (hm : (17, tabObj ps) ∈ news) (g : AllBare s'.gens) (o : s'.os = s₁.os) : AtNext (SegD G L l s₁) .next s' := ⟨rfl, f, b, sp, t1, t2, t3, tx, t4, jx, t5, ps, F, fun p hp => by rw [List.mem_singleton.mp hp]; exact N _ hm, g, o⟩
theorem join_noisy {prog : Program} {w : World} {A : Around} {E : Value → Shared → Prop} {s : Shared} {h₀ : Heap} {L D : Addr} {news : Led} {ys : List Value} {l : List Int} {g : Int → Str} {t : Tok} {Q : Value → Shared → Prop}
    (N : News h₀ L s.heap news) (hm : (D, LCg.lst ys) ∈ news) (hys : StrsAre ys (l.map g)) (hg : ∀ k, (g k).length ≤ 1) (hl : l.length ≤ 63) (h : ∀ x t' k, x.length ≤ 63 → Q (.str x t') { s with toks := k }) :
    wpAny (model prog w) A (call (.builtin "str.join") [.str (Str.ofString "") t, .ref D]) Q E s := by
  have hn := noisy_len l g hg
  refine join_listW (items := ys.toArray) ⟨_, N.get hm, rfl, _, rfl⟩ (by simpa using hys) (by decide) ?_ fun t' k => h _ t' k (by omega)
  have h2 : ((l.map g).map (·.length)).sum ≤ l.length := by
    clear hys hm hn hl
    induction l with
    | nil => exact Nat.le_refl _
    | cons k r ih => simp only [List.map_cons, List.sum_cons, List.length_cons]; have := hg k; omega
  rw [List.length_map]
  omega
local macro_rules | `(tactic| walk_at "CompSrc") => `(tactic| (k_here; (with_reducible show LCg.CompSrc _ _ _ _ _ _ _ (Expr.Subscript _ _ _) _ _ _ _ _ _); k_dflt (refine LCg.CompSrc.ledger (by rfl) (by k_asm) (by k_asm) (by k_mem) (by kcf_size) ?_; intro g'; (refine' strs_list _ (by first | assumption | l_ints) (fun k' t' I' oI' C' oC' D' m' ys' h' tk' E' hC' hx' F' N' off' ne' hS' => ?_) ?_ ?_)); kcf_last))
local macro_rules | `(tactic| walk_at "CompEnd") => `(tactic| (k_here; k_dflt (exact strEnd (by assumption) (by assumption) (by assumption) (by assumption))))
local macro_rules | `(tactic| walk_at "call builtin:str.join") => `(tactic| (k_here; k_dflt (refine join_noisy (by k_asm) (by k_mem) (by assumption) (fun k => item_le _ _) (by omega) ?_); intro xj tj kj hj))
theorem fine_of {s₁ s' : Shared} {L : Addr} {m : Str → Option Value} {news : Led} {ps : Array Value} (F : Fr (ghostOf s₁.heap [(21, 17)]) L s'.heap m) (N : News (ghostOf s₁.heap [(21, 17)]) L s'.heap news) (hm : (17, tabObj ps) ∈ news) (g : AllBare s'.gens) (o : s'.os = s₁.os) :
    Fine s₁ (.ok (.ret (.bool true))) s' := ⟨rfl, F.keep, GrownAt.of N hm, o, g⟩
theorem spliced_any {M : Model} {A : Around} {E : Value → Shared → Prop} {s : Shared} {x : Sem Value} {rest : List (Bool × Sem Value)} {Q : List Value → Shared → Prop}
    (h : wpAny M A x (fun v s₁ => wpAny M A (spliced rest) (fun vs s₂ => Q (v :: vs) s₂) E s₁) E s) : wpAny M A (spliced ((false, x) :: rest)) Q E s := by
  show wpAny M A (x >>= fun v => (Pure.pure [v] : Sem (List Value)) >>= fun here => PySem.holding here (spliced rest) >>= fun r => Pure.pure (here ++ r)) Q E s
  exact wpAny_bind (wpAny_mono h (fun v s₁ h₁ => wpAny_bind (wpAny_pure (wpAny_bind (wpAny_holding (wpAny_mono h₁ (fun vs s₂ h₂ => wpAny_pure h₂) fun _ _ x => x))))) fun _ _ x => x)
theorem spliced_nil {M : Model} {A : Around} {E : Value → Shared → Prop} {s : Shared} {Q : List Value → Shared → Prop} (h : Q [] s) : wpAny M A (spliced []) Q E s := wpAny_pure h
theorem no_self {x : Str} {P : Prop} (h : (x != x) = true) : P := absurd h (by simp)
theorem led_new {h₀ h' : Heap} {L : Addr} {m : Str → Option Value} {news : Led} {s : Shared} {o : Obj} (F : Fr h₀ L s.heap m) (N : News h₀ L s.heap news) (hk : ∀ a x, s.heap.get? a = some x → h'.get? a = some x) (ho : h'.get? s.heap.objs.size = some o) :
    Fr h₀ L h' m ∧ News h₀ L h' ((s.heap.objs.size, o) :: news) ∧ (∀ p ∈ news, p.1 < s.heap.objs.size) :=
  ⟨F.keeps hk, fun p hp => by
    rcases List.mem_cons.mp hp with rfl | hp
    · exact ⟨ho, Nat.ne_of_gt F.ns.lt, Heap.get?_none_of_le (Nat.le_trans F.above (Nat.le_of_lt F.ns.lt))⟩
    · exact ⟨hk _ _ (N p hp).1, (N p hp).2⟩, fun p hp => Heap.lt_size (N p hp).1⟩
local macro_rules | `(tactic| walk_at "call ref") => `(tactic| (k_here; (with_reducible show wpAny _ _ (call (Value.ref 22) [Value.bytes _ _]) _ _ _); k_dflt (refine' use22d ?hb ?B ?F ?X ?N ?T ?C ?U ?ht ?G ?ho ?hk ?hd ?hu ?_); (case hb => assumption); (case B => k_asm); (case F => k_asm); (case X => k_asm); (case N => k_asm); (case T => k_asm); (case C => assumption); (case U => k_updF); (case ht => first | assumption | kn_triples); (case G => assumption); (case ho => first | assumption | rfl); (case hk => rfl); (case hd => decide); (case hu => decide); intro t5 s5 ps5 F5 N5 ht5 G5 o5; try dsimp only at N5))
local macro_rules | `(tactic| walk_at "call ref") => `(tactic| (k_here; (with_reducible show wpAny _ _ (call (Value.ref 22) [Value.bytes _ _, Value.str _ _]) _ _ _); k_dflt (refine' use22 ?hb ?hs ?B ?F ?X ?N ?T ?C ?U ?ht ?G ?ho ?hk ?hd ?hu ?_); (case hb => assumption); (case hs => assumption); (case B => k_asm); (case F => k_asm); (case X => k_asm); (case N => k_asm); (case T => k_asm); (case C => assumption); (case U => k_updF); (case ht => first | assumption | kn_triples); (case G => assumption); (case ho => first | assumption | rfl); (case hk => rfl); (case hd => decide); (case hu => decide); intro t5 s5 ps5 F5 N5 ht5 G5 o5; try dsimp only at N5))
local macro_rules | `(tactic| walk_at "call ref") => `(tactic| (k_here; (with_reducible show wpAny _ _ (call (Value.ref 42) _) _ _ _); k_dflt (refine' use42 ?hb ?hs ?B ?F ?X ?N ?T ?hk ?hd ?hu ?_); (case hb => assumption); (case hs => first | assumption | decide); (case B => k_asm); (case F => k_asm); (case X => k_asm); (case N => k_asm); (case T => k_asm); (case hk => rfl); (case hd => decide); (case hu => decide); intro t6 h6 tk6 F6 N6))
set_option maxRecDepth 100000 in
set_option maxHeartbeats 8000000 in
theorem law_runs : LawRuns := by
  unfold LawRuns; k_fill
  intro w mean mg mb s₁ l vs ns T0 KX hT9 hgens hL hI hn
  k_dflt (refine' N.code_K ?k1 ?k2 ?k6 ?k7 ?k8 ?k9 ?kB ?_ ?c2 ?c3 ?c4 ?c5; (case k1 => exact KX); (case k2 => exact T0.nolimit); (case k6 => k_is); (case k7 => k_is); (case k8 => decide); (case k9 => exact BindsTo.of_eq rfl); (case kB => exact locs rfl); (case c2 => exact rfl); (case c3 => exact rfl); (case c4 => exact rfl); (case c5 => decide))
  intro h₁ F0
  have l0 := ghost_lt hT9 F0
  have C' := (ghost_code hT9).1
  have X := ghost_K hT9 KX (by kernel_rfl)
  have T : Top GP GL mean mg mb _ := ghost_top hT9 T0
  have B := ghost_below hT9
  have N := ghost_news hT9 F0 (News.nil : News _ _ _ [])
  have F := fr_same (ghost_fr hT9 F0) one_bind
  have hL' := ghost_list hT9 hL
  have hpos := ints_one hI
  simp only [tabNews, List.map_cons, List.map_nil, List.nil_append] at N
  clear F0 KX
  have kMark := kstMark
  refine Mine.N.execs_seg (SegA (ghostOf s₁.heap [(21, 17)]) s₁.heap.objs.size l s₁) [_, _, _] ?_ ?_
  · k_steps
    all_goals (refine segA_of (by assumption) (by assumption) (by k_mem) ?_ ?_)
    all_goals first
      | (show Array.size _ ≤ 24; decide)
      | (rw [byteArr_size, List.length_map]; omega)
      | (refine ⟨by decide, fun _ => by decide⟩)
      | (refine ⟨by decide, fun hlt => ?_⟩; exfalso; omega)
  rintro s' ⟨f, b, sp, t1, t2, t3, h, tk, rfl, FA, NA, hb, hsp⟩
  clear N F h₁
  have G0 : AllBare s₁.gens := .of_eq hgens
  have hsl : sp.length ≤ 2 := hsp.1
  have hC : CodeHd (ghostOf s₁.heap [(21, 17)]) 21 17 := C'
  have h17 : 17 < s₁.heap.objs.size := l0 _ (.head _)
  unfold lawM at FA
  refine Mine.N.execs_seg (SegB (ghostOf s₁.heap [(21, 17)]) s₁.heap.objs.size l s₁) [_, _] ?_ ?_
  · k_steps
    · exact no_self (by assumption)
    · exact segB_of (by assumption) (by assumption) hb hsp (by assumption) (by assumption) (by assumption)
  clear FA NA
  rintro s' ⟨f, b, sp, t1, t2, t3, tx, t4, ps, FB, NB, hb, hsp, htx, ht, GB, oB⟩
  have hsl : sp.length ≤ 2 := hsp.1
  unfold lawM at FB
  refine Mine.N.execs_cons_ (Mine.N.assign_Name rfl (Mine.N.call_Name ?_))
  k_steps
  refine Mine.N.callWith_args (P := fun h => (Mine.hd.heap_39 w.params).In h) rfl (fun h X => keeps_K (K := Mine.hd.heap_39 w.params) (by kernel_rfl) h X) (Mine.N.evalArgs_ (Mine.N.spliced_ ?_))
  refine (show wpN _ _ (eval (Expr.Call (Expr.Name _ _) _ _ _) _) _ _ _ from Mine.N.call_Name ?_)
  k_steps
  refine Mine.N.callWith_type rfl (evalArgs_plain ?_)
  refine (show wpAny _ _ (spliced ((false, eval (Expr.Name _ _) _) :: [])) _ _ _ from spliced_any ?_)
  k_steps
  refine spliced_nil ?_
  refine (show wpN _ _ (call (.type "bytearray") [.bytes b t2] []) _ _ _ from BA.call_N (by rw [PySem.sizeLine_eq]; omega) (fun h' hk ho => ?_))
  obtain ⟨FC, NC, lC⟩ := led_new (by assumption) NB hk ho
  refine (show wpAny _ _ (spliced ((false, eval (Expr.Name _ _) _) :: [])) _ _ _ from spliced_any ?_)
  k_steps
  refine spliced_nil ?_
  refine ⟨X.keeps FC.keep, ?_⟩
  refine (show wpAny _ _ (call (.ref 22) [.ref s'.heap.objs.size, .str sp t3] []) _ _ _ from use22a hb hsl B FC X NC (.head _) T hC (.tail (Nat.ne_of_gt (lC _ (.head _))) (.head (fun _ h => nomatch h))) ht GB oB rfl (by decide) (by decide) ?_)
  intro t5 s5 ps5 F5 N5 ht5 G5 o5
  (try dsimp only at N5)
  have l5 : 17 < s'.heap.objs.size := lC _ (.head _)
  subst htx
  have hw1 := wr_short (sep := Str.ofString "") (b := b) hb (by decide)
  have hw2 := wr_short (sep := sp) (b := b) hb hsl
  obtain ⟨hp1, hev1⟩ := read_wr (b := b) digits_nil
  clear FC NC NB hk ho GB oB ht
  k_steps
  refine Mine.N.execs_seg (SegD (ghostOf s₁.heap [(21, 17)]) s₁.heap.objs.size l s₁) [_, _, _, _] ?_ ?_
  · by_cases hlt : (f.fdiv 256).fmod 8 < 6
    · obtain ⟨hp2, hev2⟩ := read_wr (b := b) (hsp.2 hlt)
      k_steps
      all_goals first
        | exact no_self (by assumption)
        | exact segD_of (by assumption) (by assumption) (by k_mem) (by assumption) (by assumption)
        | (exfalso; omega)
        | (exfalso; contradiction)
        | skip
    · rcases Nat.mod_two_eq_zero_or_one (readV (wr sp b.toList)).length with hev2 | hev2
      · k_steps
        all_goals first
          | exact no_self (by assumption)
          | exact segD_of (by assumption) (by assumption) (by k_mem) (by assumption) (by assumption)
          | (exfalso; omega)
          | (exfalso; contradiction)
          | skip
      · k_steps
        all_goals first
          | exact no_self (by assumption)
          | exact segD_of (by assumption) (by assumption) (by k_mem) (by assumption) (by assumption)
          | (exfalso; omega)
          | (exfalso; contradiction)
          | skip

  rintro s' ⟨f, b, sp, t1, t2, t3, tx, t4, jx, t5, ps, FD, ND, GD, oD⟩
  unfold lawM at FD
  refine Mine.N.of_any ?_
  k_steps
  · lcg_src
  · exact fine_of (by assumption) (by assumption) (by k_mem) GD oD
  · exact fine_of (by assumption) (by assumption) (by k_mem) GD oD
end Mine
end

-- part: Fin
section
open PySem PySem.W PyProof.Rows PySem.Calls
namespace Mine
theorem post_true (args ds : List WData) : PySem.Challenge.rw_fb5001_01.row.claim.post args (.bool true) ds = true := by
  show (WShape.has [] (.bool true) .bool && WTm.holds [] (.eq .res (.lit (.bool true))) { args := args, res := some (.bool true), after := ds }) = true
  kernel_rfl
theorem good_of_fine {s₁ s' : Shared} {res : Result} {cl : Str → Option Addr} {mean : ExcName → Option Value} {args : List WData} (hT : TabsAt [(21, 17)] s₁.heap) (g : Fine s₁ res s') :
    GoodWG PySem.Challenge.rw_fb5001_01.row.claim cl mean args s₁ res s' := by
  obtain ⟨rfl, keep, ⟨ps, hP⟩, hos, hg⟩ := g
  have e0 : s₁.heap.get? 17 = some (tabObj #[]) := (hT (21, 17) (.head _)).2
  have tab := ((hT (21, 17) (.head _)).1.tab e0).isCodeTable
  refine ⟨.inl ⟨.bool true, .bool true, [], rfl, fun _ => rfl, .bool true, post_true _ _, fun _ => ⟨List.nodup_nil, fun a ha => nomatch ha⟩⟩, ⟨fun b o e => ?_, fun b o e => ?_⟩, hos, hg⟩
  · by_cases hb : b = 17
    · subst hb
      rw [e0] at e; cases e
      exact .inr (.inl ⟨tab, rfl, #[], ps, rfl, by rw [Array.empty_append]; exact hP⟩)
    · exact .inl (keep b o (ghost_ne e (by simpa using hb)))
  · by_cases hb : b = 17
    · subst hb; exact ⟨_, hP⟩
    · exact ⟨o, keep b o (ghost_ne e (by simpa using hb))⟩
theorem law_at {K : Frag} {h : Heap} {mg : Str → Option Value} {fa : Addr} (X : K.In h) (G : h.Ns mainGlobals mg) (e : nsIn K mainGlobals "law" = some (some (.ref 66))) (hm : mg "law" = some (.ref fa)) : fa = 66 := by
  have h1 := mg_of X G e
  rw [hm] at h1
  cases h1; rfl
set_option maxRecDepth 100000 in
set_option maxHeartbeats 8000000 in
theorem law_holds : PySem.Challenge.rw_fb5001_01.Holds := by
  w_on
  o_law
  o_head (kHook heapT [17, 2, 3, 6, 15, 16, 18, 19, 21, 22, 23, 24, 27, 28, 29, 31, 32, 34, 35, 36, 38, 39, 41, 42, 43, 45, 46, 48, 49, 50, 53, 54, 55, 57, 58, 60, 61, 62, 65, 66] (fun _ => by kernel_rfl))
  (case hw => w_witness2)
  intro w s₀ s₁ mg mb G Y fa o pm cd doc dV kV ho hdat hcd hD hmg hg args vals as hpre hlay hrd hwl hlo
  have KT : (heapT w.params).In s₁.heap := kIn_of Y
  have hT9 := tabs_of KT
  have KX := heapT_rest KT (by kernel_rfl)
  have T : Top Mine.hd.view_39 LV (ExcName.means s₀.heap) mg mb s₁.heap := G.T
  have X := (Ground.X G).1
  have V := (Ground.X G).2
  wrow_args hpre hlay hrd hwl hlo
  rename IntsAre _ _ => hI
  rename Heap.IsList _ _ _ => hL
  have e66 := law_at KX T.g (by kernel_rfl) hmg
  subst e66
  refine N.code_mono (law_runs w _ mg mb s₁ _ _ _ T KX hT9 hg hL hI ?_) (fun res s' g => good_of_fine hT9 g)
  omega
end Mine
end

open PySem PySem.W PyProof.Rows
theorem PySem.Challenge.cw_fb5001_01_holds : PySem.Challenge.rw_fb5001_01.Holds :=
  Mine.law_holds
