import PyProof.Rows.All
import Wide.All
import OpenK.AllK
import Wide.FinOn
import PySem.Challenge.RW_ef5001_01
set_option Elab.async false
set_option maxRecDepth 100000
section
open PySem PySem.W PyProof.Rows PySem.Calls
namespace Mine
/-! The layer N: wpAny, asked of those contexts alone whose stack holds no codec's call. -/
def heldIds : List String := PySem.Builtin.Bytes.decodersThatHold ++ ["bytearray.__contains__", "bytearray.__mod__", "bytearray.__rmod__", "_struct.pack_into.held", "bytearray.find.held"]
def held : Code → Bool
  | .builtin id _ => heldIds.contains id
  | _ => false
def freeB (st : List (Code × Pos)) : Bool := st.all fun x => !held x.1
theorem freeB_cons {c : Code} {p : Pos} {st : List (Code × Pos)} : freeB ((c, p) :: st) = (!held c && freeB st) := rfl
section
variable {α β : Type} {M : Model} {A : Around} {E : Value → Shared → Prop} {s : Shared}
def wpN {α : Type} (M : Model) (A : Around) (t : Sem α) (Q : α → Shared → Prop) (E : Value → Shared → Prop) (s : Shared) : Prop :=
  ∀ Γ p, Γ.In A → held Γ.code = false → freeB Γ.below = true → Sem.wp M Γ t (fun a _ s' => Q a s') (fun e _ s' => E e s') p s
def codeN (M : Model) (A : Around) (c : Code) (R : Result → Shared → Prop) (s : Shared) : Prop :=
  ∀ Γ p, Γ.code = c → Γ.Below A → freeB Γ.below = true → wpCode M Γ R p s
theorem wpN_of {t : Sem α} {Q : α → Shared → Prop} (h : wpAny M A t Q E s) : wpN M A t Q E s := fun Γ p hΓ _ _ => h Γ p hΓ
theorem codeN_of {c : Code} {R : Result → Shared → Prop} (h : codeAny M A c R s) : codeN M A c R s := fun Γ p hc hΓ _ => h Γ p hc hΓ
theorem wpN_pure {a : α} {Q : α → Shared → Prop} (h : Q a s) : wpN M A (pure a) Q E s := fun _ _ _ _ _ => h
theorem wpN_mono {t : Sem α} {Q Q' : α → Shared → Prop} {E' : Value → Shared → Prop} (h : wpN M A t Q E s) (hQ : ∀ a s, Q a s → Q' a s) (hE : ∀ e s, E e s → E' e s) : wpN M A t Q' E' s :=
  fun Γ p h1 h2 h3 => Sem.wp_mono M Γ t (fun a _ s => hQ a s) (fun e _ s => hE e s) p s (h Γ p h1 h2 h3)
theorem wpN_bind {m : Sem α} {f : α → Sem β} {Q : β → Shared → Prop} (h : wpN M A m (fun a s' => wpN M A (f a) Q E s') E s) : wpN M A (m >>= f) Q E s := fun Γ p h1 h2 h3 => by
  rw [Sem.wp_bind']
  exact Sem.wp_mono M Γ m (fun a p' s' h' => h' Γ p' h1 h2 h3) (fun _ _ _ h' => h') p s (h Γ p h1 h2 h3)
/-- a step that needs nothing of the stack, ahead of one that does -/
theorem wpN_then {m : Sem α} {f : α → Sem β} {Q : β → Shared → Prop} (h : wpAny M A m (fun a s' => wpN M A (f a) Q E s') E s) : wpN M A (m >>= f) Q E s := wpN_bind (wpN_of h)
theorem wpN_holding {vs : List Value} {m : Sem α} {Q : α → Shared → Prop} (h : wpN M A m Q E s) : wpN M A (holding vs m) Q E s := fun Γ p h1 h2 h3 => by
  rw [Sem.wp_holding]; exact h Γ p h1 h2 h3
theorem wpN_onRaise {m : Sem α} {h : Value → Sem Unit} {Q : α → Shared → Prop} (hm : wpN M A m Q (fun e s' => wpN M A (h e) (fun _ s'' => E e s'') E s') s) : wpN M A (m.onRaise h) Q E s := fun Γ p h1 h2 h3 => by
  rw [Sem.wp_onRaise]
  exact Sem.wp_mono M Γ m (fun _ _ _ h' => h') (fun e p' s' h' => h' Γ p' h1 h2 h3) p s (hm Γ p h1 h2 h3)
theorem wpN_tryCatch {m : Sem α} {h : Value → Sem α} {Q : α → Shared → Prop} (hm : wpN M A m Q (fun e s' => wpN M A (h e) Q E s') s) : wpN M A (m.tryCatch h) Q E s := fun Γ p h1 h2 h3 => by
  rw [Sem.wp_tryCatch]
  exact Sem.wp_mono M Γ m (fun _ _ _ h' => h') (fun e p' s' h' => h' Γ p' h1 h2 h3) p s (hm Γ p h1 h2 h3)
theorem wpN_stack {Q : List (Code × Pos) → Shared → Prop} (h : ∀ st, freeB st = true → Q st s) : wpN M A stack Q E s := fun Γ p _ h2 h3 => by
  show Q ((Γ.code, p) :: Γ.below) s
  exact h _ (by rw [freeB_cons, h2, h3]; rfl)
theorem free_enter {Γ : Ctx} {c : Code} {hd : Option Value} {p : Pos} (h2 : held Γ.code = false) (h3 : freeB Γ.below = true) : freeB (Γ.enter c hd p).below = true := by
  show freeB ((Γ.code, p) :: Γ.below) = true
  rw [freeB_cons, h2, h3]; rfl
theorem wpN_run {c : Code} {h : Option Value} {Q : Flow → Shared → Prop}
    (hc : codeN M (A.mark h) c (fun r s' => match r with | .ok f => Q f s' | .error e => E e s') s) (hnb : h ≠ some byPass := by intro x; cases x) :
    wpN M A (run c h) Q E s := fun Γ p h1 h2 h3 => by
  rw [Sem.wp_run]; exact hc _ p rfl (h1.enter c h p hnb) (free_enter h2 h3)
theorem wpN_runValue {c : Code} {Q : Value → Shared → Prop}
    (hc : codeN M A c (fun r s' => match r with | .ok (.ret v) => Q v s' | .ok _ => False | .error e => E e s') s) :
    wpN M A (runValue c) Q E s := fun Γ p h1 h2 h3 => by
  rw [Sem.wp_runValue]; exact hc _ p rfl (h1.enter c none p (by intro x; cases x)) (free_enter h2 h3)
theorem wpN_call {f : Value} {pos : List Value} {kw : List (Str × Value)} {Q : Value → Shared → Prop}
    (hc : codeN M A (.call f ⟨pos, kw⟩) (fun r s' => match r with | .ok (.ret v) => Q v s' | .ok _ => False | .error e => E e s') s) :
    wpN M A (call f pos kw) Q E s := wpN_runValue hc
theorem codeN_tree {c : Code} {R : Result → Shared → Prop} (hh : held c = false)
    (h : wpN M (A.under c) (M.den c) (fun fin s' => match fin with | .done f => R (.ok f) s' | .again c' => c'.quiet = true ∧ codeN M A c' R s')
      (fun e s' => R (.error e) s') s) : codeN M A c R s := fun Γ p hc h1 h3 => by
  rw [wpCode_iff_wp, hc]
  refine Sem.wp_mono M Γ _ (fun fin p' s' h' => ?_) (fun _ _ _ h' => h') p s (h Γ p (hc ▸ h1.in) (by rw [hc]; exact hh) h3)
  cases fin with
  | done f => exact h'
  | again c' => exact ⟨h'.1, h'.2 (Γ.goto c') p' rfl (h1.goto c') h3⟩
theorem codeN_mono {c : Code} {R R' : Result → Shared → Prop} (h : codeN M A c R s) (hR : ∀ r s, R r s → R' r s) : codeN M A c R' s :=
  fun Γ p hc h1 h3 => wpCode_mono hR (h Γ p hc h1 h3)
end
/-! The head: the caller's own context is such a one. -/
def runQ (f : Value) (vs : List Value) : Sem Value := .stack fun st => if freeB st = true then PySem.call f vs else pure (.bool true)
def treeQ (name : Str) (vs : List Value) : Sem Fin := .stack fun st => if freeB st = true then (callStub name vs).cur else pure (.done (.ret (.bool true)))
theorem runQ_of {M : Model} {A : Around} {f : Value} {vs : List Value} {Q E : Value → Shared → Prop} {s : Shared} (h : wpN M A (PySem.call f vs) Q E s) (h' : Q (.bool true) s) : wpAny M A (runQ f vs) Q E s := fun Γ p hΓ => by
  unfold runQ
  rw [Sem.wp_stack]
  split
  · rename_i x
    rw [freeB_cons, Bool.and_eq_true] at x
    exact h Γ p hΓ (by simpa using x.1) x.2
  · exact h'
theorem treeQ_of {prog : Program} {w : World} {name : Str} {f : Value} {vs : List Value} {mg : Str → Option Value} {Q : Fin → Shared → Prop} {E : Value → Shared → Prop} {s : Shared} (hg : s.heap.Ns mainGlobals mg) (hf : mg name = some f)
    (h : wpAny (model prog w) callerA (runQ f vs) (fun v s' => Q (.done (.ret v)) s') E s) : wpAny (model prog w) callerA (treeQ name vs) Q E s := fun Γ p hΓ => by
  have h1 := h Γ p hΓ
  unfold runQ at h1
  unfold treeQ
  rw [Sem.wp_stack] at h1 ⊢
  split at h1
  · rename_i x
    rw [if_pos x]
    have h2 : ∀ p, Sem.wp (model prog w) Γ (PySem.call f vs) (fun v _ s' => Q (.done (.ret v)) s') (fun e _ s' => E e s') p s := fun p => by
      have h3 := h Γ p hΓ
      unfold runQ at h3
      rw [Sem.wp_stack, if_pos (by rw [freeB_cons] at x ⊢; exact x)] at h3
      exact h3
    show Sem.wp (model prog w) Γ (nsGet mainGlobals name >>= _) _ _ p s
    rw [Sem.wp_bind']
    refine (Sem.wp_nsGet (model prog w) Γ _ p s hg name _).mpr ?_
    rw [hf]
    show Sem.wp (model prog w) Γ (PySem.call f vs >>= _) _ _ p s
    rw [Sem.wp_bind']
    exact h2 p
  · rename_i x
    rw [if_neg x]
    exact h1
def stubQ (name : Str) (vs : List Value) : Thread := ⟨treeQ name vs, .builtin "claim.caller" {}, default, []⟩
theorem stub_step {prog : Program} {w : World} {s : Shared} {name : Str} {vs : List Value} (hz : s.asleep) : sstep (denote table) prog w (.single s (stubQ name vs)) = .go (.single s (callStub name vs)) := by
  rcases sstep_single (denote table) prog w s (stubQ name vs) (by unfold stubQ treeQ; rfl) hz with e | e
  · rw [e]
    rfl
  · exfalso
    obtain ⟨a, b, c, d, f⟩ := s
    cases e
theorem holdsBy_of {c : ClaimW} {name : Str} {defs keeps : List Str} {writes : Bool} (h : c.HoldsOpenBy (stubQ name) defs keeps writes) : c.HoldsOpenBy (callStub name) defs keeps writes := by
  obtain ⟨hb, hw, H⟩ := h
  refine ⟨hb, hw, fun w => ⟨(H w).1, fun s hs => ?_⟩⟩
  obtain ⟨s₀, hf, hg0, s₁, hT, h1, h2, h3, hC⟩ := (H w).2 s hs
  refine ⟨s₀, hf, hg0, s₁, hT, h1, h2, h3, ?_⟩
  intro args hp hl ord hord
  obtain ⟨vs, s2, hlaid, n, o, s', hrun, rest⟩ := hC args hp hl ord hord
  have z0 : s.asleep := AfterImport.life hs
  have z1 : s₀.asleep := Shared.asleep_of_life (fence_lifeW hf) z0
  have z2 : s₁.asleep := Shared.asleep_of_life hT.2.1 z1
  have z : s2.asleep := Shared.asleep_of_life (layAllW_rest _ _ _ hlaid).2.2.2 z2
  cases n with
  | zero => cases hrun
  | succ n =>
    have e : schedN (denote table) c.prog w (n + 1) (.single s2 (stubQ name vs)) = schedN (denote table) c.prog w n (.single s2 (callStub name vs)) := by
      show (match sstep (denote table) c.prog w (.single s2 (stubQ name vs)) with | .go c' => schedN (denote table) c.prog w n c' | .halt o s => .halted o s) = _
      rw [stub_step z]
    exact ⟨vs, s2, hlaid, n, o, s', e.symm.trans hrun, rest⟩
end Mine
end
section
open PySem PySem.W PyProof.Rows PySem.Calls
namespace Mine
/-- the head by the layer N: the library's line «open_k» takes this one in its head's place inside this namespace -/
theorem PySem.W.holds_open {r : OpenRow} {q : Program} {loose : List Str} {Xt : Shared → Bool} {XP : (Str → Option Value) → Heap → Prop} {α : Type} {Yf : Shared → α} {Ya : World → α} {YP : World → Heap → Prop} {d : DefRec} {kwd : List (Str × Expr)} {N : Nat}
    (left : LeftO r.prog q loose Xt Yf Ya N) (hY : ∀ w s, Yf s = Ya w → YP w s.heap) (hYk : ∀ w h h', YP w h → (∀ b o, h.get? b = some o → h'.get? b = some o) → YP w h')
    (hX : ∀ s, Xt s = true → XP (s.heap.nsMap mainGlobals) s.heap) (hXk : ∀ mg h h', XP mg h → (∀ b o, h.get? b = some o → h'.get? b = some o) → XP mg h')
    (hdef : defOf q r.name = some (d, kwd)) (hp : r.prog.theDef r.name = some (d.params, d.body, d.scope)) (hk : kwWritten? d.params.kwonlyargs d.params.kw_defaults = some kwd) (hRf : ∀ s, Xt s = true → RecFacts r.records s.heap) (hwr : (!r.writes || r.records.isEmpty) = true)
    (k1 : r.wellSaid = true) (ok : (chainsOk q && opensWell r.prog && (frees r.toRowW && r.within.isEmpty)) = true) (hb : r.prog.bare) (hw : r.toRowW.promised)
    (call : WalkO q loose XP YP r.toRowW d kwd runQ) : r.Holds := by
  have h : r.toRowW.claim.HoldsOpenBy (stubQ r.name) (if r.pinned then [r.name] else []) r.keeps r.writes :=
    open_anyG (r := r.toRowW) (run := runQ) (tree := treeQ r.name) left hY hYk hX hXk hRf hwr ok hb hw
      (fun vs w s mg f Q E hg hf h => treeQ_of hg hf h)
      (fun w s hg G n hn => by
        have e : n = r.name := by revert hn; cases r.pinned <;> simp
        rw [e]
        exact pinned_of_view hg G hdef hp hk)
      (fun w s₀ s₁ mg mb G Y args vs as hpre hlay L low => by
        obtain ⟨a, o, pm, cd, doc, dV, kV, h1, h2, h3, h4, h5⟩ := G.fn hdef
        have hn : mg d.name = some (.ref a) := by rw [defOf_name hdef]; exact h1
        exact ⟨.ref a, h1, call w s₀ s₁ mg mb G Y a o pm cd doc dV kV h2 h3 h4 h5 hn L.gens args vs as hpre hlay L.reads L.well (L.low low)⟩)
  exact ⟨k1, hw, holdsBy_of h⟩
end Mine
end
section
open PySem PySem.W PyProof.Rows
set_option maxHeartbeats 8000000
namespace Mine
open_top hq for PySem.Challenge.rw_ef5001_01
end Mine
end
section
open PySem PySem.W PyProof.Rows PySem.Calls
namespace Mine
section
variable {α β : Type} {M : Model} {A : Around} {E : Value → Shared → Prop} {s : Shared} {env : Env}
theorem wpN_standAt {p : Pos} {Q : Unit → Shared → Prop} (h : Q () s) : wpN M A (standAt p) Q E s := fun _ _ _ _ _ => h
/-- a statement, then the rest -/
theorem wpN_cons {st : Stmt} {rest : List Stmt} {Q : Flow → Shared → Prop}
    (h : wpN M A (exec st env) (fun f s' => match f with | .next => wpN M A (execs rest env) Q E s' | f => Q f s') E s) : wpN M A (execs (st :: rest) env) Q E s := by
  rw [execs_cons]
  refine wpN_bind (wpN_mono h (fun f s' h' => ?_) fun _ _ x => x)
  cases f <;> first | exact h' | exact wpN_pure h'
theorem wpN_nil {Q : Flow → Shared → Prop} (h : Q .next s) : wpN M A (execs [] env) Q E s := fun _ _ _ _ _ => h
/-- the statements ahead, that need nothing of the stack, then the rest -/
theorem wp_append {Γ : Ctx} {rest : List Stmt} {Q : Flow → Pos → Shared → Prop} {E' : Value → Pos → Shared → Prop} : ∀ {xs : List Stmt} {p : Pos} {s : Shared},
    Sem.wp M Γ (execs xs env) (fun f p' s' => match f with | .next => Sem.wp M Γ (execs rest env) Q E' p' s' | f => Q f p' s') E' p s → Sem.wp M Γ (execs (xs ++ rest) env) Q E' p s
  | [], _, _, h => h
  | x :: xs, p, s, h => by
    rw [execs_cons, Sem.wp_bind'] at h
    show Sem.wp M Γ (execs (x :: (xs ++ rest)) env) Q E' p s
    rw [execs_cons, Sem.wp_bind']
    refine Sem.wp_mono M Γ _ (fun f p' s' h' => ?_) (fun _ _ _ h' => h') _ _ h
    cases f with
    | next => exact wp_append h'
    | _ => exact h'
theorem wpN_append {xs rest : List Stmt} {Q : Flow → Shared → Prop}
    (h : wpAny M A (execs xs env) (fun f s' => match f with | .next => wpN M A (execs rest env) Q E s' | f => Q f s') E s) : wpN M A (execs (xs ++ rest) env) Q E s := fun Γ p h1 h2 h3 => by
  refine wp_append (Sem.wp_mono M Γ _ (fun f p' s' h' => ?_) (fun _ _ _ h' => h') _ _ (h Γ p h1))
  cases f with
  | next => exact h' Γ p' h1 h2 h3
  | _ => exact h'
theorem wpN_If {test : Expr} {body orelse : List Stmt} {pos : Pos} {Q : Flow → Shared → Prop}
    (h : wpN M A (isTrue test env (eval test env)) (fun b s₂ => if b then wpN M A (execs body env) Q E s₂ else wpN M A (execs orelse env) Q E s₂) E s) :
    wpN M A (exec (.If test body orelse pos) env) Q E s := by
  rw [exec_If]
  refine wpN_bind (wpN_standAt (wpN_bind (wpN_mono h (fun b s₂ h₂ => ?_) fun _ _ x => x)))
  cases b <;> exact h₂
theorem wpN_isTrue_Not {x : Expr} {pos : Pos} {whole : Sem Value} {Q : Bool → Shared → Prop} (h : wpN M A (isTrue x env (eval x env)) (fun b s₁ => Q (!b) s₁) E s) :
    wpN M A (isTrue (.UnaryOp .Not x pos) env whole) Q E s := by
  rw [arm_isTrue_UnaryOp]
  exact wpN_bind (wpN_mono h (fun b s₁ h₁ => wpN_pure h₁) fun _ _ x => x)
theorem wpN_isTrue_value {e : Expr} {whole : Sem Value} {Q : Bool → Shared → Prop} (h : wpN M A whole (fun v s₁ => wpN M A (truthy v) Q E s₁) E s)
    (he : isTrue e env whole = (do let v ← whole; standAt e.pos; holding [v] (truthy v))) : wpN M A (isTrue e env whole) Q E s := by
  rw [he]
  exact wpN_bind (wpN_mono h (fun v s₁ h₁ => wpN_bind (wpN_standAt (wpN_holding h₁))) fun _ _ x => x)
theorem wpN_Call_Name {id : Str} {p pos : Pos} {args : List Expr} {keywords : List Keyword} {Q : Value → Shared → Prop}
    (h : wpN M A (eval (.Name id p) env) (fun f s₁ => wpN M A (callWith pos f [] (backTo pos (starEach args env)) (backToKw pos (keywordEach keywords env))) Q E s₁) E s) :
    wpN M A (eval (.Call (.Name id p) args keywords pos) env) Q E s := by
  rw [arm_eval_Call_Name']
  exact wpN_bind h
theorem wpN_callTail {t : Sem Value} {Q : Value → Shared → Prop} (h : wpN M A t Q E s) : wpN M A (t >>= fun r => holding [r] point >>= fun _ => pure r) Q E s :=
  wpN_bind (wpN_mono h (fun r s₂ hr => wpN_of (wpAny_bind (wpAny_holding (wpAny_point (wpAny_pure hr))))) fun _ _ x => x)
theorem wpN_keep {vs : List Value} {m : Sem α} {Q : α → Shared → Prop} (h : wpN M A m Q E s) : wpN M A (m.keep vs) Q E s := fun Γ p h1 h2 h3 => by
  rw [Sem.wp_keep]; exact h Γ p h1 h2 h3
def FnThere (a : Addr) (h : Heap) (P : Prop) : Prop := (∃ o fd, h.get? a = some o ∧ o.data = .func fd) ∧ P
/-- a call of a def, none of its arguments starred -/
theorem wpN_callWith_fn {pos : Pos} {a : Addr} {args : List (Bool × Sem Value)} {keywords : List (Option Str × Sem Value)} {Q : Value → Shared → Prop}
    (h : wpN M A (evalArgs (.ref a) true args keywords) (fun x s₁ => FnThere a s₁.heap (wpN M A (call (.ref a) x.pos x.kw) Q E s₁)) E s)
    (hs : (args.any (·.1) || keywords.any (·.1.isNone)) = false) (hl : args.length + 2 * keywords.length ≤ 30) : wpN M A (callWith pos (.ref a) [] args keywords) Q E s := by
  unfold callWith
  refine wpN_bind (wpN_holding (wpN_mono h (fun x s₁ h₁ => wpN_bind (wpN_standAt ?_)) fun _ _ x => x))
  obtain ⟨⟨o, fd, ho, hd⟩, hc⟩ := h₁
  rw [hs]
  refine wpN_bind (m := keeperOf (.ref a)) (wpN_of ?_)
  unfold keeperOf
  refine wpAny_bind (wpAny_load ho ?_)
  rw [hd]
  refine wpAny_pure ?_
  show wpN M A (if args.length + 2 * keywords.length > 30 then _ else _) _ _ _
  rw [if_neg (Nat.not_lt.mpr hl)]
  exact wpN_callTail (wpN_keep hc)
theorem wpN_callWith_type {pos : Pos} {T : String} {args : List (Bool × Sem Value)} {Q : Value → Shared → Prop}
    (h : wpN M A (evalArgs (.type T) true args []) (fun x s₁ => wpN M A (call (.type T) x.pos x.kw) Q E s₁) E s)
    (hs : args.any (·.1) = false) : wpN M A (callWith pos (.type T) [] args []) Q E s := by
  unfold callWith
  refine wpN_bind (wpN_holding (wpN_mono h (fun x s₁ h₁ => wpN_bind (wpN_standAt ?_)) fun _ _ x => x))
  rw [hs]
  exact wpN_bind (m := keeperOf (.type T)) (wpN_pure (wpN_callTail h₁))
theorem wpN_spliced_nil {Q : List Value → Shared → Prop} (h : Q [] s) : wpN M A (spliced []) Q E s := wpN_pure h
theorem wpN_spliced_cons {x : Sem Value} {rest : List (Bool × Sem Value)} {Q : List Value → Shared → Prop} (h : wpN M A x (fun v s₁ => wpN M A (spliced rest) (fun vs s₂ => Q (v :: vs) s₂) E s₁) E s) :
    wpN M A (spliced ((false, x) :: rest)) Q E s := by
  unfold spliced
  refine wpN_bind (wpN_mono h (fun v s₁ h₁ => ?_) fun _ _ x => x)
  refine wpN_bind (wpN_pure ?_)
  exact wpN_bind (wpN_holding (wpN_mono h₁ (fun vs s₂ h₂ => wpN_pure h₂) fun _ _ x => x))
theorem wpN_evalArgs {f : Value} {x : Sem Value} {args : List (Bool × Sem Value)} {keywords : List (Option Str × Sem Value)} {Q : Args → Shared → Prop}
    (h : wpN M A (spliced ((false, x) :: args)) (fun vs s₁ => wpN M A (evalAll (keywords.map (·.2))) (fun ks s₂ => Q ⟨vs, (keywords.filterMap (·.1)).zip ks⟩ s₂) E s₁) E s)
    (hk : keywords.all (·.1.isSome) = true) : wpN M A (evalArgs f true ((false, x) :: args) keywords) Q E s := by
  unfold evalArgs
  show wpN M A (spliced ((false, x) :: args) >>= _) Q E s
  refine wpN_bind (wpN_mono h (fun vs s₁ h₁ => wpN_bind (wpN_pure ?_)) fun _ _ x => x)
  refine wpN_holding ?_
  show wpN M A (if keywords.all (·.1.isSome) = true then _ else _) _ _ _
  rw [if_pos hk]
  refine wpN_bind (wpN_mono h₁ (fun ks s₂ h₂ => ?_) fun _ _ x => x)
  exact wpN_bind (wpN_pure (wpN_pure h₂))
theorem backTo_more {e : Expr} {rest : List Expr} {pos : Pos} (he : starEach (e :: rest) env = (false, eval e env) :: starEach rest env) : backTo pos (starEach (e :: rest) env) = (false, eval e env) :: backTo pos (starEach rest env) := by
  rw [he]; rfl
theorem wpN_args_more {e : Expr} {rest : List Expr} {pos : Pos} {Q : List Value → Shared → Prop}
    (h : wpN M A (eval e env) (fun v s₁ => wpN M A (spliced (backTo pos (starEach rest env))) (fun vs s₂ => Q (v :: vs) s₂) E s₁) E s) (he : starEach (e :: rest) env = (false, eval e env) :: starEach rest env) :
    wpN M A (spliced (backTo pos (starEach (e :: rest) env))) Q E s := by
  rw [backTo_more he]; exact wpN_spliced_cons h
theorem wpN_args_nil {pos : Pos} {Q : List Value → Shared → Prop} (h : Q [] s) : wpN M A (spliced (backTo pos (starEach [] env))) Q E s := wpN_pure h
theorem wpN_args {f : Value} {e : Expr} {rest : List Expr} {pos : Pos} {keywords : List (Option Str × Sem Value)} {Q : Args → Shared → Prop}
    (h : wpN M A (spliced (backTo pos (starEach (e :: rest) env))) (fun vs s₁ => wpN M A (evalAll (keywords.map (·.2))) (fun ks s₂ => Q ⟨vs, (keywords.filterMap (·.1)).zip ks⟩ s₂) E s₁) E s)
    (hk : keywords.all (·.1.isSome) = true) (he : starEach (e :: rest) env = (false, eval e env) :: starEach rest env) : wpN M A (evalArgs f true (backTo pos (starEach (e :: rest) env)) keywords) Q E s := by
  rw [backTo_more he] at h ⊢; exact wpN_evalArgs h hk
theorem wpN_all_nil {Q : List Value → Shared → Prop} (h : Q [] s) : wpN M A (evalAll []) Q E s := wpN_pure h
theorem wpN_all_kw {n : Option Str} {e : Expr} {pos p : Pos} {Q : List Value → Shared → Prop} (h : wpN M A (eval e env) (fun v s₁ => Q [v] s₁) E s) :
    wpN M A (evalAll ((backToKw pos (keywordEach [⟨n, e, p⟩] env)).map (·.2))) Q E s := by
  show wpN M A (evalAll [eval e env >>= fun v => standAt pos >>= fun _ => pure v]) Q E s
  rw [evalAll]
  refine wpN_bind (wpN_bind (wpN_mono h (fun v s₁ h₁ => wpN_bind (wpN_standAt (wpN_pure ?_))) fun _ _ x => x))
  exact wpN_bind (wpN_holding (wpN_pure (wpN_pure h₁)))
theorem wpN_IfExp {test body orelse : Expr} {pos : Pos} {Q : Value → Shared → Prop}
    (h : wpN M A (isTrue test env (eval test env)) (fun b s₁ => if b then wpN M A (eval body env) Q E s₁ else wpN M A (eval orelse env) Q E s₁) E s) :
    wpN M A (eval (.IfExp test body orelse pos) env) Q E s := by
  rw [arm_eval_IfExp]
  refine wpN_bind (wpN_mono h (fun b s₁ h₁ => ?_) fun _ _ x => x)
  cases b <;> exact h₁
theorem wpN_bindName {x : Str} {v : Value} {Q : Unit → Shared → Prop} (h : wpN M A (storeName env x v) Q E s) : wpN M A (bindName env x v) Q E s := fun Γ p h1 h2 h3 => by
  rw [Sem.wp_bindName]; exact h Γ p h1 h2 h3
theorem wpN_Assign_Name {x : Str} {pos' pos : Pos} {value : Expr} {Q : Flow → Shared → Prop}
    (h : wpN M A (eval value env) (fun v s₁ => wpN M A (storeName env x v) (fun _ => Q .next) E s₁) E s)
    (hs : swapsWith value (some (.Name x pos')) pos.line env = pure false) :
    wpN M A (exec (.Assign [.Name x pos'] value pos) env) Q E s := by
  rw [exec_Assign_Name env x pos' value pos hs]
  refine wpN_bind (wpN_standAt (wpN_bind (wpN_mono h (fun v s₁ h₁ => wpN_bind (wpN_standAt (wpN_bind (wpN_bindName (wpN_mono h₁ (fun _ _ q => wpN_pure q) fun _ _ x => x))))) fun _ _ x => x)))
theorem wpN_assign_Name {x : Str} {pos : Pos} {v : Value} {Q : Unit → Shared → Prop} (h : wpN M A (storeName env x v) Q E s) : wpN M A (assign (.Name x pos) env v) Q E s := by
  show wpN M A (standAt pos >>= fun _ => bindName env x v) Q E s
  exact wpN_bind (wpN_standAt (wpN_bindName h))
end
end Mine
end
section
open PySem PySem.W PyProof.Rows PySem.Calls
namespace Mine
section
variable {prog : Program} {w : World} {A A₀ : Around} {E : Value → Shared → Prop} {R : Result → Shared → Prop} {s : Shared} {env : Env}
theorem codeN_func {body : List Stmt}
    (h : wpN (model prog w) (A.deeper env) (execs body env) (fun f s' => R (.ok (.ret (match f with | .ret v => v | _ => .none))) s')
      (fun e s' => wpAny (model prog w) (A.deeper env) (leaving env e) (fun _ s'' => R (.error e) s'') (fun e' s'' => R (.error e') s'') s') s) :
    codeN (model prog w) A (.func body env) R s := by
  refine codeN_tree rfl ?_
  show wpN _ (A.deeper env) (do point; match ← (execs body env).onRaise (leaving env) with | .ret v => ret v | _ => ret .none) _ _ s
  refine wpN_then (wpAny_point (wpN_bind (wpN_onRaise (wpN_mono h (fun f s' h' => ?_) fun _ _ h' => wpN_of h'))))
  cases f <;> exact wpN_pure h'
theorem codeN_call_function {a : Addr} {args : Args} {o : Obj} {fd : FuncData} {body : List Stmt} (hroom : A.depth < recursionLimit)
    (ho : s.heap.get? a = some o)
    (hd' : o.data = .func fd) (hco : fd.scope.isCoroutine = false) (hgen : fd.scope.isGenerator = false) (hbody : fd.body = .stmts body) (hcd : s.heap.CodeRec fd.code fd.qualname)
    (h : wpAny (model prog w) A.in1 (bindArgs fd args) (fun binds s₁ =>
      wpAny (model prog w) A.in1 (newFunctionEnv fd.scope fd.globals fd.closure binds (fd.qualname ++ ".<locals>.") (some a) fd.code none fd.builtins)
        (fun env s₂ => s₂.heap.NoLimit ∧ codeN (model prog w) A (.func body env) R s₂) (fun e s' => R (.error e) s') s₁) (fun e s' => R (.error e) s') s) :
    codeN (model prog w) A (.call (.ref a) args) R s := by
  refine codeN_tree rfl ?_
  show wpN _ A.in1 (callAny (.ref a) args) _ _ s
  simp only [callAny]
  refine wpN_then (wpAny_load ho ?_)
  obtain ⟨c, oc, vs, tq, hc, hoc, hdc, hq⟩ := hcd
  simp only [hd', callFunction, hco, hgen, hbody, hc]
  rw [hc] at h
  refine wpN_then (m := field (.ref c) 1) (wpAny_field hoc hdc hq (wpN_bind (wpN_pure ?_)))
  exact wpN_then (wpAny_mono h (fun binds s₁ h₁ => wpN_then (wpAny_mono h₁ (fun env s₂ h₂ => wpN_then (wpAny_enterFrame h₂.1 hroom
    (wpN_pure (And.intro rfl h₂.2)))) fun _ _ h' => h')) fun _ _ h' => h')
end
section
variable {prog : Program} {w : World} {A₀ A : Around} {s : Shared} {base h₀ : Heap} {outer : List Env} {L : Addr} {m : Str → Option Value} {env : Env} {news : List (Addr × Obj)}
  {R : Result → Shared → Prop} {name qual : Str} {params : Arguments} {body : List Stmt} {scope : Scope} {cl : List (Str × Addr)} {dV kV doc pm cdv ct oc : Value} {an od : Option Addr} {osl : Array (Option Value)} {fo : Obj} {f : Addr} {args : Args} {binds : List (Str × Value)}
  {K : Frag} {p : Program} {loose : List Str} {mean : ExcName → Option Value} {mg mb : Str → Option Value}
theorem callN_plain (B : Below A₀ base outer h₀) (F : Fr h₀ L s.heap m) (X₀ : K.In h₀) (N : News h₀ L s.heap news) (T : Top p loose mean mg mb h₀) (hA : A.frames = some (env :: outer)) (hf : env.frame = some L) (hke : env.scope.kind = .function)
    (ho : K.lookup f = some ⟨oc, od, .func (fnOf name qual params body scope dV kV doc pm an cdv ct), osl⟩) (hcd : codeIn K cdv qual = true) (hroom : A.depth < recursionLimit)
    (hbind : BindsTo s (fnOf name qual params body scope dV kV doc pm an cdv ct) args binds) (hloc : ∀ y ∈ binds, scope.names.lookup y.1 = some .local)
    (h : ∀ g L' h₁, Fr h₀ L g m → Fr g L' h₁ (fun y => binds.reverse.lookup y) → News g L' h₁ news → Below A base (env :: outer) g → K.In g → Top p loose mean mg mb g → (∀ q ∈ news, q.1 < L') →
      wpN (model prog w) (A.deeper (envOf qual scope L' f cdv)) (execs body (envOf qual scope L' f cdv))
        (fun fl s' => LeaveK h₀ L m g R (match fl with | .ret v => v | _ => .none) s')
        (fun e s' => wpAny (model prog w) (A.deeper (envOf qual scope L' f cdv)) (leaving (envOf qual scope L' f cdv) e) (fun _ s'' => R (.error e) s'') (fun e' s'' => R (.error e') s'') s')
        { s with heap := h₁, toks := s.toks + binds.length })
    (hco : scope.isCoroutine = false) (hgen : scope.isGenerator = false) (hk : scope.kind = .function)
    (hcell : ∀ x ∈ scope.names, x.2 ≠ .cell) : codeN (model prog w) A (.call (.ref f) args) R s := by
  obtain ⟨FG, BG, st, lv⟩ := groundX (R := R) B F N hA hf hke
  have XX := X₀.keeps F.keep
  refine codeN_call_function hroom (XX _ _ ho) rfl hco hgen rfl (codeRec_of XX hcd) (hbind _ _ _ _ ?_)
  refine wpAny_newFunctionEnv hcell hloc (fun h₁ hns₀ hsb₀ => ⟨(T.nolimit.keeps F.keep).fresh _ hsb₀, codeN_func ?_⟩) hk
  have hk₁ : ∀ b o, s.heap.get? b = some o → h₁.get? b = some o := fun b o e => hsb₀.extBut b o (Nat.ne_of_lt (Heap.lt_size e)) (Heap.get?_push_of_some _ e)
  exact wpN_mono (h _ s.heap.objs.size h₁ FG ⟨hns₀, fun b o e => hk₁ b o (of_hideAll _ e), Nat.le_of_eq (hideAll_size _ _)⟩
    (fun q hq => ⟨hk₁ _ _ (N q hq).1, Nat.ne_of_lt (Heap.lt_size (N q hq).1), hideAll_none _ (List.mem_map_of_mem hq)⟩) BG (X₀.keeps st) (T.keeps st) (fun q hq => Heap.lt_size (N q hq).1)) (fun fl s' hl => lv _ _ hl) fun _ _ y => y
end
section
variable {prog : Program} {w : World} {A : Around} {E : Value → Shared → Prop} {R : Result → Shared → Prop} {s : Shared} {env : Env} {h₀ : Heap}
theorem wpN_noted {α : Type} {M : Model} {m : Sem α} {Q : α → Shared → Prop} (h : wpN M A m Q (notedBy M A env E) s) : wpN M A (m.onRaise fun x => do noteFrame x env; theTreesLotGoes x) Q E s :=
  wpN_onRaise (wpN_mono h (fun _ _ q => q) fun _ _ hx => wpN_of (wpAny_bind (wpAny_mono hx (fun _ _ e => wpAny_theTreesLotGoes e) fun _ _ e => e)))
theorem fr_same {h h' : Heap} {L it : Addr} {m : Str → Option Value} (F : Fr h₀ L h m) (hs : Heap.SameBut it h h') (h1 : it ≠ L) (h2 : h₀.get? it = none) : Fr h₀ L h' m :=
  ⟨F.ns.sameBut hs h1.symm, fun b o e => (hs.2 b (fun q => by rw [q, h2] at e; cases e)).trans (F.keep b o e), F.above⟩
theorem fr_ext {h h' : Heap} {L it : Addr} {m : Str → Option Value} (F : Fr h₀ L h m) (hs : Heap.ExtBut it h h') (h1 : it ≠ L) (h2 : h₀.get? it = none) : Fr h₀ L h' m :=
  ⟨F.ns.extBut hs h1.symm, fun b o e => hs b o (fun q => by rw [q, h2] at e; cases e) (F.keep b o e), F.above⟩
theorem news_same {h h' : Heap} {L it : Addr} {news : List (Addr × Obj)} (N : News h₀ L h news) (hs : Heap.SameBut it h h') (h1 : ∀ p ∈ news, p.1 ≠ it) : News h₀ L h' news :=
  fun p hp => ⟨(hs.2 _ (h1 p hp)).trans (N p hp).1, (N p hp).2⟩
theorem news_ext {h h' : Heap} {L it : Addr} {news : List (Addr × Obj)} (N : News h₀ L h news) (hs : Heap.ExtBut it h h') (h1 : ∀ p ∈ news, p.1 ≠ it) : News h₀ L h' news :=
  fun p hp => ⟨hs _ _ (h1 p hp) (N p hp).1, (N p hp).2⟩
/-- what a turn of the loop keeps: the whole ledger of the frame, and a say on the frame's names -/
theorem codeN_forList {x : Str} {px : Pos} {body : List Stmt} {it l : Addr} {xs : List Value} {ep : Nat} {news : List (Addr × Obj)} (J : Nat → (Str → Option Value) → Prop)
    (hl : env.kindOf x = some .local) (hp : (env.scope.kind == .class || (env.scope.kind == .module && env.locals != env.globals)) = false) (hh : A.handled = none)
    (hlm : (l, W.listOf xs.toArray ep) ∈ news) (hit1 : it ≠ env.locals) (hit2 : h₀.get? it = none) (hit3 : ∀ p ∈ news, p.1 ≠ it)
    (turn : ∀ i v o h tk m, xs[i]? = some v → J i m → Fr h₀ env.locals h (fun y => if y = x then some v else m y) → News h₀ env.locals h ((it, o) :: news) →
      wpN (model prog w) A (execs body env) (fun f s' => f = .next ∧ ∃ h' tk' m', s' = { s with heap := h', toks := tk' } ∧ J (i + 1) m' ∧ Fr h₀ env.locals h' m' ∧ News h₀ env.locals h' ((it, o) :: news))
        (notedBy (model prog w) A env fun e s' => R (.error e) s') { s with heap := h, toks := tk })
    (fin : ∀ h tk m, J xs.length m → Fr h₀ env.locals h m → News h₀ env.locals h news → R (.ok .next) { s with heap := h, toks := tk }) :
    ∀ (k i : Nat) (h : Heap) (tk : Nat) (m : Str → Option Value), i + k = xs.length → J i m → Fr h₀ env.locals h m → News h₀ env.locals h news → h.IsListIter it l i →
      codeN (model prog w) A (.forLoop (.Name x px) (.ref it) body [] env) R { s with heap := h, toks := tk }
  | 0, i, h, tk, m, hk, hJ, F, N, hI => by
    have hk' : i = xs.length := by omega
    subst hk'
    refine codeN_tree rfl ?_
    show wpN _ _ ((forTurn (.Name x px) (.ref it) body [] env).onRaise (fun x => do noteFrame x env; theTreesLotGoes x)) _ _ _
    refine wpN_noted ?_
    simp only [forTurn]
    refine wpN_bind (wpN_standAt (wpN_bind (wpN_onRaise (wpN_of (wpAny_pyNext_list_end hh hI ⟨_, (N _ hlm).1, rfl, _, rfl⟩ (by simp) (fun h' hE => ?_))))))
    refine wpN_pure ⟨rfl, codeN_of (codeAny_block (wpAny_execs_nil ?_))⟩
    exact fin h' tk m hJ (fr_ext F hE hit1 hit2) (news_ext N hE hit3)
  | k + 1, i, h, tk, m, hk, hJ, F, N, hI => by
    have hlt : i < xs.length := by omega
    have hv : xs[i]? = some xs[i] := List.getElem?_eq_getElem hlt
    refine codeN_tree rfl ?_
    show wpN _ _ ((forTurn (.Name x px) (.ref it) body [] env).onRaise (fun x => do noteFrame x env; theTreesLotGoes x)) _ _ _
    refine wpN_noted ?_
    simp only [forTurn]
    refine wpN_bind (wpN_standAt (wpN_bind (wpN_onRaise (wpN_of (wpAny_pyNext_list_item hI ⟨_, (N _ hlm).1, rfl, _, rfl⟩ (x := xs[i]) (by rw [List.getElem?_toArray]; exact hv) (fun h' hI' hS => ?_))))))
    show wpN _ _ (letOwnedTupleGo (.Name x px) (.ref it) xs[i] >>= _) _ _ _
    refine wpN_then (m := letOwnedTupleGo (.Name x px) (.ref it) xs[i]) (wpAny_of_eq (a := ()) rfl ?_)
    have F' := fr_same F hS hit1 hit2
    have N' := news_same N hS hit3
    refine wpN_bind (wpN_assign_Name (wpN_of (wpAny_storeName_local hl F'.ns (fun h₂ hn hs => ?_) hp)))
    obtain ⟨o, ho, hc, hd⟩ := hI'
    have F₂ := F'.set hn hs
    have N₂ : News h₀ env.locals h₂ ((it, o) :: news) := fun p hp => by
      rcases List.mem_cons.mp hp with rfl | hp
      · exact ⟨(hs.2 _ hit1).trans ho, hit1, hit2⟩
      · exact N'.set hs p hp
    refine wpN_bind (wpN_mono (turn i xs[i] o h₂ _ m hv hJ F₂ N₂) (fun f s₃ h₃ => ?_) fun _ _ e => e)
    obtain ⟨rfl, h', tk', m', rfl, hJ', F₃, N₃⟩ := h₃
    exact wpN_pure ⟨rfl, codeN_forList J hl hp hh hlm hit1 hit2 hit3 turn fin k (i + 1) h' tk' m' (by omega) hJ' F₃ (fun p hp => N₃ p (List.mem_cons_of_mem _ hp)) ⟨o, (N₃ _ (List.mem_cons_self ..)).1, hc, hd⟩⟩
/-- what has to be known where the loop begins -/
def ForN (prog : Program) (w : World) (A : Around) (env : Env) (h₀ : Heap) (x : Str) (body : List Stmt) (Q : Flow → Shared → Prop) (E : Value → Shared → Prop) (v : Value) (s : Shared) : Prop :=
  ∃ (l : Addr) (xs : List Value) (ep : Nat) (m₁ : Str → Option Value) (news : List (Addr × Obj)) (J : Nat → (Str → Option Value) → Prop), v = .ref l ∧ Fr h₀ env.locals s.heap m₁ ∧ News h₀ env.locals s.heap news ∧ (l, W.listOf xs.toArray ep) ∈ news ∧ J 0 m₁ ∧
    (∀ it, (∀ p ∈ news, p.1 < it) → ∀ i v o h tk m, xs[i]? = some v → J i m → Fr h₀ env.locals h (fun y => if y = x then some v else m y) → News h₀ env.locals h ((it, o) :: news) →
      wpN (model prog w) A (execs body env) (fun f s' => f = .next ∧ ∃ h' tk' m', s' = { s with heap := h', toks := tk' } ∧ J (i + 1) m' ∧ Fr h₀ env.locals h' m' ∧ News h₀ env.locals h' ((it, o) :: news))
        (notedBy (model prog w) A env (cameBackBy (model prog w) A env E)) { s with heap := h, toks := tk }) ∧
    (∀ h tk m, J xs.length m → Fr h₀ env.locals h m → News h₀ env.locals h news → Q .next { s with heap := h, toks := tk })
theorem wpN_For {x : Str} {px pos : Pos} {iter : Expr} {body : List Stmt} {Q : Flow → Shared → Prop} (hh : A.handled = none)
    (hl : env.kindOf x = some .local) (hp : (env.scope.kind == .class || (env.scope.kind == .module && env.locals != env.globals)) = false)
    (hs : ∀ x, foldedSetIterable iter env x = pure x)
    (h : wpAny (model prog w) A (eval iter env) (ForN prog w A env h₀ x body Q E) E s) : wpN (model prog w) A (exec (.For (.Name x px) iter body [] pos) env) Q E s := by
  rw [exec_For]
  refine wpN_bind (wpN_standAt (wpN_then (wpAny_mono h (fun v s₁ hF => ?_) fun _ _ e => e)))
  obtain ⟨l, xs, ep, m₁, news, J, rfl, F, N, hlm, hJ, turn, fin⟩ := hF
  refine wpN_then (wpAny_of_eq (hs _) ?_)
  refine wpN_bind (wpN_standAt (wpN_bind (wpN_holding (wpN_of (wpAny_pyIter_list ⟨_, (N _ hlm).1, rfl, _, rfl⟩ ?_)))))
  have hnew : h₀.get? s₁.heap.objs.size = none := next_is_new F
  have hnL : s₁.heap.objs.size ≠ env.locals := fun q => absurd F.ns.lt (q ▸ Nat.lt_irrefl _)
  have hnn : ∀ p ∈ news, p.1 < s₁.heap.objs.size := fun p hp => Heap.lt_size (N p hp).1
  have hA : A.mark none = A := by cases A; cases hh; rfl
  unfold runOwn
  refine wpN_onRaise (wpN_mono (E := cameBackBy (model prog w) A env E) (wpN_run (A := A) (h := none) ?_) (fun _ _ q => q) fun _ _ q => wpN_of q)
  rw [hA]
  exact codeN_forList (s := s₁) (R := fun r s' => match r with | .ok f => Q f s' | .error e => cameBackBy (model prog w) A env E e s') J hl hp hh hlm hnL hnew (fun p hp => Nat.ne_of_lt (hnn p hp)) (turn _ hnn)
    fin xs.length 0 _ _ m₁ (Nat.zero_add _) hJ (F.push _) (fun p hp => ⟨Heap.get?_push_of_some _ (N p hp).1, (N p hp).2⟩) ⟨_, Heap.get?_push_size _ rfl, rfl, rfl⟩
end
/-- the def that the claim calls, entered with its cells -/
theorem callN_cells {prog : Program} {w : World} {A : Around} {R : Result → Shared → Prop} {s : Shared} {name : Str} {params : Arguments} {body : List Stmt} {scope : Scope}
    {pm cd doc : Value} {a : Addr} {o : Obj} {args : List Value} {binds : List (Str × Value)}
    (hroom : A.depth < recursionLimit) (ho : s.heap.get? a = some o) (hdata : o.data = .func (Calls.docDef name params body scope pm cd doc)) (hlim : s.heap.NoLimit) (hcd : s.heap.CodeRec cd name)
    (hbind : bindArgs (Calls.docDef name params body scope pm cd doc) ⟨args, []⟩ = pure binds)
    (hkind : ∀ x ∈ binds, scope.names.lookup x.1 = some .local ∨ (scope.names.lookup x.1 = some .cell ∧ ((cellsFrom (s.heap.objs.size + 1) scope.names []).lookup x.1).isSome = true))
    (hnd : ((cellsFrom 0 scope.names []).map (·.1)).Nodup)
    (h : ∀ h₁ tk cells, Fr s.heap s.heap.objs.size h₁ (bindL (envOfC name scope s.heap.objs.size a cd).kindOf binds fun _ => none) → News s.heap s.heap.objs.size h₁ cells →
      CellsAre (bindC (envOfC name scope s.heap.objs.size a cd).kindOf binds fun _ => none) (cellsFrom (s.heap.objs.size + 1) scope.names []) cells →
      wpN (model prog w) (A.deeper (envOfC name scope s.heap.objs.size a cd)) (execs body (envOfC name scope s.heap.objs.size a cd))
        (fun f s' => R (.ok (.ret (match f with | .ret v => v | _ => .none))) s')
        (fun e s' => wpAny (model prog w) (A.deeper (envOfC name scope s.heap.objs.size a cd)) (leaving (envOfC name scope s.heap.objs.size a cd) e) (fun _ s'' => R (.error e) s'') (fun e' s'' => R (.error e') s'') s') { s with heap := h₁, toks := tk })
    (hco : scope.isCoroutine = false) (hgen : scope.isGenerator = false) (hk : scope.kind = .function) :
    codeN (model prog w) A (.call (.ref a) ⟨args, []⟩) R s := by
  refine codeN_call_function hroom ho hdata hco hgen rfl hcd ?_
  rw [hbind]
  refine wpAny_pure (wpAny_newFunctionEnv_cells hk hkind fun env he s' x => ?_)
  subst he
  refine ⟨hlim.keeps x.toInCall.keep, codeN_func ?_⟩
  obtain ⟨h₁, tk, rfl, _⟩ := x.done
  obtain ⟨cells, N, Y⟩ := Cl.news (h₀ := s.heap) (Nat.le_refl _) fun n c hm => ⟨x.cell n c (lookup_of_mem_nodup (cellsFrom_names scope.names 0 (s.heap.objs.size + 1) [] [] rfl ▸ hnd) hm), x.above n c hm⟩
  exact h h₁ tk cells ⟨x.toInCall.ns, x.toInCall.keep, x.toInCall.fresh⟩ N Y
end Mine
end
section
open PySem PySem.W PyProof.Rows PySem.Calls Builtin
namespace Mine
/-! bytearrays: the type's facts -/
abbrev baObj (b : Array UInt8) : Obj := { cls := .type "bytearray", data := .bytearray b }
namespace FA
theorem owner : Manifest.owners.lookup (String.ofList ['y', 'a', 'r', 'r', 'a', 'e', 't', 'y', 'b'].reverse) = some Manifest.sig_bytearray := by kernel_rfl
theorem slot_getitem : Slot "bytearray" "__getitem__" "bytearray.__getitem__" :=
  .of (owner := "bytearray") (n := "__getitem__") (by rw [typeLookup_type, builtinLookup_eq_fast]; kernel_rfl) (by decide +kernel) (by decide +kernel) (by decide +kernel)
    (by first | exact .inl (by decide +kernel) | exact .inr (by decide +kernel)) (by rw [isSubtype_type]; kernel_rfl)
theorem entry_getitem : entryFor table "bytearray.__getitem__" = some Builtin.«bytearray.__getitem__» := entryFor_of_tree (by kernel_rfl)
theorem args_getitem (a b : Value) : argsOk "bytearray.__getitem__" ⟨[a, b], []⟩ := by
  unfold argsOk; kernel_rfl
theorem slot_eq : Slot "bytearray" (cmpInfo .Eq).2.1 "bytearray.__eq__" :=
  .of (owner := "bytearray") (n := "__eq__") (by rw [typeLookup_type, builtinLookup_eq_fast]; kernel_rfl) (by decide +kernel) (by decide +kernel) (by decide +kernel)
    (by first | exact .inl (by decide +kernel) | exact .inr (by decide +kernel)) (by rw [isSubtype_type]; kernel_rfl)
theorem entry_eq : entryFor table "bytearray.__eq__" = some Builtin.«bytearray.__eq__» := entryFor_of_tree (by kernel_rfl)
theorem args_eq (a b : Value) : argsOk "bytearray.__eq__" ⟨[a, b], []⟩ := by
  unfold argsOk; kernel_rfl
theorem slot_iter : Slot "bytearray" "__iter__" "bytearray.__iter__" :=
  .of (owner := "bytearray") (n := "__iter__") (by rw [typeLookup_type, builtinLookup_eq_fast]; kernel_rfl) (by decide +kernel) (by decide +kernel) (by decide +kernel)
    (by first | exact .inl (by decide +kernel) | exact .inr (by decide +kernel)) (by rw [isSubtype_type]; kernel_rfl)
theorem entry_iter : entryFor table "bytearray.__iter__" = some Builtin.«bytearray.__iter__» := entryFor_of_tree (by kernel_rfl)
theorem args_iter (a : Value) : argsOk "bytearray.__iter__" ⟨[a], []⟩ := by
  unfold argsOk; kernel_rfl
theorem slot_next : Slot "bytearray_iterator" "__next__" "bytearray_iterator.__next__" :=
  .of (owner := "bytearray_iterator") (n := "__next__") (by rw [typeLookup_type, builtinLookup_eq_fast]; kernel_rfl) (by decide +kernel) (by decide +kernel) (by decide +kernel)
    (by first | exact .inl (by decide +kernel) | exact .inr (by decide +kernel)) (by rw [isSubtype_type]; kernel_rfl)
theorem entry_next : entryFor table "bytearray_iterator.__next__" = some Builtin.«bytearray_iterator.__next__» := entryFor_of_tree (by kernel_rfl)
theorem args_next (a : Value) : argsOk "bytearray_iterator.__next__" ⟨[a], []⟩ := by unfold argsOk; kernel_rfl
theorem slot_self : Slot "bytearray_iterator" "__iter__" "bytearray_iterator.__iter__" :=
  .of (owner := "bytearray_iterator") (n := "__iter__") (by rw [typeLookup_type, builtinLookup_eq_fast]; kernel_rfl) (by decide +kernel) (by decide +kernel) (by decide +kernel)
    (by first | exact .inl (by decide +kernel) | exact .inr (by decide +kernel)) (by rw [isSubtype_type]; kernel_rfl)
theorem entry_self : entryFor table "bytearray_iterator.__iter__" = some Builtin.«dict_keyiterator.__iter__» := entryFor_alias (id' := "dict_keyiterator.__iter__") (by kernel_rfl) rfl (by decide +kernel) (by kernel_rfl)
theorem args_self (a : Value) : argsOk "bytearray_iterator.__iter__" ⟨[a], []⟩ := by unfold argsOk; kernel_rfl
theorem look_buffer : typeLookup (.type "bytearray") "__buffer__" = pure (some (.builtin "bytearray.__buffer__")) := by rw [typeLookup_type, builtinLookup_eq_fast]; kernel_rfl
theorem look_release : typeLookup (.type "bytearray") "__release_buffer__" = pure (some (.builtin "bytearray.__release_buffer__")) := by rw [typeLookup_type, builtinLookup_eq_fast]; kernel_rfl
theorem look_len : typeLookup (.type "bytearray") "__len__" = pure (some (.builtin "bytearray.__len__")) := by rw [typeLookup_type, builtinLookup_eq_fast]; kernel_rfl
theorem sub_self : isSubtype (.type "bytearray") (.type "bytearray") = pure true := by rw [isSubtype_type]; kernel_rfl
theorem sub_bytes : isSubtype (.type "bytearray") (.type "bytes") = pure false := by rw [isSubtype_type]; kernel_rfl
theorem sub_bytes' : isSubtype (.type "bytes") (.type "bytearray") = pure false := by rw [isSubtype_type]; kernel_rfl
theorem mro : mroOf (.type "bytearray") = pure [.type "bytearray", .type "object"] := by rw [mroOf_type]; kernel_rfl
theorem slot_init : Slot "bytearray" "__init__" "bytearray.__init__" :=
  .of (owner := "bytearray") (n := "__init__") (by rw [typeLookup_type, builtinLookup_eq_fast]; kernel_rfl) (by decide +kernel) (by decide +kernel) (by decide +kernel)
    (by first | exact .inl (by decide +kernel) | exact .inr (by decide +kernel)) (by rw [isSubtype_type]; kernel_rfl)
theorem entry_init : entryFor table "bytearray.__init__" = some Builtin.«bytearray.__init__» := entryFor_of_tree (by kernel_rfl)
theorem args_init (a b : Value) : argsOk "bytearray.__init__" ⟨[a, b], []⟩ := by unfold argsOk; kernel_rfl
theorem lookup_new : typeLookup (.type "bytearray") "__new__" = pure (some (.builtin "bytearray.__new__")) := by rw [typeLookup_type, builtinLookup_eq_fast]; kernel_rfl
theorem entry_new : entryFor table "bytearray.__new__" = some Builtin.«list.__new__» := entryFor_alias (id' := "list.__new__") (by kernel_rfl) rfl (by decide +kernel) (by kernel_rfl)
theorem called : TypeCalled "bytearray" "bytearray.__new__" "bytearray.__init__" :=
  ⟨by decide +kernel, by decide +kernel, ⟨_, _, mro⟩, madeBy_type mro lookup_new (by decide +kernel), by decide +kernel, by rw [isSubtype_type]; kernel_rfl, slot_init⟩
theorem typeCall (a : Value) : checkTypeCall "bytearray" ⟨[a], []⟩ = pure () := by kernel_rfl
theorem newCall (a : Value) : checkBuiltinCall "bytearray.__new__" ⟨[.type "bytearray", a], []⟩ = pure () := by kernel_rfl
theorem plain_new : plainId "bytearray.__new__" = true := by decide +kernel
theorem bind (v : Value) : Builtin.Bytes.bindOptional "bytearray.__init__" "bytearray" ["source", "encoding", "errors"] [v] [] = pure [some v, none, none] := by kernel_rfl
theorem list_no_index : typeLookup (.type "list") "__index__" = pure none := by rw [typeLookup_type, builtinLookup_eq_fast]; kernel_rfl
theorem list_no_buffer : typeLookup (.type "list") "__buffer__" = pure none := by rw [typeLookup_type, builtinLookup_eq_fast]; kernel_rfl
end FA
end Mine
end
section
open PySem PySem.W PyProof.Rows PySem.Calls Builtin
namespace Mine
section
variable {M : Model} {A : Around} {E : Value → Shared → Prop} {s : Shared} {a : Addr} {b : Array UInt8}
theorem ba_type (h : s.heap.get? a = some (baObj b)) : s.TypeIs (.ref a) "bytearray" := ⟨_, h, rfl⟩
theorem ba_payload {Q : Array UInt8 → Shared → Prop} (h : s.heap.get? a = some (baObj b)) (hQ : Q b s) : wpAny M A (Bytes.payload (.ref a)) Q E s := by
  unfold Bytes.payload Bytes.payload?
  refine wpAny_bind (wpAny_bind (wpAny_load h ?_))
  exact wpAny_pure (wpAny_pure hQ)
theorem ba_own_buffer {Q : Bool → Shared → Prop} (h : s.heap.get? a = some (baObj b)) (hQ : Q true s) : wpAny M A (Bytes.slotIsOwn (.ref a) "__buffer__") Q E s := by
  have key : ∀ x : String, x = "bytearray" → wpAny M A (isInstance (.ref a) (.type x)) Q E s := fun x hx => by
    rw [hx]; exact wpAny_isInstance (ba_type h) FA.sub_self hQ
  unfold Bytes.slotIsOwn
  refine wpAny_bind (wpAny_specialOf (ba_type h) FA.look_buffer ?_)
  try dsimp only
  split
  · rename_i hx; exact absurd hx (by decide +kernel)
  · exact key _ (by decide +kernel)
theorem ba_own_release {Q : Bool → Shared → Prop} (h : s.heap.get? a = some (baObj b)) (hQ : Q false s) : wpAny M A (Bytes.ownRelease (.ref a)) Q E s := by
  have key : ∀ x : String, x = "bytearray" → wpAny M A (isInstance (.ref a) (.type x)) (fun r s' => Q (!r) s') E s := fun x hx => by
    rw [hx]; exact wpAny_isInstance (ba_type h) FA.sub_self hQ
  unfold Bytes.ownRelease
  refine wpAny_bind ?_
  unfold Bytes.slotIsOwn
  refine wpAny_bind (wpAny_specialOf (ba_type h) FA.look_release ?_)
  try dsimp only
  split
  · rename_i hx; exact absurd hx (by decide +kernel)
  · refine wpAny_mono (key _ (by decide +kernel)) (fun r s' h' => wpAny_pure h') fun _ _ e => e
theorem ba_buffer {id : String} {full : Bool} {Q : Option (Array UInt8) → Shared → Prop} (h : s.heap.get? a = some (baObj b)) (hQ : Q (some b) s) : wpAny M A (Bytes.buffer? id (.ref a) full) Q E s := by
  unfold Bytes.buffer?
  refine wpAny_bind (wpAny_specialOf (ba_type h) FA.look_buffer ?_)
  try dsimp only
  refine wpAny_bind (ba_own_buffer h ?_)
  refine wpAny_bind (wpAny_specialOf (ba_type h) FA.look_buffer ?_)
  try dsimp only
  refine wpAny_bind (ba_own_release h ?_)
  refine wpAny_bind (ba_payload h (wpAny_pure hQ))
theorem ba_quiet {id : String} {Q : Option (Array UInt8) → Shared → Prop} (h : s.heap.get? a = some (baObj b)) (hQ : Q (some b) s) : wpAny M A (Bytes.bufferQuiet? id (.ref a)) Q E s := by
  unfold Bytes.bufferQuiet?
  refine wpAny_bind (wpAny_attempt (ba_buffer h ?_))
  exact wpAny_pure hQ
theorem str_no_buffer : typeLookup (.type "str") "__buffer__" = pure none := by rw [typeLookup_type, builtinLookup_eq_fast]; kernel_rfl
theorem str_quiet {id : String} {x : Str} {t : Tok} {Q : Option (Array UInt8) → Shared → Prop} (hQ : Q none s) : wpAny M A (Bytes.bufferQuiet? id (.str x t)) Q E s := by
  unfold Bytes.bufferQuiet?
  refine wpAny_bind (wpAny_attempt ?_)
  unfold Bytes.buffer?
  refine wpAny_bind (wpAny_specialOf (T := "str") rfl str_no_buffer ?_)
  try dsimp only
  refine wpAny_bind (wpAny_specialOf (T := "str") rfl str_no_buffer ?_)
  exact wpAny_pure (wpAny_pure hQ)
end
/-! the slice of a bytearray -/
theorem meets_baSlice (b : Array UInt8) (ba a : Addr) {l u : Value} {lo hi : Option Int} (hl : IsPart l lo) (hu : IsPart u hi) :
    Meets («bytearray.__getitem__» ⟨[.ref ba, .ref a], []⟩) (fun _ R s => s.heap.get? ba = some (baObj b) ∧ s.heap.IsSliceOf a l u .none ∧ (KBy.picked b lo hi).size ≤ sizeLine ∧
      R (.ok (.ret (.ref s.heap.objs.size))) { s with heap := s.heap.push (baObj (KBy.picked b lo hi)) }) := by
  refine .of_wp fun prog w A R s hS => ?_
  obtain ⟨hb, ⟨o, ho, hc, hd⟩, hsz, h⟩ := hS
  have hT : s.TypeIs (.ref a) "slice" := ⟨o, ho, hc⟩
  show wpAny _ _ (Bytes.subscript? (.ref a) >>= fun r => _) _ _ s
  refine wpAny_bind ?_
  unfold Bytes.subscript?
  refine wpAny_bind (wpAny_specialOf hT slice_no_index (wpAny_pure ?_))
  refine wpAny_bind (wpAny_typeOf hT ?_)
  show wpAny _ _ (Bytes.sliceParts (.ref a) >>= fun r => _) _ _ s
  refine wpAny_bind ?_
  unfold Bytes.sliceParts
  refine wpAny_bind (wpAny_field (x := .none) ho hd rfl ?_)
  kby_none
  refine wpAny_ite (KBy.ite_no (show ¬ ((Value.none == rawInt 0) = true) from Bool.false_ne_true) ?_)
  refine wpAny_bind (wpAny_field (x := l) ho hd rfl ?_)
  have go : wpAny (model prog w) A.in1 (sliceIndices (rawPart lo) (rawPart hi) (rawPart none) b.size) (fun r s' => r = sliceBounds lo hi none b.size ∧ s' = s) (fun _ _ => False) s :=
    wpAny_of_eq (sliceIndices_raw lo hi none b.size (fun e => nomatch e)) ⟨rfl, rfl⟩
  cases hl <;> cases hu <;> (first
    | (kby_none; (refine wpAny_bind (wpAny_field (x := .none) ho hd rfl ?_)); kby_none)
    | (kby_none; (refine wpAny_bind (wpAny_field (x := .int _ _) ho hd rfl ?_)); kby_int)
    | (kby_int; (refine wpAny_bind (wpAny_field (x := .none) ho hd rfl ?_)); kby_none)
    | (kby_int; (refine wpAny_bind (wpAny_field (x := .int _ _) ho hd rfl ?_)); kby_int)) <;> refine wpAny_pure ?_
  all_goals
    refine wpAny_bind (ba_payload hb ?_)
    refine wpAny_bind (wpAny_mono go (fun r s' hr => ?_) fun _ _ e => e.elim)
    obtain ⟨hr1, hr2⟩ := hr
    subst hr1 hr2
    refine wpAny_bind ?_
    unfold Bytes.newBytearray
    refine wpAny_newObj_type (wpAny_pure ⟨_, rfl, h⟩) hsz
section
variable {prog : Program} {w : World} {A : Around} {E : Value → Shared → Prop} {s : Shared} {value slice : PySem.Expr} {b : Array UInt8} {ba : Addr} {l u : Value} {lo hi : Option Int} {Q : Value → Shared → Prop}
theorem ba_slice (hb : s.heap.get? ba = some (baObj b)) (hl : IsPart l lo) (hu : IsPart u hi) (hz : (KBy.picked b lo hi).size ≤ sizeLine)
    (h : Q (.ref (s.heap.objs.size + 1)) { s with heap := (s.heap.push { cls := .type "slice", data := .fields #[l, u, .none] }).push (baObj (KBy.picked b lo hi)) })
    (hs : subscripted slice false (.ref ba) (.ref s.heap.objs.size) = operate [.ref s.heap.objs.size, .ref ba] (getItem (.ref ba) (.ref s.heap.objs.size)) := by with_unfolding_all rfl)
    (ht : ∀ r, letTemporaryGo value (.ref ba) r = pure () := by intro _; with_unfolding_all rfl) :
    wpAny (model prog w) A (subscriptTail value slice (.ref ba) (.ref s.heap.objs.size)) Q E { s with heap := s.heap.push { cls := .type "slice", data := .fields #[l, u, .none] } } := by
  have hb' : (s.heap.push { cls := .type "slice", data := .fields #[l, u, .none] }).get? ba = some (baObj b) := Heap.get?_push_of_some _ hb
  have hT : ({ s with heap := s.heap.push { cls := .type "slice", data := .fields #[l, u, .none] } } : Shared).TypeIs (.ref ba) "bytearray" := ba_type hb'
  refine tail_of_ItemOn ⟨"bytearray", _, FA.slot_getitem.lookup, hT, getItem_meets hT (by decide) FA.slot_getitem FA.entry_getitem (FA.args_getitem _ _) (meets_baSlice b ba _ hl hu) ⟨hb', Heap.IsSliceOf.new _ _ _ _, hz, ?_⟩⟩ hs ht
  have e : (s.heap.push { cls := .type "slice", data := .fields #[l, u, .none] }).objs.size = s.heap.objs.size + 1 := Heap.size_push _ _
  show Q (.ref (s.heap.push { cls := .type "slice", data := .fields #[l, u, .none] }).objs.size) _
  rw [e]
  exact h
end
end Mine
end
section
open PySem PySem.W PyProof.Rows PySem.Calls Builtin
namespace Mine
section
variable {M : Model} {A : Around} {E : Value → Shared → Prop} {s : Shared}
theorem cmp_left {a b : Value} {Ta Tb id : String} {op : CmpOp} {Q : Value → Shared → Prop} (ha : s.TypeIs a Ta) (hb : s.TypeIs b Tb)
    (hne : (Value.type Ta != Value.type Tb) = true) (hsub : isSubtype (.type Tb) (.type Ta) = pure false) (h : Slot Ta (cmpInfo op).2.1 id)
    (hc : wpAny M A (call (.builtin id) [a, b]) (fun v s' => v ≠ .notImplemented ∧ Q v s') E s) (hu : A.units < cLine) : wpAny M A (richCompare op a b) Q E s := by
  rcases hi : cmpInfo op with ⟨sym, f, r⟩
  rw [hi] at h
  simp only [richCompare, hi, ha.oneThing_none]
  refine wpAny_holding ?_
  refine wpAny_bind (wpAny_cRoomFor hu ?_)
  refine wpAny_bind (wpAny_typeOf ha (wpAny_bind (wpAny_typeOf hb ?_)))
  simp only [hne, if_true]
  refine wpAny_bind (wpAny_of_eq hsub ?_)
  simp only [Bool.false_eq_true, if_false]
  exact wpAny_bind (wpAny_tryCompare_slot ha h (wpAny_mono hc (fun v s' h' => ⟨h'.1, wpAny_pure h'.2⟩) fun _ _ h' => h'))
theorem cmp_right {a b : Value} {Ta Tb ida idb : String} {op : CmpOp} {Q : Value → Shared → Prop} (ha : s.TypeIs a Ta) (hb : s.TypeIs b Tb)
    (hne : (Value.type Ta != Value.type Tb) = true) (hsub : isSubtype (.type Tb) (.type Ta) = pure false) (h1 : Slot Ta (cmpInfo op).2.1 ida) (h2 : Slot Tb (cmpInfo op).2.2 idb)
    (hc : wpAny M A (call (.builtin ida) [a, b]) (fun v s₁ => v = .notImplemented ∧ s₁.TypeIs b Tb ∧ wpAny M A (call (.builtin idb) [b, a]) (fun v s₂ => v ≠ .notImplemented ∧ Q v s₂) E s₁) E s) (hu : A.units < cLine) :
    wpAny M A (richCompare op a b) Q E s := by
  rcases hi : cmpInfo op with ⟨sym, f, r⟩
  rw [hi] at h1 h2
  simp only [richCompare, hi, ha.oneThing_none]
  refine wpAny_holding ?_
  refine wpAny_bind (wpAny_cRoomFor hu ?_)
  refine wpAny_bind (wpAny_typeOf ha (wpAny_bind (wpAny_typeOf hb ?_)))
  simp only [hne, if_true]
  refine wpAny_bind (wpAny_of_eq hsub ?_)
  simp only [Bool.false_eq_true, if_false, Bool.not_false, if_true]
  refine wpAny_bind (m := tryCompare a _ b) (wpAny_tryCompare_declines ha h1 (wpAny_mono hc (fun v s₁ h₁ => ⟨h₁.1, ?_⟩) fun _ _ x => x))
  exact wpAny_bind (m := tryCompare b _ a) (wpAny_tryCompare_slot h₁.2.1 h2 (wpAny_mono h₁.2.2 (fun v s₂ h₂ => ⟨h₂.1, wpAny_pure h₂.2⟩) fun _ _ x => x))
theorem cmp_decline {a b : Value} {Ta Tb ida idb : String} {k : Bool} {Q : Value → Shared → Prop} (ha : s.TypeIs a Ta) (hb : s.TypeIs b Tb)
    (hne : (Value.type Ta != Value.type Tb) = true) (hsub : isSubtype (.type Tb) (.type Ta) = pure false) (h1 : Slot Ta (cmpInfo .Eq).2.1 ida) (h2 : Slot Tb (cmpInfo .Eq).2.2 idb) (hk : isSame a b = pure k)
    (hc : wpAny M A (call (.builtin ida) [a, b]) (fun v s₁ => v = .notImplemented ∧ s₁.TypeIs b Tb ∧ wpAny M A (call (.builtin idb) [b, a]) (fun v s₂ => v = .notImplemented ∧ Q (.bool k) s₂) E s₁) E s) (hu : A.units < cLine) :
    wpAny M A (richCompare .Eq a b) Q E s := by
  rcases hi : cmpInfo CmpOp.Eq with ⟨sym, f, r⟩
  rw [hi] at h1 h2
  simp only [richCompare, hi, ha.oneThing_none]
  refine wpAny_holding ?_
  refine wpAny_bind (wpAny_cRoomFor hu ?_)
  refine wpAny_bind (wpAny_typeOf ha (wpAny_bind (wpAny_typeOf hb ?_)))
  simp only [hne, if_true]
  refine wpAny_bind (wpAny_of_eq hsub ?_)
  simp only [Bool.false_eq_true, if_false, Bool.not_false, if_true]
  refine wpAny_bind (m := tryCompare a _ b) (wpAny_tryCompare_declines ha h1 (wpAny_mono hc (fun v s₁ h₁ => ⟨h₁.1, ?_⟩) fun _ _ x => x))
  refine wpAny_bind (m := tryCompare b _ a) (wpAny_tryCompare_declines h₁.2.1 h2 (wpAny_mono h₁.2.2 (fun v s₂ h₂ => ⟨h₂.1, ?_⟩) fun _ _ x => x))
  exact wpAny_bind (wpAny_rule (wpAny_bind (wpAny_of_eq hk (wpAny_pure h₂.2))))
end
theorem ba_eq_run {prog : Program} {w : World} {A : Around} {R : Result → Shared → Prop} {s : Shared} {a : Addr} {b c : Array UInt8} {x : Value} (h : s.heap.get? a = some (baObj b))
    (hx : ∀ (Q : Option (Array UInt8) → Shared → Prop) (E : Value → Shared → Prop), Q (some c) s → wpAny (model prog w) A.in1 (Bytes.bufferQuiet? "bytearray.__eq__" x) Q E s) (hR : R (.ok (.ret (.bool (b.toList == c.toList)))) s) :
    wpAny (model prog w) A.in1 (Builtin.«bytearray.__eq__» ⟨[.ref a, x], []⟩)
      (fun fin s' => match fin with | .done f => R (.ok f) s' | .again c' => c'.quiet = true ∧ codeAny (model prog w) A c' R s') (fun e s' => R (.error e) s') s := by
  show wpAny _ _ (Bytes.buffer? "bytearray.__eq__" (.ref a) >>= fun r => _) _ _ s
  refine wpAny_bind (ba_buffer h ?_)
  show wpAny _ _ (Bytes.bufferQuiet? "bytearray.__eq__" x >>= fun r => _) _ _ s
  refine wpAny_bind (hx _ _ ?_)
  show wpAny _ _ (ret (.bool (Bytes.order b.toList c.toList == .eq))) _ _ s
  rw [order_eq]
  exact wpAny_pure hR
theorem ba_eq_none {prog : Program} {w : World} {A : Around} {R : Result → Shared → Prop} {s : Shared} {a : Addr} {b : Array UInt8} {x : Value} (h : s.heap.get? a = some (baObj b))
    (hx : ∀ (Q : Option (Array UInt8) → Shared → Prop) (E : Value → Shared → Prop), Q none s → wpAny (model prog w) A.in1 (Bytes.bufferQuiet? "bytearray.__eq__" x) Q E s) (hR : R (.ok (.ret .notImplemented)) s) :
    wpAny (model prog w) A.in1 (Builtin.«bytearray.__eq__» ⟨[.ref a, x], []⟩)
      (fun fin s' => match fin with | .done f => R (.ok f) s' | .again c' => c'.quiet = true ∧ codeAny (model prog w) A c' R s') (fun e s' => R (.error e) s') s := by
  show wpAny _ _ (Bytes.buffer? "bytearray.__eq__" (.ref a) >>= fun r => _) _ _ s
  refine wpAny_bind (ba_buffer h ?_)
  show wpAny _ _ (Bytes.bufferQuiet? "bytearray.__eq__" x >>= fun r => _) _ _ s
  refine wpAny_bind (hx _ _ ?_)
  exact wpAny_bind (wpAny_rule (wpAny_pure hR))
section
variable {prog : Program} {w : World} {A : Around} {E : Value → Shared → Prop} {s : Shared} {a a' : Addr} {b c : Array UInt8} {t : Tok} {Q : Value → Shared → Prop}
theorem eq_ba_bytes (h : s.heap.get? a = some (baObj b)) (hu : A.units < cLine) (hQ : Q (.bool (b.toList == c.toList)) s) : wpAny (model prog w) A (compareOp .Eq (.ref a) (.bytes c t)) Q E s := by
  show wpAny _ A (richCompare .Eq _ _) Q E s
  refine cmp_left (ba_type h) (typeIs_bytes s c t) (by decide) FA.sub_bytes' FA.slot_eq ?_ hu
  refine wpAny_call (codeAny_call_builtin FA.slot_eq.plain FA.entry_eq (FA.slot_eq.check _ _ _ _ _ _ _ _ (ba_type h) (FA.args_eq _ _) ?_))
  refine ba_eq_run (R := fun r s' => match r with | .ok (.ret v) => v ≠ .notImplemented ∧ Q v s' | .ok _ => False | .error e => E e s') h (fun _ _ k => wpAny_of_eq KBy.quiet_eq k) ?_
  exact ⟨nofun, hQ⟩
theorem eq_ba_ba (h : s.heap.get? a = some (baObj b)) (h' : s.heap.get? a' = some (baObj c)) (hu : A.units < cLine) (hQ : Q (.bool (b.toList == c.toList)) s) : wpAny (model prog w) A (compareOp .Eq (.ref a) (.ref a')) Q E s := by
  show wpAny _ A (richCompare .Eq _ _) Q E s
  refine wpAny_richCompare_same_room (ba_type h) (ba_type h') FA.slot_eq ?_ hu
  refine wpAny_call (codeAny_call_builtin FA.slot_eq.plain FA.entry_eq (FA.slot_eq.check _ _ _ _ _ _ _ _ (ba_type h) (FA.args_eq _ _) ?_))
  refine ba_eq_run (R := fun r s' => match r with | .ok (.ret v) => v ≠ .notImplemented ∧ Q v s' | .ok _ => False | .error e => E e s') h (fun _ _ k => ba_quiet h' k) ?_
  exact ⟨nofun, hQ⟩
theorem bytes_eq_declines {x : Value} {T : String} (hT : s.TypeIs x T) (hs : isSubtype (.type T) (.type "bytes") = pure false) (hQ : Q .notImplemented s) : wpAny (model prog w) A (call (.builtin "bytes.__eq__") [.bytes b t, x]) Q E s := by
  refine wpAny_call (codeAny_call_builtin FB.slot_bytes_eq.plain FB.entry_bytes_eq (FB.slot_bytes_eq.check _ _ _ _ _ _ _ _ (typeIs_bytes s b t) (FB.args_bytes_eq_2 _ _) ?_))
  show wpAny _ _ (isInstance x (.type "bytes") >>= fun r => _) _ _ s
  refine wpAny_bind (wpAny_isInstance hT hs ?_)
  exact wpAny_bind (wpAny_rule (wpAny_pure hQ))
theorem eq_bytes_ba (h : s.heap.get? a = some (baObj b)) (hu : A.units < cLine) (hQ : Q (.bool (b.toList == c.toList)) s) : wpAny (model prog w) A (compareOp .Eq (.bytes c t) (.ref a)) Q E s := by
  show wpAny _ A (richCompare .Eq _ _) Q E s
  refine cmp_right (typeIs_bytes s c t) (ba_type h) (by decide) FA.sub_bytes FB.slot_bytes_eq FA.slot_eq ?_ hu
  refine bytes_eq_declines (ba_type h) FA.sub_bytes ⟨rfl, ba_type h, ?_⟩
  refine wpAny_call (codeAny_call_builtin FA.slot_eq.plain FA.entry_eq (FA.slot_eq.check _ _ _ _ _ _ _ _ (ba_type h) (FA.args_eq _ _) ?_))
  refine ba_eq_run (R := fun r s' => match r with | .ok (.ret v) => v ≠ .notImplemented ∧ Q v s' | .ok _ => False | .error e => E e s') h (fun _ _ k => wpAny_of_eq KBy.quiet_eq k) ?_
  exact ⟨nofun, hQ⟩
theorem str_eq_declines {x : Str} {v : Value} (hv : ∀ (A : Around) (Q : Option Str → Shared → Prop) (E : Value → Shared → Prop), Q none s → wpAny (model prog w) A (asStr? v) Q E s) (hQ : Q .notImplemented s) : wpAny (model prog w) A (call (.builtin "str.__eq__") [.str x t, v]) Q E s := by
  refine wpAny_call (codeAny_call_builtin F.slot_str_eq.plain F.entry_str_eq (F.slot_str_eq.check _ _ _ _ _ _ _ _ (typeIs_str s x t) (F.args_str_eq_2 _ _) ?_))
  show wpAny _ _ (asStr? v >>= fun r => _) _ _ s
  refine wpAny_bind (hv _ _ _ ?_)
  exact wpAny_bind (wpAny_rule (wpAny_pure hQ))
theorem eq_bytes_str {x : Str} {t' : Tok} (hu : A.units < cLine) (hQ : Q (.bool false) s) : wpAny (model prog w) A (compareOp .Eq (.bytes b t) (.str x t')) Q E s := by
  show wpAny _ A (richCompare .Eq _ _) Q E s
  refine cmp_decline (k := false) (typeIs_bytes s b t) (typeIs_str s x t') (by decide) F.sub_str_bytes FB.slot_bytes_eq F.slot_str_eq rfl ?_ hu
  refine bytes_eq_declines (typeIs_str s x t') F.sub_str_bytes ⟨rfl, typeIs_str s x t', ?_⟩
  exact str_eq_declines (fun A Q E k => wpAny_pure k) ⟨rfl, hQ⟩
theorem sub_str_ba : isSubtype (.type "str") (.type "bytearray") = pure false := by rw [isSubtype_type]; kernel_rfl
theorem sub_ba_str : isSubtype (.type "bytearray") (.type "str") = pure false := by rw [isSubtype_type]; kernel_rfl
theorem eq_ba_str {x : Str} {t' : Tok} (h : s.heap.get? a = some (baObj b)) (hu : A.units < cLine) (hQ : Q (.bool false) s) : wpAny (model prog w) A (compareOp .Eq (.ref a) (.str x t')) Q E s := by
  show wpAny _ A (richCompare .Eq _ _) Q E s
  refine cmp_decline (k := false) (ba_type h) (typeIs_str s x t') (by decide) sub_str_ba FA.slot_eq F.slot_str_eq rfl ?_ hu
  refine wpAny_call (codeAny_call_builtin FA.slot_eq.plain FA.entry_eq (FA.slot_eq.check _ _ _ _ _ _ _ _ (ba_type h) (FA.args_eq _ _) ?_))
  refine ba_eq_none (R := wants _ E) h (fun _ _ k => str_quiet k) ?_
  exact ⟨rfl, typeIs_str s x t', str_eq_declines (fun A Q E k => wpAny_bind (wpAny_load h (wpAny_pure k))) ⟨rfl, hQ⟩⟩
end
end Mine
end
section
open PySem PySem.W PyProof.Rows PySem.Calls Builtin
namespace Mine
theorem intsAre_of_get : ∀ {vs : List Value} {ks : List Int}, vs.length = ks.length → (∀ (i : Nat) (v : Value), vs[i]? = some v → ∃ k t, v = .int k t ∧ ks[i]? = some k) → IntsAre vs ks
  | [], [], _, _ => .nil
  | [], _ :: _, h, _ => by cases h
  | _ :: _, [], h, _ => by cases h
  | v :: vs, k :: ks, h, g => by
    obtain ⟨k', t, rfl, e⟩ := g 0 v rfl
    cases e
    exact .cons _ _ (intsAre_of_get (by simpa using h) fun i v' e => g (i + 1) v' e)
/-! the iterator of a bytearray -/
def IsBaIter (h : Heap) (I a : Addr) (b : Array UInt8) (i : Nat) : Prop := h.get? I = some { cls := .type "bytearray_iterator", data := .fields #[.ref a, .int i 0] } ∧ h.get? a = some (baObj b)
section
variable {prog : Program} {w : World} {A : Around} {E : Value → Shared → Prop} {s : Shared} {b : Array UInt8} {I a : Addr} {i : Nat}
theorem baIter_type (y : IsBaIter s.heap I a b i) : s.TypeIs (.ref I) "bytearray_iterator" := ⟨_, y.1, rfl⟩
theorem pyIter_ba {Q : Value → Shared → Prop} (h : s.heap.get? a = some (baObj b)) (hQ : Q (.ref s.heap.objs.size) { s with heap := s.heap.push { cls := .type "bytearray_iterator", data := .fields #[.ref a, .int 0 0] } }) :
    wpAny (model prog w) A (pyIter (.ref a)) Q E s := by
  refine wpAny_pyIter_slot (ba_type h) FA.slot_iter (wpAny_call_entry FA.slot_iter (ba_type h) FA.entry_iter ?_ (FA.args_iter _))
  show wpAny _ _ (do ret (← newFields "bytearray_iterator" [.ref a, rawInt 0])) _ _ s
  exact wpAny_bind (wpAny_newObj_type (wpAny_pure ⟨_, rfl, "bytearray_iterator", _, ⟨_, Heap.get?_push_size _ rfl, rfl⟩, FA.slot_next.lookup, hQ⟩))
theorem pyIter_baSelf {Q : Value → Shared → Prop} (y : IsBaIter s.heap I a b i) (h : Q (.ref I) s) : wpAny (model prog w) A (pyIter (.ref I)) Q E s := by
  refine wpAny_pyIter_slot (baIter_type y) FA.slot_self (wpAny_call_entry FA.slot_self (baIter_type y) FA.entry_self ?_ (FA.args_self _))
  show wpAny _ _ (ret (.ref I)) _ _ s
  exact wpAny_pure ⟨_, rfl, "bytearray_iterator", _, baIter_type y, FA.slot_next.lookup, h⟩
theorem baIter_item {c : UInt8} {Q : Option Value → Shared → Prop} (hne : a ≠ I) (y : IsBaIter s.heap I a b i) (hx : b[i]? = some c)
    (hQ : ∀ h', IsBaIter h' I a b (i + 1) → Heap.SameBut I s.heap h' → Q (some (.int (c.toNat : Int) s.toks)) { s with heap := h', toks := s.toks + 1 }) : wpAny (model prog w) A (pyNext (.ref I)) Q E s := by
  obtain ⟨ho, ha⟩ := id y
  unfold pyNext
  refine wpAny_bind (wpAny_attempt (wpAny_callSpecial?_slot (name := PySem.Str.ofString "__next__") (baIter_type y) FA.slot_next
    (wpAny_call_entry FA.slot_next (baIter_type y) FA.entry_next ?_ (FA.args_next _))))
  show wpAny _ _ (field (.ref I) 0 >>= _) _ _ s
  refine wpAny_bind (wpAny_field ho rfl (x := .ref a) rfl ?_)
  show wpAny _ _ (load a >>= _) _ _ s
  refine wpAny_bind (wpAny_load ha ?_)
  show wpAny _ _ (field (.ref I) 1 >>= _) _ _ s
  refine wpAny_bind (wpAny_field ho rfl (x := .int i 0) rfl ?_)
  simp only [Int.toNat_natCast, hx]
  refine wpAny_bind (wpAny_setField ho rfl (by simp) (wpAny_bind (wpAny_mkInt (wpAny_pure ⟨_, rfl, wpAny_pure (hQ _ ⟨?_, ?_⟩ (Heap.SameBut.update ..))⟩))))
  · exact Heap.get?_update_self _ ho rfl
  · exact (Heap.get?_update_other _ _ (Ne.symm hne)).trans ha
theorem baIter_end {Q : Option Value → Shared → Prop} (hh : A.handled = none) (y : IsBaIter s.heap I a b i) (hx : b[i]? = none)
    (hQ : ∀ h', Heap.ExtBut I s.heap h' → Q none { s with heap := h' }) : wpAny (model prog w) A (pyNext (.ref I)) Q E s := by
  obtain ⟨ho, ha⟩ := id y
  unfold pyNext
  refine wpAny_bind (wpAny_attempt (wpAny_callSpecial?_slot (name := PySem.Str.ofString "__next__") (baIter_type y) FA.slot_next
    (wpAny_call_entry FA.slot_next (baIter_type y) FA.entry_next ?_ (FA.args_next _))))
  show wpAny _ _ (field (.ref I) 0 >>= _) _ _ s
  refine wpAny_bind (wpAny_field ho rfl (x := .ref a) rfl ?_)
  show wpAny _ _ (load a >>= _) _ _ s
  refine wpAny_bind (wpAny_load ha ?_)
  show wpAny _ _ (field (.ref I) 1 >>= _) _ _ s
  refine wpAny_bind (wpAny_field ho rfl (x := .int i 0) rfl ?_)
  simp only [Int.toNat_natCast, hx]
  refine wpAny_bind (wpAny_rule (wpAny_bind (wpAny_setField ho rfl (by simp) (wpAny_bind (wpAny_letGo ?_)))))
  show wpAny _ _ (newExc (.type "StopIteration") [] >>= _) _ _ _
  refine wpAny_bind ?_
  simp only [newExc, newTuple]
  refine wpAny_bind (wpAny_newObj_type ?_ (by size_fits))
  refine wpAny_bind (m := firstArgMember _ _) (wpAny_of_eq (a := Value.none) (by first | rfl | (simp only [firstArgMember]; rfl)) ?_)
  refine wpAny_newObj_type ?_ (by size_fits)
  simp only [raiseNew]
  refine wpAny_bind (wpAny_handled ?_)
  rw [show A.in1.handled = none from hh]
  refine wpAny_bind (wpAny_pure (wpAny_throw ?_))
  refine wpAny_bind (wpAny_isInstance (T := "StopIteration") (b := true) ⟨_, Heap.get?_push_size _ rfl, rfl⟩ isSubtype_stop ?_)
  exact wpAny_pure (hQ _ (((Heap.SameBut.update ..).extBut.push _).push _))
end
theorem baWalks {prog : Program} {w : World} {A : Around} (hh : A.handled = none) (I a : Addr) (hne : a ≠ I) (b : Array UInt8) :
    Walks prog w A I [I, a] [I] b.size (fun i v => ∃ c u, b[i]? = some c ∧ v = .int (c.toNat : Int) u) (fun i h => IsBaIter h I a b i) where
  sub := fun b hb => by simp at hb; simp [hb]
  frame := fun _ _ _ st hk => ⟨hk I (by simp) _ st.1, hk a (by simp) _ st.2⟩
  item := fun i s Q E hi st hQ => by
    refine baIter_item hne st (c := b[i]) (by simp [hi]) fun h' hit' hs' => ?_
    exact hQ _ h' (s.toks + 1) ⟨_, _, by simp [hi], rfl⟩ hit' fun b o hb e => hs'.extBut b o (fun h => hb (by simp [h])) e
  done := fun s Q E st hQ => baIter_end hh st (by simp) fun h' he' => hQ h' s.toks fun b o hb e => he' b o (fun h => hb (by simp [h])) e
  self := fun _ _ _ _ st hQ => pyIter_baSelf st hQ
/-! list(..) of either kind -/
theorem ints_of_items {b : Array UInt8} {acc : Array Value} (h : ItemsOf (fun i v => ∃ c u, b[i]? = some c ∧ v = Value.int (c.toNat : Int) u) acc b.size) : IntsAre acc.toList (KBw.bInts b) := by
  refine intsAre_of_get (by rw [Array.length_toList, KBw.ints_length]; exact h.1) fun i v e => ?_
  obtain ⟨c, u, hc, rfl⟩ := h.2 i v (by rwa [← Array.getElem?_toList])
  exact ⟨_, u, rfl, KBw.ints_get hc⟩
theorem sub_bytes_self : isSubtype (.type "bytes") (.type "bytes") = pure true := by rw [isSubtype_type]; kernel_rfl
theorem bytes_len_look : typeLookup (.type "bytes") "__len__" = pure (some (.builtin "bytes.__len__")) := by rw [typeLookup_type, builtinLookup_eq_fast]; kernel_rfl
section
variable {prog : Program} {w : World} {A : Around} {E : Value → Shared → Prop} {s : Shared}
abbrev listEnd (M : Model) (A : Around) (R : Result → Shared → Prop) (fin : Fin) (s' : Shared) : Prop := match fin with | .done f => R (.ok f) s' | .again c' => c'.quiet = true ∧ codeAny M A c' R s'
theorem list_init_head {R : Result → Shared → Prop} {S : Addr} {x : Value} (hS : s.heap.get? S = some { cls := .type "list", data := .seq #[] })
    (h : wpAny (model prog w) A.in1 (Builtin.List.listExtendWith (.ref S) x .none) (listEnd (model prog w) A R) (fun e s' => R (.error e) s') { s with heap := s.heap.update S (Obj.mapSeq fun _ => (#[] : Array Value)) }) :
    wpAny (model prog w) A.in1 (Builtin.«list.__init__» ⟨[.ref S, x], []⟩) (listEnd (model prog w) A R) (fun e s' => R (.error e) s') s := by
  show wpAny _ A.in1 (do let old ← Builtin.List.listItems (.ref S); Builtin.List.listUpdate (.ref S) (fun _ => #[]); letGo old.toList.reverse; Builtin.List.listExtendWith (.ref S) x .none) _ _ s
  refine wpAny_bind ?_
  unfold Builtin.List.listItems
  refine wpAny_bind (wpAny_seqItems hS rfl (wpAny_pure ?_))
  show wpAny _ A.in1 (updateSeq S (fun _ => #[]) >>= fun _ => letGo (#[] : Array Value).toList.reverse >>= fun _ => Builtin.List.listExtendWith (.ref S) x .none) _ _ s
  refine wpAny_bind (wpAny_updateSeq hS rfl ?_)
  exact wpAny_bind (wpAny_letGo h)
theorem extend_bytes {R : Result → Shared → Prop} {S : Addr} {b : Array UInt8} {t : Tok} {c₀ : Nat} (hh : A.handled = none) (hn : b.size ≤ sizeLine)
    (hS : s.heap.get? S = some { cls := .type "list", data := .seq #[] c₀ })
    (hR : ∀ h' tk acc c', (∀ x o, x ≠ S → s.heap.get? x = some o → h'.get? x = some o) → h'.get? S = some { cls := .type "list", data := .seq acc c' } → IntsAre acc.toList (KBw.bInts b) → R (.ok (.ret .none)) { s with heap := h', toks := tk }) :
    wpAny (model prog w) A.in1 (Builtin.List.listExtendWith (.ref S) (.bytes b t) .none) (listEnd (model prog w) A R) (fun e s' => R (.error e) s') s := by
  unfold Builtin.List.listExtendWith
  refine wpAny_bind (wpAny_typeOf (T := "bytes") (v := .bytes b t) rfl ?_)
  have h1 : Builtin.List.listSameRef (.ref S) (.bytes b t) = false := rfl
  have h2 : (Value.type "bytes" == Value.type "list") = false := by decide
  have h3 : (Value.type "bytes" == Value.type "tuple") = false := by decide
  simp only [h1, h2, h3, Bool.or_false, Bool.false_eq_true, if_false]
  refine wpAny_bind (KBw.pyIter_bytes ?_)
  refine wpAny_bind (wpAny_holding ?_)
  unfold Builtin.List.listLengthHint
  refine wpAny_bind (wpAny_specialOf (T := "bytes") (v := .bytes b t) rfl bytes_len_look ?_)
  wp_delta
  refine wpAny_bind (wpAny_isInstance (T := "bytes") (v := .bytes b t) (b := true) rfl sub_bytes_self ?_)
  show wpAny _ A.in1 (typeOf (Value.bytes b t) >>= _) _ _ _
  refine wpAny_bind (wpAny_typeOf (T := "bytes") (v := .bytes b t) rfl ?_)
  refine wpAny_pure ?_
  rw [if_neg (by decide)]
  have W := KBw.walks (prog := prog) (w := w) (A := A.in1) hh s.heap.objs.size b t
  have hlt : S < s.heap.objs.size := Heap.lt_size hS
  have hSf : S ∉ [s.heap.objs.size] := fun hm => Nat.lt_irrefl _ ((List.mem_singleton.mp hm) ▸ hlt)
  refine wpAny_pure ⟨plainId_quiet F.plain_extend_loop _, codeAny_extend_loopS W.toS hn S hSf _ b.size 0 _ _ _ rfl (Nat.zero_le _) ⟨_, Heap.get?_push_size _ rfl, rfl, rfl⟩ (Heap.get?_push_of_some _ hS) (ItemsOf.nil _) fun s' acc' c' hm hS' hacc => ?_⟩
  obtain ⟨h', g', d', k', o'⟩ := s'
  have e1 := hm.gens
  have e2 := hm.drawn
  have e3 := hm.os
  dsimp only at e1 e2 e3
  subst e1 e2 e3
  refine hR h' k' acc' c' (fun x o hx e => hm.heap x o (fun hb => ?_) (Heap.get?_push_of_some _ e)) hS' (ints_of_items hacc)
  rcases List.mem_cons.mp hb with h | h
  · exact hx h
  · exact absurd (Heap.lt_size e) ((List.mem_singleton.mp h) ▸ Nat.lt_irrefl _)
theorem extend_ba {R : Result → Shared → Prop} {S a : Addr} {b : Array UInt8} {c₀ : Nat} (hh : A.handled = none) (hn : b.size ≤ sizeLine) (ha : s.heap.get? a = some (baObj b)) (hne : S ≠ a)
    (hS : s.heap.get? S = some { cls := .type "list", data := .seq #[] c₀ })
    (hR : ∀ h' tk acc c', (∀ x o, x ≠ S → s.heap.get? x = some o → h'.get? x = some o) → h'.get? S = some { cls := .type "list", data := .seq acc c' } → IntsAre acc.toList (KBw.bInts b) → R (.ok (.ret .none)) { s with heap := h', toks := tk }) :
    wpAny (model prog w) A.in1 (Builtin.List.listExtendWith (.ref S) (.ref a) .none) (listEnd (model prog w) A R) (fun e s' => R (.error e) s') s := by
  unfold Builtin.List.listExtendWith
  refine wpAny_bind (wpAny_typeOf (ba_type ha) ?_)
  have h1 : Builtin.List.listSameRef (.ref S) (.ref a) = false := by simp [Builtin.List.listSameRef, hne]
  have h2 : (Value.type "bytearray" == Value.type "list") = false := by decide
  have h3 : (Value.type "bytearray" == Value.type "tuple") = false := by decide
  simp only [h1, h2, h3, Bool.or_false, Bool.false_eq_true, if_false]
  refine wpAny_bind (pyIter_ba ha ?_)
  have ha' : (s.heap.push { cls := .type "bytearray_iterator", data := .fields #[.ref a, .int 0 0] }).get? a = some (baObj b) := Heap.get?_push_of_some _ ha
  have hT : ({ s with heap := s.heap.push { cls := .type "bytearray_iterator", data := .fields #[.ref a, .int 0 0] } } : Shared).TypeIs (.ref a) "bytearray" := ba_type ha'
  refine wpAny_bind (wpAny_holding ?_)
  unfold Builtin.List.listLengthHint
  refine wpAny_bind (wpAny_specialOf hT FA.look_len ?_)
  wp_delta
  refine wpAny_bind (wpAny_isInstance (b := true) hT FA.sub_self ?_)
  show wpAny _ A.in1 (typeOf (Value.ref a) >>= _) _ _ _
  refine wpAny_bind (wpAny_typeOf hT ?_)
  refine wpAny_pure ?_
  rw [if_neg (by decide)]
  have hla : a < s.heap.objs.size := Heap.lt_size ha
  have W := baWalks (prog := prog) (w := w) (A := A.in1) hh s.heap.objs.size a (Nat.ne_of_lt hla) b
  have hlt : S < s.heap.objs.size := Heap.lt_size hS
  have hSf : S ∉ [s.heap.objs.size, a] := fun hm => by
    rcases List.mem_cons.mp hm with h | h
    · exact Nat.lt_irrefl _ (h ▸ hlt)
    · exact hne (List.mem_singleton.mp h)
  refine wpAny_pure ⟨plainId_quiet F.plain_extend_loop _, codeAny_extend_loopS W.toS hn S hSf _ b.size 0 _ _ _ rfl (Nat.zero_le _) ⟨Heap.get?_push_size _ rfl, ha'⟩ (Heap.get?_push_of_some _ hS) (ItemsOf.nil _) fun s' acc' c' hm hS' hacc => ?_⟩
  obtain ⟨h', g', d', k', o'⟩ := s'
  have e1 := hm.gens
  have e2 := hm.drawn
  have e3 := hm.os
  dsimp only at e1 e2 e3
  subst e1 e2 e3
  refine hR h' k' acc' c' (fun x o hx e => hm.heap x o (fun hb => ?_) (Heap.get?_push_of_some _ e)) hS' (ints_of_items hacc)
  rcases List.mem_cons.mp hb with h | h
  · exact hx h
  · exact absurd (Heap.lt_size e) ((List.mem_singleton.mp h) ▸ Nat.lt_irrefl _)
end
end Mine
end
section
open PySem PySem.W PyProof.Rows PySem.Calls Builtin
namespace Mine
abbrev Led := List (Addr × Obj)
/-- a value that is bytes (arr false) or a bytearray (arr true) of these octets -/
def IsBuf (h : Heap) (v : Value) (b : Array UInt8) (arr : Bool) : Prop := match arr with
  | false => ∃ t, v = .bytes b t
  | true => ∃ a, v = .ref a ∧ h.get? a = some (baObj b)
theorem IsBuf.keeps {h h' : Heap} {v : Value} {b : Array UInt8} {arr : Bool} (x : IsBuf h v b arr) (hk : ∀ a o, h.get? a = some o → h'.get? a = some o) : IsBuf h' v b arr := by
  cases arr with
  | false => exact x
  | true => obtain ⟨a, e, ha⟩ := x; exact ⟨a, e, hk _ _ ha⟩
theorem fr_keeps {h₀ h h' : Heap} {L : Addr} {m : Str → Option Value} (F : Fr h₀ L h m) (hk : ∀ b o, h.get? b = some o → h'.get? b = some o) : Fr h₀ L h' m := ⟨F.ns.keeps hk, fun b o e => hk b o (F.keep b o e), F.above⟩
theorem news_keeps {h₀ h h' : Heap} {L : Addr} {news : Led} (N : News h₀ L h news) (hk : ∀ b o, h.get? b = some o → h'.get? b = some o) : News h₀ L h' news := fun p hp => ⟨hk _ _ (N p hp).1, (N p hp).2⟩
theorem news_cons {h₀ h h' : Heap} {L : Addr} {m : Str → Option Value} {news : Led} {o : Obj} (F : Fr h₀ L h m) (N : News h₀ L h news) (hk : ∀ b o, h.get? b = some o → h'.get? b = some o) {S : Addr} (hS : h.objs.size ≤ S) (ho : h'.get? S = some o) : News h₀ L h' ((S, o) :: news) := fun p hp => by
  rcases List.mem_cons.mp hp with rfl | hp
  · refine ⟨ho, Nat.ne_of_gt (Nat.lt_of_lt_of_le F.ns.lt hS), ?_⟩
    cases hq : h₀.get? S with
    | none => rfl
    | some o' => exact absurd (Nat.lt_of_lt_of_le (Heap.lt_size (F.keep _ _ hq)) hS) (Nat.lt_irrefl _)
  · exact ⟨hk _ _ (N p hp).1, (N p hp).2⟩
section
variable {prog : Program} {w : World} {A : Around} {E : Value → Shared → Prop} {s : Shared} {h₀ : Heap} {L : Addr} {m : Str → Option Value} {news : Led} {v : Value} {b : Array UInt8} {arr : Bool}
theorem call_list_buf {Q : Value → Shared → Prop} (hv : IsBuf s.heap v b arr) (hh : A.handled = none) (hn : b.size ≤ sizeLine) (hF : Fr h₀ L s.heap m) (hN : News h₀ L s.heap news)
    (hQ : ∀ S h' tk vs n, Fr h₀ L h' m → News h₀ L h' ((S, W.listOf (List.toArray vs) n) :: news) → IntsAre vs (KBw.bInts b) → (∀ p ∈ news, p.1 < S) → Q (.ref S) { s with heap := h', toks := tk }) :
    wpAny (model prog w) A (call (.type "list") [v]) Q E s := by
  refine callType_codes (Q₁ := fun obj s₁ => obj = .ref s.heap.objs.size ∧ s₁ = { s with heap := s.heap.push { cls := .type "list", data := .seq #[] } }) F.called_list (F.typeCall_list_1 _) F.entry_list_init
    (code_list_new _ ⟨rfl, rfl⟩) fun obj s₁ h₁ => ?_
  obtain ⟨rfl, rfl⟩ := h₁
  have hS : (s.heap.push { cls := .type "list", data := .seq #[] }).get? s.heap.objs.size = some { cls := .type "list", data := .seq #[] } := Heap.get?_push_size _ rfl
  have fin : ∀ h' tk acc c', (∀ x o, x ≠ s.heap.objs.size → (s.heap.push { cls := .type "list", data := .seq #[] }).get? x = some o → h'.get? x = some o) → h'.get? s.heap.objs.size = some { cls := .type "list", data := .seq acc c' } → IntsAre acc.toList (KBw.bInts b) →
      Q (.ref s.heap.objs.size) { s with heap := h', toks := tk } := fun h' tk acc c' hk hS' hi => by
    have hk' : ∀ x o, s.heap.get? x = some o → h'.get? x = some o := fun x o e => hk x o (Nat.ne_of_lt (Heap.lt_size e)) (Heap.get?_push_of_some _ e)
    refine hQ _ h' tk acc.toList c' (fr_keeps hF hk') (news_cons hF hN hk' (Nat.le_refl _) (by rw [Array.toArray_toList]; exact hS')) hi fun p hp => Heap.lt_size (hN p hp).1
  have oth : ∀ x o, x ≠ s.heap.objs.size → (s.heap.push { cls := .type "list", data := .seq #[] }).get? x = some o → ((s.heap.push { cls := .type "list", data := .seq #[] }).update s.heap.objs.size (Obj.mapSeq fun _ => (#[] : Array Value))).get? x = some o :=
    fun x o hx e => (Heap.get?_update_other _ _ (Ne.symm hx)).trans e
  refine ⟨⟨_, hS, rfl⟩, F.args_list_init_2 _ _, list_init_head (R := wants (fun r s₂ => r = .none ∧ Q (.ref s.heap.objs.size) s₂) E) hS ?_⟩
  have hS₂ := Heap.get?_update_self (Obj.mapSeq (fun _ => (#[] : Array Value))) hS rfl
  cases arr with
  | false =>
    obtain ⟨t, rfl⟩ := hv
    refine extend_bytes (c₀ := _) (A := A.in1) hh hn hS₂ fun h' tk acc c' hk hS' hi => ⟨rfl, ?_⟩
    exact fin h' tk acc c' (fun x o hx e => hk x o hx (oth x o hx e)) hS' hi
  | true =>
    obtain ⟨a, rfl, ha⟩ := hv
    have hlt : a < s.heap.objs.size := Heap.lt_size ha
    refine extend_ba (c₀ := _) (A := A.in1) hh hn (oth _ _ (Nat.ne_of_lt hlt) (Heap.get?_push_of_some _ ha)) (Nat.ne_of_gt hlt) hS₂ fun h' tk acc c' hk hS' hi => ⟨rfl, ?_⟩
    exact fin h' tk acc c' (fun x o hx e => hk x o hx (oth x o hx e)) hS' hi
/-- the slice of a bytearray -/
theorem ba_slice_K {value slice : PySem.Expr} {l u : Value} {lo hi : Option Int} {ba : Addr} {Q : Value → Shared → Prop} (hF : Fr h₀ L s.heap m) (hN : News h₀ L s.heap news) (hb : s.heap.get? ba = some (baObj b)) (hl : IsPart l lo) (hu : IsPart u hi) (hz : b.size ≤ sizeLine)
    (h : ∀ D h', Fr h₀ L h' m → News h₀ L h' ((D, baObj (KBy.picked b lo hi)) :: news) → (∀ p ∈ news, p.1 < D) → Q (.ref D) { s with heap := h' })
    (hs : subscripted slice false (.ref ba) (.ref s.heap.objs.size) = operate [.ref s.heap.objs.size, .ref ba] (getItem (.ref ba) (.ref s.heap.objs.size)) := by with_unfolding_all rfl)
    (ht : ∀ r, letTemporaryGo value (.ref ba) r = pure () := by intro _; with_unfolding_all rfl) :
    wpAny (model prog w) A (subscriptTail value slice (.ref ba) (.ref s.heap.objs.size)) Q E { s with heap := s.heap.push { cls := .type "slice", data := .fields #[l, u, .none] } } := by
  refine ba_slice hb hl hu (Nat.le_trans (KBc.size_picked_le b lo hi) hz) (h _ _ ?_ ?_ ?_) hs ht
  · exact (hF.push _).push _
  · refine news_cons hF hN (fun b o e => Heap.get?_push_of_some _ (Heap.get?_push_of_some _ e)) (Nat.le_succ _) ?_
    have e := Heap.get?_push_size (s.heap.push { cls := .type "slice", data := .fields #[l, u, .none] }) (o := baObj (KBy.picked b lo hi)) rfl
    rwa [Heap.size_push] at e
  · exact fun p hp => Nat.lt_succ_of_lt (Heap.lt_size (hN p hp).1)
end
end Mine
end
section
open PySem PySem.W PyProof.Rows PySem.Calls Builtin
namespace Mine
/-! isinstance(.., bytearray) -/
section
variable {prog : Program} {w : World} {A : Around} {E : Value → Shared → Prop} {s : Shared} {v : Value} {b : Array UInt8} {arr : Bool} {Q : Value → Shared → Prop}
theorem isi_buf (hv : IsBuf s.heap v b arr) (h : ∀ tk, Q (.bool arr) { s with toks := tk }) : wpAny (model prog w) A (call (.builtin "isinstance") [v, .type "bytearray"]) Q E s := by
  cases arr with
  | true =>
    obtain ⟨a, rfl, ha⟩ := hv
    exact call_isinstance (isinstance_true (Tx := "bytearray") F.isi_meta_bytearray FA.sub_self) ⟨ba_type ha, h s.toks⟩
  | false =>
    obtain ⟨t, rfl⟩ := hv
    have g : Meets (Builtin.«isinstance» ⟨[.bytes b t, .type "bytearray"], []⟩) (fun _ R s => R (.ok (.ret (.bool false))) { s with toks := s.toks + 1 }) := fun _ _ _ _ s hs => by
      obtain ⟨h, g, d, t, os⟩ := s
      exact isinstance_outer (isinstance_nested_false_bytes (by decide +kernel) F.isi_meta_bytearray FA.sub_bytes' hs)
    exact call_isinstance g (h _)
theorem boot_bytearray : bootBuiltins "bytearray" = some (.type "bytearray") := by decide +kernel
end
/-! Struct('<i').unpack_from -/
def fmtI : Struct.Format := { bigEndian := false, native := false, codes := [⟨'i', 1, 0, 4⟩], size := 4, items := 1 }
theorem parse_i : Struct.parse #[60, 105] = pure fmtI := by kernel_rfl
theorem unpack_bind (v x : Value) : Builtin.Bytes.bindOptional "_struct.Struct.unpack_from" "unpack_from" ["buffer", "offset"] [v, x] [] = pure [some v, some x] := by kernel_rfl
theorem entry_unpack : entryFor table "_struct.Struct.unpack_from" = some Builtin.«_struct.Struct.unpack_from» := entryFor_of_tree (by kernel_rfl)
theorem plainExc_struct : PlainExc "struct.error" := ⟨fun args => by rfl, by decide +kernel⟩
def sizeOf4 (b : Array UInt8) (k : Nat) : Int := if (Memoryview.littleEndian (b.extract k (k + 4)) : Nat) ≥ 2 ^ 31 then (Memoryview.littleEndian (b.extract k (k + 4)) : Int) - 2 ^ 32 else Memoryview.littleEndian (b.extract k (k + 4))
def sizeRaw (b : Array UInt8) (k : Nat) : Int :=
  if (Char.isLower 'i' && decide (Struct.natOf false (b.extract (k + 0 + 0 * 4) (k + 0 + (0 + 1) * 4)) ≥ 2 ^ (8 * 4 - 1))) = true then (Struct.natOf false (b.extract (k + 0 + 0 * 4) (k + 0 + (0 + 1) * 4)) : Int) - 2 ^ (8 * 4) else (Struct.natOf false (b.extract (k + 0 + 0 * 4) (k + 0 + (0 + 1) * 4)) : Int)
theorem unpacked_raw (id : String) (b : Array UInt8) (k : Nat) : Struct.unpacked id fmtI b k = (do let v ← mkInt (sizeRaw b k); newTuple [v]) := by
  kernel_rfl
theorem sizeRaw_eq (b : Array UInt8) (k : Nat) : sizeRaw b k = sizeOf4 b k := by
  unfold sizeRaw sizeOf4
  have e : Struct.natOf false (b.extract (k + 0 + 0 * 4) (k + 0 + (0 + 1) * 4)) = Memoryview.littleEndian (b.extract k (k + 4)) := by
    simp [Struct.natOf]
  have l : Char.isLower 'i' = true := by decide +kernel
  rw [e, l]
  simp
theorem unpacked_i (id : String) (b : Array UInt8) (k : Nat) : Struct.unpacked id fmtI b k = (do let v ← mkInt (sizeOf4 b k); newTuple [v]) := by rw [unpacked_raw, sizeRaw_eq]
abbrev structI : Obj := { cls := .type "_struct.Struct", data := .fields #[.bytes #[60, 105] 329] }
theorem natLen : ∀ n : Nat, n ≤ 99 → (toString n).length ≤ 2 := by decide
section
variable {prog : Program} {w : World} {A : Around} {E : Value → Shared → Prop} {s : Shared} {v : Value} {b : Array UInt8} {arr : Bool} {st : Addr}
theorem bytesLike_buf {id : String} {Q : Array UInt8 → Shared → Prop} (hv : IsBuf s.heap v b arr) (h : Q b s) : wpAny (model prog w) A (Bytes.bytesLike id v) Q E s := by
  unfold Bytes.bytesLike
  cases arr with
  | true =>
    obtain ⟨a, rfl, ha⟩ := hv
    exact wpAny_bind (ba_buffer ha (wpAny_pure h))
  | false =>
    obtain ⟨t, rfl⟩ := hv
    exact wpAny_bind (wpAny_of_eq KBy.buffer_eq (wpAny_pure h))
theorem structFormat_i {Q : Array UInt8 × Struct.Format → Shared → Prop} (hs : s.heap.get? st = some structI) (h : Q (#[60, 105], fmtI) s) : wpAny (model prog w) A (Struct.structFormat (.ref st)) Q E s := by
  unfold Struct.structFormat
  refine wpAny_bind (wpAny_field hs rfl (x := .bytes #[60, 105] 329) rfl ?_)
  show wpAny _ _ (if (Value.bytes #[60, 105] 329 == Value.none) = true then _ else _) _ _ s
  rw [if_neg (show ¬ ((Value.bytes #[60, 105] 329 == Value.none) = true) from Bool.false_ne_true)]
  refine wpAny_bind (wpAny_of_eq (a := #[60, 105]) rfl ?_)
  exact wpAny_bind (wpAny_of_eq parse_i (wpAny_pure h))
theorem rule_then {α : Type} {M : Model} {tag : String} {t : Sem α} {Q : α → Shared → Prop} (h : wpAny M A t Q E s) : wpAny M A (do rule tag; t) Q E s := wpAny_bind (wpAny_rule h)
theorem raise_then {α β : Type} {M : Model} {msg : String} {f : β → Sem α} {Q : α → Shared → Prop} (hh : A.handled = none) (hm : msg.length ≤ 400) (h : ∀ h' tk e, Heap.NewExc s.heap h' e "struct.error" → E (.ref e) { s with heap := h', toks := tk }) :
    wpAny M A (Struct.structError msg >>= f) Q E s := by
  unfold Struct.structError
  refine wpAny_bind (wpAny_raiseErrorMade plainExc_struct hh h ?_)
  rw [PySem.ofString_length, sizeLine_eq]
  omega
theorem placeIn_ok {n : Int} {Q : Nat → Shared → Prop} (h0 : 0 ≤ n) (h1 : n + 4 ≤ (b.size : Int)) (h : Q n.toNat s) : wpAny (model prog w) A (Struct.placeIn "unpack_from" "unpacking" "not enough data to unpack" fmtI b.size n) Q E s := by
  unfold Struct.placeIn
  have hn0 : ¬ n < 0 := by omega
  simp only [hn0, if_false]
  show wpAny _ _ (if (b.size : Int) - n < ((4 : Nat) : Int) then _ else _) _ _ _
  rw [if_neg (by omega)]
  exact wpAny_pure h
theorem intLen {n : Int} (h0 : 0 ≤ n) (h1 : n ≤ 99) : (toString n).length ≤ 3 := int_text_length_le10 (k := 2) (by decide) (by omega)
theorem placeIn_err {n : Int} {Q : Nat → Shared → Prop} (h0 : 0 ≤ n) (hn : n ≤ 40) (hb : b.size ≤ 20) (h1 : ¬ n + 4 ≤ (b.size : Int)) (hh : A.handled = none) (h : ∀ h' tk e, Heap.NewExc s.heap h' e "struct.error" → E (.ref e) { s with heap := h', toks := tk }) :
    wpAny (model prog w) A (Struct.placeIn "unpack_from" "unpacking" "not enough data to unpack" fmtI b.size n) Q E s := by
  unfold Struct.placeIn
  have hn0 : ¬ n < 0 := by omega
  simp only [hn0, if_false]
  show wpAny _ _ (if (b.size : Int) - n < ((4 : Nat) : Int) then _ else _) _ _ _
  rw [if_pos (by omega)]
  refine rule_then ?_
  have key : ∀ msg : String, msg.length ≤ 400 → wpAny (model prog w) A (do let _ ← (Struct.structError msg : Sem Unit); pure n.toNat) Q E s := fun msg hm => raise_then hh hm h
  refine key _ ?_
  have e1 := intLen h0 (by omega)
  have e2 : (toString (n + (fmtI.size : Int))).length ≤ 3 := intLen (by show 0 ≤ n + ((4 : Nat) : Int); omega) (by show n + ((4 : Nat) : Int) ≤ 99; omega)
  have e3 := natLen b.size (by omega)
  have e4 : (toString fmtI.size).length ≤ 2 := natLen 4 (by omega)
  generalize toString n = t1 at e1 ⊢
  generalize toString (n + (fmtI.size : Int)) = t2 at e2 ⊢
  generalize toString b.size = t3 at e3 ⊢
  generalize toString fmtI.size = t4 at e4 ⊢
  simp only [String.length_append]
  have c1 : (toString "unpack_from").length = 11 := by decide
  have c2 : (toString " requires a buffer of at least ").length = 31 := by decide
  have c3 : (toString " bytes for ").length = 11 := by decide
  have c4 : (toString "unpacking").length = 9 := by decide
  have c5 : (toString " ").length = 1 := by decide
  have c6 : (toString " bytes at offset ").length = 17 := by decide
  have c7 : (toString " (actual buffer size is ").length = 24 := by decide
  have c8 : (toString ")").length = 1 := by decide
  omega
theorem unpack_run {R : Result → Shared → Prop} {off : Int} {to : Tok} (hs : s.heap.get? st = some structI) (hv : IsBuf s.heap v b arr) (h0 : 0 ≤ off) (h1 : off ≤ 40) (hb : b.size ≤ 20) (hh : A.handled = none)
    (hok : off + 4 ≤ (b.size : Int) → ∀ tk t, R (.ok (.ret (.ref s.heap.objs.size))) { s with heap := s.heap.push { cls := .type "tuple", data := .seq #[.int (sizeOf4 b off.toNat) t] }, toks := tk })
    (herr : ¬ off + 4 ≤ (b.size : Int) → ∀ h' tk e, Heap.NewExc s.heap h' e "struct.error" → R (.error (.ref e)) { s with heap := h', toks := tk }) :
    wpAny (model prog w) A.in1 (Builtin.«_struct.Struct.unpack_from» ⟨[.ref st, v, .int off to], []⟩) (listEnd (model prog w) A R) (fun e s' => R (.error e) s') s := by
  unfold Builtin.«_struct.Struct.unpack_from»
  refine wpAny_bind (wpAny_of_eq (unpack_bind _ _) ?_)
  show wpAny _ _ (Struct.unpackFrom "_struct.Struct.unpack_from" (do return (← Struct.structFormat (.ref st)).2) v (some (.int off to))) _ _ s
  unfold Struct.unpackFrom
  refine wpAny_bind (bytesLike_buf hv ?_)
  have hidx : wpAny (model prog w) A.in1 (Bytes.indexHeld [v] (.int off to)) (fun n s' => n = off ∧ s' = s) (fun _ _ => False) s := by
    unfold Bytes.indexHeld
    refine wpAny_bind (wpAny_of_eq (a := some off) rfl ?_)
    show wpAny _ _ (if (_ || true) = true then _ else _) _ _ s
    rw [if_pos (by simp)]
    exact wpAny_of_eq (rfl : asIndex (.int off to) = pure off) ⟨rfl, rfl⟩
  show wpAny _ _ (Bytes.indexHeld [v] (.int off to) >>= _) _ _ s
  refine wpAny_bind (wpAny_mono hidx (fun n s' hn => ?_) fun _ _ e => False.elim e)
  obtain ⟨rfl, rfl⟩ := hn
  have hfit : Bytes.fitsIndex n = true := by simp only [Bytes.fitsIndex, Bool.and_eq_true, decide_eq_true_eq]; omega
  show wpAny _ _ (if (!Bytes.fitsIndex n) = true then _ else _) _ _ _
  rw [hfit, if_neg (by decide)]
  show wpAny _ _ ((do return (← Struct.structFormat (.ref st)).2) >>= _) _ _ _
  refine wpAny_bind (wpAny_bind (structFormat_i hs (wpAny_pure ?_)))
  show wpAny _ _ (Bytes.bytesLike "_struct.Struct.unpack_from" v >>= _) _ _ _
  refine wpAny_bind (bytesLike_buf hv ?_)
  show wpAny _ _ (Struct.placeIn "unpack_from" "unpacking" "not enough data to unpack" fmtI b.size n >>= _) _ _ _
  by_cases hfits : n + 4 ≤ (b.size : Int)
  · refine wpAny_bind (placeIn_ok h0 hfits ?_)
    rw [unpacked_i]
    refine wpAny_bind (wpAny_bind (wpAny_mkInt ?_))
    unfold newTuple
    refine wpAny_newObj_type ?_
    exact wpAny_pure (hok hfits _ _)
  · exact wpAny_bind (placeIn_err h0 h1 hb hfits hh (herr hfits))
end
end Mine
end
section
open PySem PySem.W PyProof.Rows PySem.Calls Builtin
namespace Mine
/-! bytearray(a list of octets), in a context without codecs -/
theorem exported_free {M : Model} {A : Around} {E : Value → Shared → Prop} {s : Shared} {self : Value} {Q : Bool → Shared → Prop} (h : Q false s) : wpN M A (Bytes.exported self) Q E s := by
  unfold Bytes.exported
  refine wpN_bind (wpN_stack fun st hst => wpN_pure ?_)
  have e : ∀ x ∈ st, held x.1 = false := fun x hx => by
    have := List.all_eq_true.mp hst x hx
    simpa using this
  refine (congrArg (fun b => Q b s) (?_ : _ = false)).mpr h
  refine Bool.eq_false_iff.mpr fun hany => ?_
  obtain ⟨x, hx, hf⟩ := List.any_eq_true.mp hany
  have hh := e x hx
  obtain ⟨c, p⟩ := x
  cases c with
  | builtin id args =>
    have hc : heldIds.contains id = false := hh
    revert hf
    split
    · rename_i q; cases q; exact absurd hc (by decide +kernel)
    · rename_i q; cases q; exact absurd hc (by decide +kernel)
    · rename_i q; cases q; exact absurd hc (by decide +kernel)
    · rename_i q; cases q; exact absurd hc (by decide +kernel)
    · rename_i q; cases q; exact absurd hc (by decide +kernel)
    · rename_i q
      cases q
      intro hf
      have hd : Bytes.decodersThatHold.contains id = false := by
        cases hq : Bytes.decodersThatHold.contains id with
        | false => rfl
        | true =>
          have : heldIds.contains id = true := by
            rw [List.contains_iff_mem] at hq ⊢
            exact List.mem_append_left _ hq
          rw [this] at hc
          cases hc
      rw [hd, Bool.and_false] at hf
      cases hf
    · intro hf; cases hf
  | _ => cases hf
theorem owner_ba_new : ("bytearray.__new__".splitOn ".__new__").headD "" = "bytearray" := by rw [split_bytearray]; rfl
section
variable {prog : Program} {w : World} {A : Around} {E : Value → Shared → Prop} {s : Shared}
theorem code_ba_new (a : Value) {Q₁ : Value → Shared → Prop}
    (h : Q₁ (.ref s.heap.objs.size) { s with heap := s.heap.push (baObj #[]) }) :
    codeAny (model prog w) A (.call (.builtin "bytearray.__new__") ⟨[.type "bytearray", a], []⟩) (wants Q₁ E) s := by
  refine codeAny_of_tree ?_
  show wpAny _ A.in1 (do checkBuiltinCall "bytearray.__new__" ⟨[.type "bytearray", a], []⟩; again (.builtin "bytearray.__new__" ⟨[.type "bytearray", a], []⟩)) _ _ s
  refine wpAny_bind (wpAny_of_eq (FA.newCall a) (wpAny_pure ⟨plainId_quiet FA.plain_new _, codeAny_builtin_stack FA.entry_new rfl fun p st => ?_⟩))
  rw [Around.under_plainId FA.plain_new _]
  have hsub := FA.sub_self
  have hown := owner_ba_new
  obtain ⟨hp, g, d, tk, os⟩ := s
  simp only [hown]
  wp_walk
  exact h
theorem take_octets : ∀ {vs : List Value} {ns : List Int}, IntsAre vs ns → (∀ n ∈ ns, 0 ≤ n ∧ n < 256) →
    (vs.takeWhile fun | .int i _ => decide (0 ≤ i) && decide (i < 256) | _ => false) = vs ∧ (vs.filterMap fun | .int i _ => some i.toNat.toUInt8 | _ => none) = ns.map fun n => n.toNat.toUInt8
  | _, _, .nil, _ => ⟨rfl, rfl⟩
  | _, _, .cons n t hr, h => by
    have ih := take_octets hr fun k hk => h k (List.mem_cons_of_mem _ hk)
    have hn := h n List.mem_cons_self
    constructor
    · simp only [List.takeWhile_cons, hn.1, hn.2, decide_true, Bool.and_true, if_true, ih.1]
    · simp only [List.filterMap_cons, List.map_cons, ih.2]
theorem write_ba {S : Addr} {b : Array UInt8} {f : Array UInt8 → Array UInt8} {Q : Unit → Shared → Prop} (hS : s.heap.get? S = some (baObj b)) (hz : (f b).size ≤ sizeLine) (h : Q () { s with heap := s.heap.update S (Obj.mapBytearray f) }) :
    wpAny (model prog w) A (Bytes.write (.ref S) f) Q E s := by
  show wpAny _ _ (updateBytearray S f) _ _ _
  unfold updateBytearray
  refine wpAny_bind (wpAny_load hS ?_)
  show wpAny _ _ (update S (Obj.mapBytearray f) >>= fun _ => lookBehind S) _ _ _
  refine wpAny_bind (wpAny_update hS ?_)
  have hS₂ : (s.heap.update S (Obj.mapBytearray f)).get? S = some (baObj (f b)) := Heap.get?_update_self (Obj.mapBytearray f) hS rfl
  refine wpAny_lookBehind hS₂ ?_ h
  show (if (f b).size > sizeLine then some "bytearray:memory" else none) = none
  rw [if_neg (Nat.not_lt.mpr hz)]
theorem ba_init {S l : Addr} {vs : List Value} {ns : List Int} {Q : PySem.Fin → Shared → Prop} (hS : s.heap.get? S = some (baObj #[])) (hl : s.heap.IsList l vs.toArray) (hi : IntsAre vs ns) (hr : ∀ n ∈ ns, 0 ≤ n ∧ n < 256) (hz : ns.length ≤ sizeLine)
    (hQ : ∀ h', h'.get? S = some (baObj (byteArr ns)) → (∀ x o, x ≠ S → s.heap.get? x = some o → h'.get? x = some o) → Q (.done (.ret .none)) { s with heap := h' }) :
    wpN (model prog w) A (Builtin.«bytearray.__init__» ⟨[.ref S, .ref l], []⟩) Q E s := by
  unfold Builtin.«bytearray.__init__»
  refine wpN_then (ba_own_release hS ?_)
  show wpN _ _ (Bytes.bindOptional "bytearray.__init__" "bytearray" ["source", "encoding", "errors"] [.ref l] [] >>= _) _ _ _
  refine wpN_then (wpAny_of_eq (FA.bind _) ?_)
  refine wpN_then (wpAny_of_eq (a := ()) rfl ?_)
  refine wpN_then (wpAny_of_eq (a := ()) rfl ?_)
  refine wpN_bind (wpN_bind (exported_free ?_))
  show wpN _ _ ((do return decide ((← Bytes.exportsOf (.ref S)) > 0)) : Sem Bool) _ _ _
  refine wpN_bind ?_
  unfold Bytes.exportsOf
  refine wpN_then (wpAny_load hS ?_)
  refine wpN_pure (wpN_pure ?_)
  show wpN _ _ (Bytes.write (.ref S) (fun _ => #[]) >>= _) _ _ _
  refine wpN_then (write_ba hS (Nat.zero_le _) ?_)
  have hS₂ : (s.heap.update S (Obj.mapBytearray fun _ => #[])).get? S = some (baObj #[]) := Heap.get?_update_self (Obj.mapBytearray fun _ => #[]) hS rfl
  have hne : l ≠ S := fun e => by
    obtain ⟨o, ho, hc, _⟩ := hl
    rw [e, hS] at ho
    cases ho
    exact absurd hc (by decide)
  have hl₂ : (s.heap.update S (Obj.mapBytearray fun _ => #[])).IsList l vs.toArray := hl.extBut (Heap.SameBut.update ..).extBut hne
  obtain ⟨ol, hol, hoc, nl, hod⟩ := id hl₂
  have hT : ({ s with heap := s.heap.update S (Obj.mapBytearray fun _ => #[]) } : Shared).TypeIs (.ref l) "list" := ⟨ol, hol, hoc⟩
  show wpN _ _ (asStr? (.ref l) >>= _) _ _ _
  refine wpN_bind ?_
  show wpN _ _ (load l >>= _) _ _ _
  refine wpN_then (wpAny_load hol ?_)
  rw [hod]
  refine wpN_pure ?_
  show wpN _ _ (specialOf (.ref l) (Str.ofString "__index__") >>= _) _ _ _
  refine wpN_then (wpAny_specialOf hT FA.list_no_index ?_)
  show wpN _ _ (Bytes.buffer? "bytearray.__init__" (.ref l) true >>= _) _ _ _
  refine wpN_bind ?_
  unfold Bytes.buffer?
  refine wpN_then (wpAny_specialOf hT FA.list_no_buffer ?_)
  refine wpN_then (wpAny_specialOf hT FA.list_no_buffer ?_)
  refine wpN_pure ?_
  show wpN _ _ (typeOf (.ref l) >>= _) _ _ _
  refine wpN_then (wpAny_typeOf hT ?_)
  show wpN _ _ (seqItems? (.ref l) >>= _) _ _ _
  refine wpN_then (wpAny_seqItems hol hod ?_)
  obtain ⟨t1, t2⟩ := take_octets hi hr
  have none_of : ∀ k, k = vs.length → vs.toArray[k]? = none := fun k e => by rw [e]; simp
  have fin : ∀ B : Array UInt8, B = byteArr ns → wpN (model prog w) A (do Bytes.write (.ref S) (fun _ => B); ret .none) Q E { s with heap := s.heap.update S (Obj.mapBytearray fun _ => #[]) } := fun B e => by
    subst e
    refine wpN_then (write_ba hS₂ (by rw [byteArr_size]; exact hz) ?_)
    refine wpN_pure (hQ _ (Heap.get?_update_self (Obj.mapBytearray fun _ => byteArr ns) hS₂ rfl) fun x o hx e => ?_)
    exact (Heap.get?_update_other _ _ (Ne.symm hx)).trans ((Heap.get?_update_other _ _ (Ne.symm hx)).trans e)
  have hQ' := hQ
  dsimp only
  split
  · refine wpN_then (wpAny_rule (fin _ ?_))
    exact congrArg List.toArray ((congrArg (List.filterMap _) t1).trans t2)
  · rename_i q
    exact absurd (q.symm.trans (none_of _ (congrArg List.length t1))) (by simp)
  · rename_i q
    exact absurd (q.symm.trans (none_of _ (congrArg List.length t1))) (by simp)
end
end Mine
end
section
open PySem PySem.W PyProof.Rows PySem.Calls Builtin
namespace Mine
section
variable {prog : Program} {w : World} {A : Around} {E : Value → Shared → Prop} {s : Shared}
theorem codeN_builtin {id : String} {args : Args} {b : Builtin} {R : Result → Shared → Prop} (hh : heldIds.contains id = false) (hb : entryFor table id = some b)
    (h : wpN (model prog w) (A.under (.builtin id args)) (b args) (fun fin s' => match fin with | .done f => R (.ok f) s' | .again c' => c'.quiet = true ∧ codeN (model prog w) A c' R s') (fun e s' => R (.error e) s') s) :
    codeN (model prog w) A (.builtin id args) R s := by
  refine codeN_tree hh ?_
  show wpN _ _ (match entryFor table id with | some b => b args | none => unsupported ((withoutEnding? id "#data").getD id)) _ _ s
  rw [hb]; exact h
theorem wpN_if_neg {α : Type} {M : Model} {c : Bool} {a b : Sem α} {Q : α → Shared → Prop} (hc : c = false) (h : wpN M A b Q E s) : wpN M A (if c = true then a else b) Q E s := by
  subst hc; exact h
theorem wpN_if_pos {α : Type} {M : Model} {c : Bool} {a b : Sem α} {Q : α → Shared → Prop} (hc : c = true) (h : wpN M A a Q E s) : wpN M A (if c = true then a else b) Q E s := by
  subst hc; exact h
theorem call_ba {l : Addr} {vs : List Value} {ns : List Int} {Q : Value → Shared → Prop} (hl : s.heap.IsList l vs.toArray) (hi : IntsAre vs ns) (hr : ∀ n ∈ ns, 0 ≤ n ∧ n < 256) (hz : ns.length ≤ sizeLine)
    (hQ : ∀ h', h'.get? s.heap.objs.size = some (baObj (byteArr ns)) → (∀ x o, s.heap.get? x = some o → h'.get? x = some o) → Q (.ref s.heap.objs.size) { s with heap := h' }) :
    wpN (model prog w) A (call (.type "bytearray") [.ref l]) Q E s := by
  have ft := FA.called
  refine wpN_call (codeN_tree rfl ?_)
  show wpN _ _ (callAny (.type "bytearray") ⟨[.ref l], []⟩) _ _ _
  refine wpN_pure ⟨Code.quiet_builtin _ (by decide +kernel), codeN_builtin (by decide +kernel) F.entry_type_call ?_⟩
  rw [Around.under_plain (weight_type_call_type "bytearray" [.ref l] []) rfl]
  unfold Builtin.«type.__call__»
  refine wpN_if_neg ft.notType ?_
  show wpN _ _ (if (((Manifest.find? "bytearray").bind (·.mro.findSome? fun t => (Manifest.find? t).bind fun b => if b.noNew then some true else if b.attrs.any (·.1 == "__new__") then some false else none)).getD false) = true then _ else _) _ _ _
  refine wpN_if_neg ft.canCreate ?_
  refine wpN_then (wpAny_of_eq (FA.typeCall _) ?_)
  refine wpN_then (wpAny_of_eq FA.mro ?_)
  refine wpN_if_neg rfl ?_
  show wpN _ _ (Bind.madeBy (.type "bytearray") >>= _) _ _ _
  refine wpN_then (wpAny_of_eq ft.made ?_)
  show wpN _ _ (holding [.builtin "bytearray.__new__"] (call (.builtin "bytearray.__new__") [.type "bytearray", .ref l] []) >>= _) _ _ _
  refine wpN_then (wpAny_holding (wpAny_call (code_ba_new (Q₁ := _) (.ref l) ?_)))
  have hS : (s.heap.push (baObj #[])).get? s.heap.objs.size = some (baObj #[]) := Heap.get?_push_size _ rfl
  have hT : ({ s with heap := s.heap.push (baObj #[]) } : Shared).TypeIs (.ref s.heap.objs.size) "bytearray" := ba_type hS
  refine wpN_then (wpAny_isInstance hT FA.sub_self ?_)
  refine wpN_if_neg rfl ?_
  refine wpN_bind (wpN_holding ?_)
  unfold callSpecial?
  refine wpN_then (wpAny_specialOf hT FA.slot_init.lookup ?_)
  refine wpN_holding ?_
  refine wpN_then (wpAny_of_eq (FA.slot_init.bind _) ?_)
  refine wpN_bind (wpN_call (codeN_tree rfl ?_))
  show wpN _ _ (do checkBuiltinCall "bytearray.__init__" ⟨[.ref s.heap.objs.size, .ref l], []⟩; again (.builtin "bytearray.__init__" ⟨[.ref s.heap.objs.size, .ref l], []⟩)) _ _ _
  refine wpN_then (FA.slot_init.check _ _ _ _ _ _ _ _ hT (FA.args_init _ _) ?_)
  refine wpN_pure ⟨plainId_quiet FA.slot_init.plain _, codeN_builtin (by decide +kernel) FA.entry_init ?_⟩
  refine ba_init hS (hl.push _) hi hr hz fun h' hb hk => ?_
  refine wpN_pure ?_
  refine wpN_pure ?_
  exact hQ h' hb fun x o e => hk x o (Nat.ne_of_lt (Heap.lt_size e)) (Heap.get?_push_of_some _ e)
end
end Mine
end
section
open PySem PySem.W PyProof.Rows PySem.Calls Builtin
namespace Mine
namespace FS
theorem plainAttrs : PlainAttrs "_struct.Struct" :=
  ⟨⟨"_struct.Struct.__getattribute__", by rw [typeLookup_type, builtinLookup_eq_fast]; kernel_rfl, by decide +kernel⟩, by rw [typeLookup_type, builtinLookup_eq_fast]; kernel_rfl⟩
theorem slot_unpack : Slot "_struct.Struct" "unpack_from" "_struct.Struct.unpack_from" :=
  .of (owner := "_struct.Struct") (n := "unpack_from") (by rw [typeLookup_type, builtinLookup_eq_fast]; kernel_rfl) (by decide +kernel) (by decide +kernel) (by decide +kernel)
    (by first | exact .inl (by decide +kernel) | exact .inr (by decide +kernel)) (by rw [isSubtype_type]; kernel_rfl)
theorem type_unpack : typeOf (.builtin "_struct.Struct.unpack_from") = pure (.type "method_descriptor") := by show builtinType _ = _; rw [builtinType_eq_fast]; kernel_rfl
theorem args_unpack (a b c : Value) : argsOk "_struct.Struct.unpack_from" ⟨[a, b, c], []⟩ := by unfold argsOk; kernel_rfl
end FS
end Mine
end
section
open PySem PySem.W PyProof.Rows PySem.Calls
namespace Mine
abbrev theLoose : List Str := [Str.ofString "uint32", Str.ofString "int32", Str.ofString "Uint32Flags", Str.ofString "Int32Flags", Str.ofString "GetBufferIdentifier", Str.ofString "BufferHasIdentifier"]
/-- what a call of the def at f hands back, in any frame -/
def Contract (n : Nat) (w : World) (f : Addr) (pos : List Value) (kw : List (Str × Value)) (pre : Led → Prop) (post : Value → Led → Prop) : Prop :=
  ∀ (mean : ExcName → Option Value) (mg mb : Str → Option Value) (dp un : Nat) (gd : Option (List Code)) (cn : Str) (nm : List (Str × NameKind)) (ig ic : Bool) (mo : List (Str × Const)) (a : Addr) (ccd : Value) (cl : List (Str × Addr)) (outer : List Env) (A₀ : Around) (base h₀ : Heap) (L : Addr) (m : Str → Option Value) (news : Led) (s : Shared) (Q E : Value → Shared → Prop),
    Below A₀ base outer h₀ → Fr h₀ L s.heap m → (hq.heap_39 w.params).In h₀ → News h₀ L s.heap news → Top hq.view_39 (looseW hq.view_39 theLoose) mean mg mb h₀ → dp + n < recursionLimit → un + 10 * n < cLine → pre news →
    (∀ r new h' tk, Fr h₀ L h' m → News h₀ L h' (new ++ news) → (∀ q ∈ news, ∀ p ∈ new, q.1 < p.1) → post r new → Q r { s with heap := h', toks := tk }) →
    wpAny (model PySem.Challenge.rw_ef5001_01.row.prog w) (ktrTop dp un gd cn ⟨.function, nm, ig, ic, mo⟩ L a ccd cl outer) (call (.ref f) pos kw) Q E s
theorem Contract.use {n : Nat} {w : World} {f : Addr} {pos : List Value} {kw : List (Str × Value)} {pre : Led → Prop} {post : Value → Led → Prop} (C : Contract n w f pos kw pre post)
    {mean : ExcName → Option Value} {mg mb : Str → Option Value} {dp un : Nat} {gd : Option (List Code)} {cn : Str} {nm : List (Str × NameKind)} {ig ic : Bool} {mo : List (Str × Const)} {a : Addr} {ccd : Value} {cl : List (Str × Addr)} {outer : List Env} {A₀ : Around} {base h₀ : Heap} {L : Addr} {m : Str → Option Value} {news : Led} {s : Shared} {Q E : Value → Shared → Prop}
    (B : Below A₀ base outer h₀) (F : Fr h₀ L s.heap m) (X : (hq.heap_39 w.params).In h₀) (N : News h₀ L s.heap news) (T : Top hq.view_39 (looseW hq.view_39 theLoose) mean mg mb h₀) (hd : dp + n < recursionLimit) (hu : un + 10 * n < cLine) (hp : pre news)
    (ret : ∀ r new h' tk, Fr h₀ L h' m → News h₀ L h' (new ++ news) → (∀ q ∈ news, ∀ p ∈ new, q.1 < p.1) → post r new → Q r { s with heap := h', toks := tk }) :
    wpAny (model PySem.Challenge.rw_ef5001_01.row.prog w) (ktrTop dp un gd cn ⟨.function, nm, ig, ic, mo⟩ L a ccd cl outer) (call (.ref f) pos kw) Q E s :=
  C _ _ _ _ _ _ _ _ _ _ _ _ _ _ _ _ _ _ _ _ _ _ _ _ B F X N T hd hu hp ret
local macro_rules | `(tactic| k_room) => `(tactic| ktr_room)
local macro_rules | `(tactic| walk_at "subscriptTail") => `(tactic| (k_here; (with_reducible show wpAny _ _ (subscriptTail _ (Expr.Slice _ _ none _) (Value.bytes _ _) (Value.ref _)) _ _ _); (with_reducible rename Fr _ _ _ _ => F'); (with_reducible rename News _ _ _ _ => N'); (refine KBc.slice_K (s := ⟨_, _, _, _, _⟩) F' N' rfl (by constructor) (by constructor) (by rw [KBw.ints_length]; omega) ?_); intro _ _ _ F' N' _))
local macro_rules | `(tactic| walk_at "subscriptTail") => `(tactic| (k_here; (with_reducible show wpAny _ _ (subscriptTail _ (Expr.Slice _ _ none _) (Value.ref _) (Value.ref _)) _ _ _); (with_reducible rename Fr _ _ _ _ => F'); (with_reducible rename News _ _ _ _ => N'); (refine ba_slice_K (s := ⟨_, _, _, _, _⟩) F' N' (News.get N' (by k_mem)) (by constructor) (by constructor) (by rw [sizeLine_eq]; omega) ?_); intro _ _ F' N' l1))
def startOf (pl : Int) (ahead : Bool) : Int := pl + (if ahead then 8 else 4)
abbrev idOf (b : Array UInt8) (pl : Int) (ahead : Bool) : Array UInt8 := KBy.picked b (some (startOf pl ahead)) (some (startOf pl ahead + 4))
theorem idOf_t (b : Array UInt8) (pl : Int) : KBy.picked b (some (pl + 4 + 4)) (some (pl + 4 + 4 + 4)) = idOf b pl true := by
  unfold idOf startOf
  have e : pl + 4 + 4 = pl + 8 := by omega
  rw [e]; rfl
theorem idOf_f (b : Array UInt8) (pl : Int) : KBy.picked b (some (pl + 4)) (some (pl + 4 + 4)) = idOf b pl false := rfl
theorem fin_bytes {h₀ : Heap} {L : Addr} {m : Str → Option Value} {news : Led} {s : Shared} {Q : Value → Shared → Prop} {b b' : Array UInt8} {t : Tok} {h' : Heap} {tk : Nat}
    (hret : ∀ r new h' tk, Fr h₀ L h' m → News h₀ L h' (new ++ news) → (∀ q ∈ news, ∀ p ∈ new, q.1 < p.1) → (fun (r : Value) (new : Led) => new = [] ∧ ∃ t, r = .bytes b t) r new → Q r { s with heap := h', toks := tk })
    (F : Fr h₀ L h' m) (N : News h₀ L h' news) (e : b' = b) : Q (.bytes b' t) { s with heap := h', toks := tk } := by
  subst e
  exact hret _ [] _ _ F N (fun _ _ _ h => nomatch h) ⟨rfl, _, rfl⟩
theorem fin_ba {h₀ : Heap} {L : Addr} {m : Str → Option Value} {news : Led} {s : Shared} {Q : Value → Shared → Prop} {b b' : Array UInt8} {D : Addr} {h' : Heap} {tk : Nat}
    (hret : ∀ r new h' tk, Fr h₀ L h' m → News h₀ L h' (new ++ news) → (∀ q ∈ news, ∀ p ∈ new, q.1 < p.1) → (fun (r : Value) (new : Led) => ∃ D, r = .ref D ∧ new = [(D, baObj b)]) r new → Q r { s with heap := h', toks := tk })
    (F : Fr h₀ L h' m) (N : News h₀ L h' ((D, baObj b') :: news)) (l : ∀ p ∈ news, p.1 < D) (e : b' = b) : Q (.ref D) { s with heap := h', toks := tk } := by
  subst e
  exact hret _ [(D, baObj b')] _ _ F N (fun q hq p hp => by rw [List.mem_singleton.mp hp]; exact l q hq) ⟨D, rfl, rfl⟩
set_option maxHeartbeats 4000000 in
theorem gbi_bytes {w : World} {b : Array UInt8} {tb : Tok} {pl : Int} {tp : Tok} {ahead : Bool} (hb : b.size ≤ 20) :
    Contract 2 w 106 [.bytes b tb, .int pl tp] [(Str.ofString "size_prefixed", .bool ahead)] (fun _ => True) (fun r new => new = [] ∧ ∃ t, r = .bytes (idOf b pl ahead) t) := by
  unfold Contract
  intro mean mg mb dp un gd cn nm ig ic mo a ccd cl outer A₀ base h₀ L m news s Q E B F X N T hd hu hpre hret
  revert X; w_top off; k_fill; intro X
  k_steps
  all_goals
    refine fin_bytes hret (by assumption) (by assumption) ?_
    first
    | (rw [show ahead = true by assumption]; exact idOf_t b pl)
    | (rw [show ahead = false by assumption]; exact idOf_f b pl)
set_option maxHeartbeats 4000000 in
theorem gbi_ba {w : World} {b : Array UInt8} {ba : Addr} {pl : Int} {tp : Tok} {ahead : Bool} (hb : b.size ≤ 20) :
    Contract 2 w 106 [.ref ba, .int pl tp] [(Str.ofString "size_prefixed", .bool ahead)] (fun news => (ba, baObj b) ∈ news) (fun r new => ∃ D, r = .ref D ∧ new = [(D, baObj (idOf b pl ahead))]) := by
  unfold Contract
  intro mean mg mb dp un gd cn nm ig ic mo a ccd cl outer A₀ base h₀ L m news s Q E B F X N T hd hu hpre hret
  revert X; w_top off; k_fill; intro X
  k_steps
  all_goals
    refine fin_ba hret (by assumption) (by assumption) (by assumption) ?_
    first
    | (rw [show ahead = true by assumption]; exact idOf_t b pl)
    | (rw [show ahead = false by assumption]; exact idOf_f b pl)
end Mine
end
section
open PySem PySem.W PyProof.Rows PySem.Calls
namespace Mine
local macro_rules | `(tactic| k_room) => `(tactic| ktr_room)
local macro_rules | `(tactic| k_mem) => `(tactic| (refine List.mem_cons_of_mem _ ?_; k_mem))
local macro_rules | `(tactic| walk_at "call ref") => `(tactic| (k_here; (with_reducible show wpAny _ _ (call (Value.ref 106) (Value.bytes _ _ :: _) _) _ _ _); k_dflt (refine' Contract.use (gbi_bytes ?cb) ?k1 ?k2 ?k3 ?k4 ?k5 ?kd ?ku trivial ?_; (case cb => omega); (case k1 => k_asm); (case k2 => k_asm); (case k3 => k_asm); (case k4 => k_asm); (case k5 => k_asm); (case kd => ktr_room); (case ku => ktr_units)); intro r' new' h' tk' F' N' l1 hp'; obtain ⟨hn', t', hr'⟩ := hp'; subst hn' hr'; (try simp only [List.nil_append] at N')))
local macro_rules | `(tactic| walk_at "call ref") => `(tactic| (k_here; (with_reducible show wpAny _ _ (call (Value.ref 106) (Value.ref _ :: _) _) _ _ _); k_dflt (refine' Contract.use (gbi_ba ?cb) ?k1 ?k2 ?k3 ?k4 ?k5 ?kd ?ku ?kp ?_; (case k1 => k_asm); (case k2 => k_asm); (case k3 => k_asm); (case k4 => k_asm); (case k5 => k_asm); (case kp => ((try dsimp only); k_mem)); (case cb => assumption); (case kd => ktr_room); (case ku => ktr_units)); intro r' new' h' tk' F' N' l1 hp'; obtain ⟨D', hr', hn'⟩ := hp'; subst hn' hr'; (try simp only [List.cons_append, List.nil_append] at N')))
theorem fin_val {h₀ : Heap} {L : Addr} {m : Str → Option Value} {news : Led} {s : Shared} {Q : Value → Shared → Prop} {v v' : Value} {h' : Heap} {tk : Nat}
    (hret : ∀ r new h' tk, Fr h₀ L h' m → News h₀ L h' (new ++ news) → (∀ q ∈ news, ∀ p ∈ new, q.1 < p.1) → (fun (r : Value) (new : Led) => new = [] ∧ r = v) r new → Q r { s with heap := h', toks := tk })
    (F : Fr h₀ L h' m) (N : News h₀ L h' news) (e : v' = v) : Q v' { s with heap := h', toks := tk } := by
  subst e
  exact hret _ [] _ _ F N (fun _ _ _ h => nomatch h) ⟨rfl, rfl⟩
theorem drop_new {h₀ h : Heap} {L : Addr} {p : Addr × Obj} {news : Led} (N : News h₀ L h (p :: news)) : News h₀ L h news := fun q hq => N q (List.mem_cons_of_mem _ hq)
local macro_rules | `(tactic| walk_at "compareOp Eq") => `(tactic| (k_here; (with_reducible show wpAny _ _ (compareOp CmpOp.Eq (Value.bytes _ _) (Value.str _ _)) _ _ _); refine' eq_bytes_str ?cu ?_; (case cu => ktr_units)))
local macro_rules | `(tactic| walk_at "compareOp Eq") => `(tactic| (k_here; (with_reducible show wpAny _ _ (compareOp CmpOp.Eq (Value.ref _) (Value.str _ _)) _ _ _); (with_reducible rename News _ _ _ _ => N'); k_dflt (refine' eq_ba_str (News.get N' ?cm) ?cu ?_; (case cm => k_mem); (case cu => ktr_units))))
local macro_rules | `(tactic| walk_at "compareOp Eq") => `(tactic| (k_here; (with_reducible show wpAny _ _ (compareOp CmpOp.Eq (Value.ref _) (Value.bytes _ _)) _ _ _); (with_reducible rename News _ _ _ _ => N'); k_dflt (refine' eq_ba_bytes (News.get N' ?cm) ?cu ?_; (case cm => k_mem); (case cu => ktr_units))))
local macro_rules | `(tactic| walk_at "compareOp Eq") => `(tactic| (k_here; (with_reducible show wpAny _ _ (compareOp CmpOp.Eq (Value.bytes _ _) (Value.ref _)) _ _ _); (with_reducible rename News _ _ _ _ => N'); k_dflt (refine' eq_bytes_ba (News.get N' ?cm) ?cu ?_; (case cm => k_mem); (case cu => ktr_units))))
local macro_rules | `(tactic| walk_at "compareOp Eq") => `(tactic| (k_here; (with_reducible show wpAny _ _ (compareOp CmpOp.Eq (Value.ref _) (Value.ref _)) _ _ _); (with_reducible rename News _ _ _ _ => N'); k_dflt (refine' eq_ba_ba (News.get N' ?cm) (News.get N' ?cn) ?cu ?_; (case cm => k_mem); (case cn => k_mem); (case cu => ktr_units))))
set_option maxHeartbeats 4000000 in
theorem bhi_bytes_bytes {w : World} {b : Array UInt8} {c : Array UInt8} {tb tc : Tok} {pl : Int} {tp : Tok} {ahead : Bool} (hb : b.size ≤ 20) :
    Contract 4 w 114 [.bytes b tb, .int pl tp, .bytes c tc, .bool ahead] [] (fun news => True) (fun r new => new = [] ∧ r = .bool ((idOf b pl ahead).toList == c.toList)) := by
  unfold Contract
  intro mean mg mb dp un gd cn nm ig ic mo a ccd cl outer A₀ base h₀ L m news s Q E B F X N T hd hu hpre hret
  (try dsimp only at hpre)
  revert X; w_top off; k_fill; intro X
  k_steps
  all_goals first
    | exact fin_val hret (by assumption) (by assumption) rfl
    | exact fin_val hret (by assumption) (drop_new (by assumption)) rfl
set_option maxHeartbeats 4000000 in
theorem bhi_bytes_str {w : World} {b : Array UInt8} {c : Str} {tb tc : Tok} {pl : Int} {tp : Tok} {ahead : Bool} (hb : b.size ≤ 20) :
    Contract 4 w 114 [.bytes b tb, .int pl tp, .str c tc, .bool ahead] [] (fun news => True) (fun r new => new = [] ∧ r = .bool false) := by
  unfold Contract
  intro mean mg mb dp un gd cn nm ig ic mo a ccd cl outer A₀ base h₀ L m news s Q E B F X N T hd hu hpre hret
  (try dsimp only at hpre)
  revert X; w_top off; k_fill; intro X
  k_steps
  all_goals first
    | exact fin_val hret (by assumption) (by assumption) rfl
    | exact fin_val hret (by assumption) (drop_new (by assumption)) rfl
set_option maxHeartbeats 4000000 in
theorem bhi_bytes_ba {w : World} {b : Array UInt8} {c : Array UInt8} {tb : Tok} {o : Addr} {pl : Int} {tp : Tok} {ahead : Bool} (hb : b.size ≤ 20) :
    Contract 4 w 114 [.bytes b tb, .int pl tp, .ref o] [(Str.ofString "size_prefixed", .bool ahead)] (fun news => (o, baObj c) ∈ news) (fun r new => new = [] ∧ r = .bool (c.toList == (idOf b pl ahead).toList)) := by
  unfold Contract
  intro mean mg mb dp un gd cn nm ig ic mo a ccd cl outer A₀ base h₀ L m news s Q E B F X N T hd hu hpre hret
  (try dsimp only at hpre)
  revert X; w_top off; k_fill; intro X
  k_steps
  all_goals first
    | exact fin_val hret (by assumption) (by assumption) rfl
    | exact fin_val hret (by assumption) (drop_new (by assumption)) rfl
set_option maxHeartbeats 4000000 in
theorem bhi_ba_bytes {w : World} {b : Array UInt8} {c : Array UInt8} {ba : Addr} {tc : Tok} {pl : Int} {tp : Tok} {ahead : Bool} (hb : b.size ≤ 20) :
    Contract 4 w 114 [.ref ba, .int pl tp, .bytes c tc, .bool ahead] [] (fun news => (ba, baObj b) ∈ news) (fun r new => new = [] ∧ r = .bool ((idOf b pl ahead).toList == c.toList)) := by
  unfold Contract
  intro mean mg mb dp un gd cn nm ig ic mo a ccd cl outer A₀ base h₀ L m news s Q E B F X N T hd hu hpre hret
  (try dsimp only at hpre)
  revert X; w_top off; k_fill; intro X
  k_steps
  all_goals first
    | exact fin_val hret (by assumption) (by assumption) rfl
    | exact fin_val hret (by assumption) (drop_new (by assumption)) rfl
set_option maxHeartbeats 4000000 in
theorem bhi_ba_str {w : World} {b : Array UInt8} {c : Str} {ba : Addr} {tc : Tok} {pl : Int} {tp : Tok} {ahead : Bool} (hb : b.size ≤ 20) :
    Contract 4 w 114 [.ref ba, .int pl tp, .str c tc, .bool ahead] [] (fun news => (ba, baObj b) ∈ news) (fun r new => new = [] ∧ r = .bool false) := by
  unfold Contract
  intro mean mg mb dp un gd cn nm ig ic mo a ccd cl outer A₀ base h₀ L m news s Q E B F X N T hd hu hpre hret
  (try dsimp only at hpre)
  revert X; w_top off; k_fill; intro X
  k_steps
  all_goals first
    | exact fin_val hret (by assumption) (by assumption) rfl
    | exact fin_val hret (by assumption) (drop_new (by assumption)) rfl
set_option maxHeartbeats 4000000 in
theorem bhi_ba_ba {w : World} {b : Array UInt8} {c : Array UInt8} {ba o : Addr} {pl : Int} {tp : Tok} {ahead : Bool} (hb : b.size ≤ 20) :
    Contract 4 w 114 [.ref ba, .int pl tp, .ref o] [(Str.ofString "size_prefixed", .bool ahead)] (fun news => (ba, baObj b) ∈ news ∧ (o, baObj c) ∈ news) (fun r new => new = [] ∧ r = .bool ((idOf b pl ahead).toList == c.toList)) := by
  unfold Contract
  intro mean mg mb dp un gd cn nm ig ic mo a ccd cl outer A₀ base h₀ L m news s Q E B F X N T hd hu hpre hret
  (try dsimp only at hpre)
  obtain ⟨hpre, hpre'⟩ := hpre
  revert X; w_top off; k_fill; intro X
  k_steps
  all_goals first
    | exact fin_val hret (by assumption) (by assumption) rfl
    | exact fin_val hret (by assumption) (drop_new (by assumption)) rfl
end Mine
end
section
open PySem PySem.W PyProof.Rows PySem.Calls
namespace Mine
local macro_rules | `(tactic| k_room) => `(tactic| ktr_room)
local macro_rules | `(tactic| k_mem) => `(tactic| (refine List.mem_cons_of_mem _ ?_; k_mem))
theorem unrEnd_own {h₀ : Heap} {L I : Addr} {it : Obj} {rest : (Str → Option Value) → List (Addr × Obj) → Prop} {s₁ : Shared} {h' : Heap} {tk : Nat} {m' : Str → Option Value} {news' : List (Addr × Obj)} (F : Fr h₀ L h' m') (N : News h₀ L h' ((I, it) :: news'))
    (l : ∀ p ∈ news', p.1 < I) (r : rest m' news') : UnrEnd h₀ L s₁ I it rest { s₁ with heap := h', toks := tk } :=
  UnrEnd.intro F N news' (fun _ h => h) (fun p hp => Nat.ne_of_lt (l p hp)) r
local macro_rules | `(tactic| walk_at "UnrEnd") => `(tactic| (refine unrEnd_own (by assumption) (by assumption) (by assumption) ?_))
def valOf (ns : List Int) (p : Nat) : Int := ns.getD p 0 + ns.getD (p + 1) 0 * 256 + ns.getD (p + 2) 0 * 65536 + ns.getD (p + 3) 0 * 16777216
def sizeInts (ns : List Int) (p : Nat) : Int := if valOf ns p ≥ 2 ^ 31 then valOf ns p - 2 ^ 32 else valOf ns p
theorem size_val (ns : List Int) {pl : Int} (h0 : 0 ≤ pl) :
    0 + ns.getD (pl + (0 + ((0 : Nat) : Int))).toNat 0 * 256 ^ (0 + ((0 : Nat) : Int)).toNat + ns.getD (pl + (0 + ((0 + 1 : Nat) : Int))).toNat 0 * 256 ^ (0 + ((0 + 1 : Nat) : Int)).toNat +
      ns.getD (pl + (0 + ((0 + 1 + 1 : Nat) : Int))).toNat 0 * 256 ^ (0 + ((0 + 1 + 1 : Nat) : Int)).toNat + ns.getD (pl + (0 + ((0 + 1 + 1 + 1 : Nat) : Int))).toNat 0 * 256 ^ (0 + ((0 + 1 + 1 + 1 : Nat) : Int)).toNat = valOf ns pl.toNat := by
  unfold valOf
  rw [show (pl + (0 + ((0 : Nat) : Int))).toNat = pl.toNat by omega, show (pl + (0 + ((0 + 1 : Nat) : Int))).toNat = pl.toNat + 1 by omega,
    show (pl + (0 + ((0 + 1 + 1 : Nat) : Int))).toNat = pl.toNat + 2 by omega, show (pl + (0 + ((0 + 1 + 1 + 1 : Nat) : Int))).toNat = pl.toNat + 3 by omega,
    show (256 : Int) ^ (0 + ((0 : Nat) : Int)).toNat = 1 from rfl, show (256 : Int) ^ (0 + ((0 + 1 : Nat) : Int)).toNat = 256 from rfl,
    show (256 : Int) ^ (0 + ((0 + 1 + 1 : Nat) : Int)).toNat = 65536 from rfl, show (256 : Int) ^ (0 + ((0 + 1 + 1 + 1 : Nat) : Int)).toNat = 16777216 from rfl]
  omega
theorem fin_int {h₀ : Heap} {L : Addr} {m : Str → Option Value} {news : Led} {s : Shared} {Q : Value → Shared → Prop} {v v' : Int} {t : Tok} {h' : Heap} {tk : Nat}
    (hret : ∀ r new h' tk, Fr h₀ L h' m → News h₀ L h' (new ++ news) → (∀ q ∈ news, ∀ p ∈ new, q.1 < p.1) → (fun (r : Value) (new : Led) => new = [] ∧ ∃ t, r = .int v t) r new → Q r { s with heap := h', toks := tk })
    (F : Fr h₀ L h' m) (N : News h₀ L h' news) (e : v' = v) : Q (.int v' t) { s with heap := h', toks := tk } := by
  subst e
  exact hret _ [] _ _ F N (fun _ _ _ h => nomatch h) ⟨rfl, _, rfl⟩
set_option maxHeartbeats 4000000 in
theorem law_size {w : World} {l : Addr} {vs : List Value} {ep : Nat} {ns : List Int} {pl : Int} {tp : Tok} (hi : IntsAre vs ns) (hr : ∀ n ∈ ns, 0 ≤ n ∧ n < 256) (hl : ns.length ≤ 20) (h0 : 0 ≤ pl) (h1 : pl + 4 ≤ ns.length) :
    Contract 4 w 128 [.ref l, .int pl tp] [] (fun news => (l, W.listOf vs.toArray ep) ∈ news) (fun r new => new = [] ∧ ∃ t, r = .int (sizeInts ns pl.toNat) t) := by
  unfold Contract
  intro mean mg mb dp un gd cn nm ig ic mo a ccd cl outer A₀ base h₀ L m news s Q E B F X N T hd hu hpre hret
  (try dsimp only at hpre)
  revert X; w_top off; k_fill; intro X
  k_steps
  all_goals
    refine fin_int hret (by assumption) (by first | assumption | (refine drop_new (p := ?p) ?_; case p => exact (_, _); assumption)) ?_
    unfold sizeInts
    first
    | (rw [if_pos (by rw [← size_val ns h0]; assumption), ← size_val ns h0]; rfl)
    | (rw [if_neg (by rw [← size_val ns h0]; assumption), ← size_val ns h0])
end Mine
end
section
open PySem PySem.W PyProof.Rows PySem.Calls
namespace Mine
section
variable {w : World} {A : Around} {E : Value → Shared → Prop} {s : Shared} {h₀ : Heap} {L : Addr} {m : Str → Option Value} {news : Led} {Q : Value → Shared → Prop}
theorem int32_at (X : (hq.heap_39 w.params).In h₀) : h₀.get? 44 = some structI := X _ _ (by kernel_rfl)
theorem getm_unpack {name : Str} {pl : Sem Bool} {Q : Value × List Value → Shared → Prop} (F : Fr h₀ L s.heap m) (X : (hq.heap_39 w.params).In h₀) (hn : name = "unpack_from")
    (h : Q (.builtin "_struct.Struct.unpack_from", [.ref 44]) s) : wpAny (model PySem.Challenge.rw_ef5001_01.row.prog w) A (getMethod (.ref 44) name pl) Q E s := by
  subst hn
  have h44 := F.keep _ _ (int32_at X)
  exact getMethod_builtin (T := "_struct.Struct") ⟨_, h44, rfl⟩ FS.plainAttrs FS.slot_unpack FS.type_unpack (fun a e => by cases e; exact ⟨_, h44, rfl⟩) h
theorem call_unpack {v : Value} {b : Array UInt8} {arr : Bool} {off : Int} {to : Tok} (F : Fr h₀ L s.heap m) (X : (hq.heap_39 w.params).In h₀) (N : News h₀ L s.heap news) (hv : IsBuf s.heap v b arr) (h0 : 0 ≤ off) (h1 : off ≤ 40) (hb : b.size ≤ 20)
    (hok : off + 4 ≤ (b.size : Int) → ∀ D h' tk t, Fr h₀ L h' m → News h₀ L h' ((D, ({ cls := .type "tuple", data := .seq [Value.int (sizeOf4 b off.toNat) t].toArray } : Obj)) :: news) → (∀ p ∈ news, p.1 < D) → Q (.ref D) { s with heap := h', toks := tk })
    (herr : ¬ off + 4 ≤ (b.size : Int) → ∀ h' tk e, Heap.NewExc s.heap h' e "struct.error" → E (.ref e) { s with heap := h', toks := tk }) (hh : A.handled = none := by rfl) :
    wpAny (model PySem.Challenge.rw_ef5001_01.row.prog w) A (call (.builtin "_struct.Struct.unpack_from") [.ref 44, v, .int off to] []) Q E s := by
  have h44 := F.keep _ _ (int32_at X)
  refine wpAny_call (codeAny_call_builtin FS.slot_unpack.plain entry_unpack (FS.slot_unpack.check _ _ _ _ _ _ _ _ ⟨_, h44, rfl⟩ (FS.args_unpack _ _ _) ?_))
  refine unpack_run (R := fun r s' => match r with | .ok (.ret v) => Q v s' | .ok _ => False | .error e => E e s') h44 hv h0 h1 hb hh (fun hk tk t => ?_) (fun hk h' tk e hx => herr hk h' tk e hx)
  refine hok hk s.heap.objs.size _ tk t (F.push _) (news_cons F N (fun b o e => Heap.get?_push_of_some _ e) (Nat.le_refl _) (Heap.get?_push_size _ rfl)) (fun p hp => Heap.lt_size (N p hp).1)
end
section
variable {w : World} {A₀ A : Around} {E : Value → Shared → Prop} {s s' : Shared} {base g G g₀ h₀ : Heap} {outer : List Env} {L a e : Addr} {m : Str → Option Value} {name : Str} {scope : Scope} {cd : Value}
  {b₀ : Stmt} {suite : List Stmt} {pos np : Pos} {rest : List ExceptHandler} {Q : Flow → Shared → Prop} {news : Led} {KF : Frag} {p : Program} {loose : List Str} {mean : ExcName → Option Value} {mg mb : Str → Option Value} {x : Str} {X T' : String}
/-- `except NAME:` where NAME is a name of the module that holds a built-in class of errors -/
theorem caught_own (R : RaisedSN base G (envOf name scope L a cd :: outer) e (.type X) news s'.heap) (F : Fr g L G m) (K : Below A₀ base outer g) (hsm : G.UpToSlots s'.heap) (XB : KF.In base) (TB : Top p loose mean mg mb base)
    (D : KtsDicts (outer.filterMap (·.frame)) g) (ex : nsIn KF mainGlobals x = some (some (.type T')))
    (hexc : isSubtype (.type T') (.type "BaseException") = pure true) (hnt : isSubtype (.type ((Manifest.find? T').elim "type" fun y => y.metatype)) (.type "tuple") = pure false) (hsub : isSubtype (.type X) (.type T') = pure true)
    (k : ∀ h' g', KtsTurn (outer.filterMap (·.frame)) g g' → Fr g' L h' m → News g' L h' news → Below A₀ base outer g' → KF.In g' → Top p loose mean mg mb g' → KtsDicts (outer.filterMap (·.frame)) g' →
      wpAny (model PySem.Challenge.rw_ef5001_01.row.prog w) ((A₀.deeper (envOf name scope L a cd)).mark (some (.ref e))) (execs (b₀ :: suite) (envOf name scope L a cd)) Q E { s' with heap := h' })
    (hk : scope.kind = .function) (hx : (envOf name scope L a cd).kindOf x = some .globalImplicit) (hd : (x == ("__debug__" : Str)) = false)
    (hE : PassesOwnAt (model PySem.Challenge.rw_ef5001_01.row.prog w) ((A₀.deeper (envOf name scope L a cd)).mark (some (.ref e))) (A₀.deeper (envOf name scope L a cd)) (envOf name scope L a cd) E) :
    wpAny (model PySem.Challenge.rw_ef5001_01.row.prog w) (A₀.deeper (envOf name scope L a cd)) (noteFrame (.ref e) (envOf name scope L a cd))
      (fun _ s₂ => wpAny (model PySem.Challenge.rw_ef5001_01.row.prog w) (A₀.deeper (envOf name scope L a cd)) (setFlight (.ref e) none) (fun _ s₃ =>
        wpAny (model PySem.Challenge.rw_ef5001_01.row.prog w) (A₀.deeper (envOf name scope L a cd)) (handleBy (.ref e) (envOf name scope L a cd) (.ExceptHandler (some (.Name x np)) none (b₀ :: suite) pos :: rest)) Q E s₃) E s₂) E s' := by
  obtain ⟨B, a0, hB, hBG, hl, hfl⟩ := R
  have hL : B.get? L = none := by
    obtain ⟨_, ⟨L', _, hf, hn', _⟩, _⟩ := hfl.2.2.1
    obtain rfl : L = L' := Option.some.inj hf
    exact hn'
  refine wpAny_looks_onW (Around.frames_deeper K.stack) rfl hfl fun h₄ hheld₄ hsm₄ => wpAny_landsW hheld₄ fun h₅ hheld hsm₅ => ?_
  obtain ⟨g₅, T₅, F₅, K₅⟩ := kts_ground K F hBG hheld.1 (hsm.trans (hsm₄.trans hsm₅))
  obtain ⟨ob, hob, hobc⟩ := hheld.there
  refine wpAny_handleBy_builtin (X := X) (T := T') (b := true) hexc hnt hsub (nameX_K (cl := []) F₅ (XB.keeps K₅.stays) (topRead_of (TB.keeps K₅.stays)) ex ⟨rfl, ⟨ob, hob, hobc⟩, ?_⟩ hk hx hd)
  refine lands_againW hheld fun h₆ hfl₆ hsm₆ => ?_
  obtain ⟨g₆, T₆, F₆, K₆⟩ := kts_ground K F hBG hfl₆.1 ((hsm.trans (hsm₄.trans hsm₅)).trans hsm₆)
  exact wpAny_passesOwnAt hE (k h₆ g₆ T₆ F₆ (fun q hq => ⟨hfl₆.1 _ _ (hl q hq).1, (fun z => by have := (hl q hq).1; rw [z, hL] at this; cases this), T₆.none_ _ (kts_none F.keep (hl q hq).2.1)⟩)
    K₆ (XB.keeps K₆.stays) (TB.keeps K₆.stays) (D.turn T₆))
/-- a def entered from a frame with cells, when the error that its body meets may mark the caller's frame -/
theorem code_own {env : Env} {K : Frag} {R : Result → Shared → Prop} {name qual : Str} {params : Arguments} {body : List Stmt} {scope : Scope} {dV kV doc pm cdv ct oc : Value} {an od : Option Addr} {osl : Array (Option Value)} {f : Addr} {args : Args} {binds : List (Str × Value)}
    (B : Below A₀ base [] h₀) (F : Fr h₀ L s.heap m) (X₀ : K.In h₀) (N : News h₀ L s.heap news) (T : Top p loose mean mg mb h₀) (hA : A.frames = some [env]) (hf : env.frame = some L) (hke : env.scope.kind = .function)
    (ho : K.lookup f = some ⟨oc, od, .func (fnOf name qual params body scope dV kV doc pm an cdv ct), osl⟩) (hcd : codeIn K cdv qual = true) (hroom : A.depth < recursionLimit)
    (hbind : BindsTo s (fnOf name qual params body scope dV kV doc pm an cdv ct) args binds) (hloc : ∀ y ∈ binds, scope.names.lookup y.1 = some .local)
    (h : ∀ g L' h₁, Fr g L' h₁ (fun y => binds.reverse.lookup y) → News g L' h₁ news → Below A base [env] g → K.In g → Top p loose mean mg mb g → KtsDicts ([env].filterMap (·.frame)) g →
      wpAny (model PySem.Challenge.rw_ef5001_01.row.prog w) (A.deeper (envOf qual scope L' f cdv)) (execs body (envOf qual scope L' f cdv))
        (fun fl s' => LeaveS0 ([env].filterMap (·.frame)) h₀ L m g R (match fl with | .ret v => v | _ => .none) s')
        (fun e s' => wpAny (model PySem.Challenge.rw_ef5001_01.row.prog w) (A.deeper (envOf qual scope L' f cdv)) (leaving (envOf qual scope L' f cdv) e) (fun _ s'' => R (.error e) s'') (fun e' s'' => R (.error e') s'') s')
        { s with heap := h₁, toks := s.toks + binds.length })
    (hco : scope.isCoroutine = false) (hgen : scope.isGenerator = false) (hk : scope.kind = .function)
    (hcell : ∀ x ∈ scope.names, x.2 ≠ .cell) : codeAny (model PySem.Challenge.rw_ef5001_01.row.prog w) A (.call (.ref f) args) R s := by
  have XX := X₀.keeps F.keep
  obtain ⟨oL, es, ep, hL, hLd, hLk, hLf⟩ := F.ns
  have nL₀ : h₀.get? L = none := kts_self F
  have off : ∀ b o, h₀.get? b = some o → b ∉ news.map (·.1) := fun b o q hm => by
    obtain ⟨r, hr, rfl⟩ := List.mem_map.mp hm
    rw [(N r hr).2.2] at q; cases q
  have offL : L ∉ news.map (·.1) := fun hm => by
    obtain ⟨r, hr, e⟩ := List.mem_map.mp hm
    exact (N r hr).2.1 e
  have st : h₀.StaysIn (hideAll s.heap (news.map (·.1))) := fun b o q => hideAll_get _ (F.keep b o q) (off b o q)
  have gL := hideAll_get (news.map (·.1)) hL offL
  have bL : base.get? L = none := by
    cases q : base.get? L with
    | none => rfl
    | some o => rw [B.stays _ _ q] at nL₀; cases nL₀
  refine codeAny_call_def (fd := fnOf name qual params body scope dV kV doc pm an cdv ct) (body := body) (binds := binds) hroom (XX _ _ ho) rfl (T.nolimit.keeps F.keep) (codeRec_of XX hcd) rfl hbind hcell hloc (fun h₁ hns hk₁ => ?_) hco hgen hk
  have B' : Below A base [env] (hideAll s.heap (news.map (·.1))) := ⟨hA, fun b o e => st b o (B.stays b o e), .cons (by rw [hke]; decide) hf ⟨oL, es, ep, gL, hLd, hLk, hLf⟩ bL trivial⟩
  refine wpAny_mono (h _ s.heap.objs.size h₁ ⟨hns, fun b o e => hk₁ b o (of_hideAll _ e), Nat.le_of_eq (hideAll_size _ _)⟩
    (fun r hr => ⟨hk₁ _ _ (N r hr).1, Nat.ne_of_lt (Heap.lt_size (N r hr).1), hideAll_none _ (List.mem_map_of_mem hr)⟩) B' (X₀.keeps st) (T.keeps st) (fun b hb => by
      rw [List.filterMap_cons, hf] at hb
      rcases List.mem_cons.mp hb with rfl | z
      · exact ⟨oL, es, ep, gL, hLd⟩
      · exact absurd z List.not_mem_nil)) (fun fl s' hl => ?_) fun _ _ y => y
  obtain ⟨g', L', m', news', T', F', N', kk⟩ := hl
  obtain ⟨sl, hs⟩ := T'.up gL
  refine kk ⟨⟨_, es, ep, F'.keep _ _ hs, hLd, hLk, hLf⟩, fun b o q => F'.keep b o (T'.other b o (st b o q) (fun hb => by
    rw [List.filterMap_cons, hf] at hb
    rcases List.mem_cons.mp hb with z | z
    · rw [z, nL₀] at q; cases q
    · exact absurd z List.not_mem_nil)), F.above⟩ fun r hr => ⟨(N' r hr).1, fun q => ?_, ?_⟩
  · have := (N' r hr).2.2
    rw [q, hs] at this; cases this
  · cases q : h₀.get? r.1 with
    | none => rfl
    | some o =>
      obtain ⟨sl', hs'⟩ := T'.up (st _ _ q)
      have := (N' r hr).2.2
      rw [hs'] at this; cases this
end
end Mine
end
section
open PySem PySem.W PyProof.Rows PySem.Calls
namespace Mine
/-- as Contract, for a caller that is the lowest frame -/
def Contract0 (n : Nat) (w : World) (f : Addr) (pos : List Value) (kw : List (Str × Value)) (pre : Led → Prop) (post : Value → Led → Prop) : Prop :=
  ∀ (mean : ExcName → Option Value) (mg mb : Str → Option Value) (dp un : Nat) (gd : Option (List Code)) (cn : Str) (nm : List (Str × NameKind)) (ig ic : Bool) (mo : List (Str × Const)) (a : Addr) (ccd : Value) (cl : List (Str × Addr)) (A₀ : Around) (h₀ : Heap) (L : Addr) (m : Str → Option Value) (news : Led) (s : Shared) (Q E : Value → Shared → Prop),
    Below A₀ h₀ [] h₀ → Fr h₀ L s.heap m → (hq.heap_39 w.params).In h₀ → News h₀ L s.heap news → Top hq.view_39 (looseW hq.view_39 theLoose) mean mg mb h₀ → dp + n < recursionLimit → un + 10 * n < cLine → pre news →
    (∀ r new h' tk, Fr h₀ L h' m → News h₀ L h' (new ++ news) → (∀ q ∈ news, ∀ p ∈ new, q.1 < p.1) → post r new → Q r { s with heap := h', toks := tk }) →
    wpAny (model PySem.Challenge.rw_ef5001_01.row.prog w) (ktrTop dp un gd cn ⟨.function, nm, ig, ic, mo⟩ L a ccd cl []) (call (.ref f) pos kw) Q E s
theorem isBuf_bytes {h : Heap} {b : Array UInt8} {t : Tok} : IsBuf h (.bytes b t) b false := ⟨t, rfl⟩
theorem isBuf_ba {h : Heap} {b : Array UInt8} {a : Addr} (e : h.get? a = some (baObj b)) : IsBuf h (.ref a) b true := ⟨a, rfl, e⟩
theorem isExc_struct : isSubtype (.type "struct.error") (.type "BaseException") = pure true := by rw [isSubtype_type]; kernel_rfl
theorem notTuple_struct : isSubtype (.type ((Manifest.find? "struct.error").elim "type" fun y => y.metatype)) (.type "tuple") = pure false := by
  have e : (Manifest.find? "struct.error").elim "type" (fun y => y.metatype) = "type" := by first | rfl | kernel_rfl | decide +kernel
  rw [e, isSubtype_type]; kernel_rfl
theorem self_struct : isSubtype (.type "struct.error") (.type "struct.error") = pure true := by rw [isSubtype_type]; kernel_rfl
local macro_rules | `(tactic| k_room) => `(tactic| ktr_room)
local macro_rules | `(tactic| k_mem) => `(tactic| (refine List.mem_cons_of_mem _ ?_; k_mem))
local macro_rules | `(tactic| walk_at "getMethod ref") => `(tactic| (k_here; (with_reducible show wpAny _ _ (getMethod (Value.ref 44) _ _) _ _ _); k_dflt (refine' getm_unpack ?F ?X rfl ?_; (case F => k_asm); (case X => k_asm))))
local macro_rules | `(tactic| walk_at "call builtin:_struct.Struct.unpack_from") => `(tactic| (k_here; k_dflt (refine' call_unpack (arr := false) ?F ?X ?N ?hv ?h0 ?h1 ?hb ?_ ?_; (case F => k_asm); (case X => k_asm); (case N => k_asm); (case hv => exact isBuf_bytes); (case h0 => omega); (case h1 => omega); (case hb => assumption)); all_goals intros))
local macro_rules | `(tactic| walk_at "call builtin:_struct.Struct.unpack_from") => `(tactic| (k_here; k_dflt (refine' call_unpack (arr := true) ?F ?X ?N ?hv ?h0 ?h1 ?hb ?_ ?_; (case F => k_asm); (case X => k_asm); (case N => k_asm); (case hv => exact isBuf_ba (News.get (by k_asm) (by k_mem))); (case h0 => omega); (case h1 => omega); (case hb => assumption)); all_goals intros))
local macro_rules | `(tactic| walk_at "noteFrame ref") => `(tactic| (k_here; (rename RaisedSN _ _ _ _ _ _ _ => rsX); k_dflt (refine' caught_own (T' := "struct.error") ?R ?F ?K ?U ?XB ?TB ?D ?ex isExc_struct notTuple_struct self_struct ?_ rfl rfl (by decide) (by passes_own); (case R => assumption); (case F => assumption); (case K => assumption); (case U => assumption); (case XB => assumption); (case TB => assumption); (case D => assumption); (case ex => k_is); k_whole); intro h' g' T' F' N' K' X' P' D'; (try k_lift K'); (try k_sweep)))
local macro_rules | `(tactic| walk_at "call ref") => `(tactic| (k_here; (with_reducible show wpAny _ _ (call (Value.ref 135) _ _) _ _ _); (refine wpAny_call ?_); k_dflt (refine' code_own ?k1 ?k2 ?k3 ?k4 ?k5 ?kA ?kf ?ke ?k6 ?k7 ?k8 ?k9 ?kB ?_ ?c2 ?c3 ?c4 ?c5; (case kA => exact rfl); (case kf => exact rfl); (case ke => exact rfl); (case k2 => k_asm); (case k1 => k_asm); (case k3 => k_asm); (case k4 => k_asm); (case k5 => k_asm); (case k6 => k_is); (case k7 => k_is); (case k8 => k_room); (case k9 => exact BindsTo.of_eq rfl); (case kB => exact locs rfl); (case c2 => exact rfl); (case c3 => exact rfl); (case c4 => exact rfl); (case c5 => decide); k_whole; intro g' L' h' F' N' B' X' T' D'; (try dsimp only); (try k_lift B'); (try k_fold))))
theorem fin_told {h₀ : Heap} {L : Addr} {m : Str → Option Value} {news : Led} {s : Shared} {Q : Value → Shared → Prop} {b : Array UInt8} {pl : Int} {v : Value} {h' : Heap} {tk : Nat}
    (hret : ∀ r new h' tk, Fr h₀ L h' m → News h₀ L h' (new ++ news) → (∀ q ∈ news, ∀ p ∈ new, q.1 < p.1) → (fun r new => new = [] ∧ ((pl + 4 ≤ (b.size : Int) ∧ ∃ t, r = .int (sizeOf4 b pl.toNat) t) ∨ (¬ pl + 4 ≤ (b.size : Int) ∧ r = .none))) r new → Q r { s with heap := h', toks := tk })
    (F : Fr h₀ L h' m) (N : News h₀ L h' news) (e : (pl + 4 ≤ (b.size : Int) ∧ ∃ t, v = .int (sizeOf4 b pl.toNat) t) ∨ (¬ pl + 4 ≤ (b.size : Int) ∧ v = .none)) : Q v { s with heap := h', toks := tk } :=
  hret _ [] _ _ F N (fun _ _ _ h => nomatch h) ⟨rfl, e⟩
set_option maxHeartbeats 4000000 in
theorem told_bytes {w : World} {b : Array UInt8} {tb : Tok} {pl : Int} {tp : Tok} (hb : b.size ≤ 20) (h0 : 0 ≤ pl) (h1 : pl ≤ 30) :
    Contract0 8 w 135 [.bytes b tb, .int pl tp] [] (fun _ => True) (fun r new => new = [] ∧ ((pl + 4 ≤ (b.size : Int) ∧ ∃ t, r = .int (sizeOf4 b pl.toNat) t) ∨ (¬ pl + 4 ≤ (b.size : Int) ∧ r = .none))) := by
  unfold Contract0
  intro mean mg mb dp un gd cn nm ig ic mo a ccd cl A₀ h₀ L m news s Q E B F X N T hd hu hpre hret
  (try dsimp only at hpre)
  revert X; w_top off; k_fill; intro X
  k_steps
  all_goals
    refine fin_told hret (by assumption) (by first | assumption | exact drop_new (by assumption)) ?_
    first
    | exact .inl ⟨by assumption, _, rfl⟩
    | exact .inr ⟨by assumption, rfl⟩
set_option maxHeartbeats 4000000 in
theorem told_ba {w : World} {b : Array UInt8} {ba : Addr} {pl : Int} {tp : Tok} (hb : b.size ≤ 20) (h0 : 0 ≤ pl) (h1 : pl ≤ 30) :
    Contract0 8 w 135 [.ref ba, .int pl tp] [] (fun news => (ba, baObj b) ∈ news) (fun r new => new = [] ∧ ((pl + 4 ≤ (b.size : Int) ∧ ∃ t, r = .int (sizeOf4 b pl.toNat) t) ∨ (¬ pl + 4 ≤ (b.size : Int) ∧ r = .none))) := by
  unfold Contract0
  intro mean mg mb dp un gd cn nm ig ic mo a ccd cl A₀ h₀ L m news s Q E B F X N T hd hu hpre hret
  (try dsimp only at hpre)
  revert X; w_top off; k_fill; intro X
  k_steps
  all_goals
    refine fin_told hret (by assumption) (by first | assumption | exact drop_new (by assumption)) ?_
    first
    | exact .inl ⟨by assumption, _, rfl⟩
    | exact .inr ⟨by assumption, rfl⟩
end Mine
end
section
open PySem PySem.W PyProof.Rows PySem.Calls
namespace Mine
/-- as Contract, in the layer N -/
def ContractN (n : Nat) (w : World) (f : Addr) (pos : List Value) (kw : List (Str × Value)) (pre : Led → Prop) (post : Value → Led → Prop) : Prop :=
  ∀ (mean : ExcName → Option Value) (mg mb : Str → Option Value) (dp un : Nat) (gd : Option (List Code)) (cn : Str) (nm : List (Str × NameKind)) (ig ic : Bool) (mo : List (Str × Const)) (a : Addr) (ccd : Value) (cl : List (Str × Addr)) (outer : List Env) (A₀ : Around) (base h₀ : Heap) (L : Addr) (m : Str → Option Value) (news : Led) (s : Shared) (Q E : Value → Shared → Prop),
    Below A₀ base outer h₀ → Fr h₀ L s.heap m → (hq.heap_39 w.params).In h₀ → News h₀ L s.heap news → Top hq.view_39 (looseW hq.view_39 theLoose) mean mg mb h₀ → dp + n < recursionLimit → un + 10 * n < cLine → pre news →
    (∀ r new h' tk, Fr h₀ L h' m → News h₀ L h' (new ++ news) → (∀ q ∈ news, ∀ p ∈ new, q.1 < p.1) → post r new → Q r { s with heap := h', toks := tk }) →
    wpN (model PySem.Challenge.rw_ef5001_01.row.prog w) (ktrTop dp un gd cn ⟨.function, nm, ig, ic, mo⟩ L a ccd cl outer) (call (.ref f) pos kw) Q E s
def Oct (ns : List Int) : Prop := ∀ n ∈ ns, 0 ≤ n ∧ n < 256
theorem oct_append {a b : List Int} (h : Oct a) (h' : Oct b) : Oct (a ++ b) := fun n hn => (List.mem_append.mp hn).elim (h n) (h' n)
theorem oct_cons {n : Int} {b : List Int} (h : 0 ≤ n ∧ n < 256) (h' : Oct b) : Oct (n :: b) := fun k hk => by
  rcases List.mem_cons.mp hk with rfl | hk
  · exact h
  · exact h' k hk
theorem oct_nil : Oct [] := fun _ h => nomatch h
theorem oct_take {a : List Int} {k : Nat} (h : Oct a) : Oct (a.take k) := fun n hn => h n (List.mem_of_mem_take hn)
theorem oct_drop {a : List Int} {k : Nat} (h : Oct a) : Oct (a.drop k) := fun n hn => h n (List.mem_of_mem_drop hn)
theorem oct_mod (n : Int) : 0 ≤ n.fmod 256 ∧ n.fmod 256 < 256 := by
  rw [Int.fmod_eq_emod_of_nonneg _ (by decide : (0 : Int) ≤ 256)]
  omega
theorem bytes_ints_K {prog : Program} {w : World} {A : Around} {E : Value → Shared → Prop} {s : Shared} {h₀ : Heap} {L : Addr} {m : Str → Option Value} {news : Led} {Q : Value → Shared → Prop} {l : Addr} {vs : List Value} {ns : List Int} {ep : Nat}
    (F : Fr h₀ L s.heap m) (N : News h₀ L s.heap news) (hm : (l, W.listOf vs.toArray ep) ∈ news) (hi : IntsAre vs ns) (hr : Oct ns) (hz : ns.length ≤ 100) (hh : A.handled = none)
    (h : ∀ h' t k, Fr h₀ L h' m → News h₀ L h' news → Q (.bytes (byteArr ns) t) { s with heap := h', toks := k }) : wpAny (model prog w) A (call (.type "bytes") [.ref l]) Q E s :=
  call_bytes_ints ⟨_, (N _ hm).1, rfl, _, rfl⟩ hi hr (by rw [hi.length, sizeLine_eq]; omega) hh fun h' t k hk => h h' t k (F.keeps hk) (fun q hq => ⟨hk _ _ (N q hq).1, (N q hq).2⟩)
theorem call_ba_K {prog : Program} {w : World} {A : Around} {E : Value → Shared → Prop} {s : Shared} {h₀ : Heap} {L : Addr} {m : Str → Option Value} {news : Led} {Q : Value → Shared → Prop} {l : Addr} {vs : List Value} {ns : List Int} {ep : Nat}
    (F : Fr h₀ L s.heap m) (N : News h₀ L s.heap news) (hm : (l, W.listOf vs.toArray ep) ∈ news) (hi : IntsAre vs ns) (hr : ∀ n ∈ ns, 0 ≤ n ∧ n < 256) (hz : ns.length ≤ sizeLine)
    (hQ : ∀ D h', Fr h₀ L h' m → News h₀ L h' ((D, baObj (byteArr ns)) :: news) → (∀ p ∈ news, p.1 < D) → Q (.ref D) { s with heap := h' }) : wpN (model prog w) A (call (.type "bytearray") [.ref l]) Q E s :=
  call_ba ⟨_, (N _ hm).1, rfl, _, rfl⟩ hi hr hz fun h' h1 h2 => hQ _ h' (fr_keeps F h2) (news_cons F N h2 (Nat.le_refl _) h1) fun p hp => Heap.lt_size (N p hp).1
theorem fn_there {K : Frag} {h₀ h : Heap} {L f : Addr} {m : Str → Option Value} {oc : Value} {od : Option Addr} {fd : FuncData} {osl : Array (Option Value)} (F : Fr h₀ L h m) (X : K.In h₀) (ho : K.lookup f = some ⟨oc, od, .func fd, osl⟩) :
    ∀ {P : Prop}, P → FnThere f h P := fun p => ⟨⟨_, _, F.keep _ _ (X _ _ ho), rfl⟩, p⟩
theorem len_ints_K {prog : Program} {w : World} {A : Around} {E : Value → Shared → Prop} {s : Shared} {h₀ : Heap} {L : Addr} {news : Led} {Q : Value → Shared → Prop} {l : Addr} {vs : List Value} {ns : List Int} {ep : Nat}
    (N : News h₀ L s.heap news) (hm : (l, W.listOf vs.toArray ep) ∈ news) (hi : IntsAre vs ns) (hz : ns.length ≤ 100)
    (h : Q (.int (ns.length : Nat) (s.toks + 1)) { s with toks := s.toks + 1 + 1 }) : wpAny (model prog w) A (call (.builtin "len") [.ref l]) Q E s := by
  have e : vs.toArray.size = ns.length := by rw [List.size_toArray, hi.length]
  refine call_len_list (items := vs.toArray) ⟨_, (N _ hm).1, rfl, _, rfl⟩ (by rw [e]; omega) ?_
  rw [e]; exact h
theorem add_pick {prog : Program} {w : World} {A : Around} {E : Value → Shared → Prop} {s : Shared} {b : Array UInt8} {lo hi : Option Int} {ns : List Int} {t u : Tok} {Q : Value → Shared → Prop} (hb : b.size ≤ 100) (hn : ns.length ≤ 100)
    (h : ∀ t' k, Q (.bytes (KBy.picked b lo hi ++ byteArr ns) t') { s with toks := k }) : wpAny (model prog w) A (binaryOp .Add (.bytes (KBy.picked b lo hi) t) (.bytes (byteArr ns) u)) Q E s :=
  KBy.add_bytes (by have := KBc.size_picked_le b lo hi; rw [byteArr_size]; omega) h
theorem ne_ints_K {prog : Program} {w : World} {A : Around} {E : Value → Shared → Prop} {s : Shared} {h₀ : Heap} {L : Addr} {news : Led} {Q : Value → Shared → Prop} {l l' : Addr} {vs us : List Value} {ns ms : List Int} {ep ep' : Nat}
    (N : News h₀ L s.heap news) (hm : (l, W.listOf vs.toArray ep) ∈ news) (hm' : (l', W.listOf us.toArray ep') ∈ news) (hi : IntsAre vs ns) (hj : IntsAre us ms) (hu : A.units + 64 < cLine) (h : Q (.bool (!decide (ns = ms))) s) :
    wpAny (model prog w) A (compareOp .NotEq (.ref l) (.ref l')) Q E s := ke_ne_ints ⟨_, (N _ hm).1, rfl, _, rfl⟩ ⟨_, (N _ hm').1, rfl, _, rfl⟩ hi hj hu h
theorem ne_nil_K {prog : Program} {w : World} {A : Around} {E : Value → Shared → Prop} {s : Shared} {h₀ : Heap} {L : Addr} {news : Led} {Q : Value → Shared → Prop} {l l' : Addr} {vs : List Value} {ns : List Int} {ep ep' : Nat}
    (N : News h₀ L s.heap news) (hm : (l, W.listOf vs.toArray ep) ∈ news) (hm' : (l', W.listOf #[] ep') ∈ news) (hi : IntsAre vs ns) (hp : 0 < ns.length) (hu : A.units + 64 < cLine) (h : Q (.bool true) s) :
    wpAny (model prog w) A (compareOp .NotEq (.ref l) (.ref l')) Q E s := ne_ints_K N hm (us := []) hm' hi .nil hu (by
  have : ns ≠ [] := fun e => by rw [e] at hp; exact absurd hp (Nat.lt_irrefl _)
  rw [decide_eq_false this]; exact h)
theorem ne_nil0_K {prog : Program} {w : World} {A : Around} {E : Value → Shared → Prop} {s : Shared} {h₀ : Heap} {L : Addr} {news : Led} {Q : Value → Shared → Prop} {l l' : Addr} {vs : List Value} {ns : List Int} {ep ep' : Nat}
    (N : News h₀ L s.heap news) (hm : (l, W.listOf vs.toArray ep) ∈ news) (hm' : (l', W.listOf #[] ep') ∈ news) (hi : IntsAre vs ns) (hp : ns.length = 0) (hu : A.units + 64 < cLine) (h : Q (.bool false) s) :
    wpAny (model prog w) A (compareOp .NotEq (.ref l) (.ref l')) Q E s := ne_ints_K N hm (us := []) hm' hi .nil hu (by
  rw [List.length_eq_zero_iff.mp hp]; exact h)
theorem last_ints_K {prog : Program} {w : World} {A : Around} {E : Value → Shared → Prop} {s : Shared} {h₀ : Heap} {L : Addr} {news : Led} {Q : Value → Shared → Prop} {value slice : Expr} {l : Addr} {u : Tok} {vs : List Value} {ns : List Int} {ep : Nat}
    (N : News h₀ L s.heap news) (hm : (l, W.listOf vs.toArray ep) ∈ news) (hi : IntsAre vs ns) (hp : 0 < ns.length) (h : ∀ t, Q (.int (ns.getD (ns.length - 1) 0) t) s)
    (hs : subscripted slice false (.ref l) (.int (-1) u) = operate [.ref l, .int (-1) u] (getItem (.ref l) (.int (-1) u))) (ht : ∀ r, letTemporaryGo value (.ref l) r = pure ()) :
    wpAny (model prog w) A (subscriptTail value slice (.ref l) (.int (-1) u)) Q E s :=
  item_list_ints_neg ⟨_, (N _ hm).1, rfl, _, rfl⟩ hi (by omega) (by omega) (by omega) (fun t => by
    have e : (-1 + (ns.length : Int)).toNat = ns.length - 1 := by omega
    rw [e]; exact h t) hs ht
end Mine
end
section
open PySem PySem.W PyProof.Rows PySem.Calls
namespace Mine
theorem eq_self {I c : Array UInt8} (h : I = c) : (I.toList == c.toList) = true := by rw [h]; exact beq_self_eq_true _
theorem ne_toList {I c : Array UInt8} (h : I ≠ c) : (I.toList == c.toList) = false := by
  rw [beq_eq_false_iff_ne]
  exact fun e => h (Array.ext' e)
theorem bInts_byteArr : ∀ {a : List Int}, Oct a → KBw.bInts (byteArr a) = a := by
  intro a h
  show ((a.map fun n => n.toNat.toUInt8).toArray.toList.map fun x => ((x.toNat : Nat) : Int)) = a
  simp only [List.map_map]
  conv => rhs; rw [← List.map_id a]
  exact List.map_congr_left fun n hn => byte_back (h n hn).1 (h n hn).2
theorem byteArr_inj {a b : List Int} (ha : Oct a) (hb : Oct b) (e : byteArr a = byteArr b) : a = b := by
  rw [← bInts_byteArr ha, ← bInts_byteArr hb, e]
theorem w_size {ds : List Int} {c : Array UInt8} (h : c.size ≠ ds.length) : ((byteArr ds).toList == c.toList) = false :=
  ne_toList fun e => h (by rw [← e, byteArr_size])
theorem pick7 : ∀ n ≤ 4, 0 < (KBy.picked #[97, 98, 99, 100, 101, 102, 103] none (some (5 + ((n : Nat) : Int).fmod 2))).size := by decide
theorem w_more {ds : List Int} : ((byteArr ds).toList == (byteArr (ds ++ [0])).toList) = false := w_size (by rw [byteArr_size, List.length_append]; simp)
theorem w_ahead {ds : List Int} (hl : ds.length ≤ 4) : ((byteArr ds).toList == (KBy.picked #[97, 98, 99, 100, 101, 102, 103] none (some (5 + ((ds.length : Nat) : Int).fmod 2)) ++ byteArr ds).toList) = false :=
  w_size (by have := pick7 _ hl; rw [Array.size_append, byteArr_size]; omega)
theorem w_fewer {ds : List Int} (hp : 0 < ds.length) : ((byteArr ds).toList == (byteArr (ds.take (ds.length - 1))).toList) = false := w_size (by rw [byteArr_size, List.length_take]; omega)
theorem mod1 {d : Int} (h : 0 ≤ d ∧ d < 256) : (d + 1).fmod 256 ≠ d := by
  rw [Int.fmod_eq_emod_of_nonneg _ (by decide : (0 : Int) ≤ 256)]
  omega
theorem mod255 {d : Int} (h : 0 ≤ d ∧ d < 256) : (d + 255).fmod 256 ≠ d := by
  rw [Int.fmod_eq_emod_of_nonneg _ (by decide : (0 : Int) ≤ 256)]
  omega
theorem oct_getD {ds : List Int} (h : Oct ds) (k : Nat) : 0 ≤ ds.getD k 0 ∧ ds.getD k 0 < 256 := by
  by_cases hk : k < ds.length
  · rw [List.getD_eq_getElem?_getD, List.getElem?_eq_getElem hk]
    exact h _ (List.getElem_mem hk)
  · rw [List.getD_eq_getElem?_getD, List.getElem?_eq_none (Nat.le_of_not_lt hk)]
    exact ⟨by decide, by decide⟩
theorem w_first {ds : List Int} (h : Oct ds) (hp : 0 < ds.length) : ((byteArr ds).toList == (byteArr ((ds.getD (Int.toNat 0) 0 + 1).fmod 256 :: ds.drop 1)).toList) = false := by
  refine ne_toList fun e => ?_
  have e' := byteArr_inj h (oct_cons (oct_mod _) (oct_drop h)) e
  cases ds with
  | nil => exact absurd hp (Nat.lt_irrefl _)
  | cons d r => exact mod1 (h d (.head _)) (by injection e' with e1 _; exact e1.symm)
theorem w_last {ds : List Int} (h : Oct ds) (hp : 0 < ds.length) : ((byteArr ds).toList == (byteArr (ds.take (ds.length - 1) ++ [(ds.getD (ds.length - 1) 0 + 255).fmod 256])).toList) = false := by
  refine ne_toList fun e => ?_
  have e' := byteArr_inj h (oct_append (oct_take h) (oct_cons (oct_mod _) oct_nil)) e
  have e2 := congrArg (fun l : List Int => l.getD (ds.length - 1) 0) e'
  have e3 : (ds.take (ds.length - 1) ++ [(ds.getD (ds.length - 1) 0 + 255).fmod 256]).getD (ds.length - 1) 0 = (ds.getD (ds.length - 1) 0 + 255).fmod 256 := by
    have hl : (ds.take (ds.length - 1)).length = ds.length - 1 := by rw [List.length_take]; omega
    rw [List.getD_eq_getElem?_getD, List.getElem?_append_right (by rw [hl]; exact Nat.le_refl _), hl]
    simp
  exact mod255 (oct_getD h _) (e3.symm.trans e2.symm)
/-- a list of bytes, none of which is I -/
inductive Others (I : Array UInt8) : List Value → Prop
  | nil : Others I []
  | cons {c : Array UInt8} {t : Tok} {r : List Value} : (I.toList == c.toList) = false → Others I r → Others I (.bytes c t :: r)
theorem Others.get {I : Array UInt8} : ∀ {vs : List Value} {i : Nat} {v : Value}, Others I vs → vs[i]? = some v → ∃ c t, v = .bytes c t ∧ (I.toList == c.toList) = false
  | _, 0, _, .cons h _, e => ⟨_, _, (Option.some.inj e).symm, h⟩
  | _, i + 1, _, .cons _ r, e => Others.get r e
section
variable {prog : Program} {w : World} {A : Around} {E : Value → Shared → Prop} {s : Shared} {env : Env} {h₀ : Heap}
def TurnEnd (h₀ : Heap) (L : Addr) (s : Shared) (m : Str → Option Value) (news : Led) (f : Flow) (s' : Shared) : Prop :=
  f = .next ∧ ∃ h' tk', s' = { s with heap := h', toks := tk' } ∧ Fr h₀ L h' m ∧ News h₀ L h' news
theorem TurnEnd.intro {L : Addr} {m : Str → Option Value} {news : Led} {h' : Heap} {tk' : Nat} (F : Fr h₀ L h' m) (N : News h₀ L h' news) : TurnEnd h₀ L s m news .next { s with heap := h', toks := tk' } := ⟨rfl, h', tk', rfl, F, N⟩
/-- a loop over a list whose body binds no name -/
theorem ForN.same {x : Str} {body : List Stmt} {Q : Flow → Shared → Prop} {l : Addr} {xs : List Value} {ep : Nat} {m₁ : Str → Option Value} {news : Led} (F : Fr h₀ env.locals s.heap m₁) (N : News h₀ env.locals s.heap news) (hm : (l, W.listOf xs.toArray ep) ∈ news)
    (turn : ∀ it, (∀ p ∈ news, p.1 < it) → ∀ (i : Nat) v o h tk, xs[i]? = some v → Fr h₀ env.locals h (fun y => if y = x then some v else m₁ y) → News h₀ env.locals h ((it, o) :: news) →
      wpAny (model prog w) A (execs body env) (TurnEnd h₀ env.locals s (fun y => if y = x then some v else m₁ y) ((it, o) :: news)) (notedBy (model prog w) A env (cameBackBy (model prog w) A env E)) { s with heap := h, toks := tk })
    (fin : ∀ h tk a, Fr h₀ env.locals h (fun y => if y = x then a else m₁ y) → News h₀ env.locals h news → Q .next { s with heap := h, toks := tk }) : ForN prog w A env h₀ x body Q E (.ref l) s := by
  refine ⟨l, xs, ep, m₁, news, fun _ m => ∃ a, m = fun y => if y = x then a else m₁ y, rfl, F, N, hm, ⟨m₁ x, funext fun y => ?_⟩, fun it hit i v o h tk m hv hJ F' N' => ?_, fun h tk m hJ F' N' => ?_⟩
  · by_cases hy : y = x
    · rw [if_pos hy, hy]
    · rw [if_neg hy]
  · obtain ⟨a, rfl⟩ := hJ
    have e : (fun y => if y = x then some v else if y = x then a else m₁ y) = fun y => if y = x then some v else m₁ y := funext fun y => by
      by_cases hy : y = x
      · rw [if_pos hy, if_pos hy]
      · rw [if_neg hy, if_neg hy, if_neg hy]
    rw [e] at F'
    refine wpN_of (wpAny_mono (turn it hit i v o h tk hv F' N') (fun f s' ht => ?_) fun _ _ q => q)
    obtain ⟨rfl, h', tk', rfl, F₂, N₂⟩ := ht
    exact ⟨rfl, h', tk', _, rfl, ⟨some v, rfl⟩, F₂, N₂⟩
  · obtain ⟨a, rfl⟩ := hJ
    exact fin h tk a F' N'
end
end Mine
end
section
open PySem PySem.W PyProof.Rows PySem.Calls
namespace Mine
def Req (req news : Led) : Prop := ∀ p ∈ req, p ∈ news
theorem Req.up {req news news' : Led} (h : ∀ p ∈ news, p ∈ news') (r : Req req news) : Req req news' := fun p hp => h p (r p hp)
def BhiB (w : World) (bv : Value) (pl : Int) (tp : Tok) (ahead : Bool) (req : Led) (I : Array UInt8) : Prop :=
  ∀ c tc, Contract 4 w 114 [bv, .int pl tp, .bytes c tc, .bool ahead] [] (Req req) (fun r new => new = [] ∧ r = .bool (I.toList == c.toList))
def BhiS (w : World) (bv : Value) (pl : Int) (tp : Tok) (ahead : Bool) (req : Led) : Prop :=
  ∀ c tc, Contract 4 w 114 [bv, .int pl tp, .str c tc, .bool ahead] [] (Req req) (fun r new => new = [] ∧ r = .bool false)
def BhiA (w : World) (bv : Value) (pl : Int) (tp : Tok) (ahead : Bool) (req : Led) (I : Array UInt8) : Prop :=
  ∀ o, Contract 4 w 114 [bv, .int pl tp, .ref o] [(Str.ofString "size_prefixed", .bool ahead)] (fun news => (o, baObj I) ∈ news ∧ Req req news) (fun r new => new = [] ∧ r = .bool true)
section
variable {w : World} {bv : Value} {pl : Int} {tp tc : Tok} {ahead : Bool} {req : Led} {I c : Array UInt8} {x : Str} {o : Addr}
theorem BhiB.use (h : BhiB w bv pl tp ahead req I) : Contract 4 w 114 [bv, .int pl tp, .bytes c tc, .bool ahead] [] (Req req) (fun r new => new = [] ∧ r = .bool (I.toList == c.toList)) := h c tc
theorem BhiS.use (h : BhiS w bv pl tp ahead req) : Contract 4 w 114 [bv, .int pl tp, .str x tc, .bool ahead] [] (Req req) (fun r new => new = [] ∧ r = .bool false) := h x tc
theorem BhiA.use (h : BhiA w bv pl tp ahead req I) : Contract 4 w 114 [bv, .int pl tp, .ref o] [(Str.ofString "size_prefixed", .bool ahead)] (fun news => (o, baObj I) ∈ news ∧ Req req news) (fun r new => new = [] ∧ r = .bool true) := h o
end
theorem News.sub {h₀ h : Heap} {L : Addr} {all news : Led} (N : News h₀ L h all) (hs : ∀ p ∈ news, p ∈ all) : News h₀ L h news := fun q hq => N q (hs q hq)
local macro_rules | `(tactic| k_room) => `(tactic| ktr_room)
local macro_rules | `(tactic| k_mem) => `(tactic| (refine List.mem_cons_of_mem _ ?_; k_mem))
local macro_rules | `(tactic| walk_at "call type:bytes") => `(tactic| (k_here; (with_reducible show wpAny _ _ (call (Value.type "bytes") [Value.ref _]) _ _ _); k_dflt (refine' bytes_ints_K ?F ?N ?m ?i ?r ?z ?h ?_; (case F => k_asm); (case N => k_asm); (case m => k_mem); (case i => assumption); (case r => (repeat' (first | assumption | exact oct_mod _ | exact oct_nil | refine oct_take ?_ | refine oct_drop ?_ | refine oct_append ?_ ?_ | refine oct_cons ?_ ?_ | (refine And.intro ?_ ?_ <;> omega)))); (case z => ((try simp only [List.length_append, List.length_cons, List.length_nil, List.length_take, List.length_drop]); omega)); (case h => with_unfolding_all rfl); k_whole); intro h' t' k' F' N'))
local macro_rules | `(tactic| walk_at "call builtin:len") => `(tactic| (k_here; (with_reducible show wpAny _ _ (call (Value.builtin "len") [Value.ref _]) _ _ _); k_dflt (refine' len_ints_K ?N ?m ?i ?z ?_; (case N => k_asm); (case m => k_mem); (case i => assumption); (case z => ((try simp only [List.length_append, List.length_cons, List.length_nil, List.length_take, List.length_drop]); omega)))))
local macro_rules | `(tactic| walk_at "binaryOp Add bytes bytes") => `(tactic| (k_here; k_dflt (refine' add_pick ?z ?y ?_; (case z => first | omega | decide); (case y => omega)); intro t' k'))
local macro_rules | `(tactic| walk_at "subscriptTail") => `(tactic| (k_here; (with_reducible show wpAny _ _ (subscriptTail _ (Expr.Slice _ _ none _) (Value.bytes _ _) (Value.ref _)) _ _ _); (with_reducible rename Fr _ _ _ _ => F'); (with_reducible rename News _ _ _ _ => N'); (refine KBc.slice_K (s := ⟨_, _, _, _, _⟩) F' N' rfl (by constructor) (by constructor) (by rw [KBw.ints_length]; decide) ?_); intro _ _ _ F' N' _))
local macro_rules | `(tactic| walk_at "compareOp NotEq ref ref") => `(tactic| (k_here; k_dflt (refine' ne_ints_K ?N ?m ?m' ?i ?j ?u ?_; (case N => k_asm); (case m => k_mem); (case m' => k_mem); (case i => first | assumption | (repeat' constructor)); (case j => first | assumption | (repeat' constructor)); (case u => ktr_units))))
local macro_rules | `(tactic| walk_at "compareOp NotEq ref ref") => `(tactic| (k_here; k_dflt (refine' ne_nil_K ?N ?m ?m' ?i ?p ?u ?_; (case N => k_asm); (case m => k_mem); (case m' => k_mem); (case i => assumption); (case p => assumption); (case u => ktr_units))))
local macro_rules | `(tactic| walk_at "compareOp NotEq ref ref") => `(tactic| (k_here; k_dflt (refine' ne_nil0_K ?N ?m ?m' ?i ?p ?u ?_; (case N => k_asm); (case m => k_mem); (case m' => k_mem); (case i => assumption); (case p => assumption); (case u => ktr_units))))
local macro_rules | `(tactic| walk_at "subscriptTail") => `(tactic| (k_here; (with_reducible show wpAny _ _ (subscriptTail _ _ (Value.ref _) (Value.int (-1) _)) _ _ _); k_dflt (refine' last_ints_K ?N ?m ?i ?p ?_ ?hs ?ht; (case N => k_asm); (case m => k_mem); (case i => assumption); (case p => assumption); (case hs => with_unfolding_all rfl); (case ht => (intro _; with_unfolding_all rfl))); intro t'))
local macro_rules | `(tactic| walk_at "call ref") => `(tactic| (k_here; (with_reducible show wpAny _ _ (call (Value.ref 114) (_ :: _ :: Value.bytes _ _ :: _) _) _ _ _); k_dflt (refine' Contract.use (BhiB.use ?hb) ?k1 ?k2 ?k3 ?k4 ?k5 ?kd ?ku ?kp ?_; (case hb => assumption); (case k1 => k_asm); (case k2 => k_asm); (case k3 => k_asm); (case k4 => k_asm); (case k5 => k_asm); (case kp => ((try dsimp only); (refine Req.up ?_ (by assumption); intro p hp; (repeat' (first | assumption | refine List.mem_cons_of_mem _ ?_))))); (case kd => ktr_room); (case ku => ktr_units)); intro r' new' h' tk' F' N' l1 hp'; obtain ⟨hn', hr'⟩ := hp'; subst hn' hr'; (try simp only [List.nil_append] at N')))
local macro_rules | `(tactic| walk_at "call ref") => `(tactic| (k_here; (with_reducible show wpAny _ _ (call (Value.ref 114) (_ :: _ :: Value.str _ _ :: _) _) _ _ _); k_dflt (refine' Contract.use (BhiS.use ?hb) ?k1 ?k2 ?k3 ?k4 ?k5 ?kd ?ku ?kp ?_; (case hb => assumption); (case k1 => k_asm); (case k2 => k_asm); (case k3 => k_asm); (case k4 => k_asm); (case k5 => k_asm); (case kp => ((try dsimp only); (refine Req.up ?_ (by assumption); intro p hp; (repeat' (first | assumption | refine List.mem_cons_of_mem _ ?_))))); (case kd => ktr_room); (case ku => ktr_units)); intro r' new' h' tk' F' N' l1 hp'; obtain ⟨hn', hr'⟩ := hp'; subst hn' hr'; (try simp only [List.nil_append] at N')))
local macro_rules | `(tactic| walk_at "call ref") => `(tactic| (k_here; (with_reducible show wpAny _ _ (call (Value.ref 114) (_ :: _ :: Value.ref _ :: _) _) _ _ _); k_dflt (refine' Contract.use (BhiA.use ?hb) ?k1 ?k2 ?k3 ?k4 ?k5 ?kd ?ku ?kp ?_; (case hb => assumption); (case k1 => k_asm); (case k2 => k_asm); (case k3 => k_asm); (case k4 => k_asm); (case k5 => k_asm); (case kp => ((try dsimp only); (refine And.intro ?_ ?_; (k_mem); (refine Req.up ?_ (by assumption); intro p hp; (repeat' (first | assumption | refine List.mem_cons_of_mem _ ?_)))))); (case kd => ktr_room); (case ku => ktr_units)); intro r' new' h' tk' F' N' l1 hp'; obtain ⟨hn', hr'⟩ := hp'; subst hn' hr'; (try simp only [List.nil_append] at N')))
set_option maxHeartbeats 8000000 in
theorem yan_cons {w : World} {bv : Value} {I : Array UInt8} {req : Led} {tp : Tok} {dl : Addr} {dvs : List Value} {ds : List Int} {ep : Nat} {pl : Int} {ahead : Bool} (hB : BhiB w bv pl tp ahead req I) (hA : BhiA w bv pl tp ahead req I) (hS : BhiS w bv pl tp ahead req)
    (hi : IntsAre dvs ds) (hr : Oct ds) (hl : ds.length ≤ 4) (hpos : 0 < ds.length) (hid : I = byteArr ds) :
    ContractN 10 w 142 [bv, .int pl tp, .ref dl, .bool ahead] [] (fun news => (dl, W.listOf dvs.toArray ep) ∈ news ∧ Req req news) (fun r new => new = [] ∧ r = .bool true) := by
  unfold ContractN
  intro mean mg mb dp un gd cn nm ig ic mo a ccd cl outer A₀ base h₀ L m news s Q E B F X N T hd hu hpre hret
  (try dsimp only at hpre)
  obtain ⟨hpl, hpq⟩ := hpre
  revert X; w_top off; k_fill; intro X
  refine wpN_call ?_
  k_dflt (refine' callN_plain ?k1 ?k2 ?k3 ?k4 ?k5 ?kA ?kf ?ke ?k6 ?k7 ?k8 ?k9 ?kB ?_ ?c2 ?c3 ?c4 ?c5; (case kA => exact rfl); (case kf => exact rfl); (case ke => exact rfl); (case k2 => k_asm); (case k1 => k_asm); (case k3 => k_asm); (case k4 => k_asm); (case k5 => k_asm); (case k6 => k_is); (case k7 => k_is); (case k8 => k_room); (case k9 => exact BindsTo.of_eq rfl); (case kB => exact locs rfl); (case c2 => exact rfl); (case c3 => exact rfl); (case c4 => exact rfl); (case c5 => decide); intro g' L' h' FG' F' N' B' X' T' l1; (try dsimp only); (try k_lift B'))
  refine wpN_cons (wpN_of ?_)
  k_steps
  rotate_left
  · exact absurd ((eq_self hid).symm.trans (by assumption)) Bool.noConfusion
  dsimp only
  refine wpN_cons (wpN_If (wpN_isTrue_Not (wpN_isTrue_value ?_ rfl)))
  refine wpN_Call_Name (wpN_of ?_)
  k_steps
  k_dflt (refine wpN_callWith_fn (wpN_args ?_ rfl rfl) rfl (by show 3 + 2 * 1 ≤ 30; omega))
  refine wpN_args_more (wpN_of ?_) rfl
  k_steps
  refine wpN_args_more (wpN_of ?_) rfl
  k_steps
  refine wpN_args_more (wpN_Call_Name (wpN_of ?_)) rfl
  k_steps
  k_dflt (refine wpN_callWith_type (wpN_args ?_ rfl rfl) rfl)
  refine wpN_args_more (wpN_of ?_) rfl
  k_steps
  refine wpN_args_nil (wpN_all_nil ?_)
  k_dflt (refine' call_ba_K ?F ?N ?m hi hr ?z ?_; (case F => k_asm); (case N => k_asm); (case m => k_mem); (case z => (rw [sizeLine_eq]; omega)))
  rw [← hid]
  intro D' h' F' N' l1
  refine wpN_args_nil ?_
  refine wpN_all_kw (wpN_of ?_)
  k_steps
  k_dflt (refine' fn_there ?F ?X ?h (wpN_of ?_); (case F => k_asm); (case X => k_asm); (case h => k_is))
  k_steps
  refine wpN_of ?_
  k_steps
  refine wpN_nil ?_
  dsimp only
  refine wpN_cons (wpN_of ?_)
  k_steps
  refine wpN_cons (wpN_of ?_)
  k_steps
  dsimp only
  refine wpN_cons (wpN_For rfl rfl rfl (by intro _; rfl) (h₀ := g') ?_)
  k_steps
  k_dflt (refine' ForN.same ?F ?N ?m ?turn ?fin; (case F => k_asm); (case N => k_asm); (case m => k_mem))
  case turn =>
    intro it' hit' i' v' o' h' tk' hv' F' N'
    obtain ⟨c', t', rfl, hne⟩ := Others.get (I := I) (by subst hid; (repeat' (first | exact w_more | exact w_ahead hl | exact w_fewer hpos | exact w_first hr hpos | exact w_last hr hpos | exact Others.nil | refine Others.cons ?_ ?_))) hv'
    k_steps
    exact TurnEnd.intro (by assumption) (by assumption)
  case fin =>
    intro h' tk' a' F' N'
    dsimp only
    refine wpN_of ?_
    k_steps
    refine hret _ [] _ _ (by assumption) ?_ (fun _ _ _ h => nomatch h) ⟨rfl, rfl⟩
    refine News.sub (by assumption) ?_
    intro p hp
    (repeat' (first | assumption | refine List.mem_cons_of_mem _ ?_))
set_option maxHeartbeats 8000000 in
theorem yan_nil {w : World} {bv : Value} {I : Array UInt8} {req : Led} {tp : Tok} {dl : Addr} {dvs : List Value} {ds : List Int} {ep : Nat} {pl : Int} {ahead : Bool} (hB : BhiB w bv pl tp ahead req I) (hA : BhiA w bv pl tp ahead req I) (hS : BhiS w bv pl tp ahead req)
    (hi : IntsAre dvs ds) (hr : Oct ds) (hl : ds.length ≤ 4) (hpos : ds.length = 0) (hid : I = byteArr ds) :
    ContractN 10 w 142 [bv, .int pl tp, .ref dl, .bool ahead] [] (fun news => (dl, W.listOf dvs.toArray ep) ∈ news ∧ Req req news) (fun r new => new = [] ∧ r = .bool true) := by
  unfold ContractN
  intro mean mg mb dp un gd cn nm ig ic mo a ccd cl outer A₀ base h₀ L m news s Q E B F X N T hd hu hpre hret
  (try dsimp only at hpre)
  obtain ⟨hpl, hpq⟩ := hpre
  revert X; w_top off; k_fill; intro X
  refine wpN_call ?_
  k_dflt (refine' callN_plain ?k1 ?k2 ?k3 ?k4 ?k5 ?kA ?kf ?ke ?k6 ?k7 ?k8 ?k9 ?kB ?_ ?c2 ?c3 ?c4 ?c5; (case kA => exact rfl); (case kf => exact rfl); (case ke => exact rfl); (case k2 => k_asm); (case k1 => k_asm); (case k3 => k_asm); (case k4 => k_asm); (case k5 => k_asm); (case k6 => k_is); (case k7 => k_is); (case k8 => k_room); (case k9 => exact BindsTo.of_eq rfl); (case kB => exact locs rfl); (case c2 => exact rfl); (case c3 => exact rfl); (case c4 => exact rfl); (case c5 => decide); intro g' L' h' FG' F' N' B' X' T' l1; (try dsimp only); (try k_lift B'))
  refine wpN_cons (wpN_of ?_)
  k_steps
  rotate_left
  · exact absurd ((eq_self hid).symm.trans (by assumption)) Bool.noConfusion
  dsimp only
  refine wpN_cons (wpN_If (wpN_isTrue_Not (wpN_isTrue_value ?_ rfl)))
  refine wpN_Call_Name (wpN_of ?_)
  k_steps
  k_dflt (refine wpN_callWith_fn (wpN_args ?_ rfl rfl) rfl (by show 3 + 2 * 1 ≤ 30; omega))
  refine wpN_args_more (wpN_of ?_) rfl
  k_steps
  refine wpN_args_more (wpN_of ?_) rfl
  k_steps
  refine wpN_args_more (wpN_Call_Name (wpN_of ?_)) rfl
  k_steps
  k_dflt (refine wpN_callWith_type (wpN_args ?_ rfl rfl) rfl)
  refine wpN_args_more (wpN_of ?_) rfl
  k_steps
  refine wpN_args_nil (wpN_all_nil ?_)
  k_dflt (refine' call_ba_K ?F ?N ?m hi hr ?z ?_; (case F => k_asm); (case N => k_asm); (case m => k_mem); (case z => (rw [sizeLine_eq]; omega)))
  rw [← hid]
  intro D' h' F' N' l1
  refine wpN_args_nil ?_
  refine wpN_all_kw (wpN_of ?_)
  k_steps
  k_dflt (refine' fn_there ?F ?X ?h (wpN_of ?_); (case F => k_asm); (case X => k_asm); (case h => k_is))
  k_steps
  refine wpN_of ?_
  k_steps
  refine wpN_nil ?_
  dsimp only
  refine wpN_cons (wpN_of ?_)
  k_steps
  refine wpN_cons (wpN_of ?_)
  k_steps
  dsimp only
  refine wpN_cons (wpN_For rfl rfl rfl (by intro _; rfl) (h₀ := g') ?_)
  k_steps
  k_dflt (refine' ForN.same ?F ?N ?m ?turn ?fin; (case F => k_asm); (case N => k_asm); (case m => k_mem))
  case turn =>
    intro it' hit' i' v' o' h' tk' hv' F' N'
    obtain ⟨c', t', rfl, hne⟩ := Others.get (I := I) (by subst hid; (repeat' (first | exact w_more | exact w_ahead hl | exact Others.nil | refine Others.cons ?_ ?_))) hv'
    k_steps
    exact TurnEnd.intro (by assumption) (by assumption)
  case fin =>
    intro h' tk' a' F' N'
    dsimp only
    refine wpN_of ?_
    k_steps
    refine hret _ [] _ _ (by assumption) ?_ (fun _ _ _ h => nomatch h) ⟨rfl, rfl⟩
    refine News.sub (by assumption) ?_
    intro p hp
    (repeat' (first | assumption | refine List.mem_cons_of_mem _ ?_))
end Mine
end
section
open PySem PySem.W PyProof.Rows PySem.Calls
namespace Mine
theorem Contract.weaken {n : Nat} {w : World} {f : Addr} {pos : List Value} {kw : List (Str × Value)} {pre pre' : Led → Prop} {post post' : Value → Led → Prop} (C : Contract n w f pos kw pre post) (h : ∀ news, pre' news → pre news) (hp : ∀ r new, post r new → post' r new) :
    Contract n w f pos kw pre' post' := by
  unfold Contract at C ⊢
  intro mean mg mb dp un gd cn nm ig ic mo a ccd cl outer A₀ base h₀ L m news s Q E B F X N T hd hu hpre hret
  exact C mean mg mb dp un gd cn nm ig ic mo a ccd cl outer A₀ base h₀ L m news s Q E B F X N T hd hu (h _ hpre) fun r new h' tk F' N' l hq => hret r new h' tk F' N' l (hp _ _ hq)
theorem ContractN.weaken {n : Nat} {w : World} {f : Addr} {pos : List Value} {kw : List (Str × Value)} {pre pre' : Led → Prop} {post : Value → Led → Prop} (C : ContractN n w f pos kw pre post) (h : ∀ news, pre' news → pre news) :
    ContractN n w f pos kw pre' post := by
  unfold ContractN at C ⊢
  intro mean mg mb dp un gd cn nm ig ic mo a ccd cl outer A₀ base h₀ L m news s Q E B F X N T hd hu hpre hret
  exact C mean mg mb dp un gd cn nm ig ic mo a ccd cl outer A₀ base h₀ L m news s Q E B F X N T hd hu (h _ hpre) hret
section
variable {w : World} {b : Array UInt8} {tb tp : Tok} {ba dl : Addr} {dvs : List Value} {ds : List Int} {ep : Nat} {pl : Int} {ahead : Bool}
theorem yan {bv : Value} {I : Array UInt8} {req : Led} (hB : BhiB w bv pl tp ahead req I) (hA : BhiA w bv pl tp ahead req I) (hS : BhiS w bv pl tp ahead req)
    (hi : IntsAre dvs ds) (hr : Oct ds) (hl : ds.length ≤ 4) (hid : I = byteArr ds) :
    ContractN 10 w 142 [bv, .int pl tp, .ref dl, .bool ahead] [] (fun news => (dl, W.listOf dvs.toArray ep) ∈ news ∧ Req req news) (fun r new => new = [] ∧ r = .bool true) := by
  rcases Nat.eq_zero_or_pos ds.length with h | h
  · exact yan_nil hB hA hS hi hr hl h hid
  · exact yan_cons hB hA hS hi hr hl h hid
theorem yan_bytes (hb : b.size ≤ 20) (hi : IntsAre dvs ds) (hr : Oct ds) (hl : ds.length ≤ 4) (hid : idOf b pl ahead = byteArr ds) :
    ContractN 10 w 142 [.bytes b tb, .int pl tp, .ref dl, .bool ahead] [] (fun news => (dl, W.listOf dvs.toArray ep) ∈ news) (fun r new => new = [] ∧ r = .bool true) :=
  (yan (req := []) (fun _ _ => (bhi_bytes_bytes hb).weaken (fun _ _ => trivial) fun _ _ h => h)
    (fun _ => (bhi_bytes_ba (c := idOf b pl ahead) hb).weaken (fun _ h => h.1) fun _ _ h => ⟨h.1, h.2.trans (by rw [eq_self rfl])⟩)
    (fun _ _ => (bhi_bytes_str hb).weaken (fun _ _ => trivial) fun _ _ h => h) hi hr hl hid).weaken fun _ h => ⟨h, fun _ hp => nomatch hp⟩
theorem yan_ba (hb : b.size ≤ 20) (hi : IntsAre dvs ds) (hr : Oct ds) (hl : ds.length ≤ 4) (hid : idOf b pl ahead = byteArr ds) :
    ContractN 10 w 142 [.ref ba, .int pl tp, .ref dl, .bool ahead] [] (fun news => (dl, W.listOf dvs.toArray ep) ∈ news ∧ (ba, baObj b) ∈ news) (fun r new => new = [] ∧ r = .bool true) :=
  (yan (req := [(ba, baObj b)]) (fun _ _ => (bhi_ba_bytes hb).weaken (fun _ h => h _ (List.Mem.head _)) fun _ _ h => h)
    (fun _ => (bhi_ba_ba (c := idOf b pl ahead) hb).weaken (fun _ h => ⟨h.2 _ (List.Mem.head _), h.1⟩) fun _ _ h => ⟨h.1, h.2.trans (by rw [eq_self rfl])⟩)
    (fun _ _ => (bhi_ba_str hb).weaken (fun _ h => h _ (List.Mem.head _)) fun _ _ h => h) hi hr hl hid).weaken fun _ h => ⟨h.1, fun q hp => by rw [List.mem_singleton.mp hp]; exact h.2⟩
end
end Mine
end
section
open PySem PySem.W PyProof.Rows PySem.Calls
namespace Mine
section
variable {prog : Program} {w : World} {A : Around} {E : Value → Shared → Prop} {s : Shared} {env : Env} {h₀ : Heap} {L : Addr} {M : Str → Option Value} {news : Led} {x : Str}
def EndInt (h₀ : Heap) (L : Addr) (s : Shared) (M : Str → Option Value) (news : Led) (x : Str) (f : Flow) (s' : Shared) : Prop :=
  f = .next ∧ ∃ k t h tk, s' = { s with heap := h, toks := tk } ∧ Fr h₀ L h (fun y => if y = x then some (.int k t) else M y) ∧ News h₀ L h news
theorem EndInt.intro {k : Int} {t : Tok} {h : Heap} {tk : Nat} (F : Fr h₀ L h (fun y => if y = x then some (.int k t) else M y)) (N : News h₀ L h news) : EndInt h₀ L s M news x .next { s with heap := h, toks := tk } :=
  ⟨rfl, k, t, h, tk, rfl, F, N⟩
theorem wpN_cutInt (x : Str) {st : Stmt} {rest : List Stmt} {Q : Flow → Shared → Prop} (_F : Fr h₀ L s.heap M) (_N : News h₀ L s.heap news) (first : wpAny (model prog w) A (exec st env) (EndInt h₀ L s M news x) E s)
    (h : ∀ k t h tk, Fr h₀ L h (fun y => if y = x then some (.int k t) else M y) → News h₀ L h news → wpN (model prog w) A (execs rest env) Q E { s with heap := h, toks := tk }) : wpN (model prog w) A (execs (st :: rest) env) Q E s :=
  wpN_cons (wpN_of (wpAny_mono first (fun f s' he => by
    obtain ⟨rfl, k, t, h', tk, rfl, F', N'⟩ := he
    exact h k t h' tk F' N') fun _ _ q => q))
end
end Mine
end
section
open PySem PySem.W PyProof.Rows PySem.Calls
namespace Mine
/-! The comprehension `[plain[j] for j in range(start, start + 4) if j < len(plain)]`. -/
theorem take_more {ns : List Int} {p i : Nat} (h : p + i < ns.length) : (ns.drop p).take (i + 1) = (ns.drop p).take i ++ [ns.getD (p + i) 0] := by
  rw [List.take_add_one, List.getElem?_drop, List.getD_eq_getElem?_getD, List.getElem?_eq_getElem h]
  rfl
theorem take_same {ns : List Int} {p i : Nat} (h : ¬ p + i < ns.length) : (ns.drop p).take (i + 1) = (ns.drop p).take i := by
  rw [List.take_of_length_le (by rw [List.length_drop]; omega), List.take_of_length_le (by rw [List.length_drop]; omega)]
theorem IntsAre.snoc : ∀ {vs : List Value} {ns : List Int} {n : Int} {t : Tok}, IntsAre vs ns → IntsAre (vs ++ [.int n t]) (ns ++ [n])
  | _, _, n, t, .nil => .cons n t .nil
  | _, _, _, _, .cons a b h => .cons a b (IntsAre.snoc h)
section
variable {prog : Program} {w : World} {A : Around} {h₀ : Heap} {L : Addr} {m : Str → Option Value} {env : Env} {ct elt : Expr} {x : Str} {scope : Scope} {cl : List (Str × Addr)} {s : Shared} {S : Led → Prop} {Fin : List Value → Led → Prop}
/-- one turn of the comprehension over ns, at the place j -/
def DueTurn (prog : Program) (w : World) (A : Around) (h₀ : Heap) (L : Addr) (m : Str → Option Value) (env : Env) (ct elt : Expr) (x : Str) (scope : Scope) (cl : List (Str × Addr)) (s : Shared) (S : Led → Prop) (ns : List Int) (st : Int) (news : Led) : Prop :=
  ∀ (j : Int) (t : Tok) (I : Addr) (oI : Obj) (C : Addr) (oC : Obj) (D : Addr) (ys : List Value) (m₂ : Str → Option Value) (h : Heap) (tk : Nat) (E' : Value → Shared → Prop), st ≤ j → j < st + 4 → LCg.NsObj oC m₂ → m₂ x = some (.int j t) → Fr h₀ L h m → News h₀ L h ((I, oI) :: (C, oC) :: (D, LCg.lst ys) :: news) → LCg.Off3 I C D news → ((@Ne Nat I C) ∧ (@Ne Nat I D) ∧ (@Ne Nat C D)) →
    wpAny (model prog w) A (isTrue ct (compEnvC scope cl C env) (eval ct (compEnvC scope cl C env))) (fun ok s' => if ok = true then
      wpAny (model prog w) A (eval elt (compEnvC scope cl C env)) (LCg.CompEnd h₀ L m { s with heap := h, toks := tk } I oI C oC D (LCg.lst ys) S (fun y news' => news' = news ∧ j < (ns.length : Int) ∧ ∃ t', y = .int (ns.getD j.toNat 0) t')) E' s'
      else LCg.CompEnd h₀ L m { s with heap := h, toks := tk } I oI C oC D (LCg.lst ys) S (fun _ news' => news' = news ∧ ¬ j < (ns.length : Int)) Value.none s') E' { s with heap := h, toks := tk }
theorem compEnd_mono {s₁ s₂ : Shared} {I C D : Addr} {oI oC oD : Obj} {rest rest' : Value → Led → Prop} {y : Value} (h : LCg.CompEnd h₀ L m s₁ I oI C oC D oD S rest y s₂) (hr : ∀ y n, rest y n → rest' y n) : LCg.CompEnd h₀ L m s₁ I oI C oC D oD S rest' y s₂ := by
  obtain ⟨h', tk, n, e, F, N, o, hS, r⟩ := h
  exact ⟨h', tk, n, e, F, N, o, hS, hr _ _ r⟩
theorem due_rest {ns : List Int} {st : Int} {news : Led} (h0 : 0 ≤ st) (T : DueTurn prog w A h₀ L m env ct elt x scope cl s S ns st news) (fin : ∀ ys, IntsAre ys ((ns.drop st.toNat).take 4) → Fin ys news) :
    ∀ (k i : Nat) (ys : List Value), k + i = 4 → IntsAre ys ((ns.drop st.toNat).take i) → LCt.CompRestT prog w A h₀ L m env ct elt x scope cl s S (fun i v => ∃ t, v = .int (st + (i : Int)) t) Fin k i ys news
  | 0, i, ys, hk, hi => by
    obtain rfl : i = 4 := by omega
    exact fin ys hi
  | k + 1, i, ys, hk, hi => by
    refine LCt.CompRestT.succ fun v I oI C oC D m₂ h tk E' hP hC hx F N off ne => ?_
    obtain ⟨t, rfl⟩ := hP
    refine wpAny_mono (T (st + (i : Int)) t I oI C oC D ys m₂ h tk E' (by omega) (by omega) hC hx F N off ne) (fun ok s' h' => ?_) fun _ _ e => e
    have e1 : (st + (i : Int)).toNat = st.toNat + i := by omega
    cases ok with
    | true =>
      simp only [if_true] at h' ⊢
      refine wpAny_mono h' (fun y s₂ hy => compEnd_mono hy fun y n ⟨hn, hj, t', hv⟩ => ?_) fun _ _ e => e
      subst hn hv
      refine due_rest h0 T fin k (i + 1) _ (by omega) ?_
      rw [take_more (by omega), e1]
      exact IntsAre.snoc hi
    | false =>
      simp only [Bool.false_eq_true, if_false] at h' ⊢
      refine compEnd_mono h' fun y n ⟨hn, hj⟩ => ?_
      subst hn
      refine due_rest h0 T fin k (i + 1) _ (by omega) ?_
      rw [take_same (by omega)]
      exact hi
/-- where the range stands -/
theorem due_src {r : Addr} {st b : Int} {t u v : Tok} {ns : List Int} {news : Led} {s₁ : Shared} {Fin : Shared → List Value → Led → Prop} (hh : A.handled = none) (F : Fr h₀ L s₁.heap m) (N : News h₀ L s₁.heap news) (hr : IsRange s₁.heap r st b 1 t u v) (hb : b = st + 4) (h0 : 0 ≤ st) (h1 : st ≤ 100)
    (T : ∀ g, DueTurn prog w A h₀ L m env ct elt x scope cl { s₁ with heap := g } (fun _ => True) ns st news) (fin : ∀ g ys, IntsAre ys ((ns.drop st.toNat).take 4) → Fin { s₁ with heap := g } ys news) :
    LCt.CompSrcT prog w A h₀ L m env ct elt x scope cl Fin (.ref r) s₁ := by
  subst hb
  refine LCt.CompSrcT.range (n := 4) hh F N hr ?_ ?_ (by rw [sizeLine_eq]; omega) fun g => due_rest h0 (T g) (fin g) 4 0 [] rfl .nil
  · exact small_one (a := st) (b := st + 4) (by omega) (by omega) (by omega) (by omega)
  · unfold Builtin.Range.rangeSize
    simp
    omega
end
end Mine
end
section
open PySem PySem.W PyProof.Rows PySem.Calls
namespace Mine
section
variable {prog : Program} {w : World} {A : Around} {E : Value → Shared → Prop} {s : Shared} {env : Env} {h₀ : Heap} {x1 x2 x3 x4 x5 x6 x7 x8 : Str} {a1 a2 a3 a4 a5 a6 a7 a8 v1 v2 v3 v4 v5 v6 v7 v8 : Option Value} {base : Str → Option Value}
theorem shadow8 : (fun y => if y = x8 then v8 else if y = x7 then v7 else if y = x6 then v6 else if y = x5 then v5 else if y = x4 then v4 else if y = x3 then v3 else if y = x2 then v2 else if y = x1 then v1 else
      (if y = x8 then a8 else if y = x7 then a7 else if y = x6 then a6 else if y = x5 then a5 else if y = x4 then a4 else if y = x3 then a3 else if y = x2 then a2 else if y = x1 then a1 else base y)) =
    fun y => if y = x8 then v8 else if y = x7 then v7 else if y = x6 then v6 else if y = x5 then v5 else if y = x4 then v4 else if y = x3 then v3 else if y = x2 then v2 else if y = x1 then v1 else base y := funext fun y => by
  by_cases h8 : y = x8
  · simp only [if_pos h8]
  by_cases h7 : y = x7
  · simp only [if_neg h8, if_pos h7]
  by_cases h6 : y = x6
  · simp only [if_neg h8, if_neg h7, if_pos h6]
  by_cases h5 : y = x5
  · simp only [if_neg h8, if_neg h7, if_neg h6, if_pos h5]
  by_cases h4 : y = x4
  · simp only [if_neg h8, if_neg h7, if_neg h6, if_neg h5, if_pos h4]
  by_cases h3 : y = x3
  · simp only [if_neg h8, if_neg h7, if_neg h6, if_neg h5, if_neg h4, if_pos h3]
  by_cases h2 : y = x2
  · simp only [if_neg h8, if_neg h7, if_neg h6, if_neg h5, if_neg h4, if_neg h3, if_pos h2]
  by_cases h1 : y = x1
  · simp only [if_neg h8, if_neg h7, if_neg h6, if_neg h5, if_neg h4, if_neg h3, if_neg h2, if_pos h1]
  simp only [if_neg h8, if_neg h7, if_neg h6, if_neg h5, if_neg h4, if_neg h3, if_neg h2, if_neg h1]
theorem none8 : base = fun y => if y = x8 then base x8 else if y = x7 then base x7 else if y = x6 then base x6 else if y = x5 then base x5 else if y = x4 then base x4 else if y = x3 then base x3 else if y = x2 then base x2 else if y = x1 then base x1 else base y := funext fun y => by
  repeat' split
  all_goals simp_all
/-- where a turn of the law's loop ends -/
def TurnEnd8 (h₀ : Heap) (L : Addr) (s : Shared) (x1 x2 x3 x4 x5 x6 x7 x8 : Str) (m : Str → Option Value) (news : Led) (f : Flow) (s' : Shared) : Prop :=
  f = .next ∧ ∃ h' tk' v1 v2 v3 v4 v5 v6 v7 v8, s' = { s with heap := h', toks := tk' } ∧
    Fr h₀ L h' (fun y => if y = x8 then v8 else if y = x7 then v7 else if y = x6 then v6 else if y = x5 then v5 else if y = x4 then v4 else if y = x3 then v3 else if y = x2 then v2 else if y = x1 then v1 else m y) ∧ News h₀ L h' news
theorem TurnEnd8.intro {L : Addr} {m : Str → Option Value} {news all : Led} {h' : Heap} {tk' : Nat}
    (F : Fr h₀ L h' (fun y => if y = x8 then v8 else if y = x7 then v7 else if y = x6 then v6 else if y = x5 then v5 else if y = x4 then v4 else if y = x3 then v3 else if y = x2 then v2 else if y = x1 then v1 else m y)) (N : News h₀ L h' all) (hs : ∀ p ∈ news, p ∈ all) :
    TurnEnd8 h₀ L s x1 x2 x3 x4 x5 x6 x7 x8 m news .next { s with heap := h', toks := tk' } := ⟨rfl, h', tk', _, _, _, _, _, _, _, _, rfl, F, News.sub N hs⟩
/-- the law's loop over a list: its body binds the eight names, in this order -/
theorem ForN.eight {body : List Stmt} {Q : Flow → Shared → Prop} {l : Addr} {xs : List Value} {ep : Nat} {news : Led} (x2 x3 x4 x5 x6 x7 x8 : Str) (F : Fr h₀ env.locals s.heap base) (N : News h₀ env.locals s.heap news) (hm : (l, W.listOf xs.toArray ep) ∈ news)
    (turn : ∀ it, (∀ p ∈ news, p.1 < it) → ∀ (i : Nat) v o h tk a1 a2 a3 a4 a5 a6 a7 a8, xs[i]? = some v →
      Fr h₀ env.locals h (fun y => if y = x1 then some v else if y = x8 then a8 else if y = x7 then a7 else if y = x6 then a6 else if y = x5 then a5 else if y = x4 then a4 else if y = x3 then a3 else if y = x2 then a2 else if y = x1 then a1 else base y) → News h₀ env.locals h ((it, o) :: news) →
      wpN (model prog w) A (execs body env) (TurnEnd8 h₀ env.locals s x1 x2 x3 x4 x5 x6 x7 x8 (fun y => if y = x8 then a8 else if y = x7 then a7 else if y = x6 then a6 else if y = x5 then a5 else if y = x4 then a4 else if y = x3 then a3 else if y = x2 then a2 else if y = x1 then a1 else base y) ((it, o) :: news))
        (notedBy (model prog w) A env (cameBackBy (model prog w) A env E)) { s with heap := h, toks := tk })
    (fin : ∀ h tk a1 a2 a3 a4 a5 a6 a7 a8, Fr h₀ env.locals h (fun y => if y = x8 then a8 else if y = x7 then a7 else if y = x6 then a6 else if y = x5 then a5 else if y = x4 then a4 else if y = x3 then a3 else if y = x2 then a2 else if y = x1 then a1 else base y) → News h₀ env.locals h news → Q .next { s with heap := h, toks := tk }) :
    ForN prog w A env h₀ x1 body Q E (.ref l) s := by
  refine ⟨l, xs, ep, base, news, fun _ m => ∃ a1 a2 a3 a4 a5 a6 a7 a8, m = fun y => if y = x8 then a8 else if y = x7 then a7 else if y = x6 then a6 else if y = x5 then a5 else if y = x4 then a4 else if y = x3 then a3 else if y = x2 then a2 else if y = x1 then a1 else base y, rfl, F, N, hm, ⟨_, _, _, _, _, _, _, _, none8⟩, fun it hit i v o h tk m hv hJ F' N' => ?_, fun h tk m hJ F' N' => ?_⟩
  · obtain ⟨a1, a2, a3, a4, a5, a6, a7, a8, rfl⟩ := hJ
    refine wpN_mono (turn it hit i v o h tk a1 a2 a3 a4 a5 a6 a7 a8 hv F' N') (fun f s' ht => ?_) fun _ _ q => q
    obtain ⟨rfl, h', tk', v1, v2, v3, v4, v5, v6, v7, v8, rfl, F₂, N₂⟩ := ht
    exact ⟨rfl, h', tk', _, rfl, ⟨v1, v2, v3, v4, v5, v6, v7, v8, shadow8⟩, F₂, N₂⟩
  · obtain ⟨a1, a2, a3, a4, a5, a6, a7, a8, rfl⟩ := hJ
    exact fin h tk a1 a2 a3 a4 a5 a6 a7 a8 F' N'
theorem ints_get : ∀ {vs : List Value} {ns : List Int} {i : Nat} {v : Value}, IntsAre vs ns → vs[i]? = some v → ∃ n t, v = .int n t
  | _, _, 0, _, .cons n t _, e => ⟨n, t, (Option.some.inj e).symm⟩
  | _, _, i + 1, _, .cons _ _ r, e => ints_get (i := i) r e
end
local macro_rules | `(tactic| k_room) => `(tactic| ktr_room)
local macro_rules | `(tactic| walk_at "subscriptTail") => `(tactic| (k_here; (with_reducible show wpAny _ _ (subscriptTail _ (Expr.Slice _ _ none _) (Value.bytes _ _) (Value.ref _)) _ _ _); (with_reducible rename Fr _ _ _ _ => F'); (with_reducible rename News _ _ _ _ => N'); (refine KBc.slice_K (s := ⟨_, _, _, _, _⟩) F' N' rfl (by constructor) (by constructor) (by rw [KBw.ints_length]; omega) ?_); intro _ _ _ F' N' _))
local macro_rules | `(tactic| walk_at "subscriptTail") => `(tactic| (k_here; (with_reducible show wpAny _ _ (subscriptTail _ (Expr.Slice _ _ none _) (Value.ref _) (Value.ref _)) _ _ _); (with_reducible rename Fr _ _ _ _ => F'); (with_reducible rename News _ _ _ _ => N'); (refine ba_slice_K (s := ⟨_, _, _, _, _⟩) F' N' (News.get N' (by k_mem)) (by constructor) (by constructor) (by rw [sizeLine_eq]; omega) ?_); intro _ _ F' N' l1))
set_option maxHeartbeats 4000000 in
theorem gbi0_bytes {w : World} {b : Array UInt8} {tb : Tok} {pl : Int} {tp : Tok} (hb : b.size ≤ 20) :
    Contract 2 w 106 [.bytes b tb, .int pl tp] [] (fun _ => True) (fun r new => new = [] ∧ ∃ t, r = .bytes (idOf b pl false) t) := by
  unfold Contract
  intro mean mg mb dp un gd cn nm ig ic mo a ccd cl outer A₀ base h₀ L m news s Q E B F X N T hd hu hpre hret
  revert X; w_top off; k_fill; intro X
  k_steps
  all_goals
    refine fin_bytes hret (by assumption) (by assumption) ?_
    exact idOf_f b pl
set_option maxHeartbeats 4000000 in
theorem gbi0_ba {w : World} {b : Array UInt8} {ba : Addr} {pl : Int} {tp : Tok} (hb : b.size ≤ 20) :
    Contract 2 w 106 [.ref ba, .int pl tp] [] (fun news => (ba, baObj b) ∈ news) (fun r new => ∃ D, r = .ref D ∧ new = [(D, baObj (idOf b pl false))]) := by
  unfold Contract
  intro mean mg mb dp un gd cn nm ig ic mo a ccd cl outer A₀ base h₀ L m news s Q E B F X N T hd hu hpre hret
  revert X; w_top off; k_fill; intro X
  k_steps
  all_goals
    refine fin_ba hret (by assumption) (by assumption) (by assumption) ?_
    exact idOf_f b pl
end Mine
end
section
open PySem PySem.W PyProof.Rows PySem.Calls
namespace Mine
section
variable {prog : Program} {w : World} {A : Around} {E : Value → Shared → Prop} {s : Shared} {env : Env} {h₀ : Heap} {L : Addr} {M : Str → Option Value} {news : Led} {x : Str} {P : Value → Prop}
/-- a statement that binds x to a value of which P is known, and does nothing else -/
def EndV (h₀ : Heap) (L : Addr) (s : Shared) (M : Str → Option Value) (news : Led) (x : Str) (P : Value → Prop) (f : Flow) (s' : Shared) : Prop :=
  f = .next ∧ ∃ v h tk, P v ∧ s' = { s with heap := h, toks := tk } ∧ Fr h₀ L h (fun y => if y = x then some v else M y) ∧ News h₀ L h news
theorem EndV.intro {v : Value} {h : Heap} {tk : Nat} {all : Led} (F : Fr h₀ L h (fun y => if y = x then some v else M y)) (N : News h₀ L h all) (hs : ∀ p ∈ news, p ∈ all) (hP : P v) : EndV h₀ L s M news x P .next { s with heap := h, toks := tk } :=
  ⟨rfl, v, h, tk, hP, rfl, F, News.sub N hs⟩
theorem wpN_cutV (x : Str) (P : Value → Prop) {st : Stmt} {rest : List Stmt} {Q : Flow → Shared → Prop} (_F : Fr h₀ L s.heap M) (_N : News h₀ L s.heap news) (first : wpN (model prog w) A (exec st env) (EndV h₀ L s M news x P) E s)
    (h : ∀ v h tk, P v → Fr h₀ L h (fun y => if y = x then some v else M y) → News h₀ L h news → wpN (model prog w) A (execs rest env) Q E { s with heap := h, toks := tk }) : wpN (model prog w) A (execs (st :: rest) env) Q E s :=
  wpN_cons (wpN_mono first (fun f s' he => by
    obtain ⟨rfl, v, h', tk, hP, rfl, F', N'⟩ := he
    exact h v h' tk hP F' N') fun _ _ q => q)
end
theorem byteArr_bInts (b : Array UInt8) : byteArr (KBw.bInts b) = b := by
  show ((b.toList.map fun c => (c.toNat : Int)).map fun n => n.toNat.toUInt8).toArray = b
  rw [List.map_map, show ((fun n : Int => n.toNat.toUInt8) ∘ fun c : UInt8 => (c.toNat : Int)) = id from funext fun c => by simp, List.map_id, Array.toArray_toList]
theorem due_eq {ns : List Int} {st : Int} (h0 : 0 ≤ st) : (ns.drop (clipAt ns.length st)).take (clipAt ns.length (st + 4) - clipAt ns.length st) = (ns.drop st.toNat).take 4 := by
  obtain ⟨k, rfl⟩ := Int.eq_ofNat_of_zero_le h0
  rw [show ((k : Int) + 4) = ((k + 4 : Nat) : Int) from rfl, clipAt_nat, clipAt_nat, Int.toNat_natCast]
  rcases Nat.le_total k ns.length with hk | hk
  · rw [Nat.min_eq_left hk]
    rcases Nat.le_total (k + 4) ns.length with h4 | h4
    · rw [Nat.min_eq_left h4, show k + 4 - k = 4 by omega]
    · rw [Nat.min_eq_right h4, List.take_of_length_le (by rw [List.length_drop]; omega), List.take_of_length_le (by rw [List.length_drop]; omega)]
  · rw [Nat.min_eq_right hk, List.drop_eq_nil_of_le hk, List.drop_eq_nil_of_le (Nat.le_refl _), List.take_nil, List.take_nil]
theorem startOf_nonneg {pl : Int} {ahead : Bool} (h0 : 0 ≤ pl) : 0 ≤ startOf pl ahead := by
  unfold startOf
  split <;> omega
theorem idOf_due {ns : List Int} {pl : Int} {ahead : Bool} (h : Oct ns) (h0 : 0 ≤ pl) : idOf (byteArr ns) pl ahead = byteArr ((ns.drop (startOf pl ahead).toNat).take 4) := by
  rw [← byteArr_bInts (idOf (byteArr ns) pl ahead)]
  unfold idOf
  rw [KBc.ints_picked (bInts_byteArr h)]
  exact congrArg byteArr (due_eq (startOf_nonneg h0))
theorem bInts_due {ns : List Int} {pl : Int} {ahead : Bool} (h : Oct ns) (h0 : 0 ≤ pl) : KBw.bInts (idOf (byteArr ns) pl ahead) = (ns.drop (startOf pl ahead).toNat).take 4 := by
  rw [idOf_due h h0, bInts_byteArr (oct_take (oct_drop h))]
end Mine
end
section
open PySem PySem.W PyProof.Rows PySem.Calls
namespace Mine
theorem extract_byteArr (ns : List Int) (p : Nat) : (byteArr ns).extract p (p + 4) = byteArr ((ns.drop p).take 4) := by
  unfold byteArr
  rw [List.extract_toArray, List.extract_eq_take_drop, Nat.add_sub_cancel_left, List.map_take, List.map_drop]
theorem le_four (a b c d : Int) (ha : 0 ≤ a ∧ a < 256) (hb : 0 ≤ b ∧ b < 256) (hc : 0 ≤ c ∧ c < 256) (hd : 0 ≤ d ∧ d < 256) :
    ((Builtin.Memoryview.littleEndian (byteArr [a, b, c, d]) : Nat) : Int) = a + b * 256 + c * 65536 + d * 16777216 := by
  have e : Builtin.Memoryview.littleEndian (byteArr [a, b, c, d]) = (((0 * 256 + d.toNat.toUInt8.toNat) * 256 + c.toNat.toUInt8.toNat) * 256 + b.toNat.toUInt8.toNat) * 256 + a.toNat.toUInt8.toNat := rfl
  have e1 := byte_back ha.1 ha.2
  have e2 := byte_back hb.1 hb.2
  have e3 := byte_back hc.1 hc.2
  have e4 := byte_back hd.1 hd.2
  rw [e]
  omega
theorem getD_drop (ns : List Int) (p i : Nat) : ns.getD (p + i) 0 = (ns.drop p).getD i 0 := by
  rw [List.getD_eq_getElem?_getD, List.getD_eq_getElem?_getD, List.getElem?_drop]
theorem le_val {ns : List Int} (h : Oct ns) {p : Nat} (hp : p + 4 ≤ ns.length) : ((Builtin.Memoryview.littleEndian ((byteArr ns).extract p (p + 4)) : Nat) : Int) = valOf ns p := by
  rw [extract_byteArr]
  unfold valOf
  rw [show ns.getD p 0 = ns.getD (p + 0) 0 from rfl, getD_drop, getD_drop, getD_drop, getD_drop]
  have hl : 4 ≤ (ns.drop p).length := by rw [List.length_drop]; omega
  have ho : Oct (ns.drop p) := oct_drop h
  generalize ns.drop p = l at *
  match l, hl, ho with
  | a :: b :: c :: d :: r, _, ho =>
    exact le_four a b c d (ho a (by simp)) (ho b (by simp)) (ho c (by simp)) (ho d (by simp))
theorem size_due {ns : List Int} (h : Oct ns) {p : Nat} (hp : p + 4 ≤ ns.length) : sizeOf4 (byteArr ns) p = sizeInts ns p := by
  have e := le_val h hp
  unfold sizeOf4 sizeInts
  generalize Builtin.Memoryview.littleEndian ((byteArr ns).extract p (p + 4)) = n at *
  rw [← e]
  by_cases hn : n ≥ 2 ^ 31
  · rw [if_pos hn, if_pos (by omega)]
  · rw [if_neg hn, if_neg (by omega)]
/-- what `_law_told_size` and `_law_size` answer is one -/
theorem fmod_place (k : Int) (n : Nat) (hn : n ≤ 20) : 0 ≤ k.fmod ((n : Int) + 7) ∧ k.fmod ((n : Int) + 7) ≤ 26 := by
  rw [Int.fmod_eq_emod_of_nonneg _ (by omega)]
  have h1 := Int.emod_nonneg k (b := (n : Int) + 7) (by omega)
  have h2 := Int.emod_lt_of_pos k (b := (n : Int) + 7) (by omega)
  omega
section
variable {prog : Program} {w : World} {A : Around} {E : Value → Shared → Prop} {s : Shared} {env : Env} {h₀ : Heap} {L : Addr} {M : Str → Option Value} {news : Led}
def EndS (h₀ : Heap) (L : Addr) (s : Shared) (m : Str → Option Value) (news : Led) (f : Flow) (s' : Shared) : Prop := f = .next ∧ ∃ h' tk', s' = { s with heap := h', toks := tk' } ∧ Fr h₀ L h' m ∧ News h₀ L h' news
theorem EndS.intro {h' : Heap} {tk' : Nat} {all : Led} (F : Fr h₀ L h' M) (N : News h₀ L h' all) (hs : ∀ p ∈ news, p ∈ all) : EndS h₀ L s M news .next { s with heap := h', toks := tk' } := ⟨rfl, h', tk', rfl, F, News.sub N hs⟩
theorem wpN_cutS {st : Stmt} {rest : List Stmt} {Q : Flow → Shared → Prop} (_F : Fr h₀ L s.heap M) (_N : News h₀ L s.heap news) (first : wpN (model prog w) A (exec st env) (EndS h₀ L s M news) E s)
    (h : ∀ h tk, Fr h₀ L h M → News h₀ L h news → wpN (model prog w) A (execs rest env) Q E { s with heap := h, toks := tk }) : wpN (model prog w) A (execs (st :: rest) env) Q E s :=
  wpN_cons (wpN_mono first (fun f s' he => by
    obtain ⟨rfl, h', tk, rfl, F', N'⟩ := he
    exact h h' tk F' N') fun _ _ q => q)
end
theorem ContractN.use {n : Nat} {w : World} {f : Addr} {pos : List Value} {kw : List (Str × Value)} {pre : Led → Prop} {post : Value → Led → Prop} (C : ContractN n w f pos kw pre post)
    {mean : ExcName → Option Value} {mg mb : Str → Option Value} {dp un : Nat} {gd : Option (List Code)} {cn : Str} {nm : List (Str × NameKind)} {ig ic : Bool} {mo : List (Str × Const)} {a : Addr} {ccd : Value} {cl : List (Str × Addr)} {outer : List Env} {A₀ : Around} {base h₀ : Heap} {L : Addr} {m : Str → Option Value} {news : Led} {s : Shared} {Q E : Value → Shared → Prop}
    (B : Below A₀ base outer h₀) (F : Fr h₀ L s.heap m) (X : (hq.heap_39 w.params).In h₀) (N : News h₀ L s.heap news) (T : Top hq.view_39 (looseW hq.view_39 theLoose) mean mg mb h₀) (hd : dp + n < recursionLimit) (hu : un + 10 * n < cLine) (hp : pre news)
    (ret : ∀ r new h' tk, Fr h₀ L h' m → News h₀ L h' (new ++ news) → (∀ q ∈ news, ∀ p ∈ new, q.1 < p.1) → post r new → Q r { s with heap := h', toks := tk }) :
    wpN (model PySem.Challenge.rw_ef5001_01.row.prog w) (ktrTop dp un gd cn ⟨.function, nm, ig, ic, mo⟩ L a ccd cl outer) (call (.ref f) pos kw) Q E s :=
  C _ _ _ _ _ _ _ _ _ _ _ _ _ _ _ _ _ _ _ _ _ _ _ _ B F X N T hd hu hp ret
theorem Contract0.use {n : Nat} {w : World} {f : Addr} {pos : List Value} {kw : List (Str × Value)} {pre : Led → Prop} {post : Value → Led → Prop} (C : Contract0 n w f pos kw pre post)
    {mean : ExcName → Option Value} {mg mb : Str → Option Value} {dp un : Nat} {gd : Option (List Code)} {cn : Str} {nm : List (Str × NameKind)} {ig ic : Bool} {mo : List (Str × Const)} {a : Addr} {ccd : Value} {cl : List (Str × Addr)} {A₀ : Around} {h₀ : Heap} {L : Addr} {m : Str → Option Value} {news : Led} {s : Shared} {Q E : Value → Shared → Prop}
    (B : Below A₀ h₀ [] h₀) (F : Fr h₀ L s.heap m) (X : (hq.heap_39 w.params).In h₀) (N : News h₀ L s.heap news) (T : Top hq.view_39 (looseW hq.view_39 theLoose) mean mg mb h₀) (hd : dp + n < recursionLimit) (hu : un + 10 * n < cLine) (hp : pre news)
    (ret : ∀ r new h' tk, Fr h₀ L h' m → News h₀ L h' (new ++ news) → (∀ q ∈ news, ∀ p ∈ new, q.1 < p.1) → post r new → Q r { s with heap := h', toks := tk }) :
    wpAny (model PySem.Challenge.rw_ef5001_01.row.prog w) (ktrTop dp un gd cn ⟨.function, nm, ig, ic, mo⟩ L a ccd cl []) (call (.ref f) pos kw) Q E s :=
  C _ _ _ _ _ _ _ _ _ _ _ _ _ _ _ _ _ _ _ _ _ _ B F X N T hd hu hp ret
theorem int_is {a b : Int} {t : Tok} (h : a = b) : ∃ t', Value.int a t = .int b t' := ⟨t, by rw [h]⟩
end Mine
end
section
open PySem PySem.W PyProof.Rows PySem.Calls
namespace Mine
def SizeIs (ns : List Int) (pl : Int) (v : Value) : Prop := (pl + 4 ≤ (ns.length : Int) ∧ ∃ t, v = .int (sizeInts ns pl.toNat) t) ∨ (¬ pl + 4 ≤ (ns.length : Int) ∧ v = .none)
theorem Contract0.weaken {n : Nat} {w : World} {f : Addr} {pos : List Value} {kw : List (Str × Value)} {pre pre' : Led → Prop} {post post' : Value → Led → Prop} (C : Contract0 n w f pos kw pre post) (h : ∀ news, pre' news → pre news) (hp : ∀ r new, post r new → post' r new) :
    Contract0 n w f pos kw pre' post' := by
  unfold Contract0 at C ⊢
  intro mean mg mb dp un gd cn nm ig ic mo a ccd cl A₀ h₀ L m news s Q E B F X N T hd hu hpre hret
  exact C mean mg mb dp un gd cn nm ig ic mo a ccd cl A₀ h₀ L m news s Q E B F X N T hd hu (h _ hpre) fun r new h' tk F' N' l hq => hret r new h' tk F' N' l (hp _ _ hq)
section
variable {w : World} {ns : List Int} {tb tp : Tok} {ba : Addr} {pl : Int}
theorem told_one (h : Oct ns) (h0 : 0 ≤ pl) (hp : pl + 4 ≤ (ns.length : Int)) : ∀ (r : Value) (new : Led), (new = [] ∧ ((pl + 4 ≤ ((byteArr ns).size : Int) ∧ ∃ t, r = .int (sizeOf4 (byteArr ns) pl.toNat) t) ∨ (¬ pl + 4 ≤ ((byteArr ns).size : Int) ∧ r = .none))) → new = [] ∧ ∃ t, r = .int (sizeInts ns pl.toNat) t := by
  rintro r new ⟨e, ⟨_, t, e'⟩ | ⟨hc, _⟩⟩
  · exact ⟨e, t, by rw [e', size_due h (by omega)]⟩
  · exact absurd hp (by rw [byteArr_size] at hc; exact hc)
theorem told_two (hp : ¬ pl + 4 ≤ (ns.length : Int)) : ∀ (r : Value) (new : Led), (new = [] ∧ ((pl + 4 ≤ ((byteArr ns).size : Int) ∧ ∃ t, r = .int (sizeOf4 (byteArr ns) pl.toNat) t) ∨ (¬ pl + 4 ≤ ((byteArr ns).size : Int) ∧ r = .none))) → new = [] ∧ r = .none := by
  rintro r new ⟨e, ⟨hc, _⟩ | ⟨_, e'⟩⟩
  · exact absurd (by rw [byteArr_size] at hc; exact hc) hp
  · exact ⟨e, e'⟩
theorem told_bytes_yes (h : Oct ns) (hb : ns.length ≤ 20) (h0 : 0 ≤ pl) (h1 : pl ≤ 26) (hp : pl + 4 ≤ (ns.length : Int)) : Contract0 8 w 135 [.bytes (byteArr ns) tb, .int pl tp] [] (fun _ => True) (fun r new => new = [] ∧ ∃ t, r = .int (sizeInts ns pl.toNat) t) :=
  (told_bytes (by rw [byteArr_size]; exact hb) h0 (by omega)).weaken (fun _ h => h) (told_one h h0 hp)
theorem told_bytes_no (hb : ns.length ≤ 20) (h0 : 0 ≤ pl) (h1 : pl ≤ 26) (hp : ¬ pl + 4 ≤ (ns.length : Int)) : Contract0 8 w 135 [.bytes (byteArr ns) tb, .int pl tp] [] (fun _ => True) (fun r new => new = [] ∧ r = .none) :=
  (told_bytes (by rw [byteArr_size]; exact hb) h0 (by omega)).weaken (fun _ h => h) (told_two hp)
theorem told_ba_yes (h : Oct ns) (hb : ns.length ≤ 20) (h0 : 0 ≤ pl) (h1 : pl ≤ 26) (hp : pl + 4 ≤ (ns.length : Int)) : Contract0 8 w 135 [.ref ba, .int pl tp] [] (fun news => (ba, baObj (byteArr ns)) ∈ news) (fun r new => new = [] ∧ ∃ t, r = .int (sizeInts ns pl.toNat) t) :=
  (told_ba (by rw [byteArr_size]; exact hb) h0 (by omega)).weaken (fun _ h => h) (told_one h h0 hp)
theorem told_ba_no (hb : ns.length ≤ 20) (h0 : 0 ≤ pl) (h1 : pl ≤ 26) (hp : ¬ pl + 4 ≤ (ns.length : Int)) : Contract0 8 w 135 [.ref ba, .int pl tp] [] (fun news => (ba, baObj (byteArr ns)) ∈ news) (fun r new => new = [] ∧ r = .none) :=
  (told_ba (by rw [byteArr_size]; exact hb) h0 (by omega)).weaken (fun _ h => h) (told_two hp)
end
theorem size_yes {ns : List Int} {pl : Int} {t : Tok} (h : pl + 4 ≤ (ns.length : Int)) : SizeIs ns pl (.int (sizeInts ns pl.toNat) t) := .inl ⟨h, t, rfl⟩
theorem size_no {ns : List Int} {pl : Int} (h : ¬ pl + 4 ≤ (ns.length : Int)) : SizeIs ns pl .none := .inr ⟨h, rfl⟩
end Mine
end
section
open PySem PySem.W PyProof.Rows PySem.Calls
namespace Mine
theorem isnot_bytes {M : Model} {A : Around} {E : Value → Shared → Prop} {s : Shared} {b : Array UInt8} {t : Tok} {Q : Value → Shared → Prop} (ht : t ≠ 0) (h : Q (.bool false) s) : wpAny M A (compareOp .IsNot (.bytes b t) (.bytes b t)) Q E s := by
  show wpAny M A (do return Value.bool (!(← isSame.created (b == b) t t))) Q E s
  unfold isSame.created
  have e : (t == 0 || t == 0) = false := by
    rw [Bool.or_self]
    exact beq_eq_false_iff_ne.mpr ht
  rw [e]
  simp only [Bool.false_eq_true, if_false, beq_self_eq_true, if_true]
  exact wpAny_bind (wpAny_pure (wpAny_pure h))
/-! bytes(..) of a list of ints, with the token it makes: the one that the state stood at. -/
theorem byteArr_snoc (a : List Int) (n : Int) : byteArr (a ++ [n]) = (byteArr a).push n.toNat.toUInt8 := by
  unfold byteArr
  rw [List.map_append, List.map_cons, List.map_nil, List.push_toArray]
section
variable {prog : Program} {w : World} {A : Around} {E : Value → Shared → Prop} {s : Shared} {R : Result → Shared → Prop} {l I S : Addr} {vs : List Value} {ns : List Int}
theorem turns_bytes (hh : A.handled = none) (hi : IntsAre vs ns) (ho : Oct ns) (hz : ns.length ≤ 100) (hIS : I ≠ S) (hlI : l ≠ I) (hlS : l ≠ S) : ∀ (rest done : List Int) (h : Heap), done ++ rest = ns → h.IsList l vs.toArray → h.IsListIter I l done.length → h.get? S = some (baObj (byteArr done)) →
    (∀ h', (∀ b o, b ≠ I → b ≠ S → h.get? b = some o → h'.get? b = some o) → R (.ok (.ret (.bytes (byteArr ns) s.toks))) { s with heap := h', toks := s.toks + 1 }) →
    codeAny (model prog w) A (.builtin "bytes.__new__.loop" ⟨[.type "bytes", .ref I, .ref S], []⟩) R { s with heap := h }
  | [], done, h, e, hl, hit, hS, hR => by
    rw [List.append_nil] at e
    subst e
    refine codeAny_builtin F.bm_entry_loop ?_
    rw [Around.under_plainId F.bm_plain_loop _]
    show wpAny _ A.in1 (pyNext (.ref I) >>= _) _ _ _
    refine wpAny_bind (wpAny_pyNext_list_end hh hit hl (by rw [List.getElem?_toArray]; exact List.getElem?_eq_none (by rw [hi.length]; exact Nat.le_refl _)) fun h' hk => ?_)
    have hS' : h'.get? S = some (baObj (byteArr done)) := hk S _ (Ne.symm hIS) hS
    refine wpAny_bind ?_
    show wpAny _ _ (Builtin.Bytes.payload (.ref S)) _ _ _
    refine wpAny_bind (m := Builtin.Bytes.payload? (.ref S)) ?_
    refine wpAny_bind (wpAny_load hS' (wpAny_pure (wpAny_pure ?_)))
    refine wpAny_bind (wpAny_mkBytes ?_ (by rw [byteArr_size, sizeLine_eq]; omega))
    refine bm_if_true (by decide) ?_
    first
      | exact wpAny_pure (hR h' fun b o hb _ q => hk b o hb q)
      | exact wpAny_bind (wpAny_pure (wpAny_pure (hR h' fun b o hb _ q => hk b o hb q)))
  | n :: rest, done, h, e, hl, hit, hS, hR => by
    have hn : ns[done.length]? = some n := by rw [← e, List.getElem?_append_right (Nat.le_refl _), Nat.sub_self]; rfl
    obtain ⟨t, hv⟩ := hi.get _ _ hn
    have hr := ho n (List.mem_of_getElem? hn)
    have hlen : done.length + 1 ≤ ns.length := by rw [← e, List.length_append, List.length_cons]; omega
    refine codeAny_builtin F.bm_entry_loop ?_
    rw [Around.under_plainId F.bm_plain_loop _]
    show wpAny _ A.in1 (pyNext (.ref I) >>= _) _ _ _
    refine wpAny_bind (wpAny_pyNext_list_item (x := .int n t) hit hl (by rw [List.getElem?_toArray]; exact hv) fun h' hit' hs => ?_)
    have hS' : h'.get? S = some (baObj (byteArr done)) := (hs.2 S (Ne.symm hIS)).trans hS
    refine wpAny_bind (wpAny_holding (wpAny_of_eq (rfl : asIndex (.int n t) = pure n) ?_))
    refine wpAny_bind (wpAny_letGo ?_)
    refine bm_if_false (by rw [Bool.or_eq_false_iff, decide_eq_false_iff_not, decide_eq_false_iff_not]; omega) ?_
    refine wpAny_bind (write_ba hS' (by rw [Array.size_push, byteArr_size, sizeLine_eq]; omega) ?_)
    have hS₂ : (h'.update S (Obj.mapBytearray (·.push n.toNat.toUInt8))).get? S = some (baObj (byteArr (done ++ [n]))) := by
      rw [byteArr_snoc]
      exact Heap.get?_update_self (Obj.mapBytearray (·.push n.toNat.toUInt8)) hS' rfl
    have hk : ∀ b o, b ≠ I → b ≠ S → h.get? b = some o → (h'.update S (Obj.mapBytearray (·.push n.toNat.toUInt8))).get? b = some o := fun b o hb hb' q => (Heap.get?_update_other _ _ (Ne.symm hb')).trans (hs.extBut b o hb q)
    refine wpAny_pure ⟨plainId_quiet F.bm_plain_loop _, turns_bytes hh hi ho hz hIS hlI hlS rest (done ++ [n]) _ (by rw [List.append_assoc]; exact e) ?_ ?_ hS₂ fun h'' hk' => hR h'' fun b o hb hb' q => hk' b o hb hb' (hk b o hb hb' q)⟩
    · exact (hl.extBut hs.extBut hlI).extBut (Heap.SameBut.update ..).extBut hlS
    · rw [List.length_append]
      exact hit'.extBut (Heap.SameBut.update ..).extBut hIS
end
section
variable {prog : Program} {w : World} {A : Around} {E : Value → Shared → Prop} {s : Shared} {l : Addr} {vs : List Value} {ns : List Int} {Q : Value → Shared → Prop}
theorem new_bytes (hh : A.handled = none) (hl : s.heap.IsList l vs.toArray) (hi : IntsAre vs ns) (ho : Oct ns) (hz : ns.length ≤ 100)
    (hQ : ∀ h', (∀ b o, s.heap.get? b = some o → h'.get? b = some o) → Q (.bytes (byteArr ns) s.toks) { s with heap := h', toks := s.toks + 1 }) :
    codeAny (model prog w) A (.call (.builtin "bytes.__new__") ⟨[.type "bytes", .ref l], []⟩) (wants Q E) s := by
  obtain ⟨ol, hol, hoc, ep, hod⟩ := id hl
  have hT : s.TypeIs (.ref l) "list" := hl.typeIs
  have hlt : l < s.heap.objs.size := Heap.lt_size hol
  have hlt' : ∀ (b : Addr) (o : Obj), s.heap.get? b = some o → b ≠ s.heap.objs.size ∧ b ≠ s.heap.objs.size + 1 := fun b o e => ⟨Nat.ne_of_lt (Heap.lt_size e), Nat.ne_of_lt (Nat.lt_succ_of_lt (Heap.lt_size e))⟩
  refine codeAny_of_tree ?_
  show wpAny _ A.in1 (do checkBuiltinCall "bytes.__new__" ⟨[.type "bytes", .ref l], []⟩; again (.builtin "bytes.__new__" ⟨[.type "bytes", .ref l], []⟩)) _ _ s
  refine wpAny_bind (wpAny_of_eq (F.bm_newCall _) (wpAny_pure ⟨plainId_quiet F.bm_plain _, codeAny_builtin F.bm_entry ?_⟩))
  rw [Around.under_plainId F.bm_plain _]
  unfold Builtin.«bytes.__new__»
  -- the class, and the arguments' places
  refine wpAny_bind (wpAny_of_eq (a := true) rfl (bm_if_false rfl ?_))
  refine wpAny_bind (wpAny_of_eq F.bm_sub (bm_if_false rfl ?_))
  refine wpAny_bind (wpAny_of_eq (F.bm_bind _) ?_)
  refine wpAny_bind (wpAny_of_eq (a := ()) rfl (wpAny_bind (wpAny_of_eq (a := ()) rfl ?_)))
  refine bm_if_false rfl ?_
  -- a list is nothing that bytes(..) knows: its items are asked for
  refine wpAny_bind (wpAny_specialOf hT F.bm_no_bytes ?_)
  refine wpAny_bind (m := (do return (← asStr? (.ref l)).isSome : Sem Bool)) ?_
  refine wpAny_bind (m := asStr? (.ref l)) ?_
  show wpAny _ _ (load l >>= _) _ _ _
  refine wpAny_bind (wpAny_load hol ?_)
  rw [hod]
  refine wpAny_pure (wpAny_pure (bm_if_false rfl ?_))
  refine wpAny_bind (wpAny_specialOf hT F.bm_no_index (bm_if_true rfl ?_))
  first
    | show wpAny _ _ (Builtin.Bytes.buffer? "bytes.__new__" (.ref l) true >>= _) _ _ _
    | (refine wpAny_bind ?_; show wpAny _ _ (Builtin.Bytes.buffer? "bytes.__new__" (.ref l) true >>= _) _ _ _)
  refine wpAny_bind ?_
  unfold Builtin.Bytes.buffer?
  refine wpAny_bind (wpAny_specialOf hT F.bm_no_buffer (wpAny_bind (wpAny_specialOf hT F.bm_no_buffer (wpAny_pure ?_))))
  refine wpAny_bind (wpAny_tryCatch (wpAny_pyIter_list hl ?_))
  generalize hH : s.heap.push { cls := .type "list_iterator", data := .fields #[.ref l, .int 0 0] } = H
  have hl₁ : H.IsList l vs.toArray := hH ▸ hl.push _
  have hT₁ : ({ s with heap := H } : Shared).TypeIs (.ref l) "list" := Heap.IsList.typeIs (s := { s with heap := H }) hl₁
  have hHs : H.objs.size = s.heap.objs.size + 1 := by rw [← hH, Heap.size_push]
  have hI : H.IsListIter s.heap.objs.size l 0 := ⟨_, hH ▸ Heap.get?_push_size _ rfl, rfl, rfl⟩
  refine wpAny_bind (wpAny_holding ?_)
  unfold Builtin.Bytes.lengthHint
  refine wpAny_bind (wpAny_specialOf hT₁ slot_list_len.lookup ?_)
  dsimp only
  rw [F.bm_split]
  dsimp only
  refine wpAny_bind (wpAny_isInstance hT₁ F.bm_sub_list (bm_if_false rfl (bm_if_true (by decide +kernel) (wpAny_pure ?_))))
  refine wpAny_bind (m := Builtin.Bytes.newBytearray #[]) ?_
  unfold Builtin.Bytes.newBytearray
  refine wpAny_newObj_type ?_ (Nat.zero_le _)
  have go := turns_bytes (prog := prog) (w := w) (A := A) (R := wants Q E) (s := s) (I := s.heap.objs.size) (S := H.objs.size) hh hi ho hz (by rw [hHs]; exact Nat.ne_of_lt (Nat.lt_succ_self _)) (Nat.ne_of_lt hlt) (by rw [hHs]; exact Nat.ne_of_lt (Nat.lt_succ_of_lt hlt))
    ns [] (H.push (baObj #[])) rfl (hl₁.push _) (by obtain ⟨o, e, r⟩ := hI; exact ⟨o, Heap.get?_push_of_some _ e, r⟩) (Heap.get?_push_size _ rfl)
    fun h' hk => hQ h' fun b o e => hk b o (hlt' b o e).1 (by rw [hHs]; exact (hlt' b o e).2) (Heap.get?_push_of_some _ (hH ▸ Heap.get?_push_of_some _ e))
  first
    | exact wpAny_pure ⟨plainId_quiet F.bm_plain_loop _, go⟩
    | exact wpAny_pure (wpAny_pure ⟨plainId_quiet F.bm_plain_loop _, go⟩)
theorem call_bytes_at (hl : s.heap.IsList l vs.toArray) (hi : IntsAre vs ns) (ho : Oct ns) (hz : ns.length ≤ 100) (hh : A.handled = none)
    (hQ : ∀ h', (∀ b o, s.heap.get? b = some o → h'.get? b = some o) → Q (.bytes (byteArr ns) s.toks) { s with heap := h', toks := s.toks + 1 }) : wpAny (model prog w) A (call (.type "bytes") [.ref l]) Q E s := by
  refine callType_codes (Q₁ := fun obj s₁ => s₁.TypeIs obj "bytes" ∧ Q obj s₁) F.bm_called (F.bm_typeCall _) F.entry_object_init (new_bytes hh hl hi ho hz fun h' hk => ⟨PySem.W.typeIs_bytes _ _ _, hQ h' hk⟩) fun obj s₁ h₁ => ?_
  exact ⟨h₁.1, F.args_object_init_2 obj _, object_init_meets F.bm_called.init.lookup F.bm_called.made (by decide) prog w A.in1 _ s₁ ⟨h₁.1, rfl, h₁.2⟩⟩
end
theorem bytes_ints_P {prog : Program} {w : World} {A : Around} {E : Value → Shared → Prop} {s : Shared} {h₀ : Heap} {L : Addr} {m : Str → Option Value} {news : Led} {Q : Value → Shared → Prop} {l : Addr} {vs : List Value} {ns : List Int} {ep : Nat}
    (F : Fr h₀ L s.heap m) (N : News h₀ L s.heap news) (hm : (l, W.listOf vs.toArray ep) ∈ news) (hi : IntsAre vs ns) (hr : Oct ns) (hz : ns.length ≤ 100) (hh : A.handled = none) (h0 : 0 < s.toks)
    (h : ∀ h' t k, t ≠ 0 → Fr h₀ L h' m → News h₀ L h' news → Q (.bytes (byteArr ns) t) { s with heap := h', toks := k }) : wpAny (model prog w) A (call (.type "bytes") [.ref l]) Q E s :=
  call_bytes_at ⟨_, (N _ hm).1, rfl, _, rfl⟩ hi hr hz hh fun h' hk => h h' s.toks _ (Nat.ne_of_gt h0) (F.keeps hk) (fun q hq => ⟨hk _ _ (N q hq).1, (N q hq).2⟩)
end Mine
end
section
open PySem PySem.W PyProof.Rows PySem.Calls
namespace Mine
theorem good_same {c : ClaimW} {cl : Str → Option Addr} {mean : ExcName → Option Value} {args : List WData} {s₁ : Shared} {b : Bool} (hg : s₁.gens = #[]) (hn : ∀ cls, c.raises args cls = false) (hp : c.post args (.bool b) args = true) :
    GoodWG c cl mean args s₁ (.ok (.ret (.bool b))) s₁ := by
  refine GoodW.toG ⟨.inl ⟨_, .bool b, [], rfl, hn, .bool b, hp, unshared_nil⟩, fun _ _ e => e, rfl, hg⟩
theorem good_end {c : ClaimW} {cl : Str → Option Addr} {mean : ExcName → Option Value} {args : List WData} {s₁ s' : Shared} {b : Bool} {L : Addr} {m : Str → Option Value} (F : Fr s₁.heap L s'.heap m) (hb : b = true) (hg : s'.gens = #[]) (hn : ∀ cls, c.raises args cls = false) (hp : c.post args (.bool true) args = true) (hos : s'.os = s₁.os := by rfl) :
    GoodWG c cl mean args s₁ (.ok (.ret (.bool b))) s' := by
  subst hb
  exact (goodW_bool F hg hn hp hos).toG
end Mine
end
section
open PySem PySem.W PyProof.Rows PySem.Calls
namespace Mine
local macro_rules | `(tactic| k_room) => `(tactic| ktr_room)
local macro_rules | `(tactic| k_mem) => `(tactic| (refine List.mem_cons_of_mem _ ?_; k_mem))
local macro_rules | `(tactic| walk_at "call type:bytes") => `(tactic| (k_here; (with_reducible show wpAny _ _ (call (Value.type "bytes") [Value.ref _]) _ _ _); k_dflt (refine' bytes_ints_P ?F ?N ?m ?i ?r ?z ?h ?p ?_; (case F => k_asm); (case N => k_asm); (case m => k_mem); (case i => assumption); (case r => (repeat' (first | assumption | exact oct_mod _ | exact oct_nil | refine oct_take ?_ | refine oct_drop ?_ | refine oct_append ?_ ?_ | refine oct_cons ?_ ?_ | (refine And.intro ?_ ?_ <;> omega)))); (case z => ((try simp only [List.length_append, List.length_cons, List.length_nil, List.length_take, List.length_drop]); omega)); (case h => with_unfolding_all rfl); (case p => exact Nat.succ_pos _); k_whole); intro h' t' k' ht0' F' N'))
local macro_rules | `(tactic| walk_at "call builtin:len") => `(tactic| (k_here; (with_reducible show wpAny _ _ (call (Value.builtin "len") [Value.ref _]) _ _ _); k_dflt (refine' len_ints_K ?N ?m ?i ?z ?_; (case N => k_asm); (case m => k_mem); (case i => assumption); (case z => ((try simp only [List.length_append, List.length_cons, List.length_nil, List.length_take, List.length_drop]); omega)))))
local macro_rules | `(tactic| walk_at "subscriptTail") => `(tactic| (k_here; (with_reducible show wpAny _ _ (subscriptTail _ (Expr.Slice _ _ none _) (Value.bytes _ _) (Value.ref _)) _ _ _); (with_reducible rename Fr _ _ _ _ => F'); (with_reducible rename News _ _ _ _ => N'); (refine KBc.slice_K (s := ⟨_, _, _, _, _⟩) F' N' rfl (by constructor) (by constructor) (by rw [KBw.ints_length]; decide) ?_); intro _ _ _ F' N' _))
local macro_rules | `(tactic| walk_at "compareOp NotEq ref ref") => `(tactic| (k_here; k_dflt (refine' ne_ints_K ?N ?m ?m' ?i ?j ?u ?_; (case N => k_asm); (case m => k_mem); (case m' => k_mem); (case i => first | assumption | (repeat' constructor)); (case j => first | assumption | (repeat' constructor)); (case u => ktr_units))))
local macro_rules | `(tactic| walk_at "subscriptTail") => `(tactic| (k_here; (with_reducible show wpAny _ _ (subscriptTail _ _ (Value.ref _) (Value.int (-1) _)) _ _ _); k_dflt (refine' last_ints_K ?N ?m ?i ?p ?_ ?hs ?ht; (case N => k_asm); (case m => k_mem); (case i => assumption); (case p => assumption); (case hs => with_unfolding_all rfl); (case ht => (intro _; with_unfolding_all rfl))); intro t'))
local macro_rules | `(tactic| walk_at "call ref") => `(tactic| (k_here; (with_reducible show wpAny _ _ (call (Value.ref 106) (Value.bytes _ _ :: _) _) _ _ _); k_dflt (refine' Contract.use (gbi_bytes ?cb) ?k1 ?k2 ?k3 ?k4 ?k5 ?kd ?ku trivial ?_; (case cb => (rw [byteArr_size]; omega)); (case k1 => k_asm); (case k2 => k_asm); (case k3 => k_asm); (case k4 => k_asm); (case k5 => k_asm); (case kd => ktr_room); (case ku => ktr_units)); intro r' new' h' tk' F' N' l1 hp'; obtain ⟨hn', t', hr'⟩ := hp'; subst hn' hr'; (try simp only [List.nil_append] at N')))
local macro_rules | `(tactic| walk_at "call ref") => `(tactic| (k_here; (with_reducible show wpAny _ _ (call (Value.ref 106) (Value.ref _ :: _) _) _ _ _); k_dflt (refine' Contract.use (gbi_ba ?cb) ?k1 ?k2 ?k3 ?k4 ?k5 ?kd ?ku ?kp ?_; (case k1 => k_asm); (case k2 => k_asm); (case k3 => k_asm); (case k4 => k_asm); (case k5 => k_asm); (case kp => ((try dsimp only); k_mem)); (case cb => (rw [byteArr_size]; omega)); (case kd => ktr_room); (case ku => ktr_units)); intro r' new' h' tk' F' N' l1 hp'; obtain ⟨D', hr', hn'⟩ := hp'; subst hn' hr'; (try simp only [List.cons_append, List.nil_append] at N')))
local macro_rules | `(tactic| walk_at "call ref") => `(tactic| (k_here; (with_reducible show wpAny _ _ (call (Value.ref 106) (Value.bytes _ _ :: _) _) _ _ _); k_dflt (refine' Contract.use (gbi0_bytes ?cb) ?k1 ?k2 ?k3 ?k4 ?k5 ?kd ?ku trivial ?_; (case cb => (rw [byteArr_size]; omega)); (case k1 => k_asm); (case k2 => k_asm); (case k3 => k_asm); (case k4 => k_asm); (case k5 => k_asm); (case kd => ktr_room); (case ku => ktr_units)); intro r' new' h' tk' F' N' l1 hp'; obtain ⟨hn', t', hr'⟩ := hp'; subst hn' hr'; (try simp only [List.nil_append] at N')))
local macro_rules | `(tactic| walk_at "call ref") => `(tactic| (k_here; (with_reducible show wpAny _ _ (call (Value.ref 106) (Value.ref _ :: _) _) _ _ _); k_dflt (refine' Contract.use (gbi0_ba ?cb) ?k1 ?k2 ?k3 ?k4 ?k5 ?kd ?ku ?kp ?_; (case k1 => k_asm); (case k2 => k_asm); (case k3 => k_asm); (case k4 => k_asm); (case k5 => k_asm); (case kp => ((try dsimp only); k_mem)); (case cb => (rw [byteArr_size]; omega)); (case kd => ktr_room); (case ku => ktr_units)); intro r' new' h' tk' F' N' l1 hp'; obtain ⟨D', hr', hn'⟩ := hp'; subst hn' hr'; (try simp only [List.cons_append, List.nil_append] at N')))
local macro_rules | `(tactic| walk_at "eval Name") => `(tactic| (k_here; (with_reducible show wpAny _ _ (eval (Expr.Name (Str.ofString "bytearray") _) _) _ _ _); k_dflt (refine' nameX_B ?qF ?qX (topRead_of ?qT) ?qe boot_bytearray ?qn ?_ ; (case qF => k_asm); (case qX => k_asm); (case qT => k_asm); (case qe => k_is); (case qn => decide))))
local macro_rules | `(tactic| walk_at "call builtin:isinstance") => `(tactic| (k_here; (with_reducible show wpAny _ _ (call (Value.builtin "isinstance") [Value.bytes _ _, Value.type "bytearray"]) _ _ _); k_dflt (refine isi_buf isBuf_bytes ?_); intro tk'))
local macro_rules | `(tactic| walk_at "call builtin:isinstance") => `(tactic| (k_here; (with_reducible show wpAny _ _ (call (Value.builtin "isinstance") [Value.ref _, Value.type "bytearray"]) _ _ _); k_dflt (refine' isi_buf (isBuf_ba (News.get ?N ?m)) ?_; (case N => k_asm); (case m => k_mem)); intro tk'))
local macro_rules | `(tactic| walk_at "call type:list") => `(tactic| (k_here; (with_reducible show wpAny _ _ (call (Value.type "list") [Value.bytes _ _]) _ _ _); k_dflt (refine' call_list_buf isBuf_bytes (by rfl) ?z ?F ?N ?_; (case z => ((try refine Nat.le_trans (KBc.size_picked_le _ _ _) ?_); rw [byteArr_size, sizeLine_eq]; omega)); (case F => k_asm); (case N => k_asm)); intro S' h' tk' vs' n' F' N' hi' l1'))
local macro_rules | `(tactic| walk_at "call type:list") => `(tactic| (k_here; (with_reducible show wpAny _ _ (call (Value.type "list") [Value.ref _]) _ _ _); k_dflt (refine' call_list_buf (isBuf_ba (News.get ?N' ?m)) (by rfl) ?z ?F ?N ?_; (case N' => k_asm); (case m => k_mem); (case z => ((try refine Nat.le_trans (KBc.size_picked_le _ _ _) ?_); rw [byteArr_size, sizeLine_eq]; omega)); (case F => k_asm); (case N => k_asm)); intro S' h' tk' vs' n' F' N' hi' l1'))
local macro_rules | `(tactic| walk_at "call ref") => `(tactic| (k_here; (with_reducible show wpAny _ _ (call (Value.ref 128) _ _) _ _ _); k_dflt (refine' Contract.use (law_size ?hi ?hr ?hl ?h0 ?h1) ?k1 ?k2 ?k3 ?k4 ?k5 ?kd ?ku ?kp ?_; (case k1 => k_asm); (case k2 => k_asm); (case k3 => k_asm); (case k4 => k_asm); (case k5 => k_asm); (case kp => ((try dsimp only); k_mem)); (case hi => assumption); (case hr => assumption); (case hl => omega); (case h0 => omega); (case h1 => omega); (case kd => ktr_room); (case ku => ktr_units)); intro r' new' h' tk' F' N' l1 hp'; obtain ⟨hn', t', hr'⟩ := hp'; subst hn' hr'; (try simp only [List.nil_append] at N')))
local macro_rules | `(tactic| walk_at "call ref") => `(tactic| (k_here; (with_reducible show wpAny _ _ (call (Value.ref 135) (Value.bytes _ _ :: _) _) _ _ _); k_dflt (refine' Contract0.use (told_bytes_yes ?hO ?hb ?h0 ?h1 ?hp) ?k1 ?k2 ?k3 ?k4 ?k5 ?kd ?ku trivial ?_; (case k1 => k_asm); (case k2 => k_asm); (case k3 => k_asm); (case k4 => k_asm); (case k5 => k_asm); (case hO => assumption); (case hb => assumption); (case h0 => omega); (case h1 => omega); (case hp => assumption); (case kd => ktr_room); (case ku => ktr_units)); intro r' new' h' tk' F' N' l1 hp'; obtain ⟨hn', t', hr'⟩ := hp'; subst hn' hr'; (try simp only [List.nil_append] at N')))
local macro_rules | `(tactic| walk_at "call ref") => `(tactic| (k_here; (with_reducible show wpAny _ _ (call (Value.ref 135) (Value.bytes _ _ :: _) _) _ _ _); k_dflt (refine' Contract0.use (told_bytes_no ?hb ?h0 ?h1 ?hp) ?k1 ?k2 ?k3 ?k4 ?k5 ?kd ?ku trivial ?_; (case k1 => k_asm); (case k2 => k_asm); (case k3 => k_asm); (case k4 => k_asm); (case k5 => k_asm); (case hb => assumption); (case h0 => omega); (case h1 => omega); (case hp => assumption); (case kd => ktr_room); (case ku => ktr_units)); intro r' new' h' tk' F' N' l1 hp'; obtain ⟨hn', hr'⟩ := hp'; subst hn' hr'; (try simp only [List.nil_append] at N')))
local macro_rules | `(tactic| walk_at "call ref") => `(tactic| (k_here; (with_reducible show wpAny _ _ (call (Value.ref 135) (Value.ref _ :: _) _) _ _ _); k_dflt (refine' Contract0.use (told_ba_yes ?hO ?hb ?h0 ?h1 ?hp) ?k1 ?k2 ?k3 ?k4 ?k5 ?kd ?ku ?kp ?_; (case k1 => k_asm); (case k2 => k_asm); (case k3 => k_asm); (case k4 => k_asm); (case k5 => k_asm); (case kp => ((try dsimp only); k_mem)); (case hO => assumption); (case hb => assumption); (case h0 => omega); (case h1 => omega); (case hp => assumption); (case kd => ktr_room); (case ku => ktr_units)); intro r' new' h' tk' F' N' l1 hp'; obtain ⟨hn', t', hr'⟩ := hp'; subst hn' hr'; (try simp only [List.nil_append] at N')))
local macro_rules | `(tactic| walk_at "call ref") => `(tactic| (k_here; (with_reducible show wpAny _ _ (call (Value.ref 135) (Value.ref _ :: _) _) _ _ _); k_dflt (refine' Contract0.use (told_ba_no ?hb ?h0 ?h1 ?hp) ?k1 ?k2 ?k3 ?k4 ?k5 ?kd ?ku ?kp ?_; (case k1 => k_asm); (case k2 => k_asm); (case k3 => k_asm); (case k4 => k_asm); (case k5 => k_asm); (case kp => ((try dsimp only); k_mem)); (case hb => assumption); (case h0 => omega); (case h1 => omega); (case hp => assumption); (case kd => ktr_room); (case ku => ktr_units)); intro r' new' h' tk' F' N' l1 hp'; obtain ⟨hn', hr'⟩ := hp'; subst hn' hr'; (try simp only [List.nil_append] at N')))
local macro_rules | `(tactic| walk_at "compareOp IsNot") => `(tactic| (k_here; refine isnot_bytes (by assumption) ?_))
set_option maxHeartbeats 8000000 in
theorem lawHolds : PySem.Challenge.rw_ef5001_01.Holds := by
  refine hq ?_
  k_fill
  intro w s₀ s₁ mg mb G Y fa o pm cd doc dV kV ho hd hcd hD hmg hg args vals as hpre hlay hrd hwl hlo
  have KX := kIn_of Y
  have X := (Ground.X G).1
  have V := (Ground.X G).2
  refine Ground.open G ?_
  intro T B D TE TW
  wrow_args hpre hlay hrd hwl hlo
  rename (List Int) => WW
  refine runQ_of (wpN_call ?_) ?good
  case good =>
    refine good_same (by assumption) (raisesW_false ?_) ?_
    · wrow_none_raised
    · wrow_post
  w_top on
  have K0 := below_caller (Top.heap T)
  have he := Dflts.none hD rfl; subst he; have he := Dflts.noKw hD; subst he
  refine callN_cells (by decide) ho (fd_plain hd) (Top.nolimit T) hcd rfl (kinds_of (by kinds_ok)) (by decide) (fun h₁ tk₁ cells F N0 X0 => ?_) rfl rfl rfl
  cells_open X0
  clear hd
  k_drop
  refine wpN_cutInt (Str.ofString "options") (F) (N0) ?first ?rest
  case first =>
    k_steps
    all_goals exact EndInt.intro (by assumption) (by assumption)
  case rest =>
    clear F N0 X0
    intro ok ot h' tk' F' N'
    refine wpN_cons (wpN_of ?_)
    k_steps
    refine wpN_cons (wpN_of ?_)
    k_steps
    dsimp only
    have hns : Oct (List.map (fun k' : Int => k'.fmod 256) (List.take (min 21 WW.length - 1) (List.drop 1 WW))) := fun n hn => by
      obtain ⟨k, _, rfl⟩ := List.mem_map.mp hn
      exact oct_mod k
    have hnl : (List.map (fun k' : Int => k'.fmod 256) (List.take (min 21 WW.length - 1) (List.drop 1 WW))).length ≤ 20 := by
      rw [List.length_map, List.length_take]
      omega
    generalize List.map (fun k' : Int => k'.fmod 256) (List.take (min 21 WW.length - 1) (List.drop 1 WW)) = ns at *
    rename Fr _ _ _ _ => F'
    cases hpar : (ok.fmod 2 == 1)
    all_goals
      rw [hpar] at F'
      refine wpN_cons (wpN_Assign_Name (wpN_IfExp (wpN_isTrue_value (wpN_of ?_) rfl)) rfl)
      k_steps
      refine wpN_of ?_
      k_steps
    · refine wpN_of ?_
      k_steps
      refine wpN_of ?_
      k_steps
      dsimp only
      refine wpN_cons (wpN_For rfl rfl rfl (by intro _; rfl) (h₀ := s₁.heap) ?_)
      k_steps
      k_dflt (refine' ForN.eight (Str.ofString "place") (Str.ofString "ahead") (Str.ofString "start") (Str.ofString "due") (Str.ofString "got") (Str.ofString "size") (Str.ofString "handed") ?qF ?qN ?qm ?turn ?fin; (case qF => k_asm); (case qN => k_asm); (case qm => k_mem))
      case turn =>
        intro it' hit' i' v' o' h' tk' a1 a2 a3 a4 a5 a6 a7 a8 hv' F' N'
        obtain ⟨k', t', rfl⟩ := ints_get (by assumption) hv'
        have hpl := fmod_place (k'.fdiv 256) ns.length hnl
        k_dflt (refine' wpN_cutV (Str.ofString "place") (fun v => ∃ t, v = .int ((k'.fdiv 256).fmod ((ns.length : Int) + 7)) t) ?cF1 ?cN1 (wpN_of ?cf1) ?cr1; (case cF1 => k_asm); (case cN1 => k_asm))
        case cf1 =>
          k_steps
          exact EndV.intro (by assumption) (by assumption) (fun _ h => h) ⟨_, rfl⟩
        clear F' N'
        intro vv' h' tk' hvv F' N'
        obtain ⟨t', rfl⟩ := hvv
        generalize (k'.fdiv 256).fmod ((ns.length : Int) + 7) = pl at *
        k_dflt (refine' wpN_cutV (Str.ofString "ahead") (fun v => v = .bool ((k'.fdiv 7).fmod 2 == 1)) ?cF2 ?cN2 (wpN_of ?cf2) ?cr2; (case cF2 => k_asm); (case cN2 => k_asm))
        case cf2 =>
          k_steps
          exact EndV.intro (by assumption) (by assumption) (fun _ h => h) rfl
        clear F' N'
        intro vv' h' tk' hvv F' N'
        subst hvv
        generalize ((k'.fdiv 7).fmod 2 == 1) = ahead at *
        k_dflt (refine' wpN_cutV (Str.ofString "start") (fun v => ∃ t, v = .int (startOf pl ahead) t) ?cF3 ?cN3 (wpN_of ?cf3) ?cr3; (case cF3 => k_asm); (case cN3 => k_asm))
        case cf3 =>
          k_steps
          all_goals
            exact EndV.intro (by assumption) (by assumption) (fun _ h => h) (int_is (by first | (rw [show ahead = true by assumption]; rfl) | (rw [show ahead = false by assumption]; rfl)))
        clear F' N'
        intro vv' h' tk' hvv F' N'
        obtain ⟨t', rfl⟩ := hvv
        have hst0 : 0 ≤ startOf pl ahead := startOf_nonneg hpl.1
        have hst1 : startOf pl ahead ≤ 34 := by unfold startOf; split <;> omega
        generalize hst : startOf pl ahead = st at *
        refine wpN_cons (wpN_of ?_)
        k_dflt (refine LCt.Assign_ListComp_T (F₀ := by k_asm) (by rfl) (by with_unfolding_all rfl) (by with_unfolding_all rfl) (by decide) (by rfl) (by decide) (by rfl) (by rfl) (by rfl) ?_)
        iterate 12 (first | walk1 | (dsimp only; walk1))
        k_dflt (refine' due_src (ns := ns) (by rfl) ?dF ?dN (by assumption) ?db ?d0 ?d1 ?dT ?dfin; (case dF => k_asm); (case dN => k_asm); (case db => rfl); (case d0 => assumption); (case d1 => omega))
        case dT =>
          unfold DueTurn
          intro g j t I oI C oC D ys m₂ h tk E' hj0 hj1 hC hx F' N' off ne
          iterate 16 (first | walk1 | (dsimp only; walk1))
          · exact LCg.CompEnd.intro F' N' _ (fun _ h => h) off trivial ⟨rfl, by assumption, _, rfl⟩
          · exact LCg.CompEnd.intro F' N' _ (fun _ h => h) off trivial ⟨rfl, by assumption⟩
        intro g ys hdue
        unfold LCg.FinA
        intro DD' h' tk' F' N' o1'
        dsimp only
        have hid : idOf (byteArr ns) pl ahead = byteArr (List.take 4 (List.drop st.toNat ns)) := hst ▸ idOf_due hns hpl.1
        have hbi : KBw.bInts (idOf (byteArr ns) pl ahead) = List.take 4 (List.drop st.toNat ns) := hst ▸ bInts_due hns hpl.1
        have hod : Oct (List.take 4 (List.drop st.toNat ns)) := oct_take (oct_drop hns)
        have hld : (List.take 4 (List.drop st.toNat ns)).length ≤ 4 := by rw [List.length_take]; omega
        generalize List.take 4 (List.drop st.toNat ns) = ds at *
        refine wpN_cons (wpN_of ?_)
        k_steps
        dsimp only
        have hne1 : (!decide (KBw.bInts (idOf (byteArr ns) pl ahead) = ds)) = false := by rw [hbi]; simp
        k_dflt (refine' wpN_cutS ?sF1 ?sN1 (wpN_of ?sf1) ?sr1; (case sF1 => k_asm); (case sN1 => k_asm))
        case sf1 =>
          k_steps
          exact EndS.intro (by assumption) (by assumption) (fun p hp => by (repeat' (first | assumption | refine List.mem_cons_of_mem _ ?_)))
        intro h' tk' F' N'
        k_dflt (refine' wpN_cutS ?sF2 ?sN2 (wpN_of ?sf2) ?sr2; (case sF2 => k_asm); (case sN2 => k_asm))
        case sf2 =>
          cases ahead
          · have hne1 : (!decide (KBw.bInts (idOf (byteArr ns) pl false) = ds)) = false := by rw [hbi]; simp
            k_steps
            exact EndS.intro (by assumption) (by assumption) (fun p hp => by (repeat' (first | assumption | refine List.mem_cons_of_mem _ ?_)))
          · k_steps
            exact EndS.intro (by assumption) (by assumption) (fun p hp => by (repeat' (first | assumption | refine List.mem_cons_of_mem _ ?_)))
        intro h' tk' F' N'
        k_dflt (refine' wpN_cutS ?sF3 ?sN3 ?sf3 ?sr3; (case sF3 => k_asm); (case sN3 => k_asm))
        case sf3 =>
          refine wpN_If (wpN_isTrue_Not (wpN_isTrue_value ?_ rfl))
          refine wpN_Call_Name (wpN_of ?_)
          k_steps
          k_dflt (refine wpN_callWith_fn (wpN_args ?_ rfl rfl) rfl (by show 4 + 2 * 0 ≤ 30; omega))
          refine wpN_args_more (wpN_of ?_) rfl
          k_steps
          refine wpN_args_more (wpN_of ?_) rfl
          k_steps
          refine wpN_args_more (wpN_of ?_) rfl
          k_steps
          refine wpN_args_more (wpN_of ?_) rfl
          k_steps
          refine wpN_args_nil (wpN_all_nil ?_)
          k_dflt (refine' fn_there ?yF ?yX ?yh ?_; (case yF => k_asm); (case yX => k_asm); (case yh => k_is))
          first
          | k_dflt (refine' ContractN.use (yan_bytes (by rw [byteArr_size]; exact hnl) (by assumption) hod hld hid) ?k1 ?k2 ?k3 ?k4 ?k5 ?kd ?ku ?kp ?_; (case k1 => k_asm); (case k2 => k_asm); (case k3 => k_asm); (case k4 => k_asm); (case k5 => k_asm); (case kp => ((try dsimp only); k_mem)); (case kd => ktr_room); (case ku => ktr_units))
          | k_dflt (refine' ContractN.use (yan_ba (by rw [byteArr_size]; exact hnl) (by assumption) hod hld hid) ?k1 ?k2 ?k3 ?k4 ?k5 ?kd ?ku ?kp ?_; (case k1 => k_asm); (case k2 => k_asm); (case k3 => k_asm); (case k4 => k_asm); (case k5 => k_asm); (case kp => ((try dsimp only); exact And.intro (by k_mem) (by k_mem))); (case kd => ktr_room); (case ku => ktr_units))
          intro r' new' h' tk' F' N' l1 hp'
          obtain ⟨hn', hr'⟩ := hp'
          subst hn' hr'
          refine wpN_of ?_
          k_steps
          refine wpN_nil ?_
          exact EndS.intro (by assumption) (by assumption) (fun p hp => by (repeat' (first | assumption | refine List.mem_cons_of_mem _ ?_)))
        intro h' tk' F' N'
        k_dflt (refine' wpN_cutV (Str.ofString "size") (SizeIs ns pl) ?cF4 ?cN4 (wpN_of ?cf4) ?cr4; (case cF4 => k_asm); (case cN4 => k_asm))
        case cf4 =>
          k_steps
          all_goals
            refine EndV.intro (by assumption) (by assumption) (fun p hp => by (repeat' (first | assumption | refine List.mem_cons_of_mem _ ?_))) ?_
            first
            | exact size_yes (by assumption)
            | exact size_no (by assumption)
        intro vv' h' tk' hvv F' N'
        k_dflt (refine' wpN_cutS ?sF5 ?sN5 (wpN_of ?sf5) ?sr5; (case sF5 => k_asm); (case sN5 => k_asm))
        case sf5 =>
          rcases hvv with ⟨hsz, ts', hvv⟩ | ⟨hsz, hvv⟩
          all_goals
            subst hvv
            k_steps
            all_goals first | exact EndS.intro (by assumption) (by assumption) (fun p hp => by (repeat' (first | assumption | refine List.mem_cons_of_mem _ ?_))) | exact absurd rfl (show sizeInts ns pl.toNat ≠ sizeInts ns pl.toNat by assumption)
        intro h' tk' F' N'
        refine wpN_cons (wpN_of ?_)
        k_steps
        dsimp only
        refine wpN_cons (wpN_of ?_)
        k_steps
        all_goals first
          | exact absurd rfl (show pl + 4 ≠ pl + 4 by assumption)
          | ((try dsimp only); refine wpN_nil ?_; exact TurnEnd8.intro (by assumption) (by assumption) (fun p hp => by (repeat' (first | assumption | refine List.mem_cons_of_mem _ ?_))))
      case fin =>
        intro h' tk' a1 a2 a3 a4 a5 a6 a7 a8 F' N'
        dsimp only
        refine wpN_of ?_
        k_steps
        exact good_end (by assumption) (decide_eq_true (bInts_byteArr hns)) (by assumption) (raisesW_false (by wrow_none_raised)) (by wrow_post)
    · refine wpN_Call_Name (wpN_of ?_)
      k_dflt (refine' nameX_B ?qF ?qX (topRead_of ?qT) ?qe boot_bytearray ?qn ?_ ; (case qF => k_asm); (case qX => k_asm); (case qT => k_asm); (case qe => k_is); (case qn => decide))
      k_dflt (refine wpN_callWith_type (wpN_args ?_ rfl rfl) rfl)
      refine wpN_args_more (wpN_of ?_) rfl
      k_steps
      refine wpN_args_nil (wpN_all_nil ?_)
      k_dflt (refine' call_ba_K ?qF ?qN ?qm (by assumption) hns ?qz ?_; (case qF => k_asm); (case qN => k_asm); (case qm => k_mem); (case qz => (rw [sizeLine_eq]; omega)))
      intro D' h' F' N' l1
      refine wpN_of ?_
      k_steps
      dsimp only
      refine wpN_cons (wpN_For rfl rfl rfl (by intro _; rfl) (h₀ := s₁.heap) ?_)
      k_steps
      k_dflt (refine' ForN.eight (Str.ofString "place") (Str.ofString "ahead") (Str.ofString "start") (Str.ofString "due") (Str.ofString "got") (Str.ofString "size") (Str.ofString "handed") ?bqF ?bqN ?bqm ?bturn ?bfin; (case bqF => k_asm); (case bqN => k_asm); (case bqm => k_mem))
      case bturn =>
        intro it' hit' i' v' o' h' tk' a1 a2 a3 a4 a5 a6 a7 a8 hv' F' N'
        obtain ⟨k', t', rfl⟩ := ints_get (by assumption) hv'
        have hpl := fmod_place (k'.fdiv 256) ns.length hnl
        k_dflt (refine' wpN_cutV (Str.ofString "place") (fun v => ∃ t, v = .int ((k'.fdiv 256).fmod ((ns.length : Int) + 7)) t) ?bcF1 ?bcN1 (wpN_of ?bcf1) ?bcr1; (case bcF1 => k_asm); (case bcN1 => k_asm))
        case bcf1 =>
          k_steps
          exact EndV.intro (by assumption) (by assumption) (fun _ h => h) ⟨_, rfl⟩
        clear F' N'
        intro vv' h' tk' hvv F' N'
        obtain ⟨t', rfl⟩ := hvv
        generalize (k'.fdiv 256).fmod ((ns.length : Int) + 7) = pl at *
        k_dflt (refine' wpN_cutV (Str.ofString "ahead") (fun v => v = .bool ((k'.fdiv 7).fmod 2 == 1)) ?bcF2 ?bcN2 (wpN_of ?bcf2) ?bcr2; (case bcF2 => k_asm); (case bcN2 => k_asm))
        case bcf2 =>
          k_steps
          exact EndV.intro (by assumption) (by assumption) (fun _ h => h) rfl
        clear F' N'
        intro vv' h' tk' hvv F' N'
        subst hvv
        generalize ((k'.fdiv 7).fmod 2 == 1) = ahead at *
        k_dflt (refine' wpN_cutV (Str.ofString "start") (fun v => ∃ t, v = .int (startOf pl ahead) t) ?bcF3 ?bcN3 (wpN_of ?bcf3) ?bcr3; (case bcF3 => k_asm); (case bcN3 => k_asm))
        case bcf3 =>
          k_steps
          all_goals
            exact EndV.intro (by assumption) (by assumption) (fun _ h => h) (int_is (by first | (rw [show ahead = true by assumption]; rfl) | (rw [show ahead = false by assumption]; rfl)))
        clear F' N'
        intro vv' h' tk' hvv F' N'
        obtain ⟨t', rfl⟩ := hvv
        have hst0 : 0 ≤ startOf pl ahead := startOf_nonneg hpl.1
        have hst1 : startOf pl ahead ≤ 34 := by unfold startOf; split <;> omega
        generalize hst : startOf pl ahead = st at *
        refine wpN_cons (wpN_of ?_)
        k_dflt (refine LCt.Assign_ListComp_T (F₀ := by k_asm) (by rfl) (by with_unfolding_all rfl) (by with_unfolding_all rfl) (by decide) (by rfl) (by decide) (by rfl) (by rfl) (by rfl) ?_)
        iterate 12 (first | walk1 | (dsimp only; walk1))
        k_dflt (refine' due_src (ns := ns) (by rfl) ?bdF ?bdN (by assumption) ?bdb ?bd0 ?bd1 ?bdT ?bdfin; (case bdF => k_asm); (case bdN => k_asm); (case bdb => rfl); (case bd0 => assumption); (case bd1 => omega))
        case bdT =>
          unfold DueTurn
          intro g j t I oI C oC D ys m₂ h tk E' hj0 hj1 hC hx F' N' off ne
          iterate 16 (first | walk1 | (dsimp only; walk1))
          · exact LCg.CompEnd.intro F' N' _ (fun _ h => h) off trivial ⟨rfl, by assumption, _, rfl⟩
          · exact LCg.CompEnd.intro F' N' _ (fun _ h => h) off trivial ⟨rfl, by assumption⟩
        intro g ys hdue
        unfold LCg.FinA
        intro DD' h' tk' F' N' o1'
        dsimp only
        have hid : idOf (byteArr ns) pl ahead = byteArr (List.take 4 (List.drop st.toNat ns)) := hst ▸ idOf_due hns hpl.1
        have hbi : KBw.bInts (idOf (byteArr ns) pl ahead) = List.take 4 (List.drop st.toNat ns) := hst ▸ bInts_due hns hpl.1
        have hod : Oct (List.take 4 (List.drop st.toNat ns)) := oct_take (oct_drop hns)
        have hld : (List.take 4 (List.drop st.toNat ns)).length ≤ 4 := by rw [List.length_take]; omega
        generalize List.take 4 (List.drop st.toNat ns) = ds at *
        refine wpN_cons (wpN_of ?_)
        k_steps
        dsimp only
        have hne1 : (!decide (KBw.bInts (idOf (byteArr ns) pl ahead) = ds)) = false := by rw [hbi]; simp
        k_dflt (refine' wpN_cutS ?bsF1 ?bsN1 (wpN_of ?bsf1) ?bsr1; (case bsF1 => k_asm); (case bsN1 => k_asm))
        case bsf1 =>
          k_steps
          exact EndS.intro (by assumption) (by assumption) (fun p hp => by (repeat' (first | assumption | refine List.mem_cons_of_mem _ ?_)))
        intro h' tk' F' N'
        k_dflt (refine' wpN_cutS ?bsF2 ?bsN2 (wpN_of ?bsf2) ?bsr2; (case bsF2 => k_asm); (case bsN2 => k_asm))
        case bsf2 =>
          cases ahead
          · have hne1 : (!decide (KBw.bInts (idOf (byteArr ns) pl false) = ds)) = false := by rw [hbi]; simp
            k_steps
            exact EndS.intro (by assumption) (by assumption) (fun p hp => by (repeat' (first | assumption | refine List.mem_cons_of_mem _ ?_)))
          · k_steps
            exact EndS.intro (by assumption) (by assumption) (fun p hp => by (repeat' (first | assumption | refine List.mem_cons_of_mem _ ?_)))
        intro h' tk' F' N'
        k_dflt (refine' wpN_cutS ?bsF3 ?bsN3 ?bsf3 ?bsr3; (case bsF3 => k_asm); (case bsN3 => k_asm))
        case bsf3 =>
          refine wpN_If (wpN_isTrue_Not (wpN_isTrue_value ?_ rfl))
          refine wpN_Call_Name (wpN_of ?_)
          k_steps
          k_dflt (refine wpN_callWith_fn (wpN_args ?_ rfl rfl) rfl (by show 4 + 2 * 0 ≤ 30; omega))
          refine wpN_args_more (wpN_of ?_) rfl
          k_steps
          refine wpN_args_more (wpN_of ?_) rfl
          k_steps
          refine wpN_args_more (wpN_of ?_) rfl
          k_steps
          refine wpN_args_more (wpN_of ?_) rfl
          k_steps
          refine wpN_args_nil (wpN_all_nil ?_)
          k_dflt (refine' fn_there ?byF ?byX ?byh ?_; (case byF => k_asm); (case byX => k_asm); (case byh => k_is))
          first
          | k_dflt (refine' ContractN.use (yan_bytes (by rw [byteArr_size]; exact hnl) (by assumption) hod hld hid) ?bk1 ?bk2 ?bk3 ?bk4 ?bk5 ?bkd ?bku ?bkp ?_; (case bk1 => k_asm); (case bk2 => k_asm); (case bk3 => k_asm); (case bk4 => k_asm); (case bk5 => k_asm); (case bkp => ((try dsimp only); k_mem)); (case bkd => ktr_room); (case bku => ktr_units))
          | k_dflt (refine' ContractN.use (yan_ba (by rw [byteArr_size]; exact hnl) (by assumption) hod hld hid) ?bk1 ?bk2 ?bk3 ?bk4 ?bk5 ?bkd ?bku ?bkp ?_; (case bk1 => k_asm); (case bk2 => k_asm); (case bk3 => k_asm); (case bk4 => k_asm); (case bk5 => k_asm); (case bkp => ((try dsimp only); exact And.intro (by k_mem) (by k_mem))); (case bkd => ktr_room); (case bku => ktr_units))
          intro r' new' h' tk' F' N' l1 hp'
          obtain ⟨hn', hr'⟩ := hp'
          subst hn' hr'
          refine wpN_of ?_
          k_steps
          refine wpN_nil ?_
          exact EndS.intro (by assumption) (by assumption) (fun p hp => by (repeat' (first | assumption | refine List.mem_cons_of_mem _ ?_)))
        intro h' tk' F' N'
        k_dflt (refine' wpN_cutV (Str.ofString "size") (SizeIs ns pl) ?bcF4 ?bcN4 (wpN_of ?bcf4) ?bcr4; (case bcF4 => k_asm); (case bcN4 => k_asm))
        case bcf4 =>
          k_steps
          all_goals
            refine EndV.intro (by assumption) (by assumption) (fun p hp => by (repeat' (first | assumption | refine List.mem_cons_of_mem _ ?_))) ?_
            first
            | exact size_yes (by assumption)
            | exact size_no (by assumption)
        intro vv' h' tk' hvv F' N'
        k_dflt (refine' wpN_cutS ?bsF5 ?bsN5 (wpN_of ?bsf5) ?bsr5; (case bsF5 => k_asm); (case bsN5 => k_asm))
        case bsf5 =>
          rcases hvv with ⟨hsz, ts', hvv⟩ | ⟨hsz, hvv⟩
          all_goals
            subst hvv
            k_steps
            all_goals first | exact EndS.intro (by assumption) (by assumption) (fun p hp => by (repeat' (first | assumption | refine List.mem_cons_of_mem _ ?_))) | exact absurd rfl (show sizeInts ns pl.toNat ≠ sizeInts ns pl.toNat by assumption)
        intro h' tk' F' N'
        refine wpN_cons (wpN_of ?_)
        k_steps
        dsimp only
        refine wpN_cons (wpN_of ?_)
        k_steps
        all_goals first
          | exact absurd rfl (show pl + 4 ≠ pl + 4 by assumption)
          | ((try dsimp only); refine wpN_nil ?_; exact TurnEnd8.intro (by assumption) (by assumption) (fun p hp => by (repeat' (first | assumption | refine List.mem_cons_of_mem _ ?_))))
      case bfin =>
        intro h' tk' a1 a2 a3 a4 a5 a6 a7 a8 F' N'
        dsimp only
        refine wpN_of ?_
        k_steps
        exact good_end (by assumption) (decide_eq_true (bInts_byteArr hns)) (by assumption) (raisesW_false (by wrow_none_raised)) (by wrow_post)
end Mine
end
theorem PySem.Challenge.cw_ef5001_01_holds : PySem.Challenge.rw_ef5001_01.Holds := by
  exact Mine.lawHolds
