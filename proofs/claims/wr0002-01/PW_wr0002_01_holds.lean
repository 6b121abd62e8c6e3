import PyProof.Rows.All
import Wide.All
import OpenK.AllK
import Wide.FinOn
import PySem.Challenge.RW_wr0002_01
set_option Elab.async false
set_option linter.all false

section -- H1
open PySem PySem.W PyProof.Rows
namespace Mine
set_option maxRecDepth 100000 in
set_option maxHeartbeats 8000000 in
open_top hd for PySem.Challenge.rw_wr0002_01
end Mine
end

section -- C0
open PySem PySem.W PyProof.Rows
set_option maxRecDepth 100000
namespace Mine
noncomputable abbrev Lo : List Str := looseW hd.view_39 [Str.ofString "Flags"]
abbrev Oj := Obj
abbrev Vl := Value
/-- a call of the def at f with the arguments vs, from any frame of the law's: it comes back with a value and with objects of its own ahead of the ledger, of which Post is told -/
abbrev Ctr (w : World) (d u : Nat) (f : Addr) (vs : List Value) (news : List (Addr × Obj)) (Post : Value → List (Addr × Obj) → Prop) : Prop :=
  ∀ (mean : ExcName → Option Value) (mg mb : Str → Option Value) (dp un : Nat) (gd : Option (List Code)) (cn : Str) (cs : Scope) (a : Addr) (ccd : Value) (cl : List (Str × Addr)) (outer : List Env) (A₀ : Around) (base h₀ : Heap) (L : Addr) (m : Str → Option Value) (s : Shared) (Q E : Value → Shared → Prop),
    Below A₀ base outer h₀ → Fr h₀ L s.heap m → (hd.heap_39 w.params).In h₀ → News h₀ L s.heap news → Top hd.view_39 Lo mean mg mb h₀ → cs.kind = .function →
    dp + d < recursionLimit → un + u < cLine →
    (∀ (v : Value) (own : List (Addr × Obj)) (h' : Heap) (tk' : Nat), Fr h₀ L h' m → News h₀ L h' (own ++ news) → Post v own → Q v { s with heap := h', toks := tk' }) →
    wpAny (model PySem.Challenge.rw_wr0002_01.row.prog w) (ktrTop dp un gd cn cs L a ccd cl outer) (call (.ref f) vs) Q E s
end Mine
namespace Mine
/-- the same from the law's own frame, that stands lowest -/
abbrev CtrLow (w : World) (f : Addr) (vs : List Value) (news : List (Addr × Obj)) (Post : Value → List (Addr × Obj) → Prop) : Prop :=
  ∀ (mean : ExcName → Option Value) (mg mb : Str → Option Value) (dp un : Nat) (gd : Option (List Code)) (cn : Str) (cs : Scope) (a : Addr) (ccd : Value) (A₀ : Around) (base h₀ : Heap) (L : Addr) (m : Str → Option Value) (s : Shared) (Q E : Value → Shared → Prop),
    (hd.heap_39 w.params).In base → Top hd.view_39 Lo mean mg mb base → Below A₀ base [] h₀ → Fr h₀ L s.heap m → (hd.heap_39 w.params).In h₀ → News h₀ L s.heap news → Top hd.view_39 Lo mean mg mb h₀ → cs.kind = .function →
    dp + 8 < recursionLimit → un + 40 < cLine →
    (∀ (v : Value) (own : List (Addr × Obj)) (h' : Heap) (tk' : Nat), Fr h₀ L h' m → News h₀ L h' (own ++ news) → Post v own → Q v { s with heap := h', toks := tk' }) →
    wpAny (model PySem.Challenge.rw_wr0002_01.row.prog w) { handled := none, depth := dp, frames := some [envOf cn cs L a ccd], guards := gd, units := un } (call (.ref f) vs) Q E s
end Mine
end

section -- C1
open PySem PySem.W PyProof.Rows
set_option maxRecDepth 100000
namespace Mine
def commentS (x : Str) : Str := if (Txt.rstrip x).length = 0 then Str.ofString "#" else Str.ofString "# " ++ Txt.rstrip x
set_option maxHeartbeats 4000000 in
theorem comment_ctr {w : World} (x : Str) (tx : Tok) (news : List (Addr × Oj)) (hx : x.length ≤ 4096) :
    Ctr w 2 16 50 [.str x tx] news (fun v own => own = [] ∧ ∃ t, v = .str (commentS x) t) := by
  unfold Ctr; k_with_none; w_top off; k_fill
  intro mean mg mb dp un gd cn cs a ccd cl outer A₀ base h₀ L m s Q E B F X N T hk hdp hun hret
  refine wpAny_call ?_
  k_dflt cell_enter
  k_steps
  · exact hret _ [] _ _ (by assumption) (by assumption) ⟨rfl, _, by rw [commentS, if_neg (by omega)]⟩
  · exact hret _ [] _ _ (by assumption) (by assumption) ⟨rfl, _, by rw [commentS, if_pos (by omega)]⟩
end Mine
end

section -- E1
open PySem PySem.W PySem.Calls PyProof.Rows
set_option maxRecDepth 100000
namespace Mine
section
open Builtin Builtin.Str Builtin.BaseException
variable {prog : Program} {w : World} {A : Around} {E : Value → Shared → Prop} {s : Shared} {K : Frag} {e t0 C : Addr} {o : Oj} {ws : Array Value}
theorem own_special {name : Str} {id : String} {Q : Option Value → Shared → Prop} (X : K.In s.heap) (hx : s.heap.get? e = some o) (hc : o.cls = .ref C) (hs : findIn K (.ref C) name = some (some (.builtin id)))
    (hb : ∀ self, bindSpecial (.builtin id) self = pure (.builtin id, [self])) (h : wpAny (model prog w) A (call (.builtin id) [.ref e]) (fun v => Q (some v)) E s) : wpAny (model prog w) A (callSpecial? (.ref e) name) Q E s := by
  have T : Looks (model prog w) s.heap (typeOf (.ref e)) (.ref C) := by
    have := (Looks.ld (M := model prog w) (part := none) hx).andThen (f := fun x => pure x.cls) .now
    rw [hc] at this; exact this
  exact wpAny_bind (wpAny_bind (T.here ((looks_findIn X hs).here (wpAny_holding (wpAny_bind ((Looks.of_pure (hb _)).here (wpAny_bind (wpAny_mono h (fun _ _ z => wpAny_pure z) fun _ _ z => z))))))))
theorem own_bexcStr {m : Str} {tk : Tok} {Q : Value → Shared → Prop} (X : K.In s.heap) (hx : s.heap.get? e = some o) (hc : o.cls = .ref C) (hd : o.data = .fields ws) (h0 : ws[0]? = some (.ref t0)) (ht : s.heap.TupAt t0 [.str m tk])
    (hm : mroIn K C (.type "BaseException") = some true) (hq : Q (.str m tk) s) :
    wpAny (model prog w) A (call (.builtin "BaseException.__str__") [.ref e]) Q E s := by
  have T : Looks (model prog w) s.heap (typeOf (.ref e)) (.ref C) := by
    have := (Looks.ld (M := model prog w) (part := none) hx).andThen (f := fun x => pure x.cls) .now
    rw [hc] at this; exact this
  refine wpAny_call (codeAny_call_builtin (id := "BaseException.__str__") (by decide +kernel) PySem.F.entry_bexc_str (check_slot (i := "BaseException.__str__") (owner := "BaseException") (n := "__str__") (by decide +kernel) (by decide +kernel) (T.andThen (looks_mroIn X hm)) (PySem.F.args_bexc_str _) ?_))
  unfold Builtin.«BaseException.__str__»
  have key : ∀ {Q : Value × List Value → Shared → Prop} {A : Around} {E : Value → Shared → Prop}, Q (.ref t0, [.str m tk]) s → wpAny (model prog w) A (bexcArgs (.ref e)) Q E s := by
    intro Q A E hq
    obtain ⟨ot, k, hto, _, htd⟩ := ht
    unfold bexcArgs
    refine wpAny_bind (wpAny_field hx hd h0 (wpAny_bind (wpAny_seqItems hto htd ?_)))
    exact wpAny_pure hq
  repeat (first | with_reducible refine key ?_ | wp_step)
  exact hq
theorem own_strOf {m : Str} {tk : Tok} {Q : Value → Shared → Prop} (hu : A.units < cLine) (X : K.In s.heap) (hx : s.heap.get? e = some o) (hc : o.cls = .ref C) (hd : o.data = .fields ws) (h0 : ws[0]? = some (.ref t0)) (ht : s.heap.TupAt t0 [.str m tk])
    (hs : findIn K (.ref C) "__str__" = some (some (.builtin "BaseException.__str__"))) (hm : mroIn K C (.type "BaseException") = some true) (hb : ∀ self, bindSpecial (.builtin "BaseException.__str__") self = pure (.builtin "BaseException.__str__", [self])) (hq : Q (.str m tk) s) :
    wpAny (model prog w) A (Builtin.Str.strOf (.ref e)) Q E s := by
  unfold Builtin.Str.strOf
  repeat (first | with_reducible refine wpAny_cRoomFor hu ?_ | with_reducible refine own_special X hx hc hs hb (own_bexcStr X hx hc hd h0 ht hm ?_) | wp_step)
  exact hq
theorem own_str {m : Str} {tk : Tok} {Q : Value → Shared → Prop} (hu : A.units + 2 < cLine) (X : K.In s.heap) (hx : s.heap.get? e = some o) (hc : o.cls = .ref C) (hd : o.data = .fields ws) (h0 : ws[0]? = some (.ref t0)) (ht : s.heap.TupAt t0 [.str m tk])
    (hs : findIn K (.ref C) "__str__" = some (some (.builtin "BaseException.__str__"))) (hm : mroIn K C (.type "BaseException") = some true) (hb : ∀ self, bindSpecial (.builtin "BaseException.__str__") self = pure (.builtin "BaseException.__str__", [self])) (hq : Q (.str m tk) s) :
    wpAny (model prog w) A (call (.type "str") [.ref e]) Q E s :=
  callType_new PySem.F.called_str (by decide) (PySem.F.typeCall_str_1 _) (PySem.F.newCall_str_1 _) (fun obj => PySem.F.args_object_init_2 obj _) PySem.F.entry_str_new
    (meets_str_new (S := fun A' R s' => A'.units + 1 < cLine ∧ K.In s'.heap ∧ s'.heap.get? e = some o ∧ s'.heap.TupAt t0 [.str m tk] ∧ R (.ok (.ret (.str m tk))) s')
      fun _ _ A' _ _ hq => own_strOf (A := A'.in1) hq.1 hq.2.1 hq.2.2.1 hc hd h0 hq.2.2.2.1 hs hm hb hq.2.2.2.2)
    ⟨(show A.units + 1 + 1 < cLine from hu), X, hx, ht, typeIs_str _ _ _, hq⟩
theorem own_str_got {m : Str} {tk : Tok} {Q : Value → Shared → Prop} {h₀ : Heap} {L : Addr} {mm : Str → Option Value} {news : List (Addr × Oj)} (hu : A.units + 2 < cLine) (F : Fr h₀ L s.heap mm) (X : K.In h₀) (N : News h₀ L s.heap news) (G : Got news e t0 (.ref C) [.str m tk])
    (hs : findIn K (.ref C) "__str__" = some (some (.builtin "BaseException.__str__"))) (hm : mroIn K C (.type "BaseException") = some true) (hb : ∀ self, bindSpecial (.builtin "BaseException.__str__") self = pure (.builtin "BaseException.__str__", [self])) (hq : Q (.str m tk) s) :
    wpAny (model prog w) A (call (.type "str") [.ref e]) Q E s := by
  obtain ⟨oe, ot, ws, nt, h1, h2, hc, hd, h0, htc, htd⟩ := G
  exact own_str hu (X.keeps F.keep) (N.get h1) hc hd h0 ⟨ot, nt, N.get h2, htc, htd⟩ hs hm hb hq
theorem bind_bexcStr (self : Value) : bindSpecial (.builtin "BaseException.__str__") self = pure (.builtin "BaseException.__str__", [self]) := by
  exact PySem.F.excStr_TypeError.str.bind self
end
end Mine
end

section -- E2
open PySem PySem.W PySem.Calls PyProof.Rows
set_option maxRecDepth 100000
namespace Mine
/-- the claim's own caller stands on the stack -/
def callerOn (st : List (Code × Pos)) : Bool := (st.map (·.1)).any Code.isCaller
abbrev Good1 (st : List (Code × Pos)) : Prop := callerOn st = true

/-- as wpAny, but of stacks alone on which the claim's caller stands -/
def wpC {α : Type} (M : Model) (A : Around) (t : Sem α) (Q : α → Shared → Prop) (E : Value → Shared → Prop) (s : Shared) : Prop :=
  ∀ Γ p, Γ.In A → callerOn ((Γ.code, p) :: Γ.below) = true → Sem.wp M Γ t (fun a _ s' => Q a s') (fun e _ s' => E e s') p s
def codeC (M : Model) (A : Around) (c : Code) (R : Result → Shared → Prop) (s : Shared) : Prop :=
  ∀ Γ p, Γ.code = c → Γ.Below A → callerOn Γ.below = true → wpCode M Γ R p s

section
variable {α β : Type} {M : Model} {A : Around} {E : Value → Shared → Prop} {s : Shared}
theorem callerOn_pos {c : Code} {p p' : Pos} {l : List (Code × Pos)} : callerOn ((c, p) :: l) = callerOn ((c, p') :: l) := rfl
theorem callerOn_more {c : Code} {p : Pos} {l : List (Code × Pos)} (h : callerOn l = true) : callerOn ((c, p) :: l) = true := by
  unfold callerOn at *
  rw [List.map_cons, List.any_cons, h, Bool.or_true]
theorem wpC_lift {t : Sem α} {Q : α → Shared → Prop} (h : wpAny M A t Q E s) : wpC M A t Q E s := fun Γ p hΓ _ => h Γ p hΓ
theorem codeC_lift {c : Code} {R : Result → Shared → Prop} (h : codeAny M A c R s) : codeC M A c R s := fun Γ p hc hΓ _ => h Γ p hc hΓ
theorem wpC_pure {a : α} {Q : α → Shared → Prop} (h : Q a s) : wpC M A (pure a) Q E s := wpC_lift (wpAny_pure h)
theorem wpC_mono {t : Sem α} {Q Q' : α → Shared → Prop} {E' : Value → Shared → Prop} (h : wpC M A t Q E s)
    (hQ : ∀ a s, Q a s → Q' a s) (hE : ∀ e s, E e s → E' e s) : wpC M A t Q' E' s :=
  fun Γ p hΓ hc => Sem.wp_mono M Γ t (fun a _ s => hQ a s) (fun e _ s => hE e s) p s (h Γ p hΓ hc)
theorem wpC_bind {m : Sem α} {f : α → Sem β} {Q : β → Shared → Prop} (h : wpC M A m (fun a s' => wpC M A (f a) Q E s') E s) :
    wpC M A (m >>= f) Q E s := fun Γ p hΓ hc => by
  rw [Sem.wp_bind']
  exact Sem.wp_mono M Γ m (fun a p' s' h' => h' Γ p' hΓ hc) (fun _ _ _ h' => h') p s (h Γ p hΓ hc)
theorem wpC_standAt {pos : Pos} {f : Unit → Sem α} {Q : α → Shared → Prop} (h : wpC M A (f ()) Q E s) : wpC M A (standAt pos >>= f) Q E s :=
  wpC_bind (wpC_lift (wpAny_standAt h))
theorem wpC_onRaise {m : Sem α} {k : Value → Sem Unit} {Q : α → Shared → Prop}
    (h : wpC M A m Q (fun e s' => wpAny M A (k e) (fun _ s'' => E e s'') E s') s) : wpC M A (m.onRaise k) Q E s := fun Γ p hΓ hc => by
  rw [Sem.wp_onRaise]
  exact Sem.wp_mono M Γ m (fun _ _ _ h' => h') (fun e p' s' h' => h' Γ p' hΓ) p s (h Γ p hΓ hc)
theorem wpC_attempt {m : Sem α} {Q : Except Value α → Shared → Prop} (h : wpC M A m (fun a => Q (.ok a)) (fun e => Q (.error e)) s) :
    wpC M A m.attempt Q E s := fun Γ p hΓ hc => by rw [Sem.wp_attempt]; exact h Γ p hΓ hc
theorem wpC_tryCatch {m : Sem α} {k : Value → Sem α} {Q : α → Shared → Prop} (h : wpC M A m Q (fun e s' => wpAny M A (k e) Q E s') s) :
    wpC M A (tryCatch m k) Q E s := fun Γ p hΓ hc => by
  rw [Sem.wp_tryCatch']
  exact Sem.wp_mono M Γ m (fun _ _ _ h' => h') (fun e p' s' h' => h' Γ p' hΓ) p s (h Γ p hΓ hc)
theorem wpC_holding {vs : List Value} {m : Sem α} {Q : α → Shared → Prop} (h : wpC M A m Q E s) : wpC M A (holding vs m) Q E s :=
  fun Γ p hΓ hc => by rw [Sem.wp_holding]; exact h Γ p hΓ hc
theorem codeC_mono {c : Code} {R R' : Result → Shared → Prop} (h : codeC M A c R s) (hR : ∀ r s, R r s → R' r s) : codeC M A c R' s :=
  fun Γ p hc hΓ hk => wpCode_mono hR (h Γ p hc hΓ hk)
theorem wpC_run {c : Code} {h : Option Value} {Q : Flow → Shared → Prop}
    (hc : codeC M (A.mark h) c (fun r s' => match r with | .ok f => Q f s' | .error e => E e s') s) (hnb : h ≠ some byPass := by intro x; cases x) :
    wpC M A (run c h) Q E s :=
  fun Γ p hΓ hk => by rw [Sem.wp_run]; exact hc _ p rfl (hΓ.enter c h p hnb) hk
theorem wpC_call {f : Value} {pos : List Value} {kw : List (Str × Value)} {Q : Value → Shared → Prop}
    (hc : codeC M A (.call f ⟨pos, kw⟩) (fun r s' => match r with | .ok (.ret v) => Q v s' | .ok _ => False | .error e => E e s') s) :
    wpC M A (call f pos kw) Q E s := fun Γ p hΓ hk => by
  show Sem.wp M Γ (runValue _) _ _ _ _
  rw [Sem.wp_runValue]; exact hc _ p rfl (hΓ.enter _ none p (by intro x; cases x)) hk
theorem codeC_of_tree {c : Code} {R : Result → Shared → Prop}
    (h : wpC M (A.under c) (M.den c) (fun fin s' => match fin with | .done f => R (.ok f) s' | .again c' => c'.quiet = true ∧ codeC M A c' R s')
      (fun e s' => R (.error e) s') s) : codeC M A c R s := fun Γ p hc hΓ hk => by
  rw [wpCode_iff_wp, hc]
  refine Sem.wp_mono M Γ _ (fun fin p' s' h' => ?_) (fun _ _ _ h' => h') p s (h Γ p (hc ▸ hΓ.in) (callerOn_more hk))
  cases fin with
  | done f => exact h'
  | again c' => exact ⟨h'.1, h'.2 (Γ.goto c') p' rfl (hΓ.goto c') hk⟩
end

-- the head
section
variable {r : OpenRow}
def ownTree (n : Str) (vs : List Value) : Sem Fin := do match ← nsGet mainNs n with
  | some f => do ret (← PySem.call f vs)
  | none => unsupported "claim.caller:no-such-global"
def twoTree (n : Str) (vs : List Value) : Sem Fin := .stack fun st => if callerOn st then ownTree n vs else ret (.bool true)
def twoRun (f : Value) (vs : List Value) : Sem Value := .stack fun st => if callerOn st then PySem.call f vs else pure (.bool true)
theorem two_step {den : Code → Sem Fin} {prog : Program} {w : World} {s : Shared} {n : Str} {vs : List Value} (hz : s.asleep) {k : Nat} {o : Outcome} {s' : Shared}
    (h : schedN den prog w k (.single s ⟨twoTree n vs, .builtin "claim.caller" {}, default, []⟩) = .halted o s') :
    ∃ k', schedN den prog w k' (.single s (callStub n vs)) = .halted o s' := by
  cases k with
  | zero => cases h
  | succ k =>
    refine ⟨k, ?_⟩
    have e : step den prog w s ⟨twoTree n vs, .builtin "claim.caller" {}, default, []⟩ = .go s (callStub n vs) := by
      obtain ⟨hp, g, d, tk, os⟩ := s
      rfl
    have e2 := (sstep_single den prog w s ⟨twoTree n vs, .builtin "claim.caller" {}, default, []⟩ rfl hz).resolve_right (by rw [e]; intro x; cases x)
    rw [e] at e2
    simp only [schedN, e2] at h
    exact h
end
end Mine
end

section -- E3
open PySem PySem.W PySem.Calls PyProof.Rows
set_option maxRecDepth 100000
namespace Mine
section
variable {prog : Program} {w : World}
theorem two_tree {n : Str} {vs : List Value} {s : Shared} {mg : Str → Option Value} {f : Value} {Q : Fin → Shared → Prop} {E : Value → Shared → Prop}
    (hg : s.heap.Ns mainGlobals mg) (hf : mg n = some f) (h : wpAny (model prog w) callerA (twoRun f vs) (fun v s' => Q (.done (.ret v)) s') E s) : wpAny (model prog w) callerA (twoTree n vs) Q E s := by
  intro Γ p hΓ
  have h' := h Γ
  unfold twoRun at h'
  unfold twoTree
  rw [Sem.wp_stack]
  cases hc : callerOn ((Γ.code, p) :: Γ.below) with
  | true =>
    simp only [if_true]
    unfold ownTree
    rw [Sem.wp_bind']
    refine Sem.wp_mono _ _ _ (fun o p' s' x => ?_) (fun _ _ _ x => x) _ _ (wpAny_nsGet (M := model prog w) (A := callerA) (E := E) hg (Q := fun o s' => o = some f ∧ s' = s) ⟨hf, rfl⟩ Γ p hΓ)
    obtain ⟨rfl, rfl⟩ := x
    have g := h' p' hΓ
    rw [Sem.wp_stack, show callerOn ((Γ.code, p') :: Γ.below) = true from hc] at g
    simp only [if_true] at g
    show Sem.wp _ _ (PySem.call f vs >>= fun v => ret v) _ _ _ _
    rw [Sem.wp_bind']
    exact Sem.wp_mono _ _ _ (fun _ _ _ x => x) (fun _ _ _ x => x) _ _ g
  | false =>
    have g := h' p hΓ
    rw [Sem.wp_stack, hc] at g
    exact g
theorem two_run {f : Value} {vs : List Value} {s : Shared} {Q : Value → Shared → Prop} {E : Value → Shared → Prop}
    (h : wpC (model prog w) callerA (PySem.call f vs) Q E s) (ht : Q (.bool true) s) : wpAny (model prog w) callerA (twoRun f vs) Q E s := by
  intro Γ p hΓ
  unfold twoRun
  rw [Sem.wp_stack]
  cases hc : callerOn ((Γ.code, p) :: Γ.below) with
  | true => exact h Γ p hΓ hc
  | false => exact ht
end

theorem own_open {r : OpenRow} {q : Program} {loose : List Str} {Xt : Shared → Bool} {XP : (Str → Option Value) → Heap → Prop} {α : Type} {Yf : Shared → α} {Ya : World → α} {YP : World → Heap → Prop} {d : DefRec} {kwd : List (Str × Expr)} {N : Nat}
    (left : LeftO r.prog q loose Xt Yf Ya N) (hY : ∀ w s, Yf s = Ya w → YP w s.heap) (hYk : ∀ w h h', YP w h → (∀ b o, h.get? b = some o → h'.get? b = some o) → YP w h')
    (hX : ∀ s, Xt s = true → XP (s.heap.nsMap mainGlobals) s.heap) (hXk : ∀ mg h h', XP mg h → (∀ b o, h.get? b = some o → h'.get? b = some o) → XP mg h')
    (hdef : defOf q r.name = some (d, kwd)) (hp : r.prog.theDef r.name = some (d.params, d.body, d.scope)) (hk : kwWritten? d.params.kwonlyargs d.params.kw_defaults = some kwd) (hRf : ∀ s, Xt s = true → RecFacts r.records s.heap) (hwr : (!r.writes || r.records.isEmpty) = true)
    (k1 : r.wellSaid = true) (ok : (chainsOk q && opensWell r.prog && (frees r.toRowW && r.within.isEmpty)) = true) (hb : r.prog.bare) (hw : r.toRowW.promised)
    (hT : ∀ args, (∀ cls, r.claim.raises args cls = false) ∧ r.claim.post args (.bool true) args = true)
    (call : ∀ (w : World) (s₀ s₁ : Shared) (mg mb : Str → Option Value), Ground q loose r.records XP w s₀ mg mb s₁.heap → YP w s₁.heap → ∀ (a : Addr) (o : Obj) (pm cd doc dV kV : Value), s₁.heap.get? a = some o →
      o.data = .func { docDef d.name d.params d.body d.scope pm cd doc with defaults := dV, kwdefaults := kV } → s₁.heap.CodeRec cd d.name → Dflts mg s₁.heap d.params kwd dV kV → mg d.name = some (.ref a) → s₁.gens = #[] →
      ∀ (args : List WData) (vals : List Value) (as : List Addr), r.claim.pre args = true → WData.layableAll args = true → ReadsAllW r.records (classAt s₀.heap) s₁.heap vals args as → WellAll w.params s₁.heap vals args → (∀ a ∈ as, (a == sysModules) = false) →
        wpC (model r.prog w) callerA (PySem.call (.ref a) vals) (fun v s' => GoodWG r.claim (classAt s₀.heap) (ExcName.means s₀.heap) args s₁ (.ok (.ret v)) s')
          (fun e s' => GoodWG r.claim (classAt s₀.heap) (ExcName.means s₀.heap) args s₁ (.error e) s') s₁) : r.Holds := by
  have H := open_anyG (r := r.toRowW) (run := twoRun) (tree := twoTree r.name) (defs := if r.pinned then [r.name] else []) (kps := r.keeps) (writes := r.writes) left hY hYk hX hXk hRf hwr ok hb hw
    (fun vs w s mg f Q E hg hf h => two_tree hg hf h)
    (fun w s hg G n hn => by
      obtain rfl : n = r.name := by split at hn <;> simp_all
      exact pinned_of_view hg G hdef hp hk)
    (fun w s₀ s₁ mg mb G Y args vs as hpre hlay L low => by
      obtain ⟨a, o, pm, cd, doc, dV, kV, h1, h2, h3, h4, h5⟩ := G.fn hdef
      refine ⟨.ref a, h1, two_run (call w s₀ s₁ mg mb G Y a o pm cd doc dV kV h2 h3 h4 h5 (defOf_name hdef ▸ h1) L.gens args vs as hpre hlay L.reads L.well (L.low low)) ?_⟩
      refine GoodW.toG ⟨.inl ⟨.bool true, .bool true, [], rfl, (hT args).1, .bool true, (hT args).2, fun _ => ⟨.nil, fun _ h => nomatch h⟩⟩, fun _ _ e => e, rfl, L.gens⟩)
  obtain ⟨a1, a2, a3⟩ := H
  refine ⟨k1, hw, a1, a2, fun w => ⟨(a3 w).1, fun s hs => ?_⟩⟩
  obtain ⟨s₀, b1, b2, s₁, b3, b4, b5, b6, b7⟩ := (a3 w).2 s hs
  refine ⟨s₀, b1, b2, s₁, b3, b4, b5, b6, fun args h1 h2 ord h3 => ?_⟩
  obtain ⟨vs, s₂, c1, n, oc, s', c2, c3⟩ := b7 args h1 h2 ord h3
  have hz : s₂.asleep := Shared.asleep_of_life ((layAllW_rest _ _ _ c1).2.2.2.trans (b3.2.1.trans (fence_lifeW b1))) (AfterImport.life hs)
  obtain ⟨k', c4⟩ := two_step hz c2
  exact ⟨vs, s₂, c1, k', oc, s', c4, c3⟩
end Mine
end

section -- E5
open PySem PySem.W PySem.Calls PyProof.Rows
set_option maxRecDepth 100000
namespace Mine
theorem execs_append (env : Env) (post : List Stmt) : ∀ pre : List Stmt, execs (pre ++ post) env = (do match ← execs pre env with | .next => execs post env | f => pure f)
  | [] => by
    show execs post env = (pure Flow.next >>= _)
    rw [pure_bind]
  | st :: pre => by
    rw [List.cons_append, execs_cons, execs_cons, bind_assoc]
    refine congrArg _ (funext fun f => ?_)
    cases f with
    | next => exact execs_append env post pre
    | brk => simp only [pure_bind]
    | cont => simp only [pure_bind]
    | ret v => simp only [pure_bind]
section
variable {M : Model} {A : Around} {E : Value → Shared → Prop} {s : Shared} {env : Env}
theorem wpC_execs_cons {st : Stmt} {rest : List Stmt} {Q : Flow → Shared → Prop}
    (h : wpC M A (exec st env) (fun f s' => match f with | .next => wpC M A (execs rest env) Q E s' | f => Q f s') E s) :
    wpC M A (execs (st :: rest) env) Q E s := by
  rw [execs_cons]
  refine wpC_bind (wpC_mono h (fun f s' h' => ?_) fun _ _ x => x)
  cases f <;> first | exact h' | exact wpC_pure h'
theorem wpC_execs_app {pre post : List Stmt} {Q : Flow → Shared → Prop}
    (h : wpAny M A (execs pre env) (fun f s' => match f with | .next => wpC M A (execs post env) Q E s' | f => Q f s') E s) : wpC M A (execs (pre ++ post) env) Q E s := by
  rw [execs_append]
  refine wpC_bind (wpC_lift (wpAny_mono h (fun f s' h' => ?_) fun _ _ x => x))
  cases f <;> first | exact h' | exact wpC_pure h'
theorem wpC_execs_at (n : Nat) {l : List Stmt} {Q : Flow → Shared → Prop}
    (h : wpAny M A (execs (l.take n) env) (fun f s' => match f with | .next => wpC M A (execs (l.drop n) env) Q E s' | f => Q f s') E s) : wpC M A (execs l env) Q E s := by
  have := wpC_execs_app h
  rwa [List.take_append_drop] at this
theorem wpC_Return_some {e : Expr} {pos : Pos} {Q : Flow → Shared → Prop} (h : wpC M A (eval e env) (fun v => Q (.ret v)) E s) :
    wpC M A (exec (.Return (some e) pos) env) Q E s := fun Γ p hΓ hc => by
  simp only [exec_Return_some, Sem.wp_bind', Sem.wp_cmd_standAt, Sem.wp_pure']; exact h Γ _ hΓ hc
theorem wpC_Assign_Name {x : Str} {pos' : Pos} {value : Expr} {pos : Pos} {Q : Flow → Shared → Prop}
    (h : wpC M A (eval value env) (fun v s₁ => wpC M A (storeName env x v) (fun _ => Q .next) E s₁) E s)
    (hs : swapsWith value (some (.Name x pos')) pos.line env = pure false := by rfl) :
    wpC M A (exec (.Assign [.Name x pos'] value pos) env) Q E s := fun Γ p hΓ hc => by
  simp only [exec_Assign_Name env x pos' value pos hs, Sem.wp_bind', Sem.wp_cmd_standAt, Sem.wp_bindName, Sem.wp_pure']
  exact Sem.wp_mono M Γ _ (fun v _ s₁ h₁ => h₁ Γ _ hΓ hc) (fun _ _ _ h' => h') _ _ (h Γ _ hΓ hc)
theorem wpC_isTrue_Compare1 {l r : Expr} {op : CmpOp} {pos : Pos} {whole : Sem Value} {Q : Bool → Shared → Prop}
    (h : wpC M A (eval l env) (fun a s₁ => wpC M A (eval r env) (fun b s₂ => wpC M A (compareOp op a b)
      (fun c s₃ => wpC M A (truthy c) Q E s₃) E s₂) E s₁) E s)
    (hm : behindInMarks op r = false := by with_unfolding_all rfl) : wpC M A (isTrue (.Compare l [op] [r] pos) env whole) Q E s := fun Γ p hΓ hc => by
  simp only [isTrue_Compare1, markedBehindIn_of_false hm, Sem.wp_bind', Sem.wp_holding, Sem.wp_cmd_standAt, Sem.wp_operate]
  exact Sem.wp_mono M Γ _ (fun a p₁ s₁ h₁ => Sem.wp_mono M Γ _ (fun b _ s₂ h₂ => Sem.wp_mono M Γ _ (fun c p₃ s₃ h₃ => h₃ Γ p₃ hΓ hc)
    (fun _ _ _ h' => h') _ _ (h₂ Γ _ hΓ hc)) (fun _ _ _ h' => h') _ _ (h₁ Γ p₁ hΓ hc)) (fun _ _ _ h' => h') _ _ (h Γ p hΓ hc)
theorem wpC_If {test : Expr} {body orelse : List Stmt} {pos : Pos} {Q : Flow → Shared → Prop}
    (h : wpC M A (isTrue test env (eval test env))
      (fun b s₂ => if b then wpC M A (execs body env) Q E s₂ else wpC M A (execs orelse env) Q E s₂) E s) :
    wpC M A (exec (.If test body orelse pos) env) Q E s := fun Γ p hΓ hc => by
  simp only [exec_If, Sem.wp_bind', Sem.wp_cmd_standAt]
  refine Sem.wp_mono M Γ _ (fun b p₂ s₂ h₂ => ?_) (fun _ _ _ h' => h') _ _ (h Γ _ hΓ hc)
  cases b <;> exact h₂ Γ p₂ hΓ hc
theorem wpC_runOwn {c : Code} {h : Option Value} {Q : Flow → Shared → Prop}
    (hc : codeC M (A.mark h) c (fun r s' => match r with | .ok f => Q f s' | .error e => cameBackBy M A env E e s') s) (hnb : h ≠ some byPass := by intro x; cases x) :
    wpC M A (runOwn c env h) Q E s := by
  unfold runOwn
  exact wpC_onRaise (wpC_run hc hnb)
theorem wpC_Try_except {body orelse : List Stmt} {h₀ : ExceptHandler} {hs : List ExceptHandler} {pos : Pos} {Q : Flow → Shared → Prop}
    (h : wpC M A (execs body env) (fun f s₁ => match f with | .next => wpAny M A (execs orelse env) Q E s₁ | f => Q f s₁)
      (fun e s₁ => wpAny M A (noteFrame e env) (fun _ s₂ => wpAny M A (setFlight e none) (fun _ s₃ => wpAny M A (handleBy e env (h₀ :: hs)) Q E s₃) E s₂) E s₁) s) :
    wpC M A (exec (.Try body (h₀ :: hs) orelse [] pos) env) Q E s := by
  rw [arm_exec_Try]
  refine wpC_standAt ?_
  unfold tryStmt
  simp only [List.isEmpty_nil, if_true, List.isEmpty_cons, Bool.false_and, Bool.false_eq_true, if_false]
  refine wpC_bind (wpC_attempt (wpC_mono h (fun f s₁ h₁ => ?_) fun e s₁ h₁ => ?_))
  · cases f <;> first | exact wpC_lift h₁ | exact wpC_pure h₁
  · exact wpC_lift (wpAny_bind (wpAny_mono h₁ (fun _ _ h₂ => wpAny_bind h₂) fun _ _ x => x))
theorem wpC_Call_Name {id : Str} {p pos : Pos} {args : List Expr} {keywords : List Keyword} {Q : Value → Shared → Prop}
    (h : wpAny M A (eval (.Name id p) env) (fun f s₁ => wpC M A (callWith pos f [] (backTo pos (starEach args env)) (backToKw pos (keywordEach keywords env))) Q E s₁) E s) :
    wpC M A (eval (.Call (.Name id p) args keywords pos) env) Q E s := by
  rw [arm_eval_Call_Name']
  exact wpC_bind (wpC_lift h)
theorem wpC_point {f : Unit → Sem Value} {Q : Value → Shared → Prop} (h : wpC M A (f ()) Q E s) : wpC M A (point >>= f) Q E s := wpC_bind (wpC_lift (wpAny_point h))
theorem wpC_keep {α : Type} {vs : List Value} {m : Sem α} {Q : α → Shared → Prop} (h : wpC M A m Q E s) : wpC M A (m.keep vs) Q E s := by
  intro Γ p hΓ hc
  have := h Γ p hΓ hc
  rw [Sem.wp_keep]
  exact this
theorem wpC_callWith_function {pos : Pos} {a : Addr} {args : List (Bool × Sem Value)} {Q : Value → Shared → Prop}
    (hplain : args.any (·.1) = false)
    (h : wpAny M A (evalArgs (.ref a) true args []) (fun x s₁ => (∃ o fd, s₁.heap.get? a = some o ∧ o.data = .func fd) ∧ wpC M A (call (.ref a) x.pos x.kw) Q E s₁) E s) :
    wpC M A (callWith pos (.ref a) [] args []) Q E s := by
  unfold callWith
  refine wpC_bind (wpC_lift (wpAny_holding (wpAny_mono h (fun x s₁ h₀ => ?_) fun _ _ x => x)))
  obtain ⟨⟨o, fd, hg, hf⟩, h₁⟩ := h₀
  refine wpC_standAt ?_
  simp only [hplain, List.any_nil, Bool.or_false]
  refine wpC_bind (m := keeperOf (.ref a)) (wpC_lift ?_)
  unfold keeperOf
  refine wpAny_bind (wpAny_load hg ?_)
  rw [hf]
  refine wpAny_pure ?_
  have tail : ∀ {t : Sem Value}, wpC M A t Q E s₁ → wpC M A (t >>= fun r => holding [r] point >>= fun _ => pure r) Q E s₁ :=
    fun ht => wpC_bind (wpC_mono ht (fun r s₂ hr => wpC_lift (wpAny_bind (wpAny_holding (wpAny_point (wpAny_pure hr))))) fun _ _ x => x)
  have hc : wpC M A (callMarked plainCall (.ref a) x.pos x.kw) Q E s₁ := by unfold callMarked; exact wpC_keep h₁
  dsimp only [List.nil_append]
  split
  · exact tail h₁
  · exact tail hc
theorem wpC_callWith_type {pos : Pos} {T : String} {args : List (Bool × Sem Value)} {Q : Value → Shared → Prop}
    (hplain : args.any (·.1) = false)
    (h : wpAny M A (evalArgs (.type T) true args []) (fun a s₁ => wpC M A (call (.type T) a.pos a.kw) Q E s₁) E s) :
    wpC M A (callWith pos (.type T) [] args []) Q E s := by
  unfold callWith
  refine wpC_bind (wpC_lift (wpAny_holding (wpAny_mono h (fun a s₁ h₁ => ?_) fun _ _ x => x)))
  refine wpC_standAt ?_
  simp only [hplain, List.any_nil, Bool.or_false]
  refine wpC_bind (wpC_lift (wpAny_pure ?_))
  exact wpC_bind (wpC_mono h₁ (fun r s₂ hr => wpC_lift (wpAny_bind (wpAny_holding (wpAny_point (wpAny_pure hr))))) fun _ _ x => x)
theorem wpC_For {target iter : Expr} {body orelse : List Stmt} {pos : Pos} {Q : Flow → Shared → Prop}
    (h : wpAny M A (eval iter env) (fun x s₁ => wpAny M A (pyIter x) (fun it s₂ =>
      codeC M A (.forLoop target it body orelse env) (fun r s' => match r with | .ok f => Q f s' | .error e => cameBackBy M A env E e s') s₂) E s₁) E s)
    (hs : ∀ x, foldedSetIterable iter env x = pure x := by intro _; rfl) :
    wpC M A (exec (.For target iter body orelse pos) env) Q E s := by
  rw [exec_For]
  exact wpC_standAt (wpC_bind (wpC_lift (wpAny_mono h (fun x s₁ h₁ => wpC_bind (wpC_lift (wpAny_of_eq (hs x) ((wpC_standAt (wpC_bind (wpC_lift (wpAny_holding
    (wpAny_mono h₁ (fun it s₂ h₂ => wpC_runOwn h₂) fun _ _ h' => h'))))))))) fun _ _ h' => h')))
end
section
variable {prog : Program} {w : World} {A : Around} {E : Value → Shared → Prop} {R : Result → Shared → Prop} {s : Shared}
theorem codeC_func {body : List Stmt} {env : Env}
    (h : wpC (model prog w) (A.deeper env) (execs body env) (fun f s' => R (.ok (.ret (match f with | .ret v => v | _ => .none))) s')
      (fun e s' => wpAny (model prog w) (A.deeper env) (leaving env e) (fun _ s'' => R (.error e) s'') (fun e' s'' => R (.error e') s'') s') s) :
    codeC (model prog w) A (.func body env) R s := by
  refine codeC_of_tree ?_
  show wpC _ (A.deeper env) (do point; match ← (execs body env).onRaise (leaving env) with | .ret v => ret v | _ => ret .none) _ _ s
  refine wpC_bind (wpC_lift (wpAny_point (wpC_bind (wpC_onRaise (wpC_mono h (fun f s' h' => ?_) fun _ _ h' => h')))))
  cases f <;> exact wpC_pure h'
theorem codeC_call_function {a : Addr} {args : Args} {o : Obj} {fd : FuncData} {body : List Stmt} (hroom : A.depth < recursionLimit)
    (ho : s.heap.get? a = some o)
    (hd' : o.data = .func fd) (hco : fd.scope.isCoroutine = false) (hgen : fd.scope.isGenerator = false) (hbody : fd.body = .stmts body) (hcd : s.heap.CodeRec fd.code fd.qualname)
    (h : wpAny (model prog w) A.in1 (bindArgs fd args) (fun binds s₁ =>
      wpAny (model prog w) A.in1 (newFunctionEnv fd.scope fd.globals fd.closure binds (fd.qualname ++ ".<locals>.") (some a) fd.code none fd.builtins)
        (fun env s₂ => s₂.heap.NoLimit ∧ codeC (model prog w) A (.func body env) R s₂) (fun e s' => R (.error e) s') s₁) (fun e s' => R (.error e) s') s) :
    codeC (model prog w) A (.call (.ref a) args) R s := by
  refine codeC_of_tree ?_
  show wpC _ A.in1 (callAny (.ref a) args) _ _ s
  refine wpC_lift ?_
  simp only [callAny]
  refine wpAny_bind (wpAny_load ho ?_)
  obtain ⟨c, oc, vs, tq, hc, hoc, hdc, hq⟩ := hcd
  simp only [hd', callFunction, hco, hgen, hbody, hc]
  rw [hc] at h
  refine wpAny_bind (m := field (.ref c) 1) (wpAny_field hoc hdc hq (wpAny_bind (wpAny_pure ?_)))
  exact wpAny_bind (wpAny_mono h (fun binds s₁ h₁ => wpAny_bind (wpAny_mono h₁ (fun env s₂ h₂ => wpAny_bind (wpAny_enterFrame h₂.1 hroom
    (wpAny_pure (And.intro rfl h₂.2)))) fun _ _ h' => h')) fun _ _ h' => h')
theorem codeC_call_def {a : Addr} {o : Obj} {fd : FuncData} {body : List Stmt} {args : Args} {binds : List (Str × Value)}
    (hroom : A.depth < recursionLimit) (ho : s.heap.get? a = some o) (hdata : o.data = .func fd) (hlim : s.heap.NoLimit) (hcd : s.heap.CodeRec fd.code fd.qualname)
    (hbody : fd.body = .stmts body) (hbind : BindsTo s fd args binds)
    (hcell : ∀ x ∈ fd.scope.names, x.2 ≠ .cell) (hloc : ∀ x ∈ binds, fd.scope.names.lookup x.1 = some .local)
    (h : ∀ h₀, h₀.Ns s.heap.objs.size (fun x => binds.reverse.lookup x) → (∀ b o, s.heap.get? b = some o → h₀.get? b = some o) →
      wpC (model prog w) (A.deeper (callEnv fd s.heap.objs.size a)) (execs body (callEnv fd s.heap.objs.size a)) (fun f s' => R (.ok (.ret (match f with | .ret v => v | _ => .none))) s')
        (fun e s' => wpAny (model prog w) (A.deeper (callEnv fd s.heap.objs.size a)) (leaving (callEnv fd s.heap.objs.size a) e) (fun _ s'' => R (.error e) s'') (fun e' s'' => R (.error e') s'') s')
        { s with heap := h₀, toks := s.toks + binds.length })
    (hco : fd.scope.isCoroutine = false := by rfl) (hgen : fd.scope.isGenerator = false := by rfl) (hk : fd.scope.kind = .function := by rfl) :
    codeC (model prog w) A (.call (.ref a) args) R s := by
  refine codeC_call_function hroom ho hdata hco hgen hbody hcd (hbind _ _ _ _ ?_)
  refine wpAny_newFunctionEnv hcell hloc (fun h₀ hns₀ hsb₀ => ⟨hlim.fresh _ hsb₀, codeC_func (h h₀ hns₀ fun b o e => ?_)⟩) hk
  exact hsb₀.extBut b o (Nat.ne_of_lt (Heap.lt_size e)) (Heap.get?_push_of_some _ e)
end
end Mine
end

section -- E6
open PySem PySem.W PySem.Calls PyProof.Rows
set_option maxRecDepth 100000
namespace Mine
open Builtin
section
variable {prog : Program} {w : World} {A : Around} {E : Value → Shared → Prop} {s : Shared}
theorem type_call_bad {x : Str} {t : Tok} {Q : PySem.Fin → Shared → Prop} (h : wpC (model prog w) A (PySem.call (.builtin "int.__new__") [.type "int", .str x t] []) (fun _ _ => False) E s) :
    wpC (model prog w) A (Builtin.«type.__call__» ⟨[.type "int", .str x t], []⟩) Q E s := by
  have hct : checkTypeCall "int" ⟨[.str x t], []⟩ = pure () := by kernel_rfl
  have ft := PySem.F.called_int
  obtain ⟨c, tl, hmro⟩ := ft.mro
  have hmade := ft.made
  have h1 := ft.notType
  have h2 := ft.canCreate
  unfold Builtin.«type.__call__»
  simp only [h1, h2, hct, hmro, hmade, pure_bind, Bool.false_eq_true, if_false, List.isEmpty_cons]
  exact wpC_bind (wpC_mono (wpC_holding h) (fun _ _ x => x.elim) fun _ _ x => x)
theorem caller_keeps {st : List (Code × Pos)} (h : callerOn st = true) (own : List String) : pythonCodeMadeTheCall own (st.map (·.1)) = false := by
  unfold callerOn at h
  show ((!(st.map (·.1)).any Code.isCaller && _) && _) = false
  rw [h]
  rfl
theorem mark_bad {own : List String} {e : Value} {Q : Unit → Shared → Prop} (h : Q () s) : wpC (model prog w) A (markTheRefusal own e) Q E s := by
  intro Γ p hΓ hc
  unfold markTheRefusal
  rw [Sem.wp_bind']
  unfold stack
  rw [Sem.wp_stack, Sem.wp_pure, caller_keeps hc]
  exact h
theorem wpC_ite_true {α : Type} {M : Model} {c : Prop} [Decidable c] {a b : Sem α} {Q : α → Shared → Prop} (hc : c) (h : wpC M A a Q E s) : wpC M A (if c then a else b) Q E s := by rw [if_pos hc]; exact h
theorem wpC_ite_false {α : Type} {M : Model} {c : Prop} [Decidable c] {a b : Sem α} {Q : α → Shared → Prop} (hc : ¬ c) (h : wpC M A b Q E s) : wpC M A (if c then a else b) Q E s := by rw [if_neg hc]; exact h
theorem int_text_bad {x : Str} {t : Tok} {text : List Nat} {Q : Value → Shared → Prop} (hh : A.handled = none) (hs : (text.takeWhile (· != 0)).length ≤ 640)
    (hr : (int_private% "readNumeral") 0 10 (text.takeWhile (· != 0)) = (int_private% "Numeral.invalid")) (hx : (reprText x).length ≤ 4096)
    (h : ∀ h' tk e args, Heap.MadeExc s.heap h' e "ValueError" args → E (.ref e) { s with heap := h', toks := tk }) :
    wpC (model prog w) A ((int_private% "intFromText") (.str x t) text 10) Q E s := by
  refine wpC_ite_true hs ?_
  refine wpC_bind (wpC_pure ?_)
  dsimp only
  rw [hr]
  refine wpC_bind (m := (int_private% "bytesOf?") (.str x t)) (wpC_pure ?_)
  refine wpC_ite_false (by simp) ?_
  refine wpC_bind (m := rule _) (wpC_lift (wpAny_rule ?_))
  refine wpC_bind (m := (int_private% "bytesOf?") (.str x t)) (wpC_pure ?_)
  refine wpC_bind (m := pyRepr (.str x t)) (wpC_lift (wpAny_pyRepr_str ?_ (Nat.le_trans hx (by decide))))
  refine wpC_bind (m := mkStr _) (wpC_lift (wpAny_mkStr ?_ ?_))
  · refine wpC_bind (m := newExc _ _) (wpC_lift (wpAny_newExc_plain plainExc_ValueError (fun h' e hm => ?_)))
    refine wpC_bind (m := markTheRefusal _ _) (mark_bad ?_)
    exact wpC_lift (wpAny_raiseNew_none hh (h _ _ _ _ hm))
  · rw [Str.length_append]
    have e1 : (⟨(reprText x).cps.extract 0 200⟩ : Str).length ≤ 4096 := by
      show ((reprText x).cps.extract 0 200).size ≤ 4096
      rw [Array.size_extract]
      have : (reprText x).cps.size ≤ 4096 := hx
      omega
    have e2 : (Str.ofString (toString "invalid literal for int() with base " ++ toString 10 ++ toString ": ")).length ≤ 100 := by decide +kernel
    rw [sizeLine_eq]
    exact Nat.le_trans (Nat.add_le_add e2 e1) (by decide)
theorem int_object_bad {x : Str} {t : Tok} {Q : Value → Shared → Prop} (h : wpC (model prog w) A ((int_private% "intFromText") (.str x t) (if x.cps.all (· < 128) then x.cps.toList else Unicode.numberText x.cps.toList) 10) Q E s) :
    wpC (model prog w) A ((int_private% "intFromObject") (.str x t)) Q E s := by
  have f3 := KIN.str_int
  have f4 := KIN.str_idx
  have f5 := KIN.str_trunc
  have c1 : callSpecial? (.str x t) (Str.ofString "__int__") = pure none := by
    unfold callSpecial? specialOf
    rw [show typeOf (.str x t) = pure (.type "str") from rfl, pure_bind, f3, pure_bind]
  have c2 : specialOf (.str x t) (Str.ofString "__index__") = pure none := by
    unfold specialOf
    rw [show typeOf (.str x t) = pure (.type "str") from rfl, pure_bind, f4]
  have c3 : specialOf (.str x t) (Str.ofString "__trunc__") = pure none := by
    unfold specialOf
    rw [show typeOf (.str x t) = pure (.type "str") from rfl, pure_bind, f5]
  refine wpC_bind (m := callSpecial? (.str x t) (Str.ofString "__int__")) ?_
  rw [c1]
  refine wpC_pure ?_
  refine wpC_bind (m := specialOf (.str x t) (Str.ofString "__index__")) ?_
  rw [c2]
  refine wpC_pure ?_
  refine wpC_ite_false (by decide) ?_
  refine wpC_bind (m := specialOf (.str x t) (Str.ofString "__trunc__")) ?_
  rw [c3]
  refine wpC_pure ?_
  refine wpC_bind (m := (int_private% "numeralText?") (.str x t)) (wpC_pure ?_)
  exact h
theorem int_new_bad {x : Str} {t : Tok} {Q : PySem.Fin → Shared → Prop} (h : wpC (model prog w) A ((int_private% "intFromText") (.str x t) (if x.cps.all (· < 128) then x.cps.toList else Unicode.numberText x.cps.toList) 10) (fun _ _ => False) E s) :
    wpC (model prog w) A (Builtin.«int.__new__» ⟨[.type "int", .str x t], []⟩) Q E s := by
  have f0 : isType (.type "int") = pure true := rfl
  have f1 := PySem.F.conv_sub_int
  have f2 := PySem.F.madeHere_int
  unfold Builtin.«int.__new__»
  simp only [f0, f1, f2, pure_bind, Bool.false_eq_true, if_false, Bool.not_true]
  refine wpC_ite_false (by simp) ?_
  refine wpC_ite_false (by simp) ?_
  refine wpC_bind (wpC_pure ?_)
  exact wpC_bind (wpC_mono (int_object_bad h) (fun _ _ x => x.elim) fun _ _ x => x)
theorem codeC_call_type {T : String} {args : List Value} {R : Result → Shared → Prop} (h : codeC (model prog w) A (.builtin "type.__call__" ⟨.type T :: args, []⟩) R s) : codeC (model prog w) A (.call (.type T) ⟨args, []⟩) R s := by
  refine codeC_of_tree ?_
  show wpC _ _ (callAny (.type T) _) _ _ _
  exact wpC_pure ⟨Code.quiet_builtin _ (by decide +kernel), h⟩
theorem codeC_builtin {id : String} {args : Args} {b : Builtin} {R : Result → Shared → Prop} (hb : entryFor table id = some b)
    (h : wpC (model prog w) (A.under (.builtin id args)) (b args)
      (fun fin s' => match fin with | .done f => R (.ok f) s' | .again c' => c'.quiet = true ∧ codeC (model prog w) A c' R s') (fun e s' => R (.error e) s') s) :
    codeC (model prog w) A (.builtin id args) R s := by
  refine codeC_of_tree ?_
  show wpC _ _ (match entryFor table id with | some b => b args | none => unsupported ((withoutEnding? id "#data").getD id)) _ _ s
  rw [hb]; exact h
theorem codeC_call_builtin {id : String} {args : Args} {b : Builtin} {R : Result → Shared → Prop} (hq : plainId id = true) (hb : entryFor table id = some b) (hc : checkBuiltinCall id args = pure ())
    (h : wpC (model prog w) A.in1 (b args)
      (fun fin s' => match fin with | .done f => R (.ok f) s' | .again c' => c'.quiet = true ∧ codeC (model prog w) A c' R s') (fun e s' => R (.error e) s') s) : codeC (model prog w) A (.call (.builtin id) args) R s := by
  refine codeC_of_tree ?_
  show wpC _ A.in1 (do checkBuiltinCall id args; again (.builtin id args)) _ _ s
  rw [hc]
  refine wpC_bind (wpC_pure (wpC_pure ⟨plainId_quiet hq args, codeC_builtin hb ?_⟩))
  rw [Around.under_plainId hq args]
  exact h
theorem call_int_bad {x : Str} {t : Tok} {Q : Value → Shared → Prop} (hh : A.handled = none) (hs : (numSeenOf x).length ≤ 640)
    (hr : (int_private% "readNumeral") 0 10 (numSeenOf x) = (int_private% "Numeral.invalid")) (hx : (reprText x).length ≤ 4096)
    (h : ∀ h' tk e args, Heap.MadeExc s.heap h' e "ValueError" args → E (.ref e) { s with heap := h', toks := tk }) :
    wpC (model prog w) A (PySem.call (.type "int") [.str x t] []) Q E s := by
  refine wpC_call (codeC_call_type (codeC_builtin PySem.F.entry_type_call ?_))
  refine type_call_bad (wpC_call (codeC_call_builtin (by decide +kernel) PySem.F.entry_int_new (PySem.F.newCall_int_1 _) ?_))
  exact int_new_bad (int_text_bad (by exact hh) hs hr hx h)
end
end Mine
end

section -- P1
open PySem PySem.W PyProof.Rows
set_option maxRecDepth 100000
namespace Mine
abbrev toL (x : Str) : List Nat := x.cps.toList
abbrev ofL (l : List Nat) : Str := ⟨l.toArray⟩
theorem ofL_toL (x : Str) : ofL (toL x) = x := by cases x; rfl
theorem toL_ofL (l : List Nat) : toL (ofL l) = l := by simp [toL, ofL]
theorem len_toL (x : Str) : x.length = (toL x).length := by simp [toL, Str.length]
theorem toL_app (x y : Str) : toL (x ++ y) = toL x ++ toL y := by show (x.cps ++ y.cps).toList = _; simp [toL]
theorem ofL_app (a b : List Nat) : ofL (a ++ b) = ofL a ++ ofL b := by
  apply Str.ext'; rw [Str.cps_append]; simp [ofL]
theorem toL_inj {x y : Str} (h : toL x = toL y) : x = y := by rw [← ofL_toL x, h, ofL_toL]
theorem slice_is (x : Str) (l u : Option Int) : Txt.slice x l u = StrLaws.sliceText x l u := rfl
theorem slice_mid (x : Str) {i j : Nat} (h : i ≤ j) (hj : j ≤ (toL x).length) : Txt.slice x (some (i : Int)) (some (j : Int)) = ofL (((toL x).drop i).take (j - i)) := by
  rw [slice_is, StrLaws.sliceText_nat x h (by rw [len_toL]; exact hj)]
theorem slice_to (x : Str) (k : Nat) : Txt.slice x none (some (k : Int)) = ofL ((toL x).take k) := by
  by_cases hk : k ≤ (toL x).length
  · rw [slice_is]
    unfold StrLaws.sliceText
    rw [StrLaws.sliceIdx_none_lo]
    have := StrLaws.sliceText_nat x (Nat.zero_le k) (by rw [len_toL]; exact hk)
    unfold StrLaws.sliceText at this
    exact this
  · have e : Txt.slice x none (some (k : Int)) = Txt.slice x none (some (((toL x).length : Nat) : Int)) := by
      rw [slice_is, slice_is]
      unfold StrLaws.sliceText
      have e2 : Builtin.Str.strSliceIndices none (some (k : Int)) 1 x.length = Builtin.Str.strSliceIndices none (some (((toL x).length : Nat) : Int)) 1 x.length := by
        rw [len_toL]
        have a : max (0 : Int) (min (k : Int) ((toL x).length : Int)) = max (0 : Int) (min ((toL x).length : Int) ((toL x).length : Int)) := by omega
        have b : ¬ ((k : Int) < 0) := by omega
        have c : ¬ (((toL x).length : Int) < 0) := by omega
        unfold Builtin.Str.strSliceIndices
        simp only [show ((1 : Int) > 0) from by decide, if_true, b, c, if_false, a]
      rw [e2]
    rw [e, slice_is]
    unfold StrLaws.sliceText
    rw [StrLaws.sliceIdx_none_lo]
    have := StrLaws.sliceText_nat x (Nat.zero_le (toL x).length) (by rw [len_toL]; exact Nat.le_refl _)
    unfold StrLaws.sliceText at this
    refine Eq.trans this ?_
    rw [List.take_of_length_le (l := toL x) (i := k) (by omega), Nat.sub_zero, List.drop_zero]
    show ofL ((toL x).take (toL x).length) = ofL (toL x)
    rw [List.take_length]
theorem slice_from (x : Str) {k : Nat} (hk : k ≤ (toL x).length) : Txt.slice x (some (k : Int)) none = ofL ((toL x).drop k) := by
  rw [slice_is]
  unfold StrLaws.sliceText
  rw [StrLaws.sliceIdx_none_hi, len_toL]
  have := StrLaws.sliceText_nat x hk (by rw [len_toL]; exact Nat.le_refl _)
  unfold StrLaws.sliceText at this
  rw [len_toL] at this
  rw [this]
  show ofL (((toL x).drop k).take ((toL x).length - k)) = ofL ((toL x).drop k)
  rw [List.take_of_length_le (by rw [List.length_drop]; omega)]
theorem item_at (x : Str) {i c : Nat} (h : (toL x)[i]? = some c) : Txt.item x (i : Int) = ofL [c] :=
  item_meets (by omega) (by simpa using h)
theorem in_one (y : Str) (c : Nat) : (Builtin.Str.occurrences y ⟨#[c]⟩ 0 y.length 1).isEmpty = !(toL y).contains c := by
  have h := StrLaws.found_iff y ⟨#[c]⟩
  have e : (⟨#[c]⟩ : Str).length = 1 := rfl
  have k : (∃ i, i + (⟨#[c]⟩ : Str).length ≤ y.length ∧ Builtin.Str.subAt y ⟨#[c]⟩ i = true) ↔ c ∈ toL y := by
    constructor
    · rintro ⟨i, h1, h2⟩
      rw [StrLaws.subAt_eq] at h2
      exact List.mem_of_getElem? (StrLaws.take1_drop.mp h2)
    · intro hm
      obtain ⟨i, hi, hc⟩ := List.getElem_of_mem hm
      refine ⟨i, ?_, ?_⟩
      · rw [e, len_toL]; omega
      · rw [StrLaws.subAt_eq]
        exact StrLaws.take1_drop.mpr (by rw [List.getElem?_eq_getElem hi, hc])
  rw [k] at h
  cases hx : (Builtin.Str.occurrences y ⟨#[c]⟩ 0 y.length 1).isEmpty with
  | true =>
    rw [hx] at h
    have : ¬ c ∈ toL y := fun m => by have := h.mpr m; simp at this
    simp [this]
  | false =>
    rw [hx] at h
    have : c ∈ toL y := h.mp rfl
    simp [this]
end Mine
end

section -- P2
open PySem PySem.W PyProof.Rows
set_option maxRecDepth 100000
namespace Mine
def ltrimL (l : List Nat) : List Nat := l.dropWhile fun c => c == 32 || c == 9
def ltrimS (x : Str) : Str := ofL (ltrimL (toL x))
def isDig (c : Nat) : Bool := decide (48 ≤ c) && decide (c ≤ 57)
def digL (l : List Nat) : Int := l.foldl (fun (a : Int) (c : Nat) => 10 * a + ((c : Int) - 48)) 0
def figL : List Nat → List Nat
  | 45 :: r => r
  | l => l
def numberL (b : List Nat) : Option Int :=
  if figL b = [] ∨ (figL b).all isDig = false then none else some (if b = figL b then digL (figL b) else - digL (figL b))
def DigitsAre (l : List Int) (v : Int) : Prop := (∀ c ∈ l, 48 ≤ c ∧ c ≤ 57) ∧ v = l.foldl (fun a c => 10 * a + (c - 48)) 0
theorem digits_nil : DigitsAre [] 0 := by
  constructor
  · intro c h; cases h
  · rfl
theorem figures_are : toL (Str.ofString "0123456789") = [48, 49, 50, 51, 52, 53, 54, 55, 56, 57] := by decide +kernel
theorem dig_iff (c : Nat) : ([48, 49, 50, 51, 52, 53, 54, 55, 56, 57] : List Nat).contains c = isDig c := by
  unfold isDig
  rw [Bool.eq_iff_iff]
  simp only [List.contains_eq_mem, List.mem_cons, List.not_mem_nil, or_false, decide_eq_true_eq, Bool.and_eq_true]
  omega
theorem occ_dig (c : Nat) : (Builtin.Str.occurrences (Str.ofString "0123456789") ⟨#[c]⟩ 0 (Str.ofString "0123456789").length 1).isEmpty = !isDig c := by
  rw [in_one, figures_are, dig_iff]
theorem find_dig_all : ∀ c, c < 58 → 48 ≤ c → Txt.find (Str.ofString "0123456789") ⟨#[c]⟩ = (c : Int) - 48 := by decide +kernel
theorem find_dig {c : Nat} (h : isDig c = true) : Txt.find (Str.ofString "0123456789") ⟨#[c]⟩ = (c : Int) - 48 := by
  unfold isDig at h
  simp only [Bool.and_eq_true, decide_eq_true_eq] at h
  exact find_dig_all c (by omega) h.1
theorem dig_turn {l : List Int} {v : Int} {c : Nat} (h : DigitsAre l v) (ho : (Builtin.Str.occurrences (Str.ofString "0123456789") ⟨#[c]⟩ 0 (Str.ofString "0123456789").length 1).isEmpty = false) :
    DigitsAre (l ++ [(c : Int)]) (10 * v + Txt.find (Str.ofString "0123456789") ⟨#[c]⟩) := by
  rw [occ_dig] at ho
  have hd : isDig c = true := by simpa using ho
  rw [find_dig hd]
  unfold isDig at hd
  simp only [Bool.and_eq_true, decide_eq_true_eq] at hd
  refine ⟨fun d hm => ?_, ?_⟩
  · rcases List.mem_append.mp hm with hm | hm
    · exact h.1 d hm
    · rw [List.mem_singleton.mp hm]; omega
  · rw [List.foldl_append, ← h.2]; rfl
theorem codes_toL (x : Str) : KStt.codes x = (toL x).map fun (c : Nat) => (c : Int) := rfl
theorem digits_codes {x : Str} {v : Int} (h : DigitsAre (KStt.codes x) v) : (toL x).all isDig = true ∧ v = digL (toL x) := by
  obtain ⟨h1, h2⟩ := h
  rw [codes_toL] at h1 h2
  refine ⟨List.all_eq_true.mpr fun c hc => ?_, ?_⟩
  · have := h1 c (List.mem_map_of_mem hc)
    unfold isDig
    simp only [Bool.and_eq_true, decide_eq_true_eq]
    omega
  · rw [h2, List.foldl_map]; rfl
theorem head_is (b : Str) : toL (Txt.slice b none (some 1)) = (toL b).take 1 := by
  have := slice_to b 1
  rw [show ((1 : Nat) : Int) = 1 from rfl] at this
  rw [this, toL_ofL]
theorem tail_is {b : Str} (h : toL b ≠ []) : toL (Txt.slice b (some 1) none) = (toL b).drop 1 := by
  have := slice_from b (k := 1) (by cases hb : toL b with | nil => exact absurd hb h | cons c r => simp)
  rw [show ((1 : Nat) : Int) = 1 from rfl] at this
  rw [this, toL_ofL]
theorem str_eq_iff {x y : Str} : (x == y) = (toL x == toL y) := by
  rw [Bool.eq_iff_iff, beq_iff_eq, beq_iff_eq]
  exact ⟨fun h => by rw [h], toL_inj⟩
theorem blank_any (b : Str) : ([Str.ofString " ", Str.ofString "\t"].any fun x => x == Txt.slice b none (some 1)) = (match toL b with | c :: _ => (c == 32 || c == 9) | [] => false) := by
  have e1 : toL (Str.ofString " ") = [32] := by decide +kernel
  have e2 : toL (Str.ofString "\t") = [9] := by decide +kernel
  simp only [List.any_cons, List.any_nil, Bool.or_false, str_eq_iff, head_is, e1, e2]
  cases toL b with
  | nil => rfl
  | cons c r =>
    simp only [List.take_succ_cons, List.take_zero]
    have k : ∀ d : Nat, (([d] : List Nat) == [c]) = (c == d) := fun d => by
      rw [Bool.eq_iff_iff, beq_iff_eq, beq_iff_eq]
      exact ⟨fun h => (List.cons.inj h).1.symm, fun h => by rw [h]⟩
    rw [k, k]
theorem ltrim_turn {b z : Str} {n : Nat} (hl : b.length ≤ n) (hr : ltrimS b = z) (ha : ([Str.ofString " ", Str.ofString "\t"].any fun x => x == Txt.slice b none (some 1)) = true) :
    ((Txt.slice b (some 1) none).length ≤ n ∧ ltrimS (Txt.slice b (some 1) none) = z) ∧ (Txt.slice b (some 1) none).length < b.length := by
  rw [blank_any] at ha
  rw [len_toL] at hl
  cases hb : toL b with
  | nil => rw [hb] at ha; cases ha
  | cons c r =>
    rw [hb] at ha hl
    have ht := tail_is (b := b) (by rw [hb]; simp)
    rw [hb] at ht
    simp only [List.drop_succ_cons, List.drop_zero] at ht
    rw [len_toL, len_toL, ht, hb]
    simp only [List.length_cons] at hl ⊢
    refine ⟨⟨by omega, ?_⟩, by omega⟩
    rw [← hr]
    unfold ltrimS
    rw [ht, hb]
    unfold ltrimL
    rw [List.dropWhile_cons, if_pos ha]
theorem ltrim_done {b : Str} {B : List Nat} (hr : ltrimS b = ofL (ltrimL B)) (ha : ([Str.ofString " ", Str.ofString "\t"].any fun x => x == Txt.slice b none (some 1)) = false) : toL b = ltrimL B := by
  rw [blank_any] at ha
  have h1 : ltrimL (toL b) = ltrimL B := by
    have := congrArg toL hr
    unfold ltrimS at this
    rwa [toL_ofL, toL_ofL] at this
  rw [← h1]
  unfold ltrimL
  cases hb : toL b with
  | nil => rfl
  | cons c r =>
    rw [hb] at ha
    rw [List.dropWhile_cons, if_neg (by rw [show (c == 32 || c == 9) = false from ha]; decide)]
theorem minus_is (b : Str) : (Txt.slice b none (some 1) == Str.ofString "-") = (match toL b with | c :: _ => c == 45 | [] => false) := by
  have e1 : toL (Str.ofString "-") = [45] := by decide +kernel
  rw [str_eq_iff, head_is, e1]
  cases toL b with
  | nil => rfl
  | cons c r => simp only [List.take_succ_cons, List.take_zero]; rw [Bool.eq_iff_iff]; simp
theorem fig_minus {b : Str} (h : (Txt.slice b none (some 1) == Str.ofString "-") = true) : toL (Txt.slice b (some 1) none) = figL (toL b) ∧ toL b ≠ figL (toL b) := by
  rw [minus_is] at h
  cases hb : toL b with
  | nil => rw [hb] at h; cases h
  | cons c r =>
    rw [hb] at h
    have hc : c = 45 := by simpa using h
    subst hc
    have ht := tail_is (b := b) (by rw [hb]; simp)
    rw [hb] at ht
    refine ⟨ht, ?_⟩
    show 45 :: r ≠ r
    intro e
    have := congrArg List.length e
    simp at this
theorem fig_plain {b : Str} (h : (Txt.slice b none (some 1) == Str.ofString "-") = false) : toL b = figL (toL b) := by
  rw [minus_is] at h
  cases hb : toL b with
  | nil => rfl
  | cons c r =>
    rw [hb] at h
    have hc : c ≠ 45 := by simpa using h
    unfold figL
    split
    · rename_i e; cases e; exact absurd rfl hc
    · rfl
theorem num_bad {F : Str} {B : List Nat} {pre post : List Int} {c : Nat} (hF : toL F = figL B) (hk : KStt.codes F = pre ++ (c : Int) :: post)
    (ho : (Builtin.Str.occurrences (Str.ofString "0123456789") ⟨#[c]⟩ 0 (Str.ofString "0123456789").length 1).isEmpty = true) : numberL B = none := by
  rw [occ_dig] at ho
  have hd : isDig c = false := by simpa using ho
  unfold numberL
  rw [if_pos]
  refine .inr ?_
  rw [← hF]
  rw [codes_toL] at hk
  have hm : (c : Int) ∈ (toL F).map fun (c : Nat) => (c : Int) := by rw [hk]; simp
  obtain ⟨d, hd', he⟩ := List.mem_map.mp hm
  have : d = c := by omega
  subst this
  cases ha : (toL F).all isDig with
  | false => rfl
  | true => rw [List.all_eq_true] at ha; rw [ha d hd'] at hd; cases hd
theorem num_empty {F : Str} {B : List Nat} (hF : toL F = figL B) (he : (F == Str.ofString "") = true) : numberL B = none := by
  unfold numberL
  rw [if_pos]
  refine .inl ?_
  rw [← hF, eq_of_beq he]
  decide +kernel
theorem num_some {F b : Str} {B : List Nat} {v : Int} (hB : toL b = B) (hF : toL F = figL B) (hd : DigitsAre (KStt.codes F) v) (he : (F == Str.ofString "") = false) :
    numberL B = some (if (b == F) = true then v else - v) := by
  obtain ⟨h1, h2⟩ := digits_codes hd
  unfold numberL
  rw [hF] at h1 h2
  have hne : figL B ≠ [] := by
    intro e
    rw [← hF] at e
    have : F = Str.ofString "" := toL_inj (by rw [e]; decide +kernel)
    rw [this] at he
    simp at he
  rw [if_neg (by rw [h1]; simp [hne]), str_eq_iff, hB, hF, ← h2]
  congr 1
  by_cases e : B = figL B
  · rw [if_pos e, if_pos (by rw [← e]; simp)]
  · rw [if_neg e, if_neg (by simpa using e)]
end Mine
end

section -- G1
open PySem PySem.W PyProof.Rows
set_option maxRecDepth 100000
namespace Mine
def bareS (x : Str) : Str := Txt.slice x none (some (List.foldl (fun (σ : Int × Unit) k => if (!!(Builtin.Str.occurrences (Str.ofString " \t") (Txt.item x k) 0 (Str.ofString " \t").length 1).isEmpty) = true then (k + 1, ()) else (σ.fst, ())) (0, ()) (rangeInts 0 1 ((x.length : Int) - 0).toNat)).fst)
local macro_rules | `(tactic| walk_at "subscriptTail Name Slice str ref") => `(tactic| (k_here; (with_reducible show wpAny _ _ (subscriptTail _ (Expr.Slice none (some _) none _) (Value.str _ _) (Value.ref _)) _ _ _); (rename Fr _ _ _ _ => F'); (with_unfolding_all refine slice_strN_ns_len (s := ⟨_, _, _, _, _⟩) F' (by assumption) ?_ (hsz := ?hsz)); (case hsz => (rw [sizeLine_eq]; omega)); intro _ _ _ _ _ _))
set_option maxHeartbeats 4000000 in
theorem bare_ctr {w : World} (x : Str) (tx : Tok) (hx : x.length ≤ 4096) (news : List (Addr × Oj)) :
    Ctr w 2 16 108 [.str x tx] news (fun v own => own = [] ∧ ∃ t, v = .str (bareS x) t) := by
  unfold Ctr; k_with_none; w_top off; k_fill
  intro mean mg mb dp un gd cn cs a ccd cl outer A₀ base h₀ L m s Q E B F X N T hk hdp hun hret
  refine wpAny_call ?_
  k_dflt cell_enter
  k_steps
  exact hret _ [] _ _ (by assumption) (by assumption) ⟨rfl, _, rfl⟩
end Mine
end

section -- G2
open PySem PySem.W PyProof.Rows
set_option maxRecDepth 100000
namespace Mine
local macro_rules | `(tactic| walk_at "none 0") => `(tactic| skip)
local macro_rules | `(tactic| walk_at "call ref") => `(tactic| (k_here; (with_reducible show wpAny _ _ (call (Value.ref 108) [Value.str _ _]) _ _ _); k_dflt (refine' (bare_ctr _ _ ?hx _) _ _ _ _ _ _ _ _ _ _ _ _ _ _ _ _ _ _ _ _ ?B ?F ?X ?N ?T ?hk ?hd ?hu ?_; (case B => k_asm); (case F => k_asm); (case X => k_asm); (case N => k_asm); (case T => k_asm); (case hk => exact rfl); (case hd => ktr_room); (case hu => ktr_units); (case hx => omega); k_whole); intro v9 own9 h9 tk9 F9 N9 P9; obtain ⟨e9, t9, e9'⟩ := P9; subst e9; subst e9'; (try simp only [List.nil_append] at N9); (try dsimp only); (try k_fold)))
theorem bool_no {b : Bool} (h : b = false) (k : b = true) : False := by rw [h] at k; cases k
theorem int_is {v n : Int} {t : Tok} (h : n = v) : ∃ t', Value.int v t = Value.int n t' := ⟨t, by rw [h]⟩
def NumV : Option Int → Value → Prop
  | none, v => v = .none
  | some n, v => ∃ t, v = .int n t
theorem numV_cases {o : Option Int} {v : Value} (h : NumV o v) : (o = none ∧ v = .none) ∨ (∃ n t, o = some n ∧ v = .int n t) := by
  cases o with
  | none => exact .inl ⟨rfl, h⟩
  | some n => obtain ⟨t, h⟩ := h; exact .inr ⟨n, t, rfl, h⟩
theorem bareS_len (x : Str) : (bareS x).length ≤ x.length := PyProof.Txt.length_slice_le x _ _
set_option maxHeartbeats 4000000 in
theorem number_ctr {w : World} (x : Str) (tx : Tok) (hx : x.length ≤ 600) (news : List (Addr × Oj)) :
    Ctr w 5 32 122 [.str x tx] news (fun v own => own = [] ∧ NumV (numberL (ltrimL (toL (bareS x)))) v) := by
  have hb := bareS_len x
  unfold Ctr; k_with_none; w_top off; k_fill
  intro mean mg mb dp un gd cn cs a ccd cl outer A₀ base h₀ L m s Q E B F X N T hk hdp hun hret
  refine wpAny_call ?_
  k_dflt cell_enter
  (k_with "exec While Compare cons nil" => k_while (fun _ body => body.length ≤ x.length ∧ ltrimS body = ltrimS (bareS x)) (fun _ body => body.length) "body")
  (k_with "pyIter str" => k_state (fun pre value => DigitsAre pre value) "value")
  (k_with "state" => first | exact digits_nil | exact (ltrim_turn (by assumption) (by assumption) (by assumption)).1 | exact dig_turn (by assumption) (by assumption))
  (k_with "measure" => exact (ltrim_turn (n := x.length) (by assumption) rfl (by assumption)).2)
  k_steps
  all_goals (try (exact (bool_no (by assumption) (by assumption)).elim))
  all_goals (have hB := ltrim_done (B := toL (bareS x)) (by assumption) (by assumption))
  all_goals (refine hret _ [] _ _ (by assumption) (News.perm (by assumption) (by intro p hp; kst_mem)) ⟨rfl, ?_⟩)
  all_goals first | (have hF9 := (fig_minus (by assumption)).1.trans (congrArg figL hB)) | (have hF9 := (fig_plain (by assumption)).trans (congrArg figL hB))
  all_goals first | (rw [num_bad hF9 (by assumption) (by assumption)]; exact rfl) | (rw [num_empty hF9 (by assumption)]; exact rfl) | (rw [num_some hB hF9 (by assumption) (by assumption)]; refine int_is ?_; first | rw [if_pos (by assumption)] | rw [if_neg (by intro e; exact bool_no (by assumption) e)])
end Mine
end

section -- F5
open PySem PySem.W PyProof.Rows
set_option maxRecDepth 100000
namespace Mine
local macro_rules | `(tactic| walk_at "none 0") => `(tactic| skip)
theorem from_nat {n : Nat} {i : Int} (h0 : 0 ≤ i) (h1 : i ≤ n) : PySem.fromIndex n i = i.toNat := by
  unfold PySem.fromIndex
  split <;> omega
theorem find_one (x : Str) (c : Nat) : Txt.find x ⟨#[c]⟩ = -1 ∨ (0 ≤ Txt.find x ⟨#[c]⟩ ∧ Txt.find x ⟨#[c]⟩ < x.length) := by
  have e : Txt.find x ⟨#[c]⟩ = Txt.find3 x ⟨#[c]⟩ 0 := by
    unfold Txt.find Txt.find3
    rw [from_nat (Int.le_refl 0) (by omega)]
    rfl
  rw [e]
  rcases StrLaws.find3_spec x c 0 with ⟨h, _⟩ | ⟨k, h, _, h2, _⟩
  · exact .inl h
  · exact .inr (by omega)
theorem find3_one (x : Str) (c : Nat) (i : Int) (h0 : 0 ≤ i) (h1 : i ≤ x.length) : Txt.find3 x ⟨#[c]⟩ i = -1 ∨ (i ≤ Txt.find3 x ⟨#[c]⟩ i ∧ Txt.find3 x ⟨#[c]⟩ i < x.length) := by
  rcases StrLaws.find3_spec x c i with ⟨h, _⟩ | ⟨k, h, h3, h2, _⟩
  · exact .inl h
  · have := from_nat h0 h1
    exact .inr (by omega)
inductive Res where
  | reply
  | proto
  | badInt
  | port (n : Int)
def leftOf (x : Str) : Int := Txt.find x (Str.ofString "(")
def rightOf (x : Str) : Int := Txt.find3 x (Str.ofString ")") (leftOf x + 1)
def partsOf (x : Str) : List Str := Txt.split (Txt.slice x (some (leftOf x + 1)) (some (rightOf x))) (Txt.item x (leftOf x + 1))
def askedS (x : Str) : Res :=
  if (Txt.slice x none (some 3) != Str.ofString "229") = true then .reply
  else if leftOf x < 0 then .proto
  else if rightOf x < 0 then .proto
  else if (Txt.item x (leftOf x + 1) != Txt.item x (rightOf x - 1)) = true then .proto
  else if (partsOf x).length ≠ 5 then .proto
  else match (partsOf x)[3]? with
    | some y => (match PySem.intText? y with | some n => .port n | none => .badInt)
    | none => .badInt
def ResObj : Res → Oj → Prop
  | .reply, o => ∃ t c, o = PySem.W.listOf #[.str (Str.ofString "no 229") t, .bool true] c
  | .proto, o => ∃ t c, o = PySem.W.listOf #[.str (Str.ofString "no port") t, .bool true] c
  | .badInt, o => ∃ t c, o = PySem.W.listOf #[.str (Str.ofString "no number") t, .bool true] c
  | .port n, o => ∃ t u c, o = { cls := .type "tuple", data := .seq #[.str (Str.ofString "host") t, .int n u] c }
theorem res_end {Q : Value → Shared → Prop} {h₀ : Heap} {L : Addr} {m : Str → Option Value} {news : List (Addr × Oj)} {s : Shared} {x : Str}
    (hret : ∀ (v : Value) (own : List (Addr × Obj)) (h' : Heap) (tk' : Nat), Fr h₀ L h' m → News h₀ L h' (own ++ news) → (∃ a o, v = .ref a ∧ own = [(a, o)] ∧ ResObj (askedS x) o) → Q v { s with heap := h', toks := tk' })
    {a : Addr} {o : Oj} {h' : Heap} {tk' : Nat} {nn : List (Addr × Oj)} (F : Fr h₀ L h' m) (N : News h₀ L h' ((a, o) :: nn)) (hs : ∀ p ∈ news, p ∈ nn) (hr : ResObj (askedS x) o) : Q (.ref a) { s with heap := h', toks := tk' } :=
  hret _ [(a, o)] _ _ F (fun p hp => N p (by rcases List.mem_cons.mp hp with rfl | hp; exact .head _; exact .tail _ (hs p hp))) ⟨a, o, rfl, rfl, hr⟩
section
variable {x y : Str} {t u : Tok} {c : Nat} {l : List (Str × Tok)}
theorem res_reply (a1 : (Txt.slice x none (some 3) != Str.ofString "229") = true) : ResObj (askedS x) (PySem.W.listOf #[.str (Str.ofString "no 229") t, .bool (x == x)] c) := by
  rw [askedS, if_pos a1]
  exact ⟨t, c, by rw [beq_self_eq_true]⟩
theorem res_proto1 (a1 : (Txt.slice x none (some 3) != Str.ofString "229") = false) (a2 : Txt.find x (Str.ofString "(") < 0) : ResObj (askedS x) (PySem.W.listOf #[.str (Str.ofString "no port") t, .bool (x == x)] c) := by
  rw [askedS, if_neg (by rw [a1]; decide), if_pos (show leftOf x < 0 from a2)]
  exact ⟨t, c, by rw [beq_self_eq_true]⟩
theorem res_proto2 (a1 : (Txt.slice x none (some 3) != Str.ofString "229") = false) (a2 : ¬ Txt.find x (Str.ofString "(") < 0) (a3 : Txt.find3 x (Str.ofString ")") (Txt.find x (Str.ofString "(") + 1) < 0) :
    ResObj (askedS x) (PySem.W.listOf #[.str (Str.ofString "no port") t, .bool (x == x)] c) := by
  rw [askedS, if_neg (by rw [a1]; decide), if_neg (show ¬ leftOf x < 0 from a2), if_pos (show rightOf x < 0 from a3)]
  exact ⟨t, c, by rw [beq_self_eq_true]⟩
theorem res_proto3 (a1 : (Txt.slice x none (some 3) != Str.ofString "229") = false) (a2 : ¬ Txt.find x (Str.ofString "(") < 0) (a3 : ¬ Txt.find3 x (Str.ofString ")") (Txt.find x (Str.ofString "(") + 1) < 0)
    (a4 : (Txt.item x (Txt.find x (Str.ofString "(") + 1) != Txt.item x (Txt.find3 x (Str.ofString ")") (Txt.find x (Str.ofString "(") + 1) - 1)) = true) :
    ResObj (askedS x) (PySem.W.listOf #[.str (Str.ofString "no port") t, .bool (x == x)] c) := by
  rw [askedS, if_neg (by rw [a1]; decide), if_neg (show ¬ leftOf x < 0 from a2), if_neg (show ¬ rightOf x < 0 from a3), if_pos (show (Txt.item x (leftOf x + 1) != Txt.item x (rightOf x - 1)) = true from a4)]
  exact ⟨t, c, by rw [beq_self_eq_true]⟩
theorem asked_parts (a1 : (Txt.slice x none (some 3) != Str.ofString "229") = false) (a2 : ¬ Txt.find x (Str.ofString "(") < 0) (a3 : ¬ Txt.find3 x (Str.ofString ")") (Txt.find x (Str.ofString "(") + 1) < 0)
    (a4 : (Txt.item x (Txt.find x (Str.ofString "(") + 1) != Txt.item x (Txt.find3 x (Str.ofString ")") (Txt.find x (Str.ofString "(") + 1) - 1)) = false)
    (hl : List.map (fun x => x.fst) l = Txt.split (Txt.slice x (some (Txt.find x (Str.ofString "(") + 1)) (some (Txt.find3 x (Str.ofString ")") (Txt.find x (Str.ofString "(") + 1)))) (Txt.item x (Txt.find x (Str.ofString "(") + 1))) :
    askedS x = if l.length ≠ 5 then .proto else match (List.map (fun x => x.fst) l)[3]? with
      | some y => (match PySem.intText? y with | some n => .port n | none => .badInt)
      | none => .badInt := by
  have e : partsOf x = List.map (fun x => x.fst) l := hl.symm
  rw [askedS, if_neg (by rw [a1]; decide), if_neg (show ¬ leftOf x < 0 from a2), if_neg (show ¬ rightOf x < 0 from a3), if_neg (show ¬ (Txt.item x (leftOf x + 1) != Txt.item x (rightOf x - 1)) = true from by rw [show (Txt.item x (leftOf x + 1) != Txt.item x (rightOf x - 1)) = false from a4]; decide), e, List.length_map]
theorem res_proto4 (a1 : (Txt.slice x none (some 3) != Str.ofString "229") = false) (a2 : ¬ Txt.find x (Str.ofString "(") < 0) (a3 : ¬ Txt.find3 x (Str.ofString ")") (Txt.find x (Str.ofString "(") + 1) < 0)
    (a4 : (Txt.item x (Txt.find x (Str.ofString "(") + 1) != Txt.item x (Txt.find3 x (Str.ofString ")") (Txt.find x (Str.ofString "(") + 1) - 1)) = false)
    (hl : List.map (fun x => x.fst) l = Txt.split (Txt.slice x (some (Txt.find x (Str.ofString "(") + 1)) (some (Txt.find3 x (Str.ofString ")") (Txt.find x (Str.ofString "(") + 1)))) (Txt.item x (Txt.find x (Str.ofString "(") + 1)))
    (a5 : (l.length : Int) ≠ 5) : ResObj (askedS x) (PySem.W.listOf #[.str (Str.ofString "no port") t, .bool (x == x)] c) := by
  rw [asked_parts a1 a2 a3 a4 hl, if_pos (by omega)]
  exact ⟨t, c, by rw [beq_self_eq_true]⟩
theorem asked_int (a1 : (Txt.slice x none (some 3) != Str.ofString "229") = false) (a2 : ¬ Txt.find x (Str.ofString "(") < 0) (a3 : ¬ Txt.find3 x (Str.ofString ")") (Txt.find x (Str.ofString "(") + 1) < 0)
    (a4 : (Txt.item x (Txt.find x (Str.ofString "(") + 1) != Txt.item x (Txt.find3 x (Str.ofString ")") (Txt.find x (Str.ofString "(") + 1) - 1)) = false)
    (hl : List.map (fun x => x.fst) l = Txt.split (Txt.slice x (some (Txt.find x (Str.ofString "(") + 1)) (some (Txt.find3 x (Str.ofString ")") (Txt.find x (Str.ofString "(") + 1)))) (Txt.item x (Txt.find x (Str.ofString "(") + 1)))
    (a5 : (l.length : Int) = 5) (hy : (List.map (fun x => x.fst) l)[Int.toNat 3]? = some y) : askedS x = match PySem.intText? y with | some n => .port n | none => .badInt := by
  rw [asked_parts a1 a2 a3 a4 hl, if_neg (by omega), show (List.map (fun x => x.fst) l)[3]? = some y from hy]
theorem part_len {z y : Str} (a : ∀ (a : Str), a ∈ List.map (fun x => x.fst) l → a.length ≤ z.length) (h : z.length ≤ x.length) (hy : (List.map (fun x => x.fst) l)[Int.toNat 3]? = some y) : y.length ≤ x.length :=
  Nat.le_trans (a y (List.mem_of_getElem? hy)) h
theorem asked_int2 {z : Str} (a1 : (Txt.slice x none (some 3) != Str.ofString "229") = false) (a2 : ¬ Txt.find x (Str.ofString "(") < 0) (a3 : ¬ Txt.find3 x (Str.ofString ")") (Txt.find x (Str.ofString "(") + 1) < 0)
    (a4 : (Txt.item x (Txt.find x (Str.ofString "(") + 1) != Txt.item x (Txt.find3 x (Str.ofString ")") (Txt.find x (Str.ofString "(") + 1) - 1)) = false)
    (hl : List.map (fun x => x.fst) l = Txt.split (Txt.slice x (some (Txt.find x (Str.ofString "(") + 1)) (some (Txt.find3 x (Str.ofString ")") (Txt.find x (Str.ofString "(") + 1)))) (Txt.item x (Txt.find x (Str.ofString "(") + 1)))
    (a5 : (l.length : Int) = 5) (hy : (List.map (fun x => x.fst) l)[Int.toNat 3]? = some y) (a : ∀ (a : Str), a ∈ List.map (fun x => x.fst) l → a.length ≤ z.length) (h : z.length ≤ x.length) :
    (askedS x = match PySem.intText? y with | some n => .port n | none => .badInt) ∧ y.length ≤ x.length := ⟨asked_int a1 a2 a3 a4 hl a5 hy, part_len a h hy⟩
theorem res_port {n : Int} (a : askedS x = .port n) : ResObj (askedS x) { cls := .type "tuple", data := .seq #[.str (Str.ofString "host") t, .int n u] c } := by
  rw [a]
  exact ⟨t, u, c, rfl⟩
end
local macro_rules | `(tactic| k_room) => `(tactic| ktr_room)
local macro_rules | `(tactic| walk_at "call type:str") => `(tactic| (k_here; (with_reducible show wpAny _ _ (call (Value.type "str") [Value.ref _]) _ _ _); k_dflt (refine' own_str_got ?u ?F ?X ?N ?G ?s ?m bind_bexcStr ?_; (case G => assumption); (case F => assumption); (case N => assumption); (case X => assumption); (case u => ktr_units); (case s => k_is); (case m => k_is); k_whole)))
local macro_rules | `(tactic| walk_at "subscriptTail") => `(tactic| (k_here; (with_reducible show wpAny _ _ (subscriptTail _ _ (Value.str _ _) (Value.int _ _)) _ _ _); (refine item_str (fitsSsize_of (N := 9223372036854775808) (by omega) (by omega) (Int.le_refl _)) (by omega) (by omega) ?_); intro _))
set_option maxHeartbeats 4000000 in
theorem asked_ctr {w : World} (x : Str) (tx : Tok) (hx : x.length ≤ 600) (hgood : askedS x ≠ .badInt) (pa : Addr) (t1 t2 : Tok) (n : Int) (news : List (Addr × Oj)) :
    CtrLow w 134 [.str x tx, .ref pa] ((pa, { cls := .type "tuple", data := .seq #[.str (Str.ofString "host") t1, .int n t2] }) :: news) (fun v own => ∃ a o, v = .ref a ∧ own = [(a, o)] ∧ ResObj (askedS x) o) := by
  have h1 : Txt.find x (Str.ofString "(") = -1 ∨ (0 ≤ Txt.find x (Str.ofString "(") ∧ Txt.find x (Str.ofString "(") < x.length) := find_one x 40
  have h2 : Txt.find x (Str.ofString "(") < 0 ∨ Txt.find3 x (Str.ofString ")") (Txt.find x (Str.ofString "(") + 1) = -1 ∨ (Txt.find x (Str.ofString "(") + 1 ≤ Txt.find3 x (Str.ofString ")") (Txt.find x (Str.ofString "(") + 1) ∧ Txt.find3 x (Str.ofString ")") (Txt.find x (Str.ofString "(") + 1) < x.length) := by
    rcases h1 with h1 | h1
    · exact .inl (by omega)
    · exact .inr (find3_one x 41 _ (by omega) (by omega))
  unfold CtrLow; k_with_none; w_top off; k_fill
  intro mean mg mb dp un gd cn cs a ccd A₀ base h₀ L m s Q E XB TB B F X N T hk hdp hun hret
  refine wpAny_call ?_
  k_dflt (refine' code_defS0 ?k1 ?k2 ?k3 ?k4 ?k5 ?kA ?k6 ?k7 ?k8 ?k9 ?kB ?_ ?cK ?c2 ?c3 ?c4 ?c5; (case kA => exact rfl); (case k2 => k_asm); (case k1 => k_asm); (case k3 => k_asm); (case k4 => k_asm); (case k5 => k_asm); (case k6 => k_is); (case k7 => k_is); (case k8 => k_room); (case k9 => first | exact binds_K (by k_in) rfl (by k_is) rfl rfl rfl | exact BindsTo.of_eq rfl | fail "kts_go: no rule for these arguments"); (case kB => exact locs rfl); (case cK => assumption); (case c2 => exact rfl); (case c3 => exact rfl); (case c4 => exact rfl); (case c5 => decide); k_whole; intro g' L' h' FG' F' N' B' X' T' D'; (try dsimp only); (try k_lift B'); (try k_fold))
  k_steps
  all_goals try (refine res_end hret (by assumption) (by assumption) (by intro p hp; simp only [List.mem_cons] at hp ⊢; rcases hp with h | h <;> simp [h]) ?_)
  all_goals try first
    | exact res_reply (by assumption)
    | exact res_proto1 (by assumption) (by assumption)
    | exact res_proto2 (by assumption) (by assumption) (by assumption)
    | exact res_proto3 (by assumption) (by assumption) (by assumption) (by assumption)
    | exact res_proto4 (by assumption) (by assumption) (by assumption) (by assumption) (by assumption) (by assumption)
  obtain ⟨ha, hsy⟩ := asked_int2 (x := x) (by assumption) (by assumption) (by assumption) (by assumption) (by assumption) (by assumption) (by assumption) (by assumption) (by assumption)
  split at ha
  rotate_left
  · exact absurd ha hgood
  rename_i nn hn
  refine KIN.call_text hn (by omega) ?_
  k_steps
  exact res_end hret (by assumption) (by assumption) (by intro p hp; simp only [List.mem_cons] at hp ⊢; rcases hp with h | h <;> simp [h]) (res_port ha)
end Mine
end

section -- St
namespace Mine
def Stop (p : Prop) : Prop := p
theorem unstop {p : Prop} (h : Stop p) : p := h
theorem stop {p : Prop} (h : p) : Stop p := h
end Mine
end

section -- G3
open PySem PySem.W PyProof.Rows
set_option maxRecDepth 100000
namespace Mine
theorem ne_of_lt_all {l : List (Addr × Obj)} {L' k : Nat} (h : ∀ p ∈ l, p.1 < L') (hk : L' ≤ k) : ∀ p ∈ l, p.1 ≠ k := fun p hp e => by have h1 : (show Nat from p.1) < L' := h p hp; have e1 : (show Nat from p.1) = k := e; omega
local macro_rules | `(tactic| k_all) => `(tactic| exact ne_of_lt_all (by assumption) (by (try dsimp only); omega))
def PlacesAre (x M : Str) (i : Nat) (ys : List Value) : Prop := ∃ ts : List (Nat × Tok), ts.map (·.1) = (List.range i).filter (fun (k : Nat) => Txt.item x (k : Int) == M) ∧ ys = ts.map fun p => Value.int (p.1 : Int) p.2
theorem places_nil (x M : Str) : PlacesAre x M 0 [] := ⟨[], rfl, rfl⟩
theorem places_yes {x M : Str} {i : Nat} {ys : List Value} {t : Tok} (h : PlacesAre x M i ys) (hi : (Txt.item x (0 + (i : Int)) == M) = true) : PlacesAre x M (i + 1) (ys ++ [.int (0 + (i : Int)) t]) := by
  rw [Int.zero_add] at hi ⊢
  obtain ⟨ts, h1, h2⟩ := h
  refine ⟨ts ++ [(i, t)], ?_, ?_⟩
  · rw [List.map_append, h1, List.range_succ, List.filter_append]
    congr 1
    rw [List.filter_cons, if_pos hi]; rfl
  · rw [h2, List.map_append]; rfl
theorem places_no {x M : Str} {i : Nat} {ys : List Value} (h : PlacesAre x M i ys) (hi : (Txt.item x (0 + (i : Int)) == M) = false) : PlacesAre x M (i + 1) ys := by
  rw [Int.zero_add] at hi
  obtain ⟨ts, h1, h2⟩ := h
  refine ⟨ts, ?_, h2⟩
  rw [h1, List.range_succ, List.filter_append, List.filter_cons, if_neg (by rw [hi]; decide)]
  simp
theorem places_len {x M : Str} {i : Nat} {ts : List (Nat × Tok)} (h : ts.map (·.1) = (List.range i).filter (fun (k : Nat) => Txt.item x (k : Int) == M)) : ts.length ≤ i := by
  have h2 := congrArg List.length h
  rw [List.length_map] at h2
  have h3 := List.length_filter_le (fun (k : Nat) => Txt.item x (k : Int) == M) (List.range i)
  rw [List.length_range] at h3
  omega
def StopMark : Prop := True
local macro_rules | `(tactic| walk_at "call builtin:len") => `(tactic| (k_here; (with_reducible show wpAny _ _ (call (Value.builtin "len") [Value.ref _]) _ _ _); k_dflt (refine' kst_len ?k1 ?k2 (List.length_map _) ?k4 ?_; (case k1 => k_asm); (case k2 => k_mem); (case k4 => omega); k_whole)))
local macro_rules | `(tactic| walk_at "eval Subscript") => `(tactic| ((rename StopMark => hMk8); (with_reducible show wpAny _ _ (eval (Expr.Subscript (Expr.Name (Str.ofString "places") _) _ _) _) _ _ _); (refine unstop ?_)))
inductive NumIs (y : Str) : Option Int → Prop
  | intro : NumIs y (numberL (ltrimL (toL (bareS y))))
theorem ctr_mono {w : World} {d u : Nat} {f : Addr} {vs : List Value} {news : List (Addr × Oj)} {P P' : Value → List (Addr × Oj) → Prop} (h : Ctr w d u f vs news P) (hP : ∀ v own, P v own → P' v own) : Ctr w d u f vs news P' :=
  fun mean mg mb dp un gd cn cs a ccd cl outer A₀ base h₀ L m s Q E B F X N T hk hdp hun hret => h mean mg mb dp un gd cn cs a ccd cl outer A₀ base h₀ L m s Q E B F X N T hk hdp hun fun v own h' tk' F' N' p => hret v own h' tk' F' N' (hP v own p)
theorem number_ctr' {w : World} (x : Str) (tx : Tok) (hx : x.length ≤ 600) (news : List (Addr × Oj)) : Ctr w 5 32 122 [.str x tx] news (fun v own => own = [] ∧ ((NumIs x none ∧ v = .none) ∨ (∃ n t, NumIs x (some n) ∧ v = .int n t))) :=
  ctr_mono (number_ctr x tx hx news) fun v own ⟨e, p⟩ => ⟨e, by
    rcases numV_cases p with ⟨q, e⟩ | ⟨n, t, q, e⟩
    · exact .inl ⟨q ▸ .intro, e⟩
    · exact .inr ⟨n, t, q ▸ .intro, e⟩⟩
def placesOf (x M : Str) : List Nat := (List.range x.length).filter (fun (k : Nat) => Txt.item x (k : Int) == M)
def toldMark (n : Int) (x : Str) : Str := if n ≠ 0 then Str.ofString "#" else Txt.slice x none (some 1)
def beginOf : List Nat → Int
  | [] => 0
  | b :: _ => (b : Int) + 1
def numRes (y : Str) : Res := match numberL (ltrimL (toL (bareS y))) with | none => .badInt | some k => .port k
def toldR (n : Int) (x : Str) : List Nat → Res
  | [] => .proto
  | l :: r => if n + (r.length + 1 : Nat) ≠ 4 ∨ (l : Int) ≠ x.length - 1 then .proto else numRes (Txt.slice x (some (beginOf r)) (some (l : Int)))
def toldS (n : Int) (x : Str) : Res := toldR n x (placesOf x (toldMark n x)).reverse
local macro_rules | `(tactic| walk_at "call ref") => `(tactic| (k_here; (with_reducible show wpAny _ _ (call (Value.ref 122) [Value.str _ _]) _ _ _); k_dflt (refine' (number_ctr' _ _ ?hx _) _ _ _ _ _ _ _ _ _ _ _ _ _ _ _ _ _ _ _ _ ?B ?F ?X ?N ?T ?hk ?hd ?hu ?_; (case B => k_asm); (case F => k_asm); (case X => k_asm); (case N => k_asm); (case T => k_asm); (case hk => exact rfl); (case hd => ktr_room); (case hu => ktr_units); (case hx => exact Nat.le_trans (PyProof.Txt.length_slice_le _ _ _) (by omega)); k_whole); intro v9 own9 h9 tk9 F9 N9 P9; obtain ⟨e9, e9'⟩ := P9; subst e9; rcases e9' with ⟨q9, e10⟩ | ⟨n9, t9, q9, e10⟩ <;> subst e10; all_goals (try simp only [List.nil_append] at N9); all_goals (try dsimp only); all_goals (try k_fold)))
theorem told_end {Q : Value → Shared → Prop} {h₀ : Heap} {L : Addr} {m : Str → Option Value} {news : List (Addr × Oj)} {s : Shared} {r : Res}
    (hret : ∀ (v : Value) (own : List (Addr × Obj)) (h' : Heap) (tk' : Nat), Fr h₀ L h' m → News h₀ L h' (own ++ news) → (∃ a o, v = .ref a ∧ own = [(a, o)] ∧ ResObj r o) → Q v { s with heap := h', toks := tk' })
    {a : Addr} {o : Oj} {h' : Heap} {tk' : Nat} {nn : List (Addr × Oj)} (F : Fr h₀ L h' m) (N : News h₀ L h' ((a, o) :: nn)) (hs : ∀ p ∈ news, p ∈ nn) (hr : ResObj r o) : Q (.ref a) { s with heap := h', toks := tk' } :=
  hret _ [(a, o)] _ _ F (fun p hp => N p (by rcases List.mem_cons.mp hp with rfl | hp; exact .head _; exact .tail _ (hs p hp))) ⟨a, o, rfl, rfl, hr⟩
theorem told_rev {n : Int} {x M : Str} {ps : List Nat} (hM : toldMark n x = M) (hts : ps = (List.range x.length).filter (fun (k : Nat) => Txt.item x (k : Int) == M)) : toldS n x = toldR n x ps.reverse := by
  unfold toldS placesOf; rw [hM, ← hts]
theorem toldR_cons {n : Int} {x : Str} {l : Nat} {r : List Nat} : toldR n x (l :: r) = if n + (r.length + 1 : Nat) ≠ 4 ∨ (l : Int) ≠ x.length - 1 then .proto else numRes (Txt.slice x (some (beginOf r)) (some (l : Int))) := rfl
def resOf : Option Int → Res
  | none => .badInt
  | some k => .port k
theorem told_len {n : Int} {x : Str} {ps : List Nat} (e : toldS n x = toldR n x ps.reverse) (h : n + (ps.length : Int) ≠ 4) : toldS n x = .proto := by
  rw [← List.length_reverse] at h
  rw [e]
  generalize ps.reverse = q at h
  cases q with
  | nil => rfl
  | cons l r => exact if_pos (Or.inl h)
theorem told_last {n : Int} {x : Str} {l : Nat} {r : List Nat} (e : toldS n x = toldR n x (l :: r)) (h : ¬ [(l : Int)] = [(x.length : Int) - 1]) : toldS n x = .proto := by
  rw [e, toldR_cons, if_pos (Or.inr (fun k => h (by rw [k])))]
theorem told_num {n : Int} {x : Str} {l : Nat} {r : List Nat} {o : Option Int} (e : toldS n x = toldR n x (l :: r)) (h4 : n + (r.length + 1 : Nat) = 4) (h : [(l : Int)] = [(x.length : Int) - 1]) (q : NumIs (Txt.slice x (some (beginOf r)) (some (l : Int))) o) : toldS n x = resOf o := by
  have h1 : (l : Int) = x.length - 1 := (List.cons.inj h).1
  rw [e, toldR_cons, if_neg (by rintro (k | k); exact k h4; exact k h1)]
  unfold numRes
  cases q
  cases numberL (ltrimL (toL (bareS (Txt.slice x (some (beginOf r)) (some (l : Int)))))) <;> rfl
theorem told_bad {n : Int} {x : Str} {l : Nat} {r : List Nat} (e : toldS n x = toldR n x (l :: r)) (h4 : n + (r.length + 1 : Nat) = 4) (h : [(l : Int)] = [(x.length : Int) - 1]) (q : NumIs (Txt.slice x (some (beginOf r)) (some (l : Int))) none) : toldS n x = .badInt := told_num e h4 h q
theorem told_some {n k : Int} {x : Str} {l : Nat} {r : List Nat} (e : toldS n x = toldR n x (l :: r)) (h4 : n + (r.length + 1 : Nat) = 4) (h : [(l : Int)] = [(x.length : Int) - 1]) (q : NumIs (Txt.slice x (some (beginOf r)) (some (l : Int))) (some k)) : toldS n x = .port k := told_num e h4 h q
theorem obj_port {r : Res} {k : Int} {t u : Tok} {c : Nat} (e : r = .port k) : ResObj r { cls := .type "tuple", data := .seq #[.str (Str.ofString "host") t, .int k u] c } := by rw [e]; exact ⟨t, u, c, rfl⟩
theorem obj_noport {r : Res} {t : Tok} {c : Nat} (e : r = .proto) : ResObj r (PySem.W.listOf #[.str (Str.ofString "no port") t, .bool true] c) := by rw [e]; exact ⟨t, c, rfl⟩
theorem obj_nonum {r : Res} {t : Tok} {c : Nat} (e : r = .badInt) : ResObj r (PySem.W.listOf #[.str (Str.ofString "no number") t, .bool true] c) := by rw [e]; exact ⟨t, c, rfl⟩
theorem comp_ind {prog : Program} {w : World} {A : Around} {s : Shared} {h₀ : Heap} {L : Addr} {m : Str → Option Value} {env : Env} {ct elt : Expr} {x : Str} {scope : Scope} {cl : List (Str × Addr)} {S : List (Addr × Obj) → Prop} {P : Nat → Value → Prop} {Fin : List Value → List (Addr × Obj) → Prop} {news : List (Addr × Obj)} {n : Nat}
    (Inv : Nat → List Value → Prop)
    (step : ∀ k i ys, i + (k + 1) = n → Inv i ys → (∀ ys', Inv (i + 1) ys' → LCt.CompRestT prog w A h₀ L m env ct elt x scope cl s S P Fin k (i + 1) ys' news) → LCt.CompRestT prog w A h₀ L m env ct elt x scope cl s S P Fin (k + 1) i ys news)
    (fin : ∀ ys, Inv n ys → Fin ys news) : ∀ k i ys, i + k = n → Inv i ys → LCt.CompRestT prog w A h₀ L m env ct elt x scope cl s S P Fin k i ys news
  | 0, i, ys, e, h => LCt.CompRestT.zero (fin ys (by have e1 : i = n := e; rw [← e1]; exact h))
  | k + 1, i, ys, e, h => step k i ys e h fun ys' h' => comp_ind Inv step fin k (i + 1) ys' (by omega) h'
local macro_rules | `(tactic| walk_at "exec Assign cons ListComp") => `(tactic| (refine unstop ?_))
local macro_rules | `(tactic| k_room) => `(tactic| ktr_room)
local macro_rules | `(tactic| units_room) => `(tactic| ktr_units)
set_option maxHeartbeats 40000000 in
theorem told_ctr {w : World} (n : Int) (hn0 : 0 ≤ n) (hn : n ≤ 4) (tn : Tok) (x : Str) (tx th : Tok) (hx : x.length ≤ 600) (news : List (Addr × Oj)) :
    Ctr w 7 96 127 [.int n tn, .str x tx, .str (Str.ofString "host") th] news (fun v own => ∃ a o, v = .ref a ∧ own = [(a, o)] ∧ ResObj (toldS n x) o) := by
  unfold Ctr; k_with_none; w_top off; k_fill
  intro mean mg mb dp un gd cn cs a ccd cl outer A₀ base h₀ L m s Q E B F X N T hk hdp hun hret
  refine wpAny_call ?_
  k_dflt (refine' code_defC ?k1 ?k2 ?k3 ?k4 ?k5 ?kA ?kF ?kK ?k6 ?k7 ?k8 ?k9 ?kB ?kD ?_ ?c2 ?c3 ?c4; (case kA => exact rfl); (case kF => exact rfl); (case kK => assumption); (case k1 => k_asm); (case k2 => k_asm); (case k3 => k_asm); (case k4 => k_asm); (case k5 => k_asm); (case k6 => k_is); (case k7 => k_is); (case k8 => k_room); (case k9 => first | exact BindsTo.of_eq rfl | exact binds_K (by k_in) rfl (by k_is) rfl rfl rfl | fail "k_enter: no rule for these arguments"); (case kB => exact rfl); (case kD => decide +kernel); (case c2 => exact rfl); (case c3 => exact rfl); (case c4 => exact rfl); k_whole; intro g' L' h' tk' cells' FG' F' N' Y' B' X' T' l1; (try k_lt l1); k_cells Y'; (try simp only [List.cons_append, List.nil_append] at N'); (try dsimp only); (try k_lift B'); (try k_fold))
  k_steps
  all_goals (refine (show ∀ {p : Prop}, p → Stop p from fun h => h) ?_)
  all_goals (k_dflt (refine LCt.Assign_ListComp_T (F₀ := by k_asm) (by rfl) (by with_unfolding_all rfl) (by with_unfolding_all rfl) (by decide) (by rfl) (by decide) (by rfl) (by rfl) (by rfl) ?_))
  all_goals k_steps
  all_goals (refine LCt.CompSrcT.range (n := x.length) (by rfl) (by assumption) (by assumption) (by assumption) (small_one (by omega) (by omega) (by omega) (by omega)) (by rw [rangeSize_one]; split <;> omega) (Nat.le_trans hx (by rw [sizeLine_eq]; omega)) ?_; intro g9')
  · refine comp_ind (PlacesAre x (Str.ofString "#")) ?_ ?_ _ _ _ (Nat.zero_add _) (places_nil _ _)
    · intro k i ys hik hys next
      refine LCt.CompRestT.succ ?_; intro v' I' oI' C' oC' D' m' h' tk' E' hv' hC' hx' F' N' off' ne'; obtain ⟨t9', hv9'⟩ := hv'; subst hv9'
      k_steps
      · refine LCg.CompEnd.intro (by assumption) (by assumption) _ (fun p hp => hp) (by assumption) trivial ?_
        exact next _ (places_yes hys (by assumption))
      · refine LCg.CompEnd.intro (by assumption) (by assumption) _ (fun p hp => hp) (by assumption) trivial ?_
        exact next _ (places_no hys (by assumption))
    · intro ys hys
      obtain ⟨ts, hts, rfl⟩ := hys
      have htl := places_len hts
      have hMk : StopMark := trivial
      have hM : toldMark n x = Str.ofString "#" := if_pos (by assumption)
      k_steps
      · have e := told_rev hM hts
        refine told_end hret (by assumption) (by assumption) (by intro p hp; kst_mem) (obj_noport (told_len e (by rw [List.length_map]; assumption)))
      refine (show ∀ {p : Prop}, p → Stop p from fun h => h) ?_
      (rename StopMark => hMk7); clear hMk7
      rcases ts with _ | ⟨⟨p1, t1⟩, _ | ⟨⟨p2, t2⟩, _ | ⟨⟨p3, t3⟩, _ | ⟨⟨p4, t4⟩, _ | ⟨p5, ts⟩⟩⟩⟩⟩
      all_goals simp only [List.map_cons, List.map_nil, List.length_cons, List.length_nil] at *
      all_goals try (exfalso; omega)
      all_goals k_steps
      all_goals try (exfalso; (rename decide ((([] : List Int)) = _) = true => hno); simp at hno; done)
      all_goals try (refine told_end hret (by assumption) (by assumption) (by intro p hp; kst_mem) ?_)
      all_goals (have e := told_rev hM hts)
      all_goals try first
        | exact obj_noport e
        | exact obj_noport (told_last e (by assumption))
        | exact obj_nonum (told_bad e (by assumption) (by assumption) (by assumption))
        | exact obj_port (told_some e (by assumption) (by assumption) (by assumption))
  · refine comp_ind (PlacesAre x (Txt.slice x none (some 1))) ?_ ?_ _ _ _ (Nat.zero_add _) (places_nil _ _)
    · intro k i ys hik hys next
      refine LCt.CompRestT.succ ?_; intro v' I' oI' C' oC' D' m' h' tk' E' hv' hC' hx' F' N' off' ne'; obtain ⟨t9', hv9'⟩ := hv'; subst hv9'
      k_steps
      · refine LCg.CompEnd.intro (by assumption) (by assumption) _ (fun p hp => hp) (by assumption) trivial ?_
        exact next _ (places_yes hys (by assumption))
      · refine LCg.CompEnd.intro (by assumption) (by assumption) _ (fun p hp => hp) (by assumption) trivial ?_
        exact next _ (places_no hys (by assumption))
    · intro ys hys
      obtain ⟨ts, hts, rfl⟩ := hys
      have htl := places_len hts
      have hMk : StopMark := trivial
      have hM : toldMark n x = Txt.slice x none (some 1) := if_neg (by omega)
      k_steps
      · have e := told_rev hM hts
        refine told_end hret (by assumption) (by assumption) (by intro p hp; kst_mem) (obj_noport (told_len e (by rw [List.length_map]; assumption)))
      refine (show ∀ {p : Prop}, p → Stop p from fun h => h) ?_
      (rename StopMark => hMk7); clear hMk7
      rcases ts with _ | ⟨⟨p1, t1⟩, _ | ⟨⟨p2, t2⟩, _ | ⟨⟨p3, t3⟩, _ | ⟨⟨p4, t4⟩, _ | ⟨p5, ts⟩⟩⟩⟩⟩
      all_goals simp only [List.map_cons, List.map_nil, List.length_cons, List.length_nil] at *
      all_goals try (exfalso; omega)
      all_goals k_steps
      all_goals try (exfalso; (rename decide ((([] : List Int)) = _) = true => hno); simp at hno; done)
      all_goals try (refine told_end hret (by assumption) (by assumption) (by intro p hp; kst_mem) ?_)
      all_goals (have e := told_rev hM hts)
      all_goals try first
        | exact obj_noport e
        | exact obj_noport (told_last e (by assumption))
        | exact obj_nonum (told_bad e (by assumption) (by assumption) (by assumption))
        | exact obj_port (told_some e (by assumption) (by assumption) (by assumption))
end Mine
end

section -- G4
open PySem PySem.W PyProof.Rows
set_option maxRecDepth 100000
namespace Mine
local macro_rules | `(tactic| walk_at "none 0") => `(tactic| skip)
def wordsStep (st : List (List Nat) × Bool) (c : Nat) : List (List Nat) × Bool :=
  if c = 32 ∨ c = 9 then (st.1, true) else if st.2 = true then (st.1 ++ [[c]], false) else (st.1.dropLast ++ [st.1.getLast?.getD [] ++ [c]], false)
def wordsL (l : List Nat) : List (List Nat) := (l.foldl wordsStep ([], true)).1
abbrev Vw (ws : List (Str × Tok)) : List Value := ws.map fun p => Value.str p.1 p.2
structure WP (pre : List Int) (ws : List (Str × Tok)) (b : Bool) : Prop where
  is : ∃ ns : List Nat, pre = ns.map (fun (k : Nat) => (k : Int)) ∧ (ws.map (fun p => toL p.1), b) = ns.foldl wordsStep ([], true)
  some : b = false → ws ≠ []
  few : ws.length ≤ pre.length
  short : ∀ p ∈ ws, p.1.length ≤ pre.length
theorem wp_nil : WP [] [] true := ⟨⟨[], rfl, rfl⟩, fun h => absurd h (by decide), Nat.le_refl _, fun _ h => absurd h (by simp)⟩
theorem blank_occ (n : Nat) : (Builtin.Str.occurrences (Str.ofString " \t") ⟨#[n]⟩ 0 (Str.ofString " \t").length 1).isEmpty = !(n == 32 || n == 9) := by
  rw [in_one, show toL (Str.ofString " \t") = [32, 9] from by decide +kernel]
  rw [Bool.eq_iff_iff]
  simp
theorem wp_blank {pre : List Int} {ws : List (Str × Tok)} {b : Bool} {n : Nat} (h : WP pre ws b) (ho : (Builtin.Str.occurrences (Str.ofString " \t") ⟨#[n]⟩ 0 (Str.ofString " \t").length 1).isEmpty = false) : WP (pre ++ [(n : Int)]) ws true := by
  rw [blank_occ] at ho
  obtain ⟨ns, h1, h2⟩ := h.is
  refine ⟨⟨ns ++ [n], by rw [h1, List.map_append]; rfl, ?_⟩, fun h => absurd h (by decide), by rw [List.length_append]; exact Nat.le_add_right_of_le h.few, fun p hp => by rw [List.length_append]; exact Nat.le_add_right_of_le (h.short p hp)⟩
  rw [List.foldl_append, ← h2]
  show _ = wordsStep (ws.map (fun p => toL p.1), b) n
  unfold wordsStep
  have e9 : n = 32 ∨ n = 9 := by
    cases e8 : (n == 32 || n == 9) with
    | true => simpa using e8
    | false => rw [e8] at ho; cases ho
  rw [if_pos e9]
theorem wp_fresh {pre : List Int} {ws : List (Str × Tok)} {n : Nat} {t : Tok} (h : WP pre ws true) (ho : (Builtin.Str.occurrences (Str.ofString " \t") ⟨#[n]⟩ 0 (Str.ofString " \t").length 1).isEmpty = true) : WP (pre ++ [(n : Int)]) (ws ++ [(⟨#[n]⟩, t)]) false := by
  rw [blank_occ] at ho
  obtain ⟨ns, h1, h2⟩ := h.is
  refine ⟨⟨ns ++ [n], by rw [h1, List.map_append]; rfl, ?_⟩, fun _ => by simp, by simp only [List.length_append, List.length_singleton]; exact Nat.add_le_add_right h.few 1, fun p hp => ?_⟩
  · rw [List.foldl_append, ← h2]
    show _ = wordsStep (ws.map (fun p => toL p.1), true) n
    unfold wordsStep
    rw [if_neg (by simpa using ho), if_pos rfl, List.map_append]; rfl
  · rw [List.length_append, List.length_singleton]
    rcases List.mem_append.mp hp with hp | hp
    · exact Nat.le_add_right_of_le (h.short p hp)
    · rw [List.mem_singleton.mp hp]; exact Nat.le_add_left _ _
theorem wp_more {pre : List Int} {ws : List (Str × Tok)} {y : Str} {n : Nat} {t u : Tok} (h : WP pre (ws ++ [(y, t)]) false) (ho : (Builtin.Str.occurrences (Str.ofString " \t") ⟨#[n]⟩ 0 (Str.ofString " \t").length 1).isEmpty = true) : WP (pre ++ [(n : Int)]) (ws ++ [(y ++ ⟨#[n]⟩, u)]) false := by
  rw [blank_occ] at ho
  obtain ⟨ns, h1, h2⟩ := h.is
  refine ⟨⟨ns ++ [n], by rw [h1, List.map_append]; rfl, ?_⟩, fun _ => by simp, ?_, fun p hp => ?_⟩
  · rw [List.foldl_append, ← h2]
    show _ = wordsStep ((ws ++ [(y, t)]).map (fun p => toL p.1), false) n
    unfold wordsStep
    rw [if_neg (by simpa using ho), if_neg (show ¬ (false = true) by decide)]
    simp only [List.map_append, List.map_cons, List.map_nil, List.dropLast_concat, List.getLast?_append, List.getLast?_singleton, Option.some_or, Option.getD_some, toL_app]
  · have := h.few
    simp only [List.length_append, List.length_singleton] at this ⊢
    omega
  · rw [List.length_append, List.length_singleton]
    rcases List.mem_append.mp hp with hp | hp
    · exact Nat.le_add_right_of_le (h.short p (List.mem_append_left _ hp))
    · rw [List.mem_singleton.mp hp]
      have := h.short (y, t) (List.mem_append_right _ (List.mem_singleton.mpr rfl))
      show (y ++ ⟨#[n]⟩ : Str).length ≤ _
      rw [len_toL, toL_app, List.length_append, ← len_toL]
      exact Nat.add_le_add_right this 1
section
variable {prog : Program} {w : World} {A : Around} {E : Value → Shared → Prop} {s : Shared} {env : Env} {h₀ : Heap} {x : PySem.Str} {body : List Stmt}
theorem words_loop {Q : Flow → Shared → Prop} {xt : Str} {tx : Tok} {m₀ : Str → Option Value} {l : Addr} {c0 : Nat} {news : List (Addr × Obj)}
    (hh : A.handled = none) (F : Fr h₀ env.locals s.heap m₀) (N : News h₀ env.locals s.heap ((l, PySem.W.listOf #[] c0) :: news)) (hk : m₀ (Str.ofString "fresh") = some (.bool true))
    (turn : ∀ (ws : List (Str × Tok)) (c : Nat) (b : Bool) (pre post : List Int) (n : Nat) t h tk own, pre.length < xt.length → OwnOff own (l :: news.map (·.1)) → WP pre ws b →
      Fr h₀ env.locals h (fun y => if y = x then some (.str ⟨#[n]⟩ t) else if y = Str.ofString "fresh" then some (.bool b) else m₀ y) → News h₀ env.locals h ((l, PySem.W.listOf (Vw ws).toArray c) :: (news ++ own)) →
      wpAny (model prog w) A (execs body env) (InvPostN h₀ env.locals (KstS (fun (c : List (Str × Tok) × Nat × Bool) => (l, PySem.W.listOf (Vw c.1).toArray c.2.1) :: news) (fun c => [(Str.ofString "fresh", .bool c.2.2)]) (fun _ => True) x [] m₀ (fun pre c => WP pre c.1 c.2.2) (pre ++ [(n : Int)])) own (l :: news.map (·.1)) { s with heap := h, toks := tk } Q) E { s with heap := h, toks := tk })
    (done : ∀ (ws : List (Str × Tok)) (c : Nat) (b : Bool) (u : Str → Option Value) h tk, WP (KStt.codes xt) ws b → Fr h₀ env.locals h (fun y => if y = x then u y else if y = Str.ofString "fresh" then some (.bool b) else m₀ y) → News h₀ env.locals h ((l, PySem.W.listOf (Vw ws).toArray c) :: news) → Q .next { s with heap := h, toks := tk }) :
    wpAny (model prog w) A (pyIter (.str xt tx)) (fun it s₂ => LoopAtV prog w A h₀ env x body Q E it s₂) E s := by
  refine KStt.kst_text (fun (c : List (Str × Tok) × Nat × Bool) => (l, PySem.W.listOf (Vw c.1).toArray c.2.1) :: news) (fun c => [(Str.ofString "fresh", .bool c.2.2)]) (fun _ => True) [] (fun pre c => WP pre c.1 c.2.2) ([], c0, true) hh F N trivial ?_ wp_nil ?_ ?_
  · intro p hp; rw [List.mem_singleton.mp hp]; exact hk
  · intro c pre post n t u h tk own e hoff _ hp F1 N1
    have hl : pre.length < xt.length := by
      have := congrArg List.length e
      rw [KStt.codes_length, List.length_append, List.length_cons] at this
      have e2 : xt.length = xt.cps.size := rfl
      omega
    exact turn c.1 c.2.1 c.2.2 pre post n t h tk own hl hoff hp F1 N1
  · intro c u h tk _ hp F1 N1
    exact done c.1 c.2.1 c.2.2 u h tk hp F1 N1
theorem get_last {L l : Addr} {news : List (Addr × Obj)} {vs : List Value} {v : Value} {c : Nat} {u : Tok} {Q : Value → Shared → Prop} (N : News h₀ L s.heap news) (hm : (l, PySem.W.listOf (vs ++ [v]).toArray c) ∈ news) (h : Q v s) :
    wpAny (model prog w) A (getItem (.ref l) (.int (-1) u)) Q E s := by
  refine kde_getNeg (vs := vs ++ [v]) (j := vs.length) (PySem.IsL.isList (n := c) (N _ hm).1) (by omega) (by omega) ?_ (by simp) h
  have := PySem.seqIndex_neg (k := -1) (n := (vs ++ [v]).length) (by omega) (by rw [List.length_append, List.length_singleton]; omega)
  rw [this, List.length_append, List.length_singleton]
  congr 1
  omega
theorem set_last {L l : Addr} {m : Str → Option Value} {rest : List (Addr × Obj)} {vs : List Value} {v v' : Value} {c : Nat} {u : Tok} {Q : Unit → Shared → Prop} (F : Fr h₀ L s.heap m) (N : News h₀ L s.heap ((l, PySem.W.listOf (vs ++ [v]).toArray c) :: rest)) (off : ∀ p ∈ rest, p.1 ≠ l)
    (h : ∀ h', Fr h₀ L h' m → News h₀ L h' ((l, PySem.W.listOf (vs ++ [v']).toArray c) :: rest) → Q () { s with heap := h' }) : wpAny (model prog w) A (setItem (.ref l) (.int (-1) u) v') Q E s := by
  have z := N _ (.head _)
  refine ki_setBack z.1 (by omega) (by rw [List.size_toArray, List.length_append, List.length_singleton]; omega) (by omega) (h _ (F.change (Heap.SameBut.update ..) z.2.1 z.2.2) (ki_turn (pre := []) _ N (fun _ h => nomatch h) off ?_ ?_))
  · apply Array.toList_inj.mp
    simp only [List.size_toArray, List.length_append, List.length_singleton, Array.toList_setIfInBounds]
    rw [show (-1 + ((vs.length + 1 : Nat) : Int)).toNat = vs.length by omega]
    simp
  · simp
end
local macro_rules | `(tactic| k_room) => `(tactic| ktr_room)
local macro_rules | `(tactic| units_room) => `(tactic| ktr_units)
local macro_rules | `(tactic| walk_at "InvEndN") => `(tactic| (refine unstop ?_))
theorem off_both {news own : List (Addr × Obj)} {l : Addr} {r : List Addr} (h : ∀ p ∈ news, p.1 < l) (ho : OwnOff own (l :: r)) : ∀ p ∈ news ++ own, p.1 ≠ l := fun p hp => by
  rcases List.mem_append.mp hp with hp | hp
  · exact Nat.ne_of_lt (h p hp)
  · exact ho p hp _ (.head _)
theorem words_end {h₀ h' : Heap} {L l : Addr} {x : Str} {m' m₀ : Str → Option Value} {news own : List (Addr × Obj)} {vs : Array Value} {c tk : Nat} {b : Bool} {ws : List (Str × Tok)} {pre : List Int} {s₁ : Shared}
    (hp : WP pre ws b) (F : Fr h₀ L h' m') (N : News h₀ L h' ((l, PySem.W.listOf vs c) :: (news ++ own))) (e : vs = (Vw ws).toArray) (hk : m' (Str.ofString "fresh") = some (.bool b)) (hr : ∀ z, z ≠ x → z ≠ Str.ofString "fresh" → m' z = m₀ z) :
    InvEndN h₀ L (KstS (fun (c : List (Str × Tok) × Nat × Bool) => (l, PySem.W.listOf (Vw c.1).toArray c.2.1) :: news) (fun c => [(Str.ofString "fresh", .bool c.2.2)]) (fun _ => True) x [] m₀ (fun pre c => WP pre c.1 c.2.2) pre) own (l :: news.map (·.1)) s₁ { s₁ with heap := h', toks := tk } := by
  subst e
  refine kst_end (Led := fun (c : List (Str × Tok) × Nat × Bool) => (l, PySem.W.listOf (Vw c.1).toArray c.2.1) :: news) (ws, c, b) F N ?_ ?_ rfl trivial ?_ ?_ hp
  · intro p hp
    rcases List.mem_cons.mp hp with rfl | hp
    · exact .head _
    · exact .tail _ (List.mem_append_left _ hp)
  · intro p hp; exact .tail _ (List.mem_append_right _ hp)
  · intro p hp; rw [List.mem_singleton.mp hp]; exact hk
  · intro z h1 h2 _
    exact hr z h1 (h2 _ (.head _))
theorem vw_app {ws : List (Str × Tok)} {y : Str} {t : Tok} : Vw (ws ++ [(y, t)]) = Vw ws ++ [Value.str y t] := by simp [Vw]
theorem vw_len {ws : List (Str × Tok)} : (Vw ws).length = ws.length := by simp [Vw]
local macro_rules | `(tactic| k_all) => `(tactic| assumption)
local macro_rules | `(tactic| walk_at "getItem ref int") => `(tactic| (k_here; k_dflt (refine' get_last ?k1 ?k2 ?_; (case k1 => k_asm); (case k2 => k_mem); k_whole)))
local macro_rules | `(tactic| walk_at "setItem ref int") => `(tactic| (k_here; k_dflt (refine' set_last ?k1 ?k2 ?k3 ?_; (case k1 => k_asm); (case k2 => k_asm); (case k3 => assumption)); intro h9 F9 N9))
local macro_rules | `(tactic| walk_at "call builtin:list.append") => `(tactic| (k_here; (with_reducible show wpAny _ _ (call (Value.builtin _) [Value.ref _, _]) _ _ _); k_dflt (refine' append_K ?k1 ?k2 (Upd.head ?k3) ?_ ?z; (case k1 => k_asm); (case k2 => k_asm); (case k3 => assumption); (case z => (rw [List.size_toArray, vw_len, sizeLine_eq]; omega)); k_whole); intro h9 F9 N9))
set_option maxHeartbeats 4000000 in
theorem words_ctr {w : World} (x : Str) (tx : Tok) (hx : x.length ≤ 600) (news : List (Addr × Oj)) :
    Ctr w 5 96 115 [.str x tx] news (fun v own => ∃ l ws c, v = .ref l ∧ own = [(l, PySem.W.listOf (Vw ws).toArray c)] ∧ ws.map (fun p => toL p.1) = wordsL (toL x) ∧ ws.length ≤ x.length ∧ ∀ p ∈ ws, p.1.length ≤ x.length) := by
  unfold Ctr; k_with_none; w_top off; k_fill
  intro mean mg mb dp un gd cn cs a ccd cl outer A₀ base h₀ L m s Q E B F X N T hk hdp hun hret
  refine wpAny_call ?_
  k_dflt cell_enter
  (k_with "pyIter str" => (refine unstop ?_))
  k_steps
  refine (show ∀ {p : Prop}, p → Stop p from fun h => h) ?_
  (rename Fr _ _ _ _ => F9); (rename News _ _ _ _ => N9)
  refine words_loop (by rfl) F9 N9 (by rfl) ?_ ?_
  · intro ws c b pre post n t h tk own hlt hoff hp F1 N1
    clear F9 N9
    have hO := off_both (by assumption) hoff
    have hfew := hp.few
    cases b with
    | true =>
      k_steps
      all_goals (refine (show ∀ {p : Prop}, p → Stop p from fun h => h) ?_)
      all_goals first
        | exact words_end (wp_blank hp (by assumption)) (by assumption) (by assumption) rfl rfl (fun z h1 h2 => by simp only [if_neg h1, if_neg h2])
        | exact words_end (wp_fresh (t := t) hp (by assumption)) (by assumption) (by assumption) (by simp [Vw]) rfl (fun z h1 h2 => by simp only [if_neg h1, if_neg h2])
    | false =>
      obtain ⟨ws, ⟨y, ty⟩, rfl⟩ : ∃ r p, ws = r ++ [p] := ⟨ws.dropLast, ws.getLast (hp.some rfl), (List.dropLast_concat_getLast _).symm⟩
      have hy := hp.short (y, ty) (List.mem_append_right _ (.head _))
      rw [vw_app] at N1
      k_steps
      all_goals (refine (show ∀ {p : Prop}, p → Stop p from fun h => h) ?_)
      all_goals first
        | exact words_end (wp_blank hp (by assumption)) (by assumption) (by assumption) (by rw [vw_app]) rfl (fun z h1 h2 => by simp only [if_neg h1, if_neg h2])
        | exact words_end (wp_more hp (by assumption)) (by assumption) (by assumption) (by rw [vw_app]) rfl (fun z h1 h2 => by simp only [if_neg h1, if_neg h2])
  · intro ws c b u h tk hp F1 N1
    clear F9 N9
    k_steps
    have e1 : ws.map (fun p => toL p.1) = wordsL (toL x) := by
      obtain ⟨ns, h1, h2⟩ := hp.is
      have e3 : ns = toL x := by
        have : KStt.codes x = (toL x).map fun (k : Nat) => (k : Int) := rfl
        rw [this] at h1
        have h9 := congrArg (List.map Int.toNat) h1
        rw [List.map_map, List.map_map] at h9
        have h8 : (Int.toNat ∘ fun (k : Nat) => (k : Int)) = id := by funext k; simp
        rw [h8, List.map_id, List.map_id] at h9
        exact h9.symm
      rw [e3] at h2
      unfold wordsL
      rw [← h2]
    have hlen : (KStt.codes x).length = x.length := KStt.codes_length x
    exact hret _ [_] _ _ (by assumption) (by assumption) ⟨_, ws, _, rfl, rfl, e1, by rw [← hlen]; exact hp.few, fun p h => by rw [← hlen]; exact hp.short p h⟩
end Mine
end

section -- G5
open PySem PySem.W PyProof.Rows
set_option maxRecDepth 100000
namespace Mine
local macro_rules | `(tactic| walk_at "none 0") => `(tactic| skip)
local macro_rules | `(tactic| walk_at "none 1") => `(tactic| skip)
local macro_rules | `(tactic| walk_at "none 2") => `(tactic| skip)
local macro_rules | `(tactic| walk_at "none 3") => `(tactic| skip)
local macro_rules | `(tactic| walk_at "none 4") => `(tactic| skip)
def alph (c : Nat) : Bool := c == 35 || c == 32 || c == 9 || isDig c || c == 45 || c == 41 || c == 40 || c == 120
def Signs (x : Str) : Prop := ∀ c ∈ toL x, alph c = true
theorem signs_nil : Signs (Str.ofString "") := by unfold Signs; decide +kernel
theorem signs_app {x y : Str} (h : Signs x) (h2 : Signs y) : Signs (x ++ y) := fun c hc => by
  rw [toL_app] at hc
  rcases List.mem_append.mp hc with hc | hc
  · exact h c hc
  · exact h2 c hc
inductive AllOk : List Value → Prop
  | nil : AllOk []
  | cons {y : Str} {t : Tok} {vs : List Value} : y.length ≤ 2 → Signs y → AllOk vs → AllOk (.str y t :: vs)
theorem AllOk.at {vs : List Value} (h : AllOk vs) : ∀ j, j < vs.length → ∃ y t, vs[j]? = some (.str y t) ∧ y.length ≤ 2 ∧ Signs y := by
  induction h with
  | nil => intro j hj; exact absurd hj (Nat.not_lt_zero _)
  | cons h1 h2 h3 ih =>
    intro j hj
    cases j with
    | zero => exact ⟨_, _, rfl, h1, h2⟩
    | succ j => obtain ⟨y, t, e, r⟩ := ih j (Nat.lt_of_succ_lt_succ hj); exact ⟨y, t, by simpa using e, r⟩
theorem pick_str {prog : Program} {w : World} {A : Around} {E : Value → Shared → Prop} {s : Shared} {h₀ : Heap} {L D : Addr} {news : List (Addr × Obj)} {vs : List Value} {n : Nat} {k : Int} {u : Tok} {value slice : PySem.Expr} {Q : Value → Shared → Prop} (N : News h₀ L s.heap news) (hm : (D, PySem.W.listOf vs.toArray n) ∈ news) (hb : AllOk vs) (h0 : 0 ≤ k) (h1 : k < vs.length) (hfit : k < 2 ^ 63)
    (h : ∀ y t, y.length ≤ 2 → Signs y → Q (.str y t) s)
    (hs : subscripted slice false (.ref D) (.int k u) = operate [.ref D, .int k u] (getItem (.ref D) (.int k u)) := by with_unfolding_all rfl) :
    wpAny (model prog w) A (subscriptTail value slice (.ref D) (.int k u)) Q E s := by
  obtain ⟨y, t, e, a, b⟩ := hb.at k.toNat (by omega)
  have hl : s.heap.IsList D vs.toArray := PySem.IsL.isList (n := n) (N _ hm).1
  exact tail_any hl.typeIs slot_list_getitem.lookup (wpAny_getItem_list hl h0 hfit (by simpa using e) (h y t a b)) hs
theorem lines_turn {x y : Str} {pre : List Int} {k : Int} (h : x.length ≤ 2 * pre.length) (hs : Signs x) (h1 : y.length ≤ 2) (h2 : Signs y) : (x ++ y).length ≤ 2 * (pre ++ [k]).length ∧ Signs (x ++ y) := by
  refine ⟨?_, signs_app hs h2⟩
  have := h
  rw [len_toL] at this h1
  rw [len_toL, toL_app, List.length_append, List.length_append, List.length_singleton]
  omega
theorem signs_fig : Signs (Str.ofString "0123456789") := by unfold Signs; decide +kernel
theorem signs_last : Signs (Str.ofString ")(x") := by unfold Signs; decide +kernel
theorem signs_item {y : Str} {k : Int} (h : Signs y) (h0 : 0 ≤ k) (h1 : k < y.length) : Signs (Txt.item y k) := by
  obtain ⟨j, rfl⟩ : ∃ j : Nat, k = j := ⟨k.toNat, by omega⟩
  have hj : j < (toL y).length := by rw [← len_toL]; omega
  rw [item_at y (List.getElem?_eq_getElem hj)]
  intro c hc
  rw [toL_ofL, List.mem_singleton] at hc
  rw [hc]; exact h _ (List.getElem_mem hj)
theorem size_text (z : Int) : (Str.ofString (toString ((if z < 0 then -z else z).fmod 65536))).length ≤ 5 ∧ Signs (Str.ofString (toString ((if z < 0 then -z else z).fmod 65536))) := by
  generalize (if z < 0 then -z else z) = y
  have h0 : 0 ≤ y.fmod 65536 := Int.fmod_nonneg_of_pos _ (by decide)
  have h1 : y.fmod 65536 < 65536 := Int.fmod_lt_of_pos _ (by decide)
  refine ⟨toString_length_le h0 (by decide) (Int.lt_trans h1 (by decide)), ?_⟩
  obtain ⟨m, e⟩ : ∃ m : Nat, y.fmod 65536 = m := ⟨(y.fmod 65536).toNat, by omega⟩
  rw [e]
  intro c hc
  show alph c = true
  have hs : toL (Str.ofString (toString ((m : Nat) : Int))) = (Nat.toDigits 10 m).map Char.toNat := KIN.signs_num m
  rw [hs] at hc
  obtain ⟨d, hd, rfl⟩ := List.mem_map.mp hc
  have hdig := Nat.isDigit_of_mem_toDigits (by decide) (by decide) hd
  unfold alph isDig
  have h48 : 48 ≤ d.toNat ∧ d.toNat ≤ 57 := by
    simp only [Char.isDigit, Bool.and_eq_true, decide_eq_true_eq] at hdig
    exact ⟨UInt32.le_iff_toNat_le.mp hdig.1, UInt32.le_iff_toNat_le.mp hdig.2⟩
  simp [h48.1, h48.2]
theorem lines_end {Q : Value → Shared → Prop} {h₀ : Heap} {L : Addr} {m : Str → Option Value} {news : List (Addr × Oj)} {s : Shared}
    (hret : ∀ (v : Value) (own : List (Addr × Obj)) (h' : Heap) (tk' : Nat), Fr h₀ L h' m → News h₀ L h' (own ++ news) → (∃ r x y t u c, v = .ref r ∧ own = [(r, PySem.W.listOf #[.str x t, .str y u] c)] ∧ x.length ≤ 24 ∧ Signs x ∧ y.length ≤ 24 ∧ Signs y) → Q v { s with heap := h', toks := tk' })
    {a : Addr} {x y : Str} {t u : Tok} {c : Nat} {h' : Heap} {tk' : Nat} {nn : List (Addr × Oj)} (F : Fr h₀ L h' m) (N : News h₀ L h' ((a, PySem.W.listOf #[.str x t, .str y u] c) :: nn)) (hs : ∀ p ∈ news, p ∈ nn) (h1 : x.length ≤ 24) (h2 : Signs x) (h3 : y.length ≤ 24) (h4 : Signs y) : Q (.ref a) { s with heap := h', toks := tk' } :=
  hret _ [(a, _)] _ _ F (fun p hp => N p (by rcases List.mem_cons.mp hp with rfl | hp; exact .head _; exact .tail _ (hs p hp))) ⟨a, x, y, t, u, c, rfl, rfl, h1, h2, h3, h4⟩
theorem signs_hash : Signs (Str.ofString "#") := by unfold Signs; decide +kernel
theorem signs_21 : Signs (Str.ofString "21 # \t") := by unfold Signs; decide +kernel
local macro_rules | `(tactic| k_room) => `(tactic| ktr_room)
local macro_rules | `(tactic| units_room) => `(tactic| ktr_units)
local macro_rules | `(tactic| walk_at "subscriptTail") => `(tactic| (k_here; (with_reducible show wpAny _ _ (subscriptTail (Expr.Name (Str.ofString "_") _) _ (Value.ref _) (Value.int _ _)) _ _ _); k_dflt (refine' pick_str ?N ?m ?b ?k0 ?k1 ?k2 ?_ ?s; (case N => k_asm); (case m => k_mem); (case b => (with_unfolding_all (repeat' (first | exact AllOk.nil | refine AllOk.cons ?_ ?_ ?_)); all_goals first | decide | exact (show 1 ≤ 2 by decide) | (unfold Signs; decide +kernel) | exact signs_item signs_fig (by k_fmods; omega) (by k_fmods; (show _ < ((10 : Nat) : Int)); omega) | exact signs_item signs_last (by k_fmods; omega) (by k_fmods; (show _ < ((3 : Nat) : Int)); omega))); (case k0 => k_fmods; omega); (case k1 => k_fmods; (try simp only [List.length_cons, List.length_nil]); omega); (case k2 => k_fmods; omega); (case s => with_unfolding_all rfl); k_whole); intro y9 t9 hl9 hs9; (try dsimp only); (try k_fold)))
set_option maxHeartbeats 4000000 in
theorem lines_ctr {w : World} (l : Addr) (vs : List Value) (ns : List Int) (hi : IntsAre vs ns) (hz : ns.length ≤ 63) (news : List (Addr × Oj)) 
   (mean : ExcName → Option Value) (mg mb : Str → Option Value) (dp un : Nat) (gd : Option (List Code)) (cn : Str) (cs : Scope) (a : Addr) (ccd : Value) (cl : List (Str × Addr)) (outer : List Env) (A₀ : Around) (base h₀ : Heap) (L : Addr) (m : Str → Option Value) (s : Shared) (Q E : Value → Shared → Prop)
    (B : Below A₀ base outer h₀) (F : Fr h₀ L s.heap m) (X : (hd.heap_39 w.params).In h₀) (hl : h₀.IsList l vs.toArray) (N : News h₀ L s.heap news) (T : Top hd.view_39 Lo mean mg mb h₀) (hk : cs.kind = .function)
    (hdp : dp + 7 < recursionLimit) (hun : un + 96 < cLine)
    (hret : ∀ (v : Value) (own : List (Addr × Obj)) (h' : Heap) (tk' : Nat), Fr h₀ L h' m → News h₀ L h' (own ++ news) → (∃ r x y t u c, v = .ref r ∧ own = [(r, PySem.W.listOf #[.str x t, .str y u] c)] ∧ x.length ≤ 24 ∧ Signs x ∧ y.length ≤ 24 ∧ Signs y) → Q v { s with heap := h', toks := tk' }) :
    wpAny (model PySem.Challenge.rw_wr0002_01.row.prog w) (ktrTop dp un gd cn cs L a ccd cl outer) (call (.ref 101) [.ref l]) Q E s := by
  revert hret hun hdp hk T N hl X F B
  k_with_none; w_top off; k_fill
  intro B F X hl N T hk hdp hun hret
  have hn : vs.length ≤ 63 := by rw [hi.length]; exact hz
  refine wpAny_call ?_
  k_dflt cell_enter
  (rename Fr h₀ L _ _ => FG9)
  obtain ⟨ol, el, rl⟩ := hl
  have hl9 := (⟨ol, FG9.keep _ _ el, rl⟩ : Heap.IsList _ l vs.toArray)
  obtain ⟨hZ, hZs⟩ := size_text (ns.getD (Int.toNat 0) 0)
  (k_with "pyIter ref" => k_state (fun pre line => line.length ≤ 2 * pre.length ∧ Signs line) "line")
  (k_with "state" => first | exact ⟨by decide, signs_nil⟩ | exact lines_turn (by assumption) (by assumption) (by assumption) (by assumption))
  k_steps
  · refine lines_end hret (by assumption) (by assumption) (by intro p hp; kst_mem) (by omega) (by assumption) ?_ (signs_app (by assumption) (signs_app (signs_app (signs_app hZs (by assumption)) signs_hash) (by assumption)))
    have h8 : (Str.ofString "#").length = 1 := by decide
    omega
  · refine lines_end hret (by assumption) (by assumption) (by intro p hp; kst_mem) (by omega) (by assumption) ?_ (signs_app (by assumption) signs_21)
    have h9 : (Str.ofString "21 # \t").length = 6 := by decide
    omega
end Mine
end

section -- S1
open PySem PySem.Sre
set_option maxRecDepth 100000
namespace Mine
def Cc : Array Nat := #[14, 4, 0, 8, 4294967295, 24, 5, 0, 4294967295, 2, 1, 16, 70, 16, 76, 16, 65, 16, 71, 16, 83, 16, 32, 16, 40, 17, 0, 24, 6, 0, 4294967295, 20, 41, 1, 17, 1, 16, 41, 1]
/-- a state of the machine over the pattern's code -/
def mkM (T : Array Nat) (n pc pos h : Nat) (om : Bool) (marks : Array (Option Nat)) (lm li : Int) (frames : List Sre.Frame) (wt : Nat) (ans : Option Bool) (sn : Seen) : M :=
  { code := Cc, text := T, lim := n, start := 0, pc, pos, handed := h, outermost := om, marks, lastmark := lm, lastindex := li, frames, weight := wt, answer := ans, seen := sn }
def Go (B : Nat) (m m' : M) : Prop := ∃ k, k ≤ B ∧ M.runFor k m = m'
theorem runFor_succ (k : Nat) (m : M) : M.runFor (k + 1) m = if m.outcome.isSome then m else M.runFor k m.step := rfl
theorem runFor_stop {m : M} (h : m.outcome.isSome = true) : ∀ k, M.runFor k m = m
  | 0 => rfl
  | k + 1 => by rw [runFor_succ, if_pos h]
theorem runFor_add : ∀ (a b : Nat) (m : M), M.runFor (a + b) m = M.runFor b (M.runFor a m)
  | 0, b, m => by rw [Nat.zero_add]; rfl
  | a + 1, b, m => by
    rw [show a + 1 + b = (a + b) + 1 by omega, runFor_succ, runFor_succ]
    by_cases h : m.outcome.isSome = true
    · rw [if_pos h, if_pos h, runFor_stop h]
    · rw [if_neg h, if_neg h, runFor_add a b]
theorem Go.trans {a b : Nat} {m m' m'' : M} (h : Go a m m') (h' : Go b m' m'') : Go (a + b) m m'' := by
  obtain ⟨k, hk, e⟩ := h
  obtain ⟨j, hj, e'⟩ := h'
  exact ⟨k + j, by omega, by rw [runFor_add, e, e']⟩
theorem Go.weaken {a b : Nat} {m m' : M} (h : Go a m m') (hab : a ≤ b) : Go b m m' := let ⟨k, hk, e⟩ := h; ⟨k, by omega, e⟩
theorem Go.refl {m : M} : Go 0 m m := ⟨0, Nat.le_refl _, rfl⟩
section
variable {T : Array Nat} {n pc pos h wt : Nat} {om : Bool} {marks : Array (Option Nat)} {lm li : Int} {frames : List Sre.Frame} {sn : Seen} {ans : Option Bool}
theorem Go.step {m' : M} (e : (mkM T n pc pos h om marks lm li frames wt ans sn).step = m') : Go 1 (mkM T n pc pos h om marks lm li frames wt ans sn) m' := ⟨1, Nat.le_refl _, by
  show (if (mkM T n pc pos h om marks lm li frames wt ans sn).outcome.isSome then _ else M.runFor 0 _) = m'
  exact e⟩
theorem step_lit (c : Nat) (hpc : pc < Cc.size) (h1 : Cc.getD pc 0 = 16) (h2 : Cc.getD (pc + 1) 0 = c) :
    (mkM T n pc pos h om marks lm li frames wt none sn).step = if pos < n ∧ T.getD pos 0 = c then mkM T n (pc + 2) (pos + 1) h om marks lm li frames wt none (sn.add 16) else mkM T n pc pos h om marks lm li frames wt (some false) (sn.add 16) := by
  have e : (mkM T n pc pos h om marks lm li frames wt none sn).step = (mkM T n pc pos h om marks lm li frames wt none sn).exec := by
    unfold M.step
    simp [mkM, hpc]
  rw [e]
  unfold M.exec
  have w0 : (mkM T n pc pos h om marks lm li frames wt none sn).word 0 = 16 := h1
  rw [w0]
  have o : ops[16]? = some .LITERAL := rfl
  rw [o]
  dsimp only
  have e1 : (mkM T n pc pos h om marks lm li frames wt none sn).seen.add 16 = sn.add 16 := rfl
  by_cases hp : pos < n
  · rw [if_neg (show ¬ (mkM T n pc pos h om marks lm li frames wt none sn).pos ≥ (mkM T n pc pos h om marks lm li frames wt none sn).lim from by show ¬ pos ≥ n; omega)]
    have ha : accepts (mkM T n pc pos h om marks lm li frames wt none sn).code (mkM T n pc pos h om marks lm li frames wt none sn).pc ((mkM T n pc pos h om marks lm li frames wt none sn).text.getD (mkM T n pc pos h om marks lm li frames wt none sn).pos 0) ((mkM T n pc pos h om marks lm li frames wt none sn).seen.add 16) = .ok (T.getD pos 0 == c, sn.add 16) := by
      show accepts Cc pc (T.getD pos 0) (sn.add 16) = _
      unfold accepts
      rw [h1, h2, o]
    rw [ha]
    have hw : itemWidth Cc pc = 2 := by unfold itemWidth; rw [h1, o]
    by_cases hc : T.getD pos 0 = c
    · rw [if_pos ⟨hp, hc⟩, show (T.getD pos 0 == c) = true from beq_iff_eq.mpr hc]
      show ({ (mkM T n pc pos h om marks lm li frames wt none sn) with seen := sn.add 16, pc := pc + itemWidth Cc pc, pos := pos + 1 } : M) = _
      rw [hw]; rfl
    · rw [if_neg (fun k => hc k.2), show (T.getD pos 0 == c) = false from by simpa using hc]
      rfl
  · rw [if_pos (show (mkM T n pc pos h om marks lm li frames wt none sn).pos ≥ (mkM T n pc pos h om marks lm li frames wt none sn).lim from by show pos ≥ n; omega), if_neg (fun k => hp k.1)]
    rfl
/-- the codes of a row of literals lie at pc -/
def Laid (pc : Nat) : List Nat → Prop
  | [] => True
  | c :: r => pc < Cc.size ∧ Cc.getD pc 0 = 16 ∧ Cc.getD (pc + 1) 0 = c ∧ Laid (pc + 2) r
def Lies (T : Array Nat) (n pos : Nat) : List Nat → Prop
  | [] => True
  | c :: r => (pos < n ∧ T.getD pos 0 = c) ∧ Lies T n (pos + 1) r
def decLies : ∀ (T : Array Nat) (n pos : Nat) (l : List Nat), Decidable (Lies T n pos l)
  | _, _, _, [] => isTrue trivial
  | T, n, pos, c :: r => have := decLies T n (pos + 1) r; inferInstanceAs (Decidable (_ ∧ _))
theorem go_lits : ∀ (l : List Nat) (pc pos : Nat) (sn : Seen), Laid pc l →
    haveI := decLies T n pos l
    if Lies T n pos l then ∃ sn', Go l.length (mkM T n pc pos h om marks lm li frames wt none sn) (mkM T n (pc + 2 * l.length) (pos + l.length) h om marks lm li frames wt none sn')
    else ∃ pc' pos' sn', Go l.length (mkM T n pc pos h om marks lm li frames wt none sn) (mkM T n pc' pos' h om marks lm li frames wt (some false) sn')
  | [], pc, pos, sn, _ => by rw [if_pos (show Lies T n pos [] from trivial)]; exact ⟨sn, Go.refl⟩
  | c :: r, pc, pos, sn, hl => by
    obtain ⟨h0, h1, h2, h3⟩ := hl
    have s := Go.step (step_lit (T := T) (n := n) (pos := pos) (h := h) (om := om) (marks := marks) (lm := lm) (li := li) (frames := frames) (wt := wt) (sn := sn) c h0 h1 h2)
    have ih := go_lits r (pc + 2) (pos + 1) (sn.add 16) h3
    by_cases hc : pos < n ∧ T.getD pos 0 = c
    · rw [if_pos hc] at s
      by_cases hr : Lies T n (pos + 1) r
      · rw [if_pos hr] at ih
        obtain ⟨sn', g⟩ := ih
        rw [if_pos (show Lies T n pos (c :: r) from ⟨hc, hr⟩)]
        refine ⟨sn', ?_⟩
        have := (s.trans g).weaken (b := (c :: r).length) (by simp only [List.length_cons]; omega)
        rw [show pc + 2 + 2 * r.length = pc + 2 * (c :: r).length by simp only [List.length_cons]; omega, show pos + 1 + r.length = pos + (c :: r).length by simp only [List.length_cons]; omega] at this
        exact this
      · rw [if_neg hr] at ih
        obtain ⟨pc', pos', sn', g⟩ := ih
        rw [if_neg (fun k => hr k.2)]
        exact ⟨pc', pos', sn', (s.trans g).weaken (by simp only [List.length_cons]; omega)⟩
    · rw [if_neg hc] at s
      rw [if_neg (fun k => hc k.1)]
      exact ⟨pc, pos, _, s.weaken (by simp only [List.length_cons]; omega)⟩
def Fb (pc pos : Nat) (om : Bool) (c lm li : Int) : Sre.Frame := { wait := .giveBack, pc, pos, outermost := om, count := c, kept := { lastmark := lm, lastindex := li } }
def cnt (P : Nat → Bool) (T : Array Nat) : Nat → Nat → Nat
  | 0, _ => 0
  | k + 1, p => if P (T.getD p 0) then cnt P T k (p + 1) + 1 else 0
theorem run_cnt {i : Nat} {P : Nat → Bool} (ha : ∀ c sn, accepts Cc i c sn = .ok (P c, sn)) : ∀ (k p f : Nat) (sn : Seen), Sre.run Cc T i k p f sn = .ok (f + cnt P T k p, sn)
  | 0, p, f, sn => rfl
  | k + 1, p, f, sn => by
    unfold Sre.run
    rw [ha]
    show (if P (T.getD p 0) = true then Sre.run Cc T i k (p + 1) (f + 1) sn else Except.ok (f, sn)) = _
    unfold cnt
    by_cases h : P (T.getD p 0) = true
    · rw [if_pos h, if_pos h, run_cnt ha k (p + 1) (f + 1) sn]
      congr 2; omega
    · rw [if_neg h, if_neg h]; rfl
theorem any_ok (c : Nat) (sn : Seen) : accepts Cc 9 c sn = .ok (c != 10, sn) := rfl
theorem notp_ok (c : Nat) (sn : Seen) : accepts Cc 31 c sn = .ok (c != 41, sn) := rfl
theorem exec_of (hpc : pc < Cc.size) : (mkM T n pc pos h om marks lm li frames wt none sn).step = (mkM T n pc pos h om marks lm li frames wt none sn).exec := by
  unfold M.step
  simp [mkM, hpc]
theorem step_rep {w1 : Nat} {P : Nat → Bool} (hpc : pc < Cc.size) (h0 : Cc.getD pc 0 = 24) (h1 : Cc.getD (pc + 1) 0 = w1) (h2 : Cc.getD (pc + 2) 0 = 0) (h3 : Cc.getD (pc + 3) 0 = 4294967295)
    (ha : ∀ c sn, accepts Cc (pc + 4) c sn = .ok (P c, sn)) (hp : pos ≤ n) (hn : n < 4294967295) (hw : wt + 1 ≤ 16777216) :
    ∃ sn', (mkM T n pc pos h om marks lm li frames wt none sn).step = mkM T n (pc + 1 + w1) (pos + cnt P T (n - pos) pos) (pos + cnt P T (n - pos) pos) om marks lm li (Fb pc (pos + cnt P T (n - pos) pos) om (cnt P T (n - pos) pos) lm li :: frames) (wt + 1) none sn' := by
  refine ⟨((sn.add 24).add (Cc.getD (pc + 4) 0)), ?_⟩
  rw [exec_of hpc]
  unfold M.exec
  have w0 : (mkM T n pc pos h om marks lm li frames wt none sn).word 0 = 24 := h0
  rw [w0]
  have o : ops[24]? = some .REPEAT_ONE := rfl
  rw [o]
  dsimp only
  have wl : ({ (mkM T n pc pos h om marks lm li frames wt none sn) with seen := (mkM T n pc pos h om marks lm li frames wt none sn).seen.add 24 } : M).word 2 = 0 := h2
  have wm : ({ (mkM T n pc pos h om marks lm li frames wt none sn) with seen := (mkM T n pc pos h om marks lm li frames wt none sn).seen.add 24 } : M).word 3 = 4294967295 := h3
  rw [wl, wm]
  rw [if_neg (show ¬ (((0 : Nat) : Int) > ((mkM T n pc pos h om marks lm li frames wt none sn).lim : Int) - (mkM T n pc pos h om marks lm li frames wt none sn).pos) from by show ¬ ((0 : Nat) : Int) > (n : Int) - (pos : Int); omega)]
  have hr : Sre.run (mkM T n pc pos h om marks lm li frames wt none sn).code (mkM T n pc pos h om marks lm li frames wt none sn).text ((mkM T n pc pos h om marks lm li frames wt none sn).pc + 4) (min (if false = true then 0 else 4294967295) (((mkM T n pc pos h om marks lm li frames wt none sn).lim : Int) - (mkM T n pc pos h om marks lm li frames wt none sn).pos).toNat) (mkM T n pc pos h om marks lm li frames wt none sn).pos 0 (({ (mkM T n pc pos h om marks lm li frames wt none sn) with seen := (mkM T n pc pos h om marks lm li frames wt none sn).seen.add 24 } : M).seen.add (({ (mkM T n pc pos h om marks lm li frames wt none sn) with seen := (mkM T n pc pos h om marks lm li frames wt none sn).seen.add 24 } : M).word 4)) = .ok (cnt P T (n - pos) pos, ((sn.add 24).add (Cc.getD (pc + 4) 0))) := by
    show Sre.run Cc T (pc + 4) (min (if false = true then 0 else 4294967295) ((n : Int) - (pos : Int)).toNat) pos 0 ((sn.add 24).add (Cc.getD (pc + 4) 0)) = _
    rw [if_neg (by decide), show min 4294967295 ((n : Int) - (pos : Int)).toNat = n - pos by omega, run_cnt ha, Nat.zero_add]
  rw [hr]
  dsimp only
  rw [if_neg (Nat.not_lt_zero _)]
  unfold M.afterRun M.attempt
  refine Eq.trans (if_neg (Nat.not_lt.mpr (show wt + 1 + 0 ≤ 16777216 by omega))) ?_
  have ww : Cc.getD (pc + 1) 0 = w1 := h1
  show ({ mkM T n pc (pos + cnt P T (n - pos) pos) h om marks lm li frames wt none ((sn.add 24).add (Cc.getD (pc + 4) 0)) with frames := Fb pc (pos + cnt P T (n - pos) pos) om (cnt P T (n - pos) pos) lm li :: frames, weight := wt + 1 + 0, pc := pc + 1 + Cc.getD (pc + 1) 0, pos := pos + cnt P T (n - pos) pos, handed := pos + cnt P T (n - pos) pos, outermost := om } : M) = _
  rw [ww]
  rfl
theorem step_mark0 : ∃ sn', (mkM T n 25 pos h om marks (-1) li frames wt none sn).step = mkM T n 27 pos h om (marks.setIfInBounds 0 (some pos)) 0 li frames wt none sn' := by
  refine ⟨sn.add 17, ?_⟩
  rw [exec_of (by decide)]
  rfl
theorem step_mark1 : ∃ sn', (mkM T n 34 pos h om marks 0 li frames wt none sn).step = mkM T n 36 pos h om (marks.setIfInBounds 1 (some pos)) 1 1 frames wt none sn' := by
  refine ⟨sn.add 17, ?_⟩
  rw [exec_of (by decide)]
  show M.mark (mkM T n 34 pos h om marks 0 li frames wt none (sn.add 17)) 1 = _
  unfold M.mark
  rw [if_pos (show ((1 : Nat) : Int) ≤ (mkM T n 34 pos h om marks 0 li frames wt none (sn.add 17)).lastmark + 1 from by show ((1 : Nat) : Int) ≤ 0 + 1; decide)]
  rfl
theorem step_success : ∃ sn', (mkM T n 38 pos h om marks lm li frames wt none sn).step = mkM T n 38 pos pos om marks lm li frames wt (some true) sn' := by
  refine ⟨sn.add 1, ?_⟩
  rw [exec_of (by decide)]
  cases om <;> rfl
theorem step_yes {fpc fpos : Nat} {fom : Bool} {c klm kli : Int} : (mkM T n pc pos h om marks lm li (Fb fpc fpos fom c klm kli :: frames) (wt + 1) (some true) sn).step = mkM T n fpc fpos h fom marks lm li frames wt (some true) sn := rfl
theorem step_no0 {fpc fpos : Nat} {fom : Bool} {klm kli : Int} (h2 : Cc.getD (fpc + 2) 0 = 0) : (mkM T n pc pos h om marks lm li (Fb fpc fpos fom 0 klm kli :: frames) (wt + 1) (some false) sn).step = mkM T n fpc fpos h fom marks klm kli frames wt (some false) sn := by
  show M.resume (mkM T n fpc fpos h fom marks lm li frames wt none sn) (Fb fpc fpos fom 0 klm kli) false = _
  unfold M.resume
  dsimp only [Fb]
  rw [if_neg (show ¬ false = true by decide), show (mkM T n fpc fpos h fom marks lm li frames wt none sn).word 2 = 0 from h2]
  exact (if_pos (by decide)).trans rfl
theorem step_no {fpc fpos w1 c : Nat} {fom : Bool} {klm kli : Int} (h1 : Cc.getD (fpc + 1) 0 = w1) (h2 : Cc.getD (fpc + 2) 0 = 0) (hw : wt + 1 ≤ 16777216) : (mkM T n pc pos h om marks lm li (Fb fpc (fpos + 1) fom ((c + 1 : Nat) : Int) klm kli :: frames) (wt + 1) (some false) sn).step = mkM T n (fpc + 1 + w1) fpos fpos fom marks klm kli (Fb fpc fpos fom (c : Int) klm kli :: frames) (wt + 1) none sn := by
  show M.resume (mkM T n fpc (fpos + 1) h fom marks lm li frames wt none sn) (Fb fpc (fpos + 1) fom ((c + 1 : Nat) : Int) klm kli) false = _
  unfold M.resume
  dsimp only [Fb]
  rw [if_neg (show ¬ false = true by decide), show (mkM T n fpc (fpos + 1) h fom marks lm li frames wt none sn).word 2 = 0 from h2]
  refine (if_neg (by omega)).trans ?_
  unfold M.afterRun M.attempt
  refine Eq.trans (if_neg (Nat.not_lt.mpr (show wt + 1 + 0 ≤ 16777216 by omega))) ?_
  show ({ mkM T n fpc fpos h fom marks klm kli frames wt none sn with frames := Fb fpc fpos fom (((c + 1 : Nat) : Int) - 1) klm kli :: frames, weight := wt + 1 + 0, pc := fpc + 1 + Cc.getD (fpc + 1) 0, pos := fpos, handed := fpos, outermost := fom } : M) = _
  rw [h1, show ((c + 1 : Nat) : Int) - 1 = (c : Int) by omega]
  rfl
theorem step_end (yes : Bool) : (mkM T n pc pos h om marks lm li [] wt (some yes) sn).step = { mkM T n pc pos h om marks lm li [] wt (some yes) sn with outcome := some (if yes then .matched else .failed) } := by
  cases yes <;> rfl
theorem cnt_le {P : Nat → Bool} : ∀ k p, cnt P T k p ≤ k
  | 0, _ => Nat.le_refl _
  | k + 1, p => by unfold cnt; split; exact Nat.succ_le_succ (cnt_le k (p + 1)); exact Nat.zero_le _
theorem cnt_all {P : Nat → Bool} : ∀ k p j, j < cnt P T k p → P (T.getD (p + j) 0) = true
  | 0, _, j, hj => absurd hj (Nat.not_lt_zero _)
  | k + 1, p, j, hj => by
    unfold cnt at hj
    by_cases h : P (T.getD p 0) = true
    · rw [if_pos h] at hj
      cases j with
      | zero => exact h
      | succ j => have := cnt_all (P := P) k (p + 1) j (by omega); rw [show p + (j + 1) = p + 1 + j by omega]; exact this
    · rw [if_neg h] at hj; exact absurd hj (Nat.not_lt_zero _)
theorem cnt_end {P : Nat → Bool} : ∀ k p, cnt P T k p < k → P (T.getD (p + cnt P T k p) 0) = false
  | 0, _, hj => absurd hj (Nat.not_lt_zero _)
  | k + 1, p, hj => by
    unfold cnt at hj ⊢
    by_cases h : P (T.getD p 0) = true
    · rw [if_pos h] at hj ⊢
      have := cnt_end (P := P) k (p + 1) (by omega)
      rw [show p + (cnt P T k (p + 1) + 1) = p + 1 + cnt P T k (p + 1) by omega]; exact this
    · rw [if_neg h]; simpa using h
def lits : List Nat := [70, 76, 65, 71, 83, 32, 40]
def notP : Nat → Bool := fun c => c != 41
def scanAt (T : Array Nat) (n p : Nat) : Option (Nat × Nat) :=
  haveI := decLies T n p lits
  if Lies T n p lits then (if p + 7 + cnt notP T (n - (p + 7)) (p + 7) < n then some (p + 7, p + 7 + cnt notP T (n - (p + 7)) (p + 7)) else none) else none
def found (T : Array Nat) (n : Nat) : Nat → Option (Nat × Nat)
  | 0 => scanAt T n 0
  | p + 1 => match scanAt T n (p + 1) with | some r => some r | none => found T n p
theorem lies_le : ∀ (l : List Nat) (p : Nat), Lies T n p l → l ≠ [] → p + l.length ≤ n
  | [], p, _, h => absurd rfl h
  | [c], p, h, _ => h.1.1
  | c :: d :: r, p, h, _ => by have := lies_le (d :: r) (p + 1) h.2 (by simp); simp only [List.length_cons] at this ⊢; omega
/-- no bracket is met: the run is given back to its start -/
theorem inner_back {a : Nat} {F : Sre.Frame} : ∀ (c : Nat) (marks : Array (Option Nat)) (h : Nat) (li : Int) (sn : Seen), marks.size = 2 → (∀ j, a ≤ j → j ≤ a + c → ¬ (j < n ∧ T.getD j 0 = 41)) →
    ∃ pc' pos' h' om' marks' lm' li' sn', marks'.size = 2 ∧ Go (3 * (c + 1)) (mkM T n 34 (a + c) h true marks 0 li (Fb 27 (a + c) true c 0 (-1) :: [F]) 2 none sn) (mkM T n pc' pos' h' om' marks' lm' li' [F] 1 (some false) sn')
  | 0, marks, h, li, sn, hm, hno => by
    obtain ⟨s1, e1⟩ := step_mark1 (T := T) (n := n) (pos := a + 0) (h := h) (om := true) (marks := marks) (li := li) (frames := Fb 27 (a + 0) true ((0 : Nat) : Int) 0 (-1) :: [F]) (wt := 2) (sn := sn)
    have g1 := Go.step e1
    have g2 := Go.step (step_lit (T := T) (n := n) (pc := 36) (pos := a + 0) (h := h) (om := true) (marks := marks.setIfInBounds 1 (some (a + 0))) (lm := 1) (li := 1) (frames := Fb 27 (a + 0) true ((0 : Nat) : Int) 0 (-1) :: [F]) (wt := 2) (sn := s1) 41 (by decide) (by decide) (by decide))
    rw [if_neg (hno (a + 0) (Nat.le_refl _) (Nat.le_refl _))] at g2
    have g3 := Go.step (step_no0 (T := T) (n := n) (pc := 36) (pos := a + 0) (h := h) (om := true) (marks := marks.setIfInBounds 1 (some (a + 0))) (lm := 1) (li := 1) (frames := [F]) (wt := 1) (sn := s1.add 16) (fpc := 27) (fpos := a + 0) (fom := true) (klm := 0) (kli := -1) (by decide))
    exact ⟨_, _, _, _, _, _, _, _, by rw [Array.size_setIfInBounds]; exact hm, (g1.trans (g2.trans g3)).weaken (by omega)⟩
  | c + 1, marks, h, li, sn, hm, hno => by
    obtain ⟨s1, e1⟩ := step_mark1 (T := T) (n := n) (pos := a + (c + 1)) (h := h) (om := true) (marks := marks) (li := li) (frames := Fb 27 (a + (c + 1)) true ((c + 1 : Nat) : Int) 0 (-1) :: [F]) (wt := 2) (sn := sn)
    have g1 := Go.step e1
    have g2 := Go.step (step_lit (T := T) (n := n) (pc := 36) (pos := a + (c + 1)) (h := h) (om := true) (marks := marks.setIfInBounds 1 (some (a + (c + 1)))) (lm := 1) (li := 1) (frames := Fb 27 (a + (c + 1)) true ((c + 1 : Nat) : Int) 0 (-1) :: [F]) (wt := 2) (sn := s1) 41 (by decide) (by decide) (by decide))
    rw [if_neg (hno (a + (c + 1)) (by omega) (Nat.le_refl _))] at g2
    have g3 := Go.step (step_no (T := T) (n := n) (pc := 36) (pos := a + (c + 1)) (h := h) (om := true) (marks := marks.setIfInBounds 1 (some (a + (c + 1)))) (lm := 1) (li := 1) (frames := [F]) (wt := 1) (sn := s1.add 16) (fpc := 27) (fpos := a + c) (w1 := 6) (c := c) (fom := true) (klm := 0) (kli := -1) (by decide) (by decide) (by decide))
    obtain ⟨pc', pos', h', om', marks', lm', li', sn', hs, g4⟩ := inner_back c (marks.setIfInBounds 1 (some (a + (c + 1)))) (a + c) (-1) (s1.add 16) (by rw [Array.size_setIfInBounds]; exact hm) (fun j h1 h2 => hno j h1 (by omega))
    exact ⟨pc', pos', h', om', marks', lm', li', sn', hs, (g1.trans (g2.trans (g3.trans g4))).weaken (by omega)⟩
structure Done (m : M) (a q : Nat) : Prop where
  out : m.outcome = some .matched
  m0 : m.marks.getD 0 none = some a
  m1 : m.marks.getD 1 none = some q
  lm : m.lastmark = 1
  li : m.lastindex = 1
  start : m.start = 0
  handed : m.handed = q + 1
abbrev Sp (T : Array Nat) (n p : Nat) (marks : Array (Option Nat)) (h : Nat) (sn : Seen) : M := mkM T n 11 p h true marks (-1) (-1) [Fb 5 p true p (-1) (-1)] 1 none sn
theorem try_at (p : Nat) (marks : Array (Option Nat)) (h : Nat) (sn : Seen) (hm : marks.size = 2) (hp : p ≤ n) (hn : n < 4294967295) :
    match scanAt T n p with
    | some (a, q) => ∃ m', Go (3 * n + 30) (Sp T n p marks h sn) m' ∧ Done m' a q
    | none => ∃ pc' pos' h' om' marks' lm' li' sn', marks'.size = 2 ∧ Go (3 * n + 30) (Sp T n p marks h sn) (mkM T n pc' pos' h' om' marks' lm' li' [Fb 5 p true p (-1) (-1)] 1 (some false) sn') := by
  have gl := go_lits (T := T) (n := n) (h := h) (om := true) (marks := marks) (lm := -1) (li := -1) (frames := [Fb 5 p true p (-1) (-1)]) (wt := 1) lits 11 p sn (by simp only [Laid, lits]; decide)
  unfold scanAt
  by_cases hl : Lies T n p lits
  · rw [if_pos hl] at gl ⊢
    obtain ⟨s1, g1⟩ := gl
    have hle := lies_le lits p hl (by decide)
    have h7 : p + 7 ≤ n := hle
    have g1' : Go 7 (Sp T n p marks h sn) (mkM T n 25 (p + 7) h true marks (-1) (-1) [Fb 5 p true p (-1) (-1)] 1 none s1) := g1
    obtain ⟨s2, e2⟩ := step_mark0 (T := T) (n := n) (pos := p + 7) (h := h) (om := true) (marks := marks) (li := -1) (frames := [Fb 5 p true p (-1) (-1)]) (wt := 1) (sn := s1)
    have g2 := Go.step e2
    obtain ⟨s3, e3⟩ := step_rep (T := T) (n := n) (pc := 27) (pos := p + 7) (h := h) (om := true) (marks := marks.setIfInBounds 0 (some (p + 7))) (lm := 0) (li := -1) (frames := [Fb 5 p true p (-1) (-1)]) (wt := 1) (sn := s2) (w1 := 6) (P := notP) (by decide) (by decide) (by decide) (by decide) (by decide) notp_ok h7 hn (by decide)
    have g3 := Go.step e3
    generalize hc : cnt notP T (n - (p + 7)) (p + 7) = c at g3 ⊢
    have hcle : c ≤ n - (p + 7) := hc ▸ cnt_le _ _
    have g123 := g1'.trans (g2.trans g3)
    by_cases hq : p + 7 + c < n
    · rw [if_pos hq]
      have h41 : T.getD (p + 7 + c) 0 = 41 := by
        have := cnt_end (T := T) (P := notP) (n - (p + 7)) (p + 7) (by omega)
        rw [hc] at this
        unfold notP at this
        simpa using this
      obtain ⟨s4, e4⟩ := step_mark1 (T := T) (n := n) (pos := p + 7 + c) (h := p + 7 + c) (om := true) (marks := marks.setIfInBounds 0 (some (p + 7))) (li := -1) (frames := Fb 27 (p + 7 + c) true c 0 (-1) :: [Fb 5 p true p (-1) (-1)]) (wt := 2) (sn := s3)
      have g4 := Go.step e4
      have g5 := Go.step (step_lit (T := T) (n := n) (pc := 36) (pos := p + 7 + c) (h := p + 7 + c) (om := true) (marks := (marks.setIfInBounds 0 (some (p + 7))).setIfInBounds 1 (some (p + 7 + c))) (lm := 1) (li := 1) (frames := Fb 27 (p + 7 + c) true c 0 (-1) :: [Fb 5 p true p (-1) (-1)]) (wt := 2) (sn := s4) 41 (by decide) (by decide) (by decide))
      rw [if_pos ⟨hq, h41⟩] at g5
      obtain ⟨s6, e6⟩ := step_success (T := T) (n := n) (pos := p + 7 + c + 1) (h := p + 7 + c) (om := true) (marks := (marks.setIfInBounds 0 (some (p + 7))).setIfInBounds 1 (some (p + 7 + c))) (lm := 1) (li := 1) (frames := Fb 27 (p + 7 + c) true c 0 (-1) :: [Fb 5 p true p (-1) (-1)]) (wt := 2) (sn := s4.add 16)
      have g6 := Go.step e6
      have g7 := Go.step (step_yes (T := T) (n := n) (pc := 38) (pos := p + 7 + c + 1) (h := p + 7 + c + 1) (om := true) (marks := (marks.setIfInBounds 0 (some (p + 7))).setIfInBounds 1 (some (p + 7 + c))) (lm := 1) (li := 1) (frames := [Fb 5 p true p (-1) (-1)]) (wt := 1) (sn := s6) (fpc := 27) (fpos := p + 7 + c) (fom := true) (c := c) (klm := 0) (kli := -1))
      have g8 := Go.step (step_yes (T := T) (n := n) (pc := 27) (pos := p + 7 + c) (h := p + 7 + c + 1) (om := true) (marks := (marks.setIfInBounds 0 (some (p + 7))).setIfInBounds 1 (some (p + 7 + c))) (lm := 1) (li := 1) (frames := []) (wt := 0) (sn := s6) (fpc := 5) (fpos := p) (fom := true) (c := p) (klm := -1) (kli := -1))
      have g9 := Go.step (step_end (T := T) (n := n) (pc := 5) (pos := p) (h := p + 7 + c + 1) (om := true) (marks := (marks.setIfInBounds 0 (some (p + 7))).setIfInBounds 1 (some (p + 7 + c))) (lm := 1) (li := 1) (wt := 0) (sn := s6) true)
      refine ⟨_, (g123.trans (g4.trans (g5.trans (g6.trans (g7.trans (g8.trans g9)))))).weaken (by omega), ⟨rfl, ?_, ?_, rfl, rfl, rfl, rfl⟩⟩
      · show ((marks.setIfInBounds 0 (some (p + 7))).setIfInBounds 1 (some (p + 7 + c))).getD 0 none = _
        simp [Array.getD, hm]
      · show ((marks.setIfInBounds 0 (some (p + 7))).setIfInBounds 1 (some (p + 7 + c))).getD 1 none = _
        simp [Array.getD, hm]
    · rw [if_neg hq]
      obtain ⟨pc', pos', h', om', marks', lm', li', sn', hs, g4⟩ := inner_back (T := T) (n := n) (a := p + 7) (F := Fb 5 p true p (-1) (-1)) c (marks.setIfInBounds 0 (some (p + 7))) (p + 7 + c) (-1) s3 (by rw [Array.size_setIfInBounds]; exact hm) (fun j h1 h2 hj => by
        by_cases hjc : j < p + 7 + c
        · have := cnt_all (T := T) (P := notP) (n - (p + 7)) (p + 7) (j - (p + 7)) (by rw [hc]; omega)
          rw [show p + 7 + (j - (p + 7)) = j by omega, hj.2] at this
          unfold notP at this
          simp at this
        · omega)
      exact ⟨pc', pos', h', om', marks', lm', li', sn', hs, (g123.trans g4).weaken (by omega)⟩
  · rw [if_neg hl] at gl ⊢
    obtain ⟨pc', pos', s1, g1⟩ := gl
    exact ⟨_, _, _, _, _, _, _, _, hm, g1.weaken (by show 7 ≤ _; omega)⟩
theorem all_at : ∀ (p : Nat) (marks : Array (Option Nat)) (h : Nat) (sn : Seen), marks.size = 2 → p ≤ n → n < 4294967295 →
    match found T n p with
    | some (a, q) => ∃ m', Go ((p + 1) * (3 * n + 31)) (Sp T n p marks h sn) m' ∧ Done m' a q
    | none => ∃ m', Go ((p + 1) * (3 * n + 31) + 1) (Sp T n p marks h sn) m' ∧ m'.outcome = some .failed
  | 0, marks, h, sn, hm, hp, hn => by
    have t := try_at (T := T) (n := n) 0 marks h sn hm hp hn
    unfold found
    cases hs : scanAt T n 0 with
    | some r =>
      rw [hs] at t
      obtain ⟨m', g, d⟩ := t
      exact ⟨m', g.weaken (by omega), d⟩
    | none =>
      rw [hs] at t
      obtain ⟨pc', pos', h', om', marks', lm', li', sn', _, g⟩ := t
      have g2 := Go.step (step_no0 (T := T) (n := n) (pc := pc') (pos := pos') (h := h') (om := om') (marks := marks') (lm := lm') (li := li') (frames := []) (wt := 0) (sn := sn') (fpc := 5) (fpos := 0) (fom := true) (klm := -1) (kli := -1) (by decide))
      have g3 := Go.step (step_end (T := T) (n := n) (pc := 5) (pos := 0) (h := h') (om := true) (marks := marks') (lm := -1) (li := -1) (wt := 0) (sn := sn') false)
      exact ⟨_, (g.trans (g2.trans g3)).weaken (by omega), rfl⟩
  | p + 1, marks, h, sn, hm, hp, hn => by
    have t := try_at (T := T) (n := n) (p + 1) marks h sn hm hp hn
    unfold found
    cases hs : scanAt T n (p + 1) with
    | some r =>
      rw [hs] at t
      obtain ⟨m', g, d⟩ := t
      exact ⟨m', g.weaken (by rw [Nat.add_mul (p + 1) 1]; omega), d⟩
    | none =>
      rw [hs] at t
      obtain ⟨pc', pos', h', om', marks', lm', li', sn', hm', g⟩ := t
      have g2 := Go.step (step_no (T := T) (n := n) (pc := pc') (pos := pos') (h := h') (om := om') (marks := marks') (lm := lm') (li := li') (frames := []) (wt := 0) (sn := sn') (fpc := 5) (fpos := p) (w1 := 5) (c := p) (fom := true) (klm := -1) (kli := -1) (by decide) (by decide) (by decide))
      have ih := all_at p marks' p sn' hm' (by omega) hn
      have hb : (3 * n + 30) + (1 + (p + 1) * (3 * n + 31)) ≤ (p + 1 + 1) * (3 * n + 31) := by rw [Nat.add_mul (p + 1) 1]; omega
      dsimp only
      cases hf : found T n p with
      | some r =>
        rw [hf] at ih
        obtain ⟨m', g3, d⟩ := ih
        exact ⟨m', (g.trans (g2.trans g3)).weaken hb, d⟩
      | none =>
        rw [hf] at ih
        obtain ⟨m', g3, d⟩ := ih
        exact ⟨m', (g.trans (g2.trans g3)).weaken (by omega), d⟩
end
end Mine
end

section -- R2
open PySem PySem.W PyProof.Rows
set_option maxRecDepth 100000
namespace Mine
section
variable {M : Model} {A : Around} {E : Value → Shared → Prop} {s : Shared}
theorem drive_go {Q : Sre.M → Shared → Prop} : ∀ (turns B k : Nat) (m m' : Sre.M), k ≤ B → B < 4 * turns → Sre.M.runFor k m = m' → m'.outcome.isSome = true → Q m' s → wpAny M A (Builtin.Re.reDrive turns m) Q E s
  | 0, B, k, m, m', _, hb, _, _, _ => absurd hb (Nat.not_lt_zero _)
  | turns + 1, B, k, m, m', hk, hb, e, ho, hq => by
    unfold Builtin.Re.reDrive
    show wpAny M A (if (Sre.M.runFor 4 m).outcome.isSome = true then pure (Sre.M.runFor 4 m) else _) Q E s
    by_cases h4 : (Sre.M.runFor 4 m).outcome.isSome = true
    · rw [if_pos h4]
      have e2 : Sre.M.runFor 4 m = m' := by
        have h1 : Sre.M.runFor (4 + k) m = Sre.M.runFor 4 m := by rw [runFor_add, runFor_stop h4]
        have h2 : Sre.M.runFor (4 + k) m = m' := by rw [Nat.add_comm, runFor_add, e, runFor_stop ho]
        rw [← h1, h2]
      rw [e2]
      exact wpAny_pure hq
    · rw [if_neg h4]
      refine wpAny_bind (wpAny_rule ?_)
      have hk4 : 4 ≤ k := by
        false_or_by_contra
        rename_i hc
        have h2 : Sre.M.runFor (k + (4 - k)) m = m' := by rw [runFor_add, e, runFor_stop ho]
        rw [show k + (4 - k) = 4 by omega] at h2
        rw [h2] at h4
        exact h4 ho
      have e3 : Sre.M.runFor (k - 4) (Sre.M.runFor 4 m) = m' := by rw [← runFor_add, show 4 + (k - 4) = k by omega, e]
      exact drive_go turns (B - 4) (k - 4) _ m' (by omega) (by omega) e3 ho hq
theorem rules_go {Q : PUnit → Shared → Prop} {f : Nat → PUnit → Sem (ForInStep PUnit)} (hf : ∀ i s (P : ForInStep PUnit → Shared → Prop), P (.yield ⟨⟩) s → wpAny M A (f i ⟨⟩) P E s) (l : List Nat) (h : Q ⟨⟩ s) : wpAny M A (forIn l PUnit.unit f) Q E s := by
  refine wpAny_forIn_list f (fun _ _ s' => s' = s) Q ?_ ?_ l _ rfl
  · rintro x rest b s' rfl
    exact hf x s' _ rfl
  · rintro b s' rfl
    exact h
theorem run_end {B : Nat} {m m' : Sre.M} {Q : Option Sre.M → Shared → Prop} (g : Go B m m') (hB : B < 4 * 2 ^ 64) (ho : m'.outcome = some .matched ∨ m'.outcome = some .failed)
    (h : Q (if m'.outcome matches some .matched then some m' else none) s) : wpAny M A (Builtin.Re.reRunToEnd m) Q E s := by
  obtain ⟨k, hk, e⟩ := g
  unfold Builtin.Re.reRunToEnd
  refine wpAny_bind (drive_go (2 ^ 64) B k m m' hk hB e (by rcases ho with ho | ho <;> rw [ho] <;> rfl) ?_)
  refine wpAny_bind (rules_go (fun i s P hp => ?_) _ ?_)
  · split
    · exact wpAny_bind (wpAny_rule (wpAny_pure hp))
    · exact wpAny_pure hp
  · rcases ho with ho | ho
    · rw [ho] at h ⊢; exact wpAny_pure h
    · rw [ho] at h ⊢; exact wpAny_pure h
end
end Mine
end

section -- R3
open PySem PySem.W PyProof.Rows
set_option maxRecDepth 100000
namespace Mine
theorem cnt_full {P : Nat → Bool} {T : Array Nat} : ∀ k p, (∀ i, p ≤ i → i < p + k → P (T.getD i 0) = true) → cnt P T k p = k
  | 0, _, _ => rfl
  | k + 1, p, h => by
    unfold cnt
    rw [if_pos (h p (Nat.le_refl _) (by omega)), cnt_full k (p + 1) (fun i h1 h2 => h i (by omega) (by omega))]
def matchOf (T : Array Nat) : Option (Nat × Nat) := if T.size < 8 then none else found T T.size T.size
theorem start_short {T : Array Nat} {n : Nat} (h : n < 8) : Sre.forMatch Cc T 1 0 n false false = mkM T n 5 0 0 true #[none, none] (-1) (-1) [] 0 (some false) (({} : Sre.Seen).add 14) := by
  unfold Sre.forMatch
  refine (if_pos ?_).trans rfl
  have h1 : (Sre.header Cc).1 = 8 := rfl
  rw [h1]
  simp
  omega
theorem start_long {T : Array Nat} {n : Nat} (h : ¬ n < 8) : Sre.forMatch Cc T 1 0 n false false = mkM T n 5 0 0 true #[none, none] (-1) (-1) [] 0 none (({} : Sre.Seen).add 14) := by
  unfold Sre.forMatch
  refine (if_neg ?_).trans rfl
  have h1 : (Sre.header Cc).1 = 8 := rfl
  rw [h1]
  simp
  omega
theorem whole_go {T : Array Nat} (hn : T.size ≤ 4096) (hl : ∀ i, i < T.size → T.getD i 0 ≠ 10) :
    match matchOf T with
    | some (a, q) => ∃ B m', Go B (Sre.forMatch Cc T 1 0 T.size false false) m' ∧ B < 4 * 2 ^ 64 ∧ Done m' a q
    | none => ∃ B m', Go B (Sre.forMatch Cc T 1 0 T.size false false) m' ∧ B < 4 * 2 ^ 64 ∧ m'.outcome = some .failed := by
  unfold matchOf
  by_cases h8 : T.size < 8
  · rw [if_pos h8]
    rw [start_short h8]
    exact ⟨1, _, Go.step (step_end false), by decide, rfl⟩
  · rw [if_neg h8, start_long h8]
    obtain ⟨s1, e1⟩ := step_rep (T := T) (n := T.size) (pc := 5) (pos := 0) (h := 0) (om := true) (marks := #[none, none]) (lm := -1) (li := -1) (frames := []) (wt := 0) (sn := ({} : Sre.Seen).add 14) (w1 := 5) (P := fun c => c != 10) (by decide) (by decide) (by decide) (by decide) (by decide) any_ok (Nat.zero_le _) (by omega) (by decide)
    have hc : cnt (fun c => c != 10) T (T.size - 0) 0 = T.size := by
      rw [Nat.sub_zero]
      exact cnt_full _ _ (fun i _ h2 => by simpa using hl i (by omega))
    rw [hc, Nat.zero_add] at e1
    have g1 := Go.step e1
    have ih := all_at (T := T) (n := T.size) T.size #[none, none] T.size s1 rfl (Nat.le_refl _) (by omega)
    have hb : (T.size + 1) * (3 * T.size + 31) ≤ 4097 * 12319 := Nat.mul_le_mul (by omega) (by omega)
    cases hf : found T T.size T.size with
    | some r =>
      rw [hf] at ih
      obtain ⟨m', g, d⟩ := ih
      exact ⟨_, m', g1.trans g, by omega, d⟩
    | none =>
      rw [hf] at ih
      obtain ⟨m', g, d⟩ := ih
      exact ⟨_, m', g1.trans g, by omega, d⟩
end Mine
end

section -- R4
open PySem PySem.W PyProof.Rows
set_option maxRecDepth 100000
namespace Mine
theorem plainAttrs_rp : PlainAttrs "re.Pattern" :=
  ⟨⟨"object.__getattribute__", by rw [typeLookup_type, builtinLookup_eq_fast]; kernel_rfl, by decide +kernel⟩, by rw [typeLookup_type, builtinLookup_eq_fast]; kernel_rfl⟩
theorem owner_rp : Manifest.owners.lookup (String.ofList ['n', 'r', 'e', 't', 't', 'a', 'P', '.', 'e', 'r'].reverse) = some Manifest.sig_re_Pattern := by kernel_rfl
theorem slot_rp_match : Slot "re.Pattern" "match" "re.Pattern.match" :=
  .of (owner := "re.Pattern") (n := "match") (by rw [typeLookup_type, builtinLookup_eq_fast]; kernel_rfl) (by decide +kernel) (by decide +kernel) (by decide +kernel)
    (by first | exact .inl (by decide +kernel) | exact .inr (by decide +kernel)) (by rw [isSubtype_type]; kernel_rfl)
theorem type_rp_match : typeOf (.builtin "re.Pattern.match") = pure (.type "method_descriptor") := by show builtinType _ = _; rw [builtinType_eq_fast]; kernel_rfl
theorem entry_rp_match : entryFor table "re.Pattern.match" = some Builtin.«re.Pattern.match» := entryFor_of_tree (by kernel_rfl)
theorem args_rp_match_2 (a b : Value) : argsOk "re.Pattern.match" ⟨[a, b], []⟩ := by
  unfold argsOk; rw [signature?_of (id := "re.Pattern.match") (n := ['h', 'c', 't', 'a', 'm']) (o := ['n', 'r', 'e', 't', 't', 'a', 'P', '.', 'e', 'r']) (by kernel_rfl) owner_rp]; kernel_rfl
theorem plainAttrs_rm : PlainAttrs "re.Match" :=
  ⟨⟨"object.__getattribute__", by rw [typeLookup_type, builtinLookup_eq_fast]; kernel_rfl, by decide +kernel⟩, by rw [typeLookup_type, builtinLookup_eq_fast]; kernel_rfl⟩
theorem owner_rm : Manifest.owners.lookup (String.ofList ['h', 'c', 't', 'a', 'M', '.', 'e', 'r'].reverse) = some Manifest.sig_re_Match := by kernel_rfl
theorem slot_rm_group : Slot "re.Match" "group" "re.Match.group" :=
  .of (owner := "re.Match") (n := "group") (by rw [typeLookup_type, builtinLookup_eq_fast]; kernel_rfl) (by decide +kernel) (by decide +kernel) (by decide +kernel)
    (by first | exact .inl (by decide +kernel) | exact .inr (by decide +kernel)) (by rw [isSubtype_type]; kernel_rfl)
theorem type_rm_group : typeOf (.builtin "re.Match.group") = pure (.type "method_descriptor") := by show builtinType _ = _; rw [builtinType_eq_fast]; kernel_rfl
theorem entry_rm_group : entryFor table "re.Match.group" = some Builtin.«re.Match.group» := entryFor_of_tree (by kernel_rfl)
theorem args_rm_group_2 (a b : Value) : argsOk "re.Match.group" ⟨[a, b], []⟩ := by
  unfold argsOk; rw [signature?_of (id := "re.Match.group") (n := ['p', 'u', 'o', 'r', 'g']) (o := ['h', 'c', 't', 'a', 'M', '.', 'e', 'r']) (by kernel_rfl) owner_rm]; kernel_rfl
theorem slot_b_split : Slot "bytes" "split" "bytes.split" :=
  .of (owner := "bytes") (n := "split") (by rw [typeLookup_type, builtinLookup_eq_fast]; kernel_rfl) (by decide +kernel) (by decide +kernel) (by decide +kernel)
    (by first | exact .inl (by decide +kernel) | exact .inr (by decide +kernel)) (by rw [isSubtype_type]; kernel_rfl)
theorem type_b_split : typeOf (.builtin "bytes.split") = pure (.type "method_descriptor") := by show builtinType _ = _; rw [builtinType_eq_fast]; kernel_rfl
theorem entry_b_split : entryFor table "bytes.split" = some Builtin.«bytes.split» := entryFor_of_tree (by kernel_rfl)
theorem args_b_split_1 (a : Value) : argsOk "bytes.split" ⟨[a], []⟩ := by
  unfold argsOk; rw [signature?_of (id := "bytes.split") (n := ['t', 'i', 'l', 'p', 's']) (o := ['s', 'e', 't', 'y', 'b']) (by kernel_rfl) FB.owner_bytes]; kernel_rfl
theorem targ_args (v : Value) : Builtin.Re.reNamed "re.Pattern.match" "match" ["string", "pos", "endpos"] 1 [v] [] = pure [some v, none, none] := by rfl
end Mine
end

section -- R5
open PySem PySem.W PyProof.Rows
set_option maxRecDepth 100000
namespace Mine
def codeVals : Array Value := Cc.map fun (n : Nat) => Value.int (n : Int) 0
abbrev textOf (b : Array UInt8) : Array Nat := b.map (·.toNat)
abbrev spanObj (a q : Nat) : Obj := { cls := .type "tuple", data := .seq #[.int 0 0, .int (q + 1 : Nat) 0, .int a 0, .int q 0] }
abbrev matchObj (P : Addr) (b : Array UInt8) (t : Tok) (sp : Addr) : Obj := { cls := .type "re.Match", data := .fields #[.bytes b t, .ref P, .int 0 0, .int b.size 0, .int 1 0, .ref sp] }
theorem scan_le {T : Array Nat} {n p a q : Nat} (h : scanAt T n p = some (a, q)) : a ≤ q := by
  unfold scanAt at h
  split at h
  · split at h
    · injection h with h; injection h with h1 h2; omega
    · cases h
  · cases h
theorem found_le' {T : Array Nat} {n a q : Nat} : ∀ {p}, found T n p = some (a, q) → a ≤ q
  | 0, h => scan_le h
  | p + 1, h => by
    unfold found at h
    cases hs : scanAt T n (p + 1) with
    | some r => rw [hs] at h; obtain rfl : r = (a, q) := Option.some.inj h; exact scan_le hs
    | none => rw [hs] at h; exact found_le' h
theorem found_le {T : Array Nat} {a q : Nat} (h : matchOf T = some (a, q)) : a ≤ q := by
  unfold matchOf at h
  split at h
  · cases h
  · exact found_le' h
section
variable {M : Model} {A : Around} {E : Value → Shared → Prop} {s : Shared} {P C G N : Addr} {b : Array UInt8} {t : Tok}
theorem text_eq : Builtin.Re.reTextOf (.bytes b t) = pure (textOf b, 1) := by
  unfold Builtin.Re.reTextOf
  show ((notAStandIn (.bytes b t) >>= fun _ => pure none) >>= fun r => _) = _
  simp only [notAStandIn, pure_bind]
  rw [KBy.quiet_eq]
  rfl
theorem items_ok {Q : Array Int → Shared → Prop} {oC : Obj} {xs : Array Value} {k : Nat} (hC : s.heap.get? C = some oC) (hd : oC.data = .seq xs k) (h : Q (xs.map Builtin.Re.reRawOf) s) : wpAny M A (Builtin.Re.reRawItems (.ref C)) Q E s := by
  unfold Builtin.Re.reRawItems
  exact wpAny_bind (wpAny_seqItems hC hd (wpAny_pure h))
theorem code_raw : (codeVals.map Builtin.Re.reRawOf).map (·.toNat) = Cc := by decide +kernel
theorem target_ok {Q : Builtin.Re.ReTarget → Shared → Prop} {oP oC : Obj} {pat fl : Value} {t2 t6 : Tok} (hP : s.heap.get? P = some oP) (hd : oP.data = .fields #[pat, fl, .int 1 t2, .ref G, .ref N, .ref C, .int 1 t6])
    (hC : s.heap.get? C = some oC) (hdC : oC.data = .seq codeVals 0) (hb : b.size ≤ 4096)
    (h : Q { pattern := .ref P, string := .bytes b t, code := Cc, text := textOf b, kind := 1, groups := 1, pos := 0, lim := b.size } s) :
    wpAny M A (Builtin.Re.reTarget "re.Pattern.match" "match" ⟨[.ref P, .bytes b t], []⟩) Q E s := by
  unfold Builtin.Re.reTarget
  dsimp only
  refine wpAny_bind (wpAny_of_eq (targ_args _) ?_)
  dsimp only
  refine wpAny_bind (wpAny_pure ?_)
  refine wpAny_bind (wpAny_pure ?_)
  refine wpAny_bind (wpAny_fieldsOf hP hd ?_)
  refine wpAny_bind (wpAny_of_eq text_eq ?_)
  show wpAny M A (Builtin.Re.reNoCollectionInside (.bytes b t) 1 >>= fun _ => Builtin.Re.reRawItems (.ref C) >>= fun xs => pure ({ pattern := .ref P, string := .bytes b t, code := xs.map (·.toNat), text := textOf b, kind := 1, groups := 1, pos := min (Int.toNat 0) (textOf b).size, lim := min ((2 : Int) ^ 63 - 1).toNat (textOf b).size } : Builtin.Re.ReTarget)) Q E s
  have hno : Builtin.Re.reNoCollectionInside (.bytes b t) 1 = pure () := by
    unfold Builtin.Re.reNoCollectionInside
    rw [KBy.isInstance_eq]
    rfl
  refine wpAny_bind (wpAny_of_eq hno ?_)
  refine wpAny_bind (items_ok hC hdC (wpAny_pure ?_))
  have hz : (textOf b).size = b.size := Array.size_map
  have hm : min ((2 : Int) ^ 63 - 1).toNat (textOf b).size = b.size := by rw [hz]; omega
  have h0 : min (Int.toNat 0) (textOf b).size = 0 := Nat.zero_min _
  rw [code_raw, hm, h0]
  exact h
theorem newMatch_ok {Q : Value → Shared → Prop} {a q : Nat} {m : Sre.M} (d : Done m a q) (haq : a ≤ q)
    (h : Q (.ref (s.heap.push (spanObj a q)).objs.size) { s with heap := (s.heap.push (spanObj a q)).push (matchObj P b t s.heap.objs.size) }) :
    wpAny M A (Builtin.Re.reNewMatch (.ref P) (.bytes b t) 1 0 b.size m) Q E s := by
  unfold Builtin.Re.reNewMatch
  have hr : List.range 1 = [0] := rfl
  have h1 : ((1 : Nat) : Int) ≤ 1 := by decide
  have hq : ¬ q < a := by omega
  simp only [hr, List.flatMap_cons, List.flatMap_nil, List.any_cons, List.any_nil, Nat.mul_zero, Nat.zero_add, d.lm, d.m0, d.m1, d.li, d.start, d.handed, List.append_nil, Bool.or_false, if_pos h1, decide_eq_false hq, Bool.and_false, Bool.false_eq_true, if_false]
  refine wpAny_bind (wpAny_newTuple ?_ (by show 4 ≤ sizeLine; rw [sizeLine_eq]; decide))
  unfold newFields
  refine wpAny_newObj_type ?_
  exact h
/-- what match answers, told to the one who asked -/
theorem match_ok {Q : Fin → Shared → Prop} {oP oC : Obj} {pat fl : Value} {t2 t6 : Tok} (hP : s.heap.get? P = some oP) (hd : oP.data = .fields #[pat, fl, .int 1 t2, .ref G, .ref N, .ref C, .int 1 t6])
    (hC : s.heap.get? C = some oC) (hdC : oC.data = .seq codeVals 0) (hb : b.size ≤ 4096) (hl : ∀ i, i < (textOf b).size → (textOf b).getD i 0 ≠ 10)
    (hno : matchOf (textOf b) = none → Q (.done (.ret .none)) s)
    (hyes : ∀ a q, matchOf (textOf b) = some (a, q) → Q (.done (.ret (.ref (s.heap.push (spanObj a q)).objs.size))) { s with heap := (s.heap.push (spanObj a q)).push (matchObj P b t s.heap.objs.size) }) :
    wpAny M A (Builtin.«re.Pattern.match» ⟨[.ref P, .bytes b t], []⟩) Q E s := by
  unfold Builtin.«re.Pattern.match»
  refine wpAny_bind (target_ok hP hd hC hdC hb ?_)
  dsimp only
  unfold Builtin.Re.reAnswer
  dsimp only
  have hz : (textOf b).size = b.size := Array.size_map
  have g := whole_go (T := textOf b) (by omega) hl
  rw [hz] at g
  cases hm : matchOf (textOf b) with
  | none =>
    rw [hm] at g
    obtain ⟨B, m', g, hB, ho⟩ := g
    refine wpAny_bind (run_end g hB (.inr ho) ?_)
    rw [ho]
    exact wpAny_pure (hno hm)
  | some r =>
    obtain ⟨a, q⟩ := r
    rw [hm] at g
    obtain ⟨B, m', g, hB, d⟩ := g
    refine wpAny_bind (run_end g hB (.inl d.out) ?_)
    rw [d.out]
    have haq : a ≤ q := found_le hm
    exact wpAny_bind (newMatch_ok d haq (wpAny_pure (hyes a q hm)))
end
end Mine
end

section -- R6
open PySem PySem.W PyProof.Rows
set_option maxRecDepth 100000
namespace Mine
section
variable {prog : Program} {w : World} {A : Around} {E : Value → Shared → Prop} {s : Shared} {P C G N Mo sp : Addr} {b : Array UInt8} {t tk : Tok} {a q : Nat}
theorem extract_text (h : q ≤ b.size) : ((textOf b).extract a q).map (·.toUInt8) = b.extract a q := by
  apply Array.toList_inj.mp
  simp [Array.toList_extract]
  congr 2
  have e : ((fun x => UInt8.ofNat x) ∘ fun (x : UInt8) => x.toNat) = id := by funext x; simp
  rw [e, List.map_id]
theorem special_str (x : Str) : specialOf (.str x tk) "__index__" = pure none := by
  have e : specialOf (.str x tk) "__index__" = typeLookup (.type "str") "__index__" := rfl
  rw [e, KIN.str_idx]
theorem group_ok {Q : Fin → Shared → Prop} {oP : Obj} {pat fl : Value} {t2 t6 t1 : Tok} {f : Str → Option Value} (ho : s.heap.get? Mo = some (matchObj P b t sp)) (hs : s.heap.get? sp = some (spanObj a q)) (hP : s.heap.get? P = some oP) (hd : oP.data = .fields #[pat, fl, .int 1 t2, .ref G, .ref N, .ref C, .int 1 t6])
    (hG : s.heap.MapOf (strKind prog w) G f) (hf : f (Str.ofString "flags") = some (.int 1 t1)) (hb : b.size ≤ 4096) (hq : q ≤ b.size)
    (h : ∀ t' k, Q (.done (.ret (.bytes (b.extract a q) t'))) { s with toks := k }) :
    wpAny (model prog w) A (Builtin.«re.Match.group» ⟨[.ref Mo, .str (Str.ofString "flags") tk], []⟩) Q E s := by
  unfold Builtin.«re.Match.group»
  have hk : noKeywords "Match.group" ⟨[.ref Mo, .str (Str.ofString "flags") tk], []⟩ = pure () := rfl
  refine wpAny_bind (wpAny_of_eq hk ?_)
  dsimp only
  unfold Builtin.Re.reFound
  refine wpAny_bind (wpAny_bind (wpAny_fieldsOf ho rfl ?_))
  show wpAny _ _ (Builtin.Re.reRawItems (.ref sp) >>= _) _ _ _
  refine wpAny_bind (items_ok hs rfl (wpAny_pure ?_))
  unfold Builtin.Re.reGroupNumber
  refine wpAny_bind (wpAny_bind (wpAny_of_eq (show asInt? (.str (Str.ofString "flags") tk) = pure none from rfl) ?_))
  simp only [Option.isSome_none, Bool.false_eq_true, if_false]
  refine wpAny_bind (wpAny_of_eq (special_str _) ?_)
  simp only [Option.isSome_none, Bool.false_eq_true, if_false]
  refine wpAny_bind (wpAny_fieldsOf hP hd ?_)
  show wpAny _ _ (dictGet G _ >>= _) _ _ _
  refine wpAny_bind (wpAny_dictGet_of (PySem.strKind_is prog w (Str.ofString "flags") tk) hG ?_)
  rw [hf]
  refine wpAny_bind (wpAny_of_eq (show asInt? (.int 1 t1) = pure (some 1) from rfl) ?_)
  refine wpAny_bind (wpAny_pure ?_)
  rw [if_neg (show ¬ (decide ((some (1 : Int)).getD (-1) < 0) || decide (2 * (some (1 : Int)).getD (-1) ≥ ((Array.map Builtin.Re.reRawOf #[Value.int 0 0, Value.int ((q + 1 : Nat) : Int) 0, Value.int (a : Int) 0, Value.int (q : Int) 0]).size : Int))) = true from by
    rw [Array.size_map]
    show ¬ (decide ((1 : Int) < 0) || decide (2 * (1 : Int) ≥ ((4 : Nat) : Int))) = true
    decide)]
  refine wpAny_pure ?_
  refine wpAny_bind ?_
  have hgt : Builtin.Re.reGroupText { fields := #[Value.bytes b t, Value.ref P, Value.int 0 0, Value.int (b.size : Int) 0, Value.int 1 0, Value.ref sp], spans := Array.map Builtin.Re.reRawOf #[Value.int 0 0, Value.int ((q + 1 : Nat) : Int) 0, Value.int (a : Int) 0, Value.int (q : Int) 0] } ((some (1 : Int)).getD (-1)).toNat Value.none = (if ((a : Int) < 0 || (q : Int) < 0) = true then pure .none else Builtin.Re.reTextOf (.bytes b t) >>= fun r => Builtin.Re.reSlice r.1 r.2 (a : Int).toNat (q : Int).toNat) := by
    unfold Builtin.Re.reGroupText
    simp [Builtin.Re.reRawOf]
  rw [hgt]
  show wpAny _ _ (if (((a : Int) < 0 || (q : Int) < 0) = true) then pure .none else Builtin.Re.reTextOf (.bytes b t) >>= fun r => Builtin.Re.reSlice r.1 r.2 (a : Int).toNat (q : Int).toNat) _ _ _
  rw [if_neg (by simp)]
  refine wpAny_bind (wpAny_of_eq text_eq ?_)
  show wpAny _ _ (mkBytes (((textOf b).extract a q).map (·.toUInt8))) _ _ _
  rw [extract_text hq]
  refine wpAny_mkBytes ?_ ?_
  · exact wpAny_pure (h _ _)
  · rw [sizeLine_eq, Array.size_extract]; omega
end
end Mine
end

section -- R7
open PySem PySem.W PyProof.Rows
set_option maxRecDepth 100000
namespace Mine
open Builtin.Bytes in
def wordsB (b : Array UInt8) : List (Array UInt8) := (words (b.size + 1) (b.size + 1) b.toList).map (·.toArray)
abbrev Vb (ws : List (Array UInt8 × Tok)) : List Value := ws.map fun p => Value.bytes p.1 p.2
section
variable {M : Model} {A : Around} {E : Value → Shared → Prop}
theorem mapM_bytes : ∀ (ws : List (List UInt8)) (s : Shared) (Q : List Value → Shared → Prop), (∀ x ∈ ws, x.length ≤ 4096) →
    (∀ (vs : List (Array UInt8 × Tok)) k, vs.map (·.1) = ws.map (·.toArray) → Q (Vb vs) { s with toks := k }) → wpAny M A (ws.mapM fun w => Builtin.Bytes.Kind.new .bytes w.toArray) Q E s
  | [], s, Q, _, h => by
    rw [List.mapM_nil]
    exact wpAny_pure (h [] s.toks rfl)
  | x :: r, s, Q, hx, h => by
    rw [List.mapM_cons]
    refine wpAny_bind ?_
    show wpAny _ _ (mkBytes x.toArray) _ _ _
    refine wpAny_mkBytes ?_ (by rw [sizeLine_eq, List.size_toArray]; have := hx x (.head _); omega)
    refine wpAny_bind (mapM_bytes r _ _ (fun y hy => hx y (.tail _ hy)) (fun vs k e => ?_))
    refine wpAny_pure ?_
    exact h ((x.toArray, s.toks) :: vs) k (by rw [List.map_cons, e]; rfl)
theorem words_len : ∀ (f l : Nat) (x : List UInt8), ∀ y ∈ Builtin.Bytes.words f l x, y.length ≤ x.length
  | 0, _, _, y, hy => by cases hy
  | f + 1, l, x, y, hy => by
    unfold Builtin.Bytes.words at hy
    have hd : (x.dropWhile Builtin.Bytes.isSpace).length ≤ x.length := (List.dropWhile_sublist _).length_le
    split at hy
    · cases hy
    · split at hy
      · rw [List.mem_singleton.mp hy]; exact hd
      · rcases List.mem_cons.mp hy with rfl | hy
        · exact Nat.le_trans (List.takeWhile_sublist _).length_le hd
        · have := words_len f (l - 1) _ y hy
          exact Nat.le_trans this (Nat.le_trans (List.dropWhile_sublist _).length_le hd)
theorem words_count : ∀ (f l : Nat) (x : List UInt8), (Builtin.Bytes.words f l x).length ≤ f
  | 0, _, _ => Nat.le_refl _
  | f + 1, l, x => by
    unfold Builtin.Bytes.words
    split
    · exact Nat.zero_le _
    · split
      · exact Nat.le_add_left _ _
      · exact Nat.succ_le_succ (words_count f _ _)
theorem split_ok {s : Shared} {b : Array UInt8} {t : Tok} {Q : Fin → Shared → Prop} (hb : b.size ≤ 4096) (hw : b.isEmpty = false → b.any Builtin.Bytes.isSpace = false → wordsB b = [b])
    (h : ∀ (vs : List (Array UInt8 × Tok)) k, vs.map (·.1) = wordsB b → vs.length ≤ 4097 → Q (.done (.ret (.ref s.heap.objs.size))) { s with heap := s.heap.push { cls := .type "list", data := .seq (Vb vs).toArray }, toks := k }) :
    wpAny M A (Builtin.«bytes.split» ⟨[.bytes b t], []⟩) Q E s := by
  unfold Builtin.«bytes.split» Builtin.Bytes.splitM
  dsimp only
  refine wpAny_bind (wpAny_of_eq (show Builtin.Bytes.bindOptional _ "split" ["sep", "maxsplit"] [] [] = pure [none, none] from rfl) ?_)
  dsimp only
  refine wpAny_bind (wpAny_pure ?_)
  refine wpAny_bind (wpAny_of_eq (show Builtin.Bytes.payload (.bytes b t) = pure b from rfl) ?_)
  have hl : (if (-1 : Int) < 0 then b.size + 1 else Int.toNat (-1)) = b.size + 1 := if_pos (by decide)
  rw [hl]
  refine wpAny_bind (wpAny_rule ?_)
  by_cases hc : (decide (b.size + 1 > 0) && !b.isEmpty && !b.any Builtin.Bytes.isSpace) = true
  · rw [if_pos hc]
    simp only [Bool.and_eq_true, decide_eq_true_eq, Bool.not_eq_true'] at hc
    refine wpAny_bind (wpAny_of_eq (show Builtin.Bytes.Kind.same .bytes (.bytes b t) = pure (.bytes b t) from rfl) ?_)
    refine wpAny_bind (wpAny_newList ?_ (by rw [sizeLine_eq]; show 1 ≤ 16777216; decide))
    exact wpAny_pure (h [(b, t)] s.toks (by rw [hw hc.1.2 hc.2]; rfl) (show 1 ≤ 4097 by decide))
  · rw [if_neg hc, if_neg (show ¬ false = true by decide)]
    refine wpAny_bind (mapM_bytes _ s _ (fun x hx => Nat.le_trans (words_len _ _ _ x hx) (by rw [Array.length_toList]; exact hb)) (fun vs k e => ?_))
    have hv : vs.length ≤ 4097 := by
      have h1 := congrArg List.length e
      rw [List.length_map, List.length_map] at h1
      have := words_count (b.size + 1) (b.size + 1) b.toList
      omega
    refine wpAny_bind (wpAny_newList ?_ (by rw [sizeLine_eq, List.length_map]; omega))
    exact wpAny_pure (h vs k e hv)
end
end Mine
end

section -- R8
open PySem PySem.W PyProof.Rows
set_option maxRecDepth 100000
namespace Mine
section
variable {prog : Program} {w : World} {A : Around} {E : Value → Shared → Prop} {s : Shared}
theorem call_slot {T : String} {name : Str} {id : String} {B : Builtin} {self : Value} {rest : List Value} {Q : Value → Shared → Prop} (slot : Slot T name id) (hT : s.TypeIs self T)
    (entry : entryFor table id = some B) (args : argsOk id ⟨self :: rest, []⟩)
    (h : wpAny (model prog w) A.in1 (B ⟨self :: rest, []⟩) (fun fin s' => match fin with | .done f => wants Q E (.ok f) s' | .again c' => c'.quiet = true ∧ codeAny (model prog w) A c' (wants Q E) s') (fun e s' => wants Q E (.error e) s') s) :
    wpAny (model prog w) A (call (.builtin id) (self :: rest)) Q E s :=
  wpAny_call (codeAny_call_builtin slot.plain entry (slot.check _ _ _ _ _ _ _ _ hT args h))
end
/-- the pattern and its code, as K has them -/
structure PatK (w : World) (h : Heap) : Prop where
  pat : ∃ o pat fl t2 t6, h.get? 36 = some o ∧ o.cls = .type "re.Pattern" ∧ o.dict = none ∧ o.data = .fields #[pat, fl, .int 1 t2, .ref 33, .ref 34, .ref 35, .int 1 t6]
  code : ∃ o, h.get? 35 = some o ∧ o.data = .seq codeVals 0
theorem look36 {w : World} : (hd.heap_39 w.params).lookup 36 = some { cls := .type "re.Pattern", dict := none, data := .fields #[.bytes #[46, 42, 70, 76, 65, 71, 83, 32, 92, 40, 40, 63, 80, 60, 102, 108, 97, 103, 115, 62, 91, 94, 92, 41, 93, 42, 41, 92, 41] 285, .int 0 331, .int 1 0, .ref 33, .ref 34, .ref 35, .int 1 0], slots := #[] } := by with_unfolding_all rfl
theorem look35 {w : World} : (hd.heap_39 w.params).lookup 35 = some { cls := .type "tuple", dict := none, data := .seq codeVals 0, slots := #[] } := by with_unfolding_all rfl
theorem look33 {w : World} : (hd.heap_39 w.params).lookup 33 = some { cls := .type "dict", dict := none, data := .dict #[{ hash := PyData.keyHash w.params (Str.ofString "flags"), key := .str (Str.ofString "flags") 327, val := .int 1 328 }] 1, slots := #[] } := by with_unfolding_all rfl
theorem patK {w : World} {h : Heap} (X : (hd.heap_39 w.params).In h) : PatK w h := by
  exact ⟨⟨_, _, _, _, _, X 36 _ look36, rfl, rfl, rfl⟩, ⟨_, X 35 _ look35, rfl⟩⟩
theorem dictK {prog : Program} {w : World} {h : Heap} (X : (hd.heap_39 w.params).In h) : ∃ f, h.MapOf (PySem.strKind prog w) 33 f ∧ f (Str.ofString "flags") = some (.int 1 328) := by
  refine ⟨_, mapOf_K (prog := prog) X look33 ?_, ?_⟩
  · k_keys
  · rfl
end Mine
end

section -- R9
open PySem PySem.W PyProof.Rows
set_option maxRecDepth 100000
namespace Mine
inductive MatchIs (b : Array UInt8) : Option (Nat × Nat) → Prop
  | intro : MatchIs b (matchOf (textOf b))
inductive WordsIs (b : Array UInt8) (a q : Nat) : List (Array UInt8) → Prop
  | intro : WordsIs b a q (wordsB (b.extract a q))
section
variable {prog : Program} {w : World} {A : Around} {E : Value → Shared → Prop} {s : Shared} {h₀ : Heap} {L : Addr} {m : Str → Option Value} {news : List (Addr × Obj)} {b : Array UInt8} {t : Tok} {sp Mo : Addr} {a q : Nat}
theorem gm_match {pl : Sem Bool} {Q : Value × List Value → Shared → Prop} (F : Fr h₀ L s.heap m) (X : (hd.heap_39 w.params).In h₀) (h : Q (.builtin "re.Pattern.match", [.ref 36]) s) :
    wpAny (model prog w) A (getMethod (.ref 36) (Str.ofString "match") pl) Q E s := by
  obtain ⟨⟨o, _, _, _, _, ho, hc, hd, _⟩, _⟩ := patK (X.keeps F.keep)
  exact getMethod_builtin ⟨o, ho, hc⟩ plainAttrs_rp slot_rp_match type_rp_match (fun a e => by cases e; exact ⟨o, ho, hd⟩) h
theorem call_match {Q : Value → Shared → Prop} (F : Fr h₀ L s.heap m) (N : News h₀ L s.heap news) (X : (hd.heap_39 w.params).In h₀) (hb : b.size ≤ 4096) (hl : ∀ i, i < (textOf b).size → (textOf b).getD i 0 ≠ 10)
    (hno : MatchIs b none → Q .none s)
    (hyes : ∀ a q sp mo h', MatchIs b (some (a, q)) → Fr h₀ L h' m → News h₀ L h' ((mo, matchObj 36 b t sp) :: (sp, spanObj a q) :: news) → (∀ p ∈ news, p.1 < sp) → @LT.lt Nat _ sp mo → Q (.ref mo) { s with heap := h' }) :
    wpAny (model prog w) A (call (.builtin "re.Pattern.match") [.ref 36, .bytes b t]) Q E s := by
  obtain ⟨⟨o, _, _, _, _, ho, hc, hd, hf⟩, ⟨oC, hoC, hdC⟩⟩ := patK (X.keeps F.keep)
  refine call_slot slot_rp_match ⟨o, ho, hc⟩ entry_rp_match (args_rp_match_2 _ _) (match_ok ho hf hoC hdC hb hl (fun e => ?_) fun a q e => ?_)
  · exact hno (by rw [← e]; exact .intro)
  · refine hyes a q s.heap.objs.size _ _ (by rw [← e]; exact .intro) ((F.push _).push _) ?_ (fun p hp => Heap.lt_size (N p hp).1) (by rw [Heap.size_push]; exact Nat.lt_succ_self _)
    exact News.push (F.push _) (News.push F N (spanObj a q)) (matchObj 36 b t s.heap.objs.size)
theorem gm_group {pl : Sem Bool} {Q : Value × List Value → Shared → Prop} (N : News h₀ L s.heap news) (hm : (Mo, matchObj 36 b t sp) ∈ news) (h : Q (.builtin "re.Match.group", [.ref Mo]) s) :
    wpAny (model prog w) A (getMethod (.ref Mo) (Str.ofString "group") pl) Q E s := by
  have ho := (N _ hm).1
  exact getMethod_builtin ⟨_, ho, rfl⟩ plainAttrs_rm slot_rm_group type_rm_group (fun a e => by cases e; exact ⟨_, ho, rfl⟩) h
theorem call_group {Q : Value → Shared → Prop} {tk : Tok} (F : Fr h₀ L s.heap m) (N : News h₀ L s.heap news) (X : (hd.heap_39 w.params).In h₀) (hm : (Mo, matchObj 36 b t sp) ∈ news) (hs : (sp, spanObj a q) ∈ news) (hb : b.size ≤ 4096) (hq : q ≤ b.size)
    (h : ∀ t' k, Q (.bytes (b.extract a q) t') { s with toks := k }) :
    wpAny (model prog w) A (call (.builtin "re.Match.group") [.ref Mo, .str (Str.ofString "flags") tk]) Q E s := by
  obtain ⟨⟨o, _, _, _, _, ho, hc, hd, hf⟩, _⟩ := patK (X.keeps F.keep)
  obtain ⟨f, hG, hfl⟩ := dictK (prog := prog) (X.keeps F.keep)
  exact call_slot slot_rm_group ⟨_, (N _ hm).1, rfl⟩ entry_rm_group (args_rm_group_2 _ _) (group_ok (N _ hm).1 (N _ hs).1 ho hf hG hfl hb hq h)
theorem gm_split {pl : Sem Bool} {Q : Value × List Value → Shared → Prop} {c : Array UInt8} (h : Q (.builtin "bytes.split", [.bytes c t]) s) : wpAny (model prog w) A (getMethod (.bytes c t) (Str.ofString "split") pl) Q E s :=
  getMethod_builtin (typeIs_bytes _ _ _) FB.plainAttrs_bytes slot_b_split type_b_split (fun _ e => nomatch e) h
theorem call_split {Q : Value → Shared → Prop} {c : Array UInt8} (F : Fr h₀ L s.heap m) (N : News h₀ L s.heap news) (hb : c.size ≤ 4096) (hw : c.isEmpty = false → c.any Builtin.Bytes.isSpace = false → wordsB c = [c])
    (h : ∀ (vs : List (Array UInt8 × Tok)) l h' k, vs.map (·.1) = wordsB c → vs.length ≤ 4097 → Fr h₀ L h' m → News h₀ L h' ((l, PySem.W.listOf (Vb vs).toArray 0) :: news) → (∀ p ∈ news, p.1 < l) → Q (.ref l) { s with heap := h', toks := k }) :
    wpAny (model prog w) A (call (.builtin "bytes.split") [.bytes c t]) Q E s :=
  call_slot slot_b_split (typeIs_bytes _ _ _) entry_b_split (args_b_split_1 _) (split_ok hb hw fun vs k e hv => h vs _ _ k e hv (F.push _) (News.push F N _) fun p hp => Heap.lt_size (N p hp).1)
theorem noBool_rm : typeLookup (.type "re.Match") "__bool__" = pure none := by rw [typeLookup_type, builtinLookup_eq_fast]; kernel_rfl
theorem noLen_rm : typeLookup (.type "re.Match") "__len__" = pure none := by rw [typeLookup_type, builtinLookup_eq_fast]; kernel_rfl
theorem truthy_rm {Q : Bool → Shared → Prop} (N : News h₀ L s.heap news) (hm : (Mo, matchObj 36 b t sp) ∈ news) (h : Q true s) : wpAny (model prog w) A (truthy (.ref Mo)) Q E s := by
  have hT : s.TypeIs (.ref Mo) "re.Match" := ⟨_, (N _ hm).1, rfl⟩
  unfold truthy
  refine wpAny_bind (m := callSpecial? (.ref Mo) (Str.ofString "__bool__")) (wpAny_callSpecial?_none (name := Str.ofString "__bool__") hT noBool_rm ?_)
  refine wpAny_bind (wpAny_specialOf (name := Str.ofString "__len__") hT noLen_rm ?_)
  exact wpAny_pure h
end
end Mine
end

section -- R9b
open PySem PySem.W PyProof.Rows
set_option maxRecDepth 100000
namespace Mine
theorem scan_lt {T : Array Nat} {n p a q : Nat} (h : scanAt T n p = some (a, q)) : q < n := by
  unfold scanAt at h
  split at h
  · split at h
    · injection h with h; injection h with h1 h2; omega
    · cases h
  · cases h
theorem found_lt {T : Array Nat} {n a q : Nat} : ∀ {p}, found T n p = some (a, q) → q < n
  | 0, h => scan_lt h
  | p + 1, h => by
    unfold found at h
    cases hs : scanAt T n (p + 1) with
    | some r => rw [hs] at h; obtain rfl : r = (a, q) := Option.some.inj h; exact scan_lt hs
    | none => rw [hs] at h; exact found_lt h
theorem match_eq {b : Array UInt8} {r : Option (Nat × Nat)} (h : MatchIs b r) : matchOf (textOf b) = r := by cases h; rfl
theorem match_in {b : Array UInt8} {a q : Nat} (h : MatchIs b (some (a, q))) : a ≤ q ∧ q ≤ b.size := by
  have e := match_eq h
  refine ⟨found_le e, ?_⟩
  unfold matchOf at e
  split at e
  · cases e
  · have := found_lt e
    rw [Array.size_map] at this
    omega
theorem take_all {p : UInt8 → Bool} : ∀ {l : List UInt8}, (∀ x ∈ l, p x = true) → l.takeWhile p = l
  | [], _ => rfl
  | x :: r, h => by rw [List.takeWhile_cons, if_pos (h x (.head _)), take_all (fun y hy => h y (.tail _ hy))]
theorem drop_all {p : UInt8 → Bool} : ∀ {l : List UInt8}, (∀ x ∈ l, p x = true) → l.dropWhile p = []
  | [], _ => rfl
  | x :: r, h => by rw [List.dropWhile_cons, if_pos (h x (.head _)), drop_all (fun y hy => h y (.tail _ hy))]
open Builtin.Bytes in
theorem split_one {c : Array UInt8} (h1 : c.isEmpty = false) (h2 : c.any isSpace = false) : wordsB c = [c] := by
  have hno : ∀ x ∈ c.toList, isSpace x = false := by
    intro x hx
    cases hs : isSpace x with
    | false => rfl
    | true =>
      have : c.any isSpace = true := by rw [← Array.any_toList, List.any_eq_true]; exact ⟨x, hx, hs⟩
      rw [this] at h2; cases h2
  cases hc : c.toList with
  | nil =>
    have : c = #[] := Array.toList_inj.mp hc
    rw [this] at h1; simp at h1
  | cons x r =>
    rw [hc] at hno
    have e1 : (x :: r).dropWhile isSpace = x :: r := by rw [List.dropWhile_cons, if_neg (by rw [hno x (.head _)]; decide)]
    have e2 : (x :: r).takeWhile (!isSpace ·) = x :: r := take_all fun y hy => by rw [hno y hy]; rfl
    have e3 : (x :: r).dropWhile (!isSpace ·) = [] := drop_all fun y hy => by rw [hno y hy]; rfl
    have e4 : ∀ f l, words f l [] = [] := fun f l => by cases f <;> rfl
    unfold wordsB
    rw [hc]
    unfold words
    rw [e1]
    dsimp only
    rw [if_neg (by simp), e2, e3, e4, List.map_cons, List.map_nil, ← hc]
end Mine
end

section -- R1
open PySem PySem.W PyProof.Rows
set_option maxRecDepth 100000
namespace Mine
local macro_rules | `(tactic| k_room) => `(tactic| ktr_room)
local macro_rules | `(tactic| units_room) => `(tactic| ktr_units)
local macro_rules | `(tactic| walk_at "getMethod ref") => `(tactic| (k_here; (with_reducible show wpAny _ _ (getMethod (Value.ref 36) (Str.ofString "match") _) _ _ _); k_dflt (refine' gm_match ?F ?X ?_; (case F => k_asm); (case X => k_asm); k_whole)))
local macro_rules | `(tactic| walk_at "getMethod ref") => `(tactic| (k_here; (with_reducible show wpAny _ _ (getMethod (Value.ref _) (Str.ofString "group") _) _ _ _); k_dflt (refine' gm_group ?N ?m ?_; (case N => k_asm); (case m => k_mem); k_whole)))
local macro_rules | `(tactic| walk_at "getMethod bytes") => `(tactic| (k_here; (with_reducible show wpAny _ _ (getMethod (Value.bytes _ _) (Str.ofString "split") _) _ _ _); k_dflt (refine' gm_split ?_; k_whole)))
local macro_rules | `(tactic| walk_at "call builtin:re.Pattern.match") => `(tactic| (k_here; k_dflt (refine' call_match ?F ?N ?X ?b ?l ?no ?yes; (case F => k_asm); (case N => k_asm); (case X => k_asm); (case b => omega); (case l => assumption)); (case' yes => intro a9 q9 sp9 mo9 h9 M9 F9 N9 l9 m9); (case' no => intro M9)))
local macro_rules | `(tactic| walk_at "truthy ref") => `(tactic| (k_here; k_dflt (refine' truthy_rm ?N ?m ?_; (case N => k_asm); (case m => k_mem); k_whole)))
local macro_rules | `(tactic| walk_at "call builtin:re.Match.group") => `(tactic| (k_here; k_dflt (refine' call_group ?F ?N ?X ?m ?sp ?b ?q ?_; (case F => k_asm); (case N => k_asm); (case X => k_asm); (case m => k_mem); (case sp => k_mem); (case b => omega); (case q => exact (match_in (by assumption)).2); k_whole); intro t9 k9))
local macro_rules | `(tactic| walk_at "call builtin:bytes.split") => `(tactic| (k_here; k_dflt (refine' call_split ?F ?N ?b ?w ?_; (case F => k_asm); (case N => k_asm); (case b => (rw [Array.size_extract]; omega)); (case w => exact split_one); k_whole); intro vs9 l9 h9 k9 e9 n9 F9 N9 l9'))
def flagsOf (b : Array UInt8) : List (Array UInt8) := match matchOf (textOf b) with
  | none => []
  | some (a, q) => wordsB (b.extract a q)
inductive FlagsIs (b : Array UInt8) : List (Array UInt8) → Prop
  | intro : FlagsIs b (flagsOf b)
theorem flags_none {b : Array UInt8} (h : MatchIs b none) : FlagsIs b [] := by
  have e : flagsOf b = [] := by unfold flagsOf; rw [match_eq h]
  rw [← e]; exact .intro
theorem flags_some {b : Array UInt8} {a q : Nat} {l : List (Array UInt8)} (h : MatchIs b (some (a, q))) (e : l = wordsB (b.extract a q)) : FlagsIs b l := by
  have e2 : flagsOf b = l := by unfold flagsOf; rw [match_eq h, e]
  rw [← e2]; exact .intro
theorem flags_end {b : Array UInt8} {Q : Value → Shared → Prop} {h₀ : Heap} {L : Addr} {m : Str → Option Value} {news : List (Addr × Oj)} {s : Shared}
    (hret : ∀ (v : Value) (own : List (Addr × Obj)) (h' : Heap) (tk' : Nat), Fr h₀ L h' m → News h₀ L h' (own ++ news) → (∃ D vs, v = .ref D ∧ own = [(D, ({ cls := .type "tuple", data := .seq (Vb vs).toArray } : Obj))] ∧ FlagsIs b (vs.map (·.1)) ∧ vs.length ≤ 4097) → Q v { s with heap := h', toks := tk' })
    (vs : List (Array UInt8 × Tok)) {a : Addr} {h' : Heap} {tk' : Nat} {nn : List (Addr × Oj)} (F : Fr h₀ L h' m) (N : News h₀ L h' ((a, { cls := .type "tuple", data := .seq (Vb vs).toArray }) :: nn)) (hs : ∀ p ∈ news, p ∈ nn) (hr : FlagsIs b (vs.map (·.1))) (hv : vs.length ≤ 4097) : Q (.ref a) { s with heap := h', toks := tk' } :=
  hret _ [(a, _)] _ _ F (fun p hp => N p (by rcases List.mem_cons.mp hp with rfl | hp; exact .head _; exact .tail _ (hs p hp))) ⟨a, vs, rfl, rfl, hr, hv⟩
set_option maxHeartbeats 4000000 in
theorem flags_ctr {w : World} (bs : Array UInt8) (tx : Tok) (hx : bs.size ≤ 600) (hl : ∀ i, i < (textOf bs).size → (textOf bs).getD i 0 ≠ 10) (news : List (Addr × Oj)) :
    Ctr w 5 96 43 [.bytes bs tx] news (fun v own => ∃ D vs, v = .ref D ∧ own = [(D, { cls := .type "tuple", data := .seq (Vb vs).toArray })] ∧ FlagsIs bs (vs.map (·.1)) ∧ vs.length ≤ 4097) := by
  unfold Ctr; k_with_none; w_top off; k_fill
  intro mean mg mb dp un gd cn cs a ccd cl outer A₀ base h₀ L m s Q E B F X N T hk hdp hun hret
  refine wpAny_call ?_
  k_dflt cell_enter
  k_steps
  · exact flags_end hret [] (by assumption) (by assumption) (fun p hp => hp) (flags_none (by assumption)) (by decide)
  · exact flags_end hret _ (by assumption) (by assumption) (by intro p hp; kst_mem) (flags_some (by assumption) (by assumption)) (by assumption)
end Mine
end

section -- E7
open PySem PySem.W PySem.Calls PyProof.Rows
set_option maxRecDepth 100000
namespace Mine
section
variable {prog : Program} {w : World} {A₀ A : Around} {s : Shared} {base h₀ g₀ : Heap} {outer : List Env} {L a : Addr} {m : Str → Option Value} {cn : Str} {cs : Scope} {ccd : Value} {news : List (Addr × Obj)} {K : Frag} {p : Program} {loose : List Str} {mean : ExcName → Option Value} {mg mb : Str → Option Value}
    {R : Result → Shared → Prop} {name qual : Str} {params : Arguments} {body : List Stmt} {scope : Scope} {dV kV doc pm cdv ct oc : Value} {an od : Option Addr} {osl : Array (Option Value)} {f : Addr} {args : Args} {binds : List (Str × Value)}
/-- into a def, over the caller's stacks; what it says when it comes back is R's alone -/
theorem enterC (B : Below A₀ base outer h₀) (F : Fr h₀ L s.heap m) (X₀ : K.In h₀) (N : News h₀ L s.heap news) (T : Top p loose mean mg mb h₀) (D : KtsDicts (outer.filterMap (·.frame)) h₀) (hA : A.frames = some (envOf cn cs L a ccd :: outer))
    (ho : K.lookup f = some ⟨oc, od, .func (fnOf name qual params body scope dV kV doc pm an cdv ct), osl⟩) (hcd : codeIn K cdv qual = true) (hroom : A.depth < recursionLimit)
    (hbind : BindsTo s (fnOf name qual params body scope dV kV doc pm an cdv ct) args binds) (hloc : ∀ y ∈ binds, scope.names.lookup y.1 = some .local)
    (h : ∀ g L' h₁, (∃ oL es ep, g.get? L = some oL ∧ oL.data = .dict es ep ∧ ∀ (sl : Array (Option Value)) h', h'.get? L = some { oL with slots := sl } → Heap.Ns h' L m) → h₀.StaysIn g → Fr h₀ L g m → Fr g L' h₁ (fun y => binds.reverse.lookup y) → News g L' h₁ news → Below A base (envOf cn cs L a ccd :: outer) g → K.In g → Top p loose mean mg mb g → KtsDicts ((envOf cn cs L a ccd :: outer).filterMap (·.frame)) g →
      wpC (model prog w) (A.deeper (envOf qual scope L' f cdv)) (execs body (envOf qual scope L' f cdv))
        (fun fl s' => R (.ok (.ret (match fl with | .ret v => v | _ => .none))) s')
        (fun e s' => wpAny (model prog w) (A.deeper (envOf qual scope L' f cdv)) (leaving (envOf qual scope L' f cdv) e) (fun _ s'' => R (.error e) s'') (fun e' s'' => R (.error e') s'') s')
        { s with heap := h₁, toks := s.toks + binds.length })
    (hck : cs.kind = .function) (hco : scope.isCoroutine = false) (hgen : scope.isGenerator = false) (hk : scope.kind = .function)
    (hcell : ∀ x ∈ scope.names, x.2 ≠ .cell) : codeC (model prog w) A (.call (.ref f) args) R s := by
  have X := X₀.keeps F.keep
  refine codeC_call_def (fd := fnOf name qual params body scope dV kV doc pm an cdv ct) (body := body) (binds := binds) hroom (X _ _ ho) rfl (T.nolimit.keeps F.keep) (codeRec_of X hcd) rfl hbind hcell hloc (fun h₁ hns hk₁ => ?_) hco hgen hk
  obtain ⟨oL, es, ep, hLg, hLd, hN, hNs, st, B₂⟩ := kts_enter B F N hA hck
  exact h _ s.heap.objs.size h₁ ⟨oL, es, ep, hLg, hLd, hNs⟩ st ⟨hN _ hLg, st, F.above⟩ ⟨hns, fun b o e => hk₁ b o (of_hideAll _ e), Nat.le_of_eq (hideAll_size _ _)⟩
    (fun p hp => ⟨hk₁ _ _ (N p hp).1, Nat.ne_of_lt (Heap.lt_size (N p hp).1), hideAll_none _ (List.mem_map_of_mem hp)⟩) B₂ (X₀.keeps st) (T.keeps st) (fun b hb => by
      rcases kts_mem hb with rfl | hb
      · exact ⟨oL, es, ep, hLg, hLd⟩
      · obtain ⟨o, es', n', ho', hd'⟩ := D b hb
        exact ⟨o, es', n', st b o ho', hd'⟩)
/-- the lowest frame's: the way back is told as the kit tells it -/
theorem enterC0 (B : Below A₀ base [] h₀) (F : Fr h₀ L s.heap m) (X₀ : K.In h₀) (N : News h₀ L s.heap news) (T : Top p loose mean mg mb h₀) (hA : A.frames = some [envOf cn cs L a ccd])
    (ho : K.lookup f = some ⟨oc, od, .func (fnOf name qual params body scope dV kV doc pm an cdv ct), osl⟩) (hcd : codeIn K cdv qual = true) (hroom : A.depth < recursionLimit)
    (hbind : BindsTo s (fnOf name qual params body scope dV kV doc pm an cdv ct) args binds) (hloc : ∀ y ∈ binds, scope.names.lookup y.1 = some .local)
    (h : ∀ g L' h₁, Fr h₀ L g m → Fr g L' h₁ (fun y => binds.reverse.lookup y) → News g L' h₁ news → Below A base [envOf cn cs L a ccd] g → K.In g → Top p loose mean mg mb g → KtsDicts ([envOf cn cs L a ccd].filterMap (·.frame)) g →
      wpC (model prog w) (A.deeper (envOf qual scope L' f cdv)) (execs body (envOf qual scope L' f cdv))
        (fun fl s' => LeaveS0 ([envOf cn cs L a ccd].filterMap (·.frame)) h₀ L m g R (match fl with | .ret v => v | _ => .none) s')
        (fun e s' => wpAny (model prog w) (A.deeper (envOf qual scope L' f cdv)) (leaving (envOf qual scope L' f cdv) e) (fun _ s'' => R (.error e) s'') (fun e' s'' => R (.error e') s'') s')
        { s with heap := h₁, toks := s.toks + binds.length })
    (hck : cs.kind = .function) (hco : scope.isCoroutine = false) (hgen : scope.isGenerator = false) (hk : scope.kind = .function)
    (hcell : ∀ x ∈ scope.names, x.2 ≠ .cell) : codeC (model prog w) A (.call (.ref f) args) R s := by
  refine enterC B F X₀ N T (fun b hb => by simp at hb) hA ho hcd hroom hbind hloc (fun g L' h₁ hL st FG F' N' B' X' T' D' => ?_) hck hco hgen hk hcell
  refine wpC_mono (h g L' h₁ FG F' N' B' X' T' D') (fun fl s' hl => ?_) fun _ _ y => y
  obtain ⟨oL, es, ep, hLg, hLd, hNs⟩ := hL
  obtain ⟨g', L'', m', news', T', F', N', k⟩ := hl
  have nL₀ : h₀.get? L = none := kts_self F
  obtain ⟨sl, hs⟩ := T'.up hLg
  refine k ⟨hNs sl _ (F'.keep _ _ hs), fun b o e => F'.keep b o (T'.other b o (st b o e) (fun q => by
    rcases kts_mem q with z | z
    · rw [z, nL₀] at e
      cases e
    · simp at z)), F.above⟩ fun p hp => ⟨(N' p hp).1, fun q => ?_, ?_⟩
  · have := (N' p hp).2.2; rw [q, hs] at this; cases this
  · cases q : h₀.get? p.1 with
    | none => rfl
    | some o =>
      obtain ⟨sl', hs'⟩ := T'.up (st _ _ q)
      have := (N' p hp).2.2
      rw [hs'] at this
      cases this
end
section
variable {M : Model} {A : Around} {E : Value → Shared → Prop} {s : Shared} {env : Env}
inductive IsDef (h : Heap) (a : Addr) : Prop
  | intro {o : Obj} {fd : FuncData} : h.get? a = some o → o.data = .func fd → IsDef h a
theorem IsDef.of {K : Frag} {h : Heap} {a : Addr} {o : Obj} {fd : FuncData} (X : K.In h) (hl : K.lookup a = some o) (hd : o.data = .func fd) : IsDef h a := .intro (X _ _ hl) hd
theorem callC_def {pos : Pos} {a : Addr} {e : Expr} {rest : List Expr} {Q : Value → Shared → Prop}
    (h : wpAny M A (spliced (backTo pos (starEach (e :: rest) env))) (fun vs s₁ => IsDef s₁.heap a ∧ wpC M A (call (.ref a) vs) Q E s₁) E s)
    (he : starEach (e :: rest) env = (false, eval e env) :: starEach rest env := by rfl) (hplain : (backTo pos (starEach rest env)).any (·.1) = false := by rfl) :
    wpC M A (callWith pos (.ref a) [] (backTo pos (starEach (e :: rest) env)) (backToKw pos (keywordEach [] env))) Q E s := by
  rw [he] at h ⊢
  exact wpC_callWith_function (by show (false || (backTo pos (starEach rest env)).any (·.1)) = false; rw [hplain]; rfl) (evalArgs_plain (wpAny_mono h (fun vs s₁ h₁ => ⟨by obtain ⟨a, b⟩ := h₁.1; exact ⟨_, _, a, b⟩, h₁.2⟩) fun _ _ x => x))
theorem callC_type {pos : Pos} {T : String} {e : Expr} {rest : List Expr} {Q : Value → Shared → Prop}
    (h : wpAny M A (spliced (backTo pos (starEach (e :: rest) env))) (fun vs s₁ => wpC M A (call (.type T) vs) Q E s₁) E s)
    (he : starEach (e :: rest) env = (false, eval e env) :: starEach rest env := by rfl) (hplain : (backTo pos (starEach rest env)).any (·.1) = false := by rfl) :
    wpC M A (callWith pos (.type T) [] (backTo pos (starEach (e :: rest) env)) (backToKw pos (keywordEach [] env))) Q E s := by
  rw [he] at h ⊢
  exact wpC_callWith_type (by show (false || (backTo pos (starEach rest env)).any (·.1)) = false; rw [hplain]; rfl) (evalArgs_plain h)
end
end Mine
end

section -- F6
open PySem PySem.W PySem.Calls PyProof.Rows
set_option maxRecDepth 100000
namespace Mine
local macro_rules | `(tactic| walk_at "none 0") => `(tactic| skip)
local macro_rules | `(tactic| walk_at "none 1") => `(tactic| skip)
local macro_rules | `(tactic| walk_at "none 2") => `(tactic| skip)
local macro_rules | `(tactic| walk_at "none 3") => `(tactic| skip)
local macro_rules | `(tactic| walk_at "none 4") => `(tactic| skip)
local macro_rules | `(tactic| walk_at "none 5") => `(tactic| skip)
local macro_rules | `(tactic| walk_at "none 6") => `(tactic| skip)
theorem bad_read {y : Str} (hn : PySem.intText? y = none) (hl : y.length ≤ 400) (hlow : ∀ c ∈ y.cps.toList, 0 < c ∧ c < 128) :
    (numSeenOf y).length ≤ 640 ∧ (int_private% "readNumeral") 0 10 (numSeenOf y) = (int_private% "Numeral.invalid") ∧ (reprText y).length ≤ 4096 := by
  have h1 := seen_length y
  refine ⟨by omega, ?_, ?_⟩
  · rcases read0 y (by omega) with ⟨n, h, _⟩ | ⟨_, h | ⟨i, _, h⟩⟩
    · rw [hn] at h; cases h
    · exact h
    · exfalso
      refine h ?_
      have e1 : y.cps.all (· < 128) = true := by
        rw [← Array.all_toList, List.all_eq_true]
        intro c hc
        exact decide_eq_true (hlow c hc).2
      have e2 : numTextOf y = y.cps.toList := if_pos e1
      have e3 : ∀ l : List Nat, (∀ c ∈ l, 0 < c ∧ c < 128) → l.takeWhile (· != 0) = l := by
        intro l
        induction l with
        | nil => intro _; rfl
        | cons c r ih =>
          intro h
          rw [List.takeWhile_cons, if_pos (by have := (h c (.head _)).1; simp; omega), ih fun d hd => h d (.tail _ hd)]
      have e4 : numSeenOf y = numTextOf y := by
        show (numTextOf y).takeWhile _ = _
        rw [e2]; exact e3 _ hlow
      rw [e4]; simp
  · have := StrLaws.reprText_len y (fun c hc => Nat.lt_trans (hlow c hc).2 (by decide))
    omega
theorem part_in {x y : Str} {l : List (Str × Tok)} (h2 : List.map (fun x => x.fst) l = Txt.split (Txt.slice x (some (Txt.find x (Str.ofString "(") + 1)) (some (Txt.find3 x (Str.ofString ")") (Txt.find x (Str.ofString "(") + 1)))) (Txt.item x (Txt.find x (Str.ofString "(") + 1)))
    (hy : (List.map (fun x => x.fst) l)[Int.toNat 3]? = some y) : y ∈ partsOf x := by
  have e : partsOf x = List.map (fun x => x.fst) l := h2.symm
  rw [e]; exact List.mem_of_getElem? hy
theorem no_int {y : Str} (h : Res.badInt = match PySem.intText? y with | some n => Res.port n | none => Res.badInt) : PySem.intText? y = none := by
  cases e : PySem.intText? y with
  | none => rfl
  | some n => rw [e] at h; cases h
/-- what a bad int says of the text -/
theorem bad_out {x : Str} (h : askedS x = .badInt) : (Txt.slice x none (some 3) != Str.ofString "229") = false ∧ ¬ Txt.find x (Str.ofString "(") < 0 ∧ ¬ Txt.find3 x (Str.ofString ")") (Txt.find x (Str.ofString "(") + 1) < 0 ∧
    (Txt.item x (Txt.find x (Str.ofString "(") + 1) != Txt.item x (Txt.find3 x (Str.ofString ")") (Txt.find x (Str.ofString "(") + 1) - 1)) = false ∧ (partsOf x).length = 5 := by
  unfold askedS at h
  split at h
  · cases h
  · rename_i h1
    split at h
    · cases h
    · rename_i h2
      split at h
      · cases h
      · rename_i h3
        split at h
        · cases h
        · rename_i h4
          split at h
          · cases h
          · rename_i h5
            exact ⟨by simpa using h1, h2, h3, (Bool.not_eq_true _).mp h4, Classical.not_not.mp h5⟩
theorem by_len {x : Str} {l : List (Str × Tok)} (h : (partsOf x).length = 5) (h2 : List.map (fun x => x.fst) l = Txt.split (Txt.slice x (some (Txt.find x (Str.ofString "(") + 1)) (some (Txt.find3 x (Str.ofString ")") (Txt.find x (Str.ofString "(") + 1)))) (Txt.item x (Txt.find x (Str.ofString "(") + 1))) (h3 : (l.length : Int) ≠ 5) : False := by
  have e : partsOf x = List.map (fun x => x.fst) l := h2.symm
  rw [e, List.length_map] at h
  omega
theorem no_both {b : Bool} (h : b = false) (k : b = true) : False := by rw [h] at k; cases k
local macro_rules | `(tactic| k_room) => `(tactic| ktr_room)
local macro_rules | `(tactic| units_room) => `(tactic| ktr_units)
local macro_rules | `(tactic| walk_at "subscriptTail") => `(tactic| (k_here; (with_reducible show wpAny _ _ (subscriptTail _ _ (Value.str _ _) (Value.int _ _)) _ _ _); (refine item_str (fitsSsize_of (N := 9223372036854775808) (by omega) (by omega) (Int.le_refl _)) (by omega) (by omega) ?_); intro _))
set_option maxHeartbeats 4000000 in
theorem asked_bad {w : World} (x : Str) (tx : Tok) (hx : x.length ≤ 400) (hbad : askedS x = .badInt) (hlow : ∀ y ∈ partsOf x, ∀ c ∈ y.cps.toList, 0 < c ∧ c < 128) (pa : Addr) (t1 t2 : Tok) (n : Int) (news : List (Addr × Oj)) 
    (mean : ExcName → Option Value) (mg mb : Str → Option Value) (dp un : Nat) (gd : Option (List Code)) (cn : Str) (cs : Scope) (a : Addr) (ccd : Value) (A₀ : Around) (base h₀ : Heap) (L : Addr) (m : Str → Option Value) (s : Shared) (Q E : Value → Shared → Prop)
    (XB : (hd.heap_39 w.params).In base) (TB : Top hd.view_39 Lo mean mg mb base) (B : Below A₀ base [] h₀) (F : Fr h₀ L s.heap m) (X : (hd.heap_39 w.params).In h₀) (N : News h₀ L s.heap ((pa, { cls := .type "tuple", data := .seq #[.str (Str.ofString "host") t1, .int n t2] }) :: news)) (T : Top hd.view_39 Lo mean mg mb h₀) (hk : cs.kind = .function)
    (hdp : dp + 8 < recursionLimit) (hun : un + 40 < cLine)
    (hret : ∀ (v : Value) (own : List (Addr × Obj)) (h' : Heap) (tk' : Nat), Fr h₀ L h' m → News h₀ L h' (own ++ ((pa, { cls := .type "tuple", data := .seq #[.str (Str.ofString "host") t1, .int n t2] }) :: news)) → (∃ a o, v = .ref a ∧ own = [(a, o)] ∧ ResObj (askedS x) o) → Q v { s with heap := h', toks := tk' }) :
    wpC (model PySem.Challenge.rw_wr0002_01.row.prog w) { handled := none, depth := dp, frames := some [envOf cn cs L a ccd], guards := gd, units := un } (call (.ref 134) [.str x tx, .ref pa]) Q E s := by
  have h1 : Txt.find x (Str.ofString "(") = -1 ∨ (0 ≤ Txt.find x (Str.ofString "(") ∧ Txt.find x (Str.ofString "(") < x.length) := find_one x 40
  have h2 : Txt.find x (Str.ofString "(") < 0 ∨ Txt.find3 x (Str.ofString ")") (Txt.find x (Str.ofString "(") + 1) = -1 ∨ (Txt.find x (Str.ofString "(") + 1 ≤ Txt.find3 x (Str.ofString ")") (Txt.find x (Str.ofString "(") + 1) ∧ Txt.find3 x (Str.ofString ")") (Txt.find x (Str.ofString "(") + 1) < x.length) := by
    rcases h1 with h1 | h1
    · exact .inl (by omega)
    · exact .inr (find3_one x 41 _ (by omega) (by omega))
  obtain ⟨b1, b2, b3, b4, b5⟩ := bad_out hbad
  have hx' : x.length ≤ 600 := by omega
  revert hret hun hdp hk T N X F B TB XB
  k_with_none; w_top off; k_fill
  intro XB TB B F X N T hk hdp hun hret
  refine wpC_call ?_
  k_dflt (refine' enterC0 ?k1 ?k2 ?k3 ?k4 ?k5 ?kA ?k6 ?k7 ?k8 ?k9 ?kB ?_ ?cK ?c2 ?c3 ?c4 ?c5; (case kA => exact rfl); (case k2 => k_asm); (case k1 => k_asm); (case k3 => k_asm); (case k4 => k_asm); (case k5 => k_asm); (case k6 => k_is); (case k7 => k_is); (case k8 => k_room); (case k9 => first | exact binds_K (by k_in) rfl (by k_is) rfl rfl rfl | exact BindsTo.of_eq rfl | fail "kts_go: no rule for these arguments"); (case kB => exact locs rfl); (case cK => assumption); (case c2 => exact rfl); (case c3 => exact rfl); (case c4 => exact rfl); (case c5 => decide); intro g' L' h' FG' F' N' B' X' T' D'; (try dsimp only); (try k_lift B'); (try k_fold))
  refine wpC_execs_cons (wpC_Try_except ?_)
  refine wpC_execs_cons (wpC_Return_some (wpC_Call_Name ?_))
  k_steps
  refine callC_def ?_
  k_steps
  · exact IsDef.of (X'.keeps (Fr.keep (by assumption))) (by with_unfolding_all rfl) rfl
  refine wpC_call ?_
  k_dflt (refine' enterC ?k1 ?k2 ?k3 ?k4 ?k5 ?kD ?kA ?k6 ?k7 ?k8 ?k9 ?kB ?_ ?cK ?c2 ?c3 ?c4 ?c5; (case kA => exact rfl); (case k2 => k_asm); (case k1 => k_asm); (case k3 => k_asm); (case k4 => k_asm); (case k5 => k_asm); (case kD => assumption); (case k6 => k_is); (case k7 => k_is); (case k8 => k_room); (case k9 => first | exact binds_K (by k_in) rfl (by k_is) rfl rfl rfl | exact BindsTo.of_eq rfl | fail "no rule for these arguments"); (case kB => exact locs rfl); (case cK => exact rfl); (case c2 => exact rfl); (case c3 => exact rfl); (case c4 => exact rfl); (case c5 => decide); intro g9 L9 h9 oL9 st9 FG9 F9 N9 B9 X9 T9 D9; (try dsimp only); (try k_lift B9); (try k_fold))
  refine wpC_execs_at 9 ?_
  dsimp only [List.take, List.drop]
  k_steps
  all_goals try (first | exact (no_both b1 (by assumption)).elim | exact (b2 (by assumption)).elim | exact (b3 (by assumption)).elim | exact (no_both b4 (by assumption)).elim | exact (by_len b5 (by assumption) (by assumption)).elim)
  dsimp only
  refine wpC_execs_cons (wpC_Assign_Name (wpC_Call_Name ?_))
  k_steps
  refine callC_type ?_
  k_steps
  obtain ⟨ha, hsy⟩ := asked_int2 (x := x) (by assumption) (by assumption) (by assumption) (by assumption) (by assumption) (by assumption) (by assumption) (by assumption) (by assumption)
  rw [hbad] at ha
  have hy9 := part_in (by assumption) (by assumption)
  have hr9 := bad_read (no_int ha) (Nat.le_trans hsy hx) (hlow _ hy9)
  refine call_int_bad (by rfl) hr9.1 hr9.2.1 hr9.2.2 (fun h9 tk9 e9 args9 M9 => ?_)
  k_steps
  exact res_end hret (by assumption) (by assumption) (by intro p hp; simp only [List.mem_cons] at hp ⊢; rcases hp with h | h <;> simp [h]) (by rw [hbad]; exact ⟨_, _, rfl⟩)
end Mine
end

section -- E8
open PySem PySem.W PySem.Calls PyProof.Rows
set_option maxRecDepth 100000
namespace Mine
section
variable {prog : Program} {w : World} {A : Around} {s : Shared} {env : Env} {h₀ : Heap}
/-- a loop that raises nowhere, over the caller's stacks, by what holds ahead of each turn -/
theorem forC {R : Result → Shared → Prop} {target : Expr} {it : Value} {body : List Stmt} (n : Nat) (J : Nat → Shared → Prop)
    (turn : ∀ i s, i < n → J i s → wpAny (model prog w) A (pyNext it) (fun r s₁ => ∃ v, r = some v ∧ wpAny (model prog w) A (assign target env v) (fun _ s₂ => wpC (model prog w) A (execs body env)
      (fun f s₃ => match f with | .next => J (i + 1) s₃ | .cont => J (i + 1) s₃ | .brk => R (.ok .next) s₃ | .ret v => R (.ok (.ret v)) s₃) (fun _ _ => False) s₂) (fun _ _ => False) s₁) (fun _ _ => False) s)
    (done : ∀ s, J n s → wpAny (model prog w) A (pyNext it) (fun r s₁ => r = none ∧ R (.ok .next) s₁) (fun _ _ => False) s)
    (ht : ∀ v, letOwnedTupleGo target it v = pure () := by intro _; rfl) : ∀ k i s, i + k = n → J i s → codeC (model prog w) A (.forLoop target it body [] env) R s := by
  have go : ∀ {s : Shared}, wpC (model prog w) A (forTurn target it body [] env) (fun fin s' => match fin with | .done f => R (.ok f) s' | .again c' => c'.quiet = true ∧ codeC (model prog w) A c' R s') (fun _ _ => False) s →
      codeC (model prog w) A (.forLoop target it body [] env) R s := fun h => by
    refine codeC_of_tree ?_
    show wpC _ A ((forTurn target it body [] env).onRaise (fun x => do noteFrame x env; theTreesLotGoes x)) _ _ _
    exact wpC_onRaise (wpC_mono h (fun _ _ x => x) fun _ _ x => x.elim)
  intro k
  induction k with
  | zero =>
    intro i s e h
    obtain rfl : i = n := by omega
    refine go ?_
    unfold forTurn
    refine wpC_standAt (wpC_bind (wpC_lift (wpAny_onRaise (wpAny_mono (done s h) (fun r s₁ h₁ => ?_) fun _ _ x => x.elim))))
    obtain ⟨rfl, h₁⟩ := h₁
    exact wpC_pure ⟨rfl, codeC_lift (codeAny_block (wpAny_execs_nil h₁))⟩
  | succ k ih =>
    intro i s e h
    refine go ?_
    unfold forTurn
    refine wpC_standAt (wpC_bind (wpC_lift (wpAny_onRaise (wpAny_mono (turn i s (by omega) h) (fun r s₁ h₁ => ?_) fun _ _ x => x.elim))))
    obtain ⟨v, rfl, h₁⟩ := h₁
    dsimp only
    refine wpC_bind (wpC_lift (wpAny_of_eq (ht v) ?_))
    refine wpC_bind (wpC_lift (wpAny_mono h₁ (fun _ s₂ h₂ => ?_) fun _ _ x => x))
    refine wpC_bind (wpC_mono h₂ (fun f s₃ h₃ => ?_) fun _ _ x => x)
    cases f with
    | next => exact wpC_pure ⟨rfl, ih (i + 1) _ (by omega) h₃⟩
    | cont => exact wpC_pure ⟨rfl, ih (i + 1) _ (by omega) h₃⟩
    | brk => exact wpC_pure h₃
    | ret v => exact wpC_pure h₃
/-- the state between two turns: what the iterator owns lies ahead of the ledger -/
def BetwC (h₀ : Heap) (L : Addr) (s₀ : Shared) (I : Addr) (St : Obj → Prop) (J : (Str → Option Value) → List (Addr × Obj) → Prop) (s : Shared) : Prop :=
  ∃ it h tk m news, s = { s₀ with heap := h, toks := tk } ∧ St it ∧ Fr h₀ L h m ∧ News h₀ L h ((I, it) :: news) ∧ (∀ p ∈ news, p.1 ≠ I) ∧ J m news
theorem wpC_passes {α : Type} {M : Model} {t : Sem α} {Q : α → Shared → Prop} {E : Value → Shared → Prop} (h : wpC M A t Q (fun _ _ => False) s) : wpC M A t Q E s := wpC_mono h (fun _ _ x => x) fun _ _ x => x.elim
theorem for_gen {R : Result → Shared → Prop} {x : Str} {px : Pos} {body : List Stmt} {I : Addr} {n : Nat} {P : Nat → Value → Prop} {St : Nat → Obj → Prop} {Side : Heap → Prop} {m : Str → Option Value} {news : List (Addr × Obj)} {it₀ : Obj}
    (hx : env.kindOf x = some .local) (hp : (env.scope.kind == .class || (env.scope.kind == .module && env.locals != env.globals)) = false)
    (hIL : I ≠ env.locals) (hnew : h₀.get? I = none)
    (item : ∀ i it (s' : Shared) (Q : Option Value → Shared → Prop), i < n → s'.heap.get? I = some it → St i it → Side s'.heap →
      (∀ v h' it' tk, P i v → St (i + 1) it' → h'.get? I = some it' → Heap.SameBut I s'.heap h' → Q (some v) { s' with heap := h', toks := tk }) → wpAny (model prog w) A (pyNext (.ref I)) Q (fun _ _ => False) s')
    (last : ∀ it (s' : Shared) (Q : Option Value → Shared → Prop), s'.heap.get? I = some it → St n it → Side s'.heap →
      (∀ h', Heap.ExtBut I s'.heap h' → Q none { s' with heap := h' }) → wpAny (model prog w) A (pyNext (.ref I)) Q (fun _ _ => False) s')
    (J : Nat → (Str → Option Value) → List (Addr × Obj) → Prop) (side : ∀ i m' n' h, J i m' n' → News h₀ env.locals h n' → Side h)
    (hst : St 0 it₀) (F : Fr h₀ env.locals s.heap m) (N : News h₀ env.locals s.heap ((I, it₀) :: news)) (off₀ : ∀ p ∈ news, p.1 ≠ I) (h0 : J 0 m news)
    (turn : ∀ i v it h tk m' news', i < n → P i v → St (i + 1) it → J i m' news' → Fr h₀ env.locals h (fun y => if y = x then some v else m' y) → News h₀ env.locals h ((I, it) :: news') → (∀ p ∈ news', p.1 ≠ I) →
      wpC (model prog w) A (execs body env) (fun f s₃ => match f with
        | .next => BetwC h₀ env.locals { s with heap := h, toks := tk } I (fun o => o = it) (J (i + 1)) s₃
        | .cont => BetwC h₀ env.locals { s with heap := h, toks := tk } I (fun o => o = it) (J (i + 1)) s₃
        | .brk => R (.ok .next) s₃
        | .ret v => R (.ok (.ret v)) s₃) (fun _ _ => False) { s with heap := h, toks := tk })
    (done : ∀ h tk m' news', J n m' news' → Fr h₀ env.locals h m' → News h₀ env.locals h news' → R (.ok .next) { s with heap := h, toks := tk }) :
    codeC (model prog w) A (.forLoop (.Name x px) (.ref I) body [] env) R s := by
  refine forC n (fun i s' => BetwC h₀ env.locals s I (St i) (J i) s') ?_ ?_ (by intro _; rfl) n 0 _ (Nat.zero_add _) ⟨it₀, s.heap, s.toks, m, news, rfl, hst, F, N, off₀, h0⟩
  · rintro i s' hi ⟨it, h, tk, m', news', rfl, hit, F', N', off, j⟩
    refine item i it _ _ hi (N' _ (.head _)).1 hit (side i m' news' h j fun p hp => N' p (.tail _ hp)) (fun v h₁ it₁ tk₁ hv hit₁ ho₁ hs₁ => ⟨_, rfl, ?_⟩)
    have F₁ : Fr h₀ env.locals h₁ m' := F'.change hs₁ hIL hnew
    have N₁ : News h₀ env.locals h₁ ((I, it₁) :: news') := fun p hp => by
      rcases List.mem_cons.mp hp with rfl | hp
      · exact ⟨ho₁, hIL, hnew⟩
      · exact ⟨(hs₁.2 p.1 (off p hp)).trans (N' p (.tail _ hp)).1, (N' p (.tail _ hp)).2⟩
    refine wpAny_assign_Name (wpAny_storeName_local hx F₁.ns (fun h₂ hn₂ hs₂ => ?_) hp)
    have F₂ := F₁.set hn₂ hs₂
    have N₂ := N₁.set hs₂
    refine wpC_mono (turn i v it₁ h₂ _ m' news' hi hv hit₁ j F₂ N₂ off) (fun f s₃ h₃ => ?_) fun _ _ x => x
    have bw : ∀ {tk}, BetwC h₀ env.locals { s with heap := h₂, toks := tk } I (fun o => o = it₁) (J (i + 1)) s₃ → BetwC h₀ env.locals s I (St (i + 1)) (J (i + 1)) s₃ := by
      rintro tk ⟨it', h', tk', m'', news'', rfl, rfl, F3, N3, off3, j3⟩
      exact ⟨_, h', tk', m'', news'', rfl, hit₁, F3, N3, off3, j3⟩
    cases f with
    | next => exact bw h₃
    | cont => exact bw h₃
    | brk => exact h₃
    | ret v => exact h₃
  · rintro s' ⟨it, h, tk, m', news', rfl, hit, F', N', off, j⟩
    refine last it _ _ (N' _ (.head _)).1 hit (side n m' news' h j fun p hp => N' p (.tail _ hp)) (fun h₁ hs₁ => ⟨rfl, ?_⟩)
    refine done h₁ _ m' news' j ⟨?_, fun b o e => hs₁ b o ?_ (F'.keep b o e), F'.above⟩ fun p hp => ⟨hs₁ _ _ (off p hp) (N' p (.tail _ hp)).1, (N' p (.tail _ hp)).2⟩
    · exact F'.ns.at' fun o e => hs₁ _ _ hIL.symm e
    · rintro rfl
      rw [hnew] at e
      cases e
theorem for_list {R : Result → Shared → Prop} {x : Str} {px : Pos} {body : List Stmt} {m : Str → Option Value} {news : List (Addr × Obj)} {ax : Addr} {lo : Obj} {vs : List Value} {c : Nat} {E : Value → Shared → Prop}
    (hh : A.handled = none) (hx : env.kindOf x = some .local) (hp : (env.scope.kind == .class || (env.scope.kind == .module && env.locals != env.globals)) = false)
    (F : Fr h₀ env.locals s.heap m) (N : News h₀ env.locals s.heap news) (hm : (ax, lo) ∈ news) (hc : lo.cls = .type "list") (hd : lo.data = .seq vs.toArray c)
    (J : Nat → (Str → Option Value) → List (Addr × Obj) → Prop) (h0 : J 0 m news) (hJ : ∀ i m' n', J i m' n' → (ax, lo) ∈ n')
    (turn : ∀ i v I it h tk m' news', i < vs.length → vs[i]? = some v → it.cls = .type "list_iterator" → J i m' news' → Fr h₀ env.locals h (fun y => if y = x then some v else m' y) → News h₀ env.locals h ((I, it) :: news') → (∀ p ∈ news', p.1 ≠ I) →
      wpC (model prog w) A (execs body env) (fun f s₃ => match f with
        | .next => BetwC h₀ env.locals { s with heap := h, toks := tk } I (fun o => o = it) (J (i + 1)) s₃
        | .cont => BetwC h₀ env.locals { s with heap := h, toks := tk } I (fun o => o = it) (J (i + 1)) s₃
        | .brk => R (.ok .next) s₃
        | .ret v => R (.ok (.ret v)) s₃) (fun _ _ => False) { s with heap := h, toks := tk })
    (done : ∀ h tk m' news', J vs.length m' news' → Fr h₀ env.locals h m' → News h₀ env.locals h news' → R (.ok .next) { s with heap := h, toks := tk }) :
    wpAny (model prog w) A (pyIter (.ref ax)) (fun it s₂ => codeC (model prog w) A (.forLoop (.Name x px) it body [] env) R s₂) E s := by
  have hax := N _ hm
  have hlist : s.heap.IsList ax vs.toArray := ⟨lo, hax.1, hc, c, hd⟩
  refine wpAny_pyIter_list hlist ?_
  refine for_gen (St := fun i it => it.cls = .type "list_iterator" ∧ it.data = .fields #[.ref ax, .int i 0]) (P := fun i v => vs[i]? = some v) (Side := fun h => h.IsList ax vs.toArray) (n := vs.length) hx hp (fun e => ?_) (next_is_new F) ?_ ?_ J
    (fun i m' n' h j N' => ⟨lo, (N' _ (hJ _ _ _ j)).1, hc, c, hd⟩) ⟨rfl, rfl⟩ (F.push _) (News.push F N _) (fun p hp e => ?_) h0 (fun i v it h tk m' news' hi hv hit j F' N' off => turn i v _ it h tk m' news' hi hv hit.1 j F' N' off) done
  · have := F.ns.lt
    rw [← e] at this
    exact Nat.lt_irrefl _ this
  · intro i it s' Q hi hg hst hl hQ
    refine wpAny_pyNext_list_item ⟨it, hg, hst⟩ hl (x := vs[i]) (by simp [hi]) (fun h' hit' hs' => ?_)
    obtain ⟨it', g', r'⟩ := hit'
    exact hQ _ h' it' s'.toks (by simp [hi]) r' g' hs'
  · intro it s' Q hg hst hl hQ
    exact wpAny_pyNext_list_end hh ⟨it, hg, hst⟩ hl (by simp) hQ
  · have := Heap.lt_size (N p hp).1
    rw [e] at this
    exact Nat.lt_irrefl _ this
theorem for_range {R : Result → Shared → Prop} {x : Str} {px : Pos} {body : List Stmt} {m : Str → Option Value} {news : List (Addr × Obj)} {r : Addr} {n : Nat} {t₀ u₀ v₀ : Tok} {E : Value → Shared → Prop}
    (hh : A.handled = none) (hx : env.kindOf x = some .local) (hp : (env.scope.kind == .class || (env.scope.kind == .module && env.locals != env.globals)) = false)
    (hr : IsRange s.heap r 0 n 1 t₀ u₀ v₀) (hsmall : Builtin.Range.small 0 n 1 = true) (hsz : Builtin.Range.rangeSize 0 n 1 = (n : Int))
    (F : Fr h₀ env.locals s.heap m) (N : News h₀ env.locals s.heap news)
    (J : Nat → (Str → Option Value) → List (Addr × Obj) → Prop) (h0 : J 0 m news)
    (turn : ∀ i t I it h tk m' news', i < n → it.cls = .type "range_iterator" → J i m' news' → Fr h₀ env.locals h (fun y => if y = x then some (.int (i : Int) t) else m' y) → News h₀ env.locals h ((I, it) :: news') → (∀ p ∈ news', p.1 ≠ I) →
      wpC (model prog w) A (execs body env) (fun f s₃ => match f with
        | .next => BetwC h₀ env.locals { s with heap := h, toks := tk } I (fun o => o = it) (J (i + 1)) s₃
        | .cont => BetwC h₀ env.locals { s with heap := h, toks := tk } I (fun o => o = it) (J (i + 1)) s₃
        | .brk => R (.ok .next) s₃
        | .ret v => R (.ok (.ret v)) s₃) (fun _ _ => False) { s with heap := h, toks := tk })
    (done : ∀ h tk m' news', J n m' news' → Fr h₀ env.locals h m' → News h₀ env.locals h news' → R (.ok .next) { s with heap := h, toks := tk }) :
    wpAny (model prog w) A (pyIter (.ref r)) (fun it s₂ => codeC (model prog w) A (.forLoop (.Name x px) it body [] env) R s₂) E s := by
  refine wpAny_pyIter_range hr hsmall ?_
  rw [hsz]
  refine for_gen (St := fun i it => it = itR (0 + (i : Int)) ((n : Int) - (i : Int))) (P := fun i v => ∃ t, v = .int (i : Int) t) (Side := fun _ => True) (n := n) hx hp (fun e => ?_) (next_is_new F) ?_ ?_ J
    (fun i m' n' h j N' => trivial) (by simp [itR]) (F.push _) (News.push F N _) (fun p hp e => ?_) h0 (fun i v it h tk m' news' hi hv hit j F' N' off => by obtain ⟨t, rfl⟩ := hv; exact turn i t _ it h tk m' news' hi (by rw [hit]; rfl) j F' N' off) done
  · have := F.ns.lt
    rw [← e] at this
    exact Nat.lt_irrefl _ this
  · rintro i it s' Q hi hg rfl _ hQ
    refine wpAny_pyNext_range_item (x := 0 + (i : Int)) (left := (n : Int) - (i : Int)) (step := 1) hg (by omega) (fun h' hit' hs' => ?_)
    have e1 : (0 : Int) + (i : Int) + 1 = 0 + ((i + 1 : Nat) : Int) := by omega
    have e2 : (n : Int) - (i : Int) - 1 = (n : Int) - ((i + 1 : Nat) : Int) := by omega
    rw [e1, e2] at hit'
    exact hQ _ h' _ (s'.toks + 1) ⟨_, by rw [Int.zero_add]⟩ rfl hit' hs'
  · rintro it s' Q hg rfl _ hQ
    exact wpAny_pyNext_range_end hh (x := 0 + (n : Int)) (left := (n : Int) - (n : Int)) (step := 1) hg (by omega) hQ
  · have := Heap.lt_size (N p hp).1
    rw [e] at this
    exact Nat.lt_irrefl _ this
end
end Mine
end

section -- E9
open PySem PySem.W PySem.Calls PyProof.Rows
set_option maxRecDepth 100000
namespace Mine
section
variable {prog : Program} {w : World} {A : Around} {s : Shared} {K : Frag} {p : Program} {loose : List Str} {mean : ExcName → Option Value} {mg mb : Str → Option Value}
    {R : Result → Shared → Prop} {name qual : Str} {params : Arguments} {body : List Stmt} {scope : Scope} {dV kV doc pm cdv ct oc : Value} {an od : Option Addr} {osl : Array (Option Value)} {f : Addr} {args : Args} {binds : List (Str × Value)}
/-- into a def that the caller itself calls -/
theorem enterR (X : K.In s.heap) (T : Top p loose mean mg mb s.heap) (hA : A.frames = some [])
    (ho : K.lookup f = some ⟨oc, od, .func (fnOf name qual params body scope dV kV doc pm an cdv ct), osl⟩) (hcd : codeIn K cdv qual = true) (hroom : A.depth < recursionLimit)
    (hbind : BindsTo s (fnOf name qual params body scope dV kV doc pm an cdv ct) args binds) (hloc : ∀ y ∈ binds, scope.names.lookup y.1 = some .local)
    (h : ∀ L h₁, Below A s.heap [] s.heap → Fr s.heap L h₁ (fun y => binds.reverse.lookup y) →
      wpC (model prog w) (A.deeper (envOf qual scope L f cdv)) (execs body (envOf qual scope L f cdv)) (fun fl s' => R (.ok (.ret (match fl with | .ret v => v | _ => .none))) s') (fun _ _ => False)
        { s with heap := h₁, toks := s.toks + binds.length })
    (hco : scope.isCoroutine = false) (hgen : scope.isGenerator = false) (hk : scope.kind = .function) (hcell : ∀ x ∈ scope.names, x.2 ≠ .cell) : codeC (model prog w) A (.call (.ref f) args) R s := by
  refine codeC_call_def (fd := fnOf name qual params body scope dV kV doc pm an cdv ct) (body := body) (binds := binds) hroom (X _ _ ho) rfl T.nolimit (codeRec_of X hcd) rfl hbind hcell hloc (fun h₁ hns hk₁ => ?_) hco hgen hk
  exact wpC_mono (h _ h₁ ⟨hA, fun _ _ e => e, trivial⟩ ⟨hns, hk₁, Nat.le_refl _⟩) (fun _ _ x => x) fun _ _ x => x.elim
end
theorem Fr.known {h₀ h : Heap} {L : Addr} {m : Str → Option Value} {n : Str} {v : Option Value} (F : Fr h₀ L h m) (e : m n = v) : Fr h₀ L h (fun y => if y = n then v else m y) := by
  have : (fun y => if y = n then v else m y) = m := by
    funext y
    by_cases h : y = n
    · rw [if_pos h, h, e]
    · rw [if_neg h]
  rw [this]; exact F
/-- _law_asked, whatever the text -/
theorem asked_all {w : World} (x : Str) (tx : Tok) (hx : x.length ≤ 400) (hlow : ∀ y ∈ partsOf x, ∀ c ∈ y.cps.toList, 0 < c ∧ c < 128) (pa : Addr) (t1 t2 : Tok) (n : Int) (news : List (Addr × Oj)) (hm : (pa, ({ cls := .type "tuple", data := .seq #[.str (Str.ofString "host") t1, .int n t2] } : Oj)) ∈ news)
    (mean : ExcName → Option Value) (mg mb : Str → Option Value) (dp un : Nat) (gd : Option (List Code)) (cn : Str) (cs : Scope) (a : Addr) (ccd : Value) (A₀ : Around) (base h₀ : Heap) (L : Addr) (m : Str → Option Value) (s : Shared) (Q E : Value → Shared → Prop)
    (XB : (hd.heap_39 w.params).In base) (TB : Top hd.view_39 Lo mean mg mb base) (B : Below A₀ base [] h₀) (F : Fr h₀ L s.heap m) (X : (hd.heap_39 w.params).In h₀) (N : News h₀ L s.heap news) (T : Top hd.view_39 Lo mean mg mb h₀) (hk : cs.kind = .function)
    (hdp : dp + 8 < recursionLimit) (hun : un + 40 < cLine)
    (hret : ∀ (v : Value) (own : List (Addr × Obj)) (h' : Heap) (tk' : Nat), Fr h₀ L h' m → News h₀ L h' (own ++ news) → (∃ a o, v = .ref a ∧ own = [(a, o)] ∧ ResObj (askedS x) o) → Q v { s with heap := h', toks := tk' }) :
    wpC (model PySem.Challenge.rw_wr0002_01.row.prog w) { handled := none, depth := dp, frames := some [envOf cn cs L a ccd], guards := gd, units := un } (call (.ref 134) [.str x tx, .ref pa]) Q E s := by
  have N' : News h₀ L s.heap ((pa, { cls := .type "tuple", data := .seq #[.str (Str.ofString "host") t1, .int n t2] }) :: news) := fun p hp => by
    rcases List.mem_cons.mp hp with rfl | hp
    · exact N _ hm
    · exact N _ hp
  have hret' : ∀ (v : Value) (own : List (Addr × Obj)) (h' : Heap) (tk' : Nat), Fr h₀ L h' m → News h₀ L h' (own ++ ((pa, { cls := .type "tuple", data := .seq #[.str (Str.ofString "host") t1, .int n t2] }) :: news)) → (∃ a o, v = .ref a ∧ own = [(a, o)] ∧ ResObj (askedS x) o) → Q v { s with heap := h', toks := tk' } :=
    fun v own h' tk' F' N' r => hret v own h' tk' F' (fun p hp => N' p (by
      rcases List.mem_append.mp hp with hp | hp
      · exact List.mem_append_left _ hp
      · exact List.mem_append_right _ (.tail _ hp))) r
  by_cases hb : askedS x = .badInt
  · exact asked_bad x tx hx hb hlow pa t1 t2 n news mean mg mb dp un gd cn cs a ccd A₀ base h₀ L m s Q E XB TB B F X N' T hk hdp hun hret'
  · exact wpC_lift (asked_ctr x tx (by omega) hb pa t1 t2 n news mean mg mb dp un gd cn cs a ccd A₀ base h₀ L m s Q E XB TB B F X N' T hk hdp hun hret')
end Mine
end

section -- N1
open PySem PySem.W PySem.Calls PyProof.Rows
set_option maxRecDepth 100000
namespace Mine
open Builtin._codecs
def ascL (l : List Nat) : List UInt8 := l.map fun c => c.toUInt8
def ascB (x : Str) : Array UInt8 := (ascL (toL x)).toArray
def Low (x : Str) : Prop := ∀ c ∈ toL x, c < 128
theorem asc_fold : ∀ (l : List Nat) (acc : Array UInt8), (∀ c ∈ l, c < 128) → l.foldl (fun acc y => acc ++ (utf8Codec.bytesOf y).toArray) acc = acc ++ (ascL l).toArray
  | [], acc, _ => by simp [ascL]
  | c :: r, acc, h => by
    have h1 : utf8Codec.bytesOf c = [c.toUInt8] := by
      show Str.utf8Of c = _
      unfold Str.utf8Of
      exact if_pos (h c (.head _))
    rw [List.foldl_cons, h1, asc_fold r _ fun d hd => h d (.tail _ hd)]
    simp [ascL]
theorem loop_two {α : Type} {body : Nat → α → Sem (ForInStep α)} {s0 s1 : α} (h1 : ∀ k, body k s0 = pure (.yield s1)) (h2 : ∀ k, body k s1 = pure (.done s1)) : ∀ n, 0 < n → (forIn (List.range' 0 n) s0 body : Sem α) = pure s1
  | 0, h => absurd h (Nat.lt_irrefl _)
  | 1, _ => by
    show forIn [0] s0 body = _
    rw [List.forIn_cons, h1, pure_bind]
    rfl
  | n + 2, _ => by
    show forIn (0 :: 1 :: List.range' 2 n) s0 body = _
    rw [List.forIn_cons, h1, pure_bind]
    dsimp only
    rw [List.forIn_cons, h2, pure_bind]
theorem not_bad {x : Str} (hx : Low x) {c : Nat} (h : c ∈ x.cps) : utf8Codec.bad c = false := by
  have h1 := hx c (by simpa [toL] using h)
  show Str.isSurrogate c = false
  unfold Str.isSurrogate
  simp
  omega
theorem asc_size (x : Str) : (ascB x).size = x.length := by simp [ascB, ascL, toL, Str.length]
theorem enc_ok {M : Model} {A : Around} {E : Value → Shared → Prop} {s : Shared} {id : String} {self : Value} {x : Str} {Q : Array UInt8 → Shared → Prop} (hx : Low x) (hl : x.length ≤ 4096) (h : Q (ascB x) s) :
    wpAny M A (encodeNarrow id utf8Codec none self x) Q E s := by
  unfold encodeNarrow
  simp only [Std.Legacy.Range.forIn_eq_forIn_range']
  have e0 : [0:x.length].size = x.length := by simp [Std.Legacy.Range.size]
  by_cases h0 : x.length = 0
  · rw [e0, h0]
    have : ascB x = #[] := Array.eq_empty_of_size_eq_zero (by rw [asc_size, h0])
    rw [this] at h
    exact wpAny_bind (wpAny_pure (wpAny_pure h))
  · have hn : 0 < [0:x.length].size := by rw [e0]; omega
    rw [loop_two (s1 := (x.length, ascB x, {})) ?_ ?_ _ hn]
    · exact wpAny_bind (wpAny_pure (wpAny_pure h))
    · intro k
      dsimp only
      rw [if_neg (show ¬ (#[] : Array UInt8).size > sizeLine from Nat.not_lt_zero _)]
      have hlt : 0 < x.cps.size := by have e : x.length = x.cps.size := rfl; omega
      rw [Array.getElem?_eq_getElem hlt]
      dsimp only
      rw [not_bad hx (Array.getElem_mem hlt)]
      have hf : Array.findIdx? utf8Codec.bad (x.cps.extract 0) = none := by
        rw [Array.findIdx?_eq_none_iff]
        intro c hc
        exact not_bad hx (by simpa using hc)
      rw [hf]
      simp only [Array.extract_size, Option.getD_none, Bool.not_false, if_true, Nat.zero_add]
      congr 3
      have := asc_fold x.cps.toList #[] hx
      rw [Array.foldl_toList] at this
      rw [this]
      simp [ascB, toL]
    · intro k
      dsimp only
      rw [if_neg (show ¬ (ascB x).size > sizeLine from by rw [asc_size, sizeLine_eq]; omega)]
      rw [Array.getElem?_eq_none (show x.cps.size ≤ x.length from Nat.le_refl _)]
section
variable {prog : Program} {w : World} {A : Around} {E : Value → Shared → Prop} {s : Shared}
theorem gm_encode {x : Str} {t : Tok} {pl : Sem Bool} {Q : Value × List Value → Shared → Prop} (h : Q (.builtin "str.encode", [.str x t]) s) : wpAny (model prog w) A (getMethod (.str x t) (Str.ofString "encode") pl) Q E s :=
  getMethod_builtin (typeIs_str _ _ _) F.plainAttrs_str F.slot_str_encode F.type_str_encode (fun _ e => nomatch e) h
theorem call_encode {x : Str} {t : Tok} {Q : Value → Shared → Prop} (hx : Low x) (hl : x.length ≤ 4096) (h : ∀ t' k, Q (.bytes (ascB x) t') { s with toks := k }) : wpAny (model prog w) A (call (.builtin "str.encode") [.str x t]) Q E s := by
  refine call_slot F.slot_str_encode (typeIs_str _ _ _) F.entry_str_encode (F.args_str_encode_1 _) ?_
  rw [encode_tree, encodeRoad_utf8]
  refine wpAny_bind (wpAny_bind (enc_ok hx hl (wpAny_mkBytes (wpAny_pure (h _ _)) (by rw [asc_size, sizeLine_eq]; omega))))
end
end Mine
end

section -- N2
open PySem PySem.W PySem.Calls PyProof.Rows
set_option maxRecDepth 100000
namespace Mine
section
variable {prog : Program} {w : World} {A : Around} {E : Value → Shared → Prop} {s₁ : Shared} {h₀ : Heap} {L : Addr} {m : Str → Option Value} {news : List (Addr × Obj)}
theorem paired_enc : ∀ {ws : List (Str × Tok)} {ys : List Value}, Paired (fun v y => ∃ x t t', v = Value.str x t ∧ y = Value.bytes (ascB x) t') (Vw ws) ys → ∃ vs : List (Array UInt8 × Tok), ys = Vb vs ∧ vs.map (·.1) = ws.map fun p => ascB p.1
  | [], _, h => by cases h; exact ⟨[], rfl, rfl⟩
  | (x, t) :: r, _, h => by
    cases h with
    | cons h1 h2 =>
      obtain ⟨x', t1, t2, e1, rfl⟩ := h1
      cases e1
      obtain ⟨vs, rfl, e⟩ := paired_enc h2
      exact ⟨(ascB x, t2) :: vs, rfl, by rw [List.map_cons, List.map_cons, e]⟩
theorem src_encode {env : Env} {elt : Expr} {x : Str} {scope : Scope} {Q : Value → Shared → Prop} {l : Addr} {ws : List (Str × Tok)} {c : Nat}
    (hh : A.handled = none) (F : Fr h₀ L s₁.heap m) (N : News h₀ L s₁.heap news) (hm : (l, PySem.W.listOf (Vw ws).toArray c) ∈ news) (low : ∀ p ∈ ws, Low p.1 ∧ p.1.length ≤ 600) (hn : ws.length ≤ 600)
    (g2 : ∀ C y t s₂ m₂ E', Low y → y.length ≤ 600 → s₂.heap.Ns (compEnv scope C env).locals m₂ → m₂ x = some (.str y t) → wpAny (model prog w) A (eval elt (compEnv scope C env)) (fun r s₃ => (∃ t', r = .bytes (ascB y) t') ∧ Keeps s₂ s₃) E' s₂)
    (h : ∀ D (vs : List (Array UInt8 × Tok)) n h' tk, vs.map (·.1) = ws.map (fun p => ascB p.1) → Fr h₀ L h' m → News h₀ L h' ((D, PySem.W.listOf (Vb vs).toArray n) :: news) → (∀ p ∈ news, p.1 ≠ D) → Q (.ref D) { s₁ with heap := h', toks := tk }) :
    wpAny (model prog w) A (pyIter (.ref l)) (CompPost prog w A env scope x [] elt Q) E s₁ := by
  have hN := (N _ hm).1
  have hl : s₁.heap.IsList l (Vw ws).toArray := ⟨_, hN, rfl, _, rfl⟩
  have hlt : l < s₁.heap.objs.size := Heap.lt_size hN
  refine wpAny_pyIter_list hl ?_
  have up : ∀ (h' : Heap), (∀ b o', b ∉ [s₁.heap.objs.size] → (s₁.heap.push { cls := .type "list_iterator", data := .fields #[.ref l, .int 0 0] }).get? b = some o' → h'.get? b = some o') → ∀ b o', s₁.heap.get? b = some o' → h'.get? b = some o' :=
    fun h' hk b o' e => hk b o' (not_iter_of_old e) (Heap.get?_push_of_some _ e)
  have at_ : ∀ (i : Nat) (v : Value), (Vw ws).toArray[i]? = some v → ∃ (y : Str) (t : Tok), v = Value.str y t ∧ Low y ∧ y.length ≤ 600 := by
    intro i v e
    have e1 : (Vw ws)[i]? = some v := by simpa using e
    obtain ⟨p, hp, rfl⟩ := List.mem_map.mp (List.mem_of_getElem? e1)
    exact ⟨_, _, rfl, low p hp⟩
  refine ⟨fun _ => true, fun v y => ∃ (x : Str) (t t' : Tok), v = Value.str x t ∧ y = Value.bytes (ascB x) t', s₁.heap.objs.size, [s₁.heap.objs.size, l], [s₁.heap.objs.size], (Vw ws).toArray.size, _, _, rfl, Walks.list hh _ l (Nat.ne_of_lt hlt) (Vw ws).toArray, (by rw [List.size_toArray, List.length_map, sizeLine_eq]; omega),
    ⟨⟨_, Heap.get?_push_size _ rfl, rfl, rfl⟩, hl.at fun o e => Heap.get?_push_of_some _ e⟩, ?_, ⟨?_, ?_⟩, ?_⟩
  · intro b hb
    show b < (s₁.heap.push _).objs.size
    rw [Heap.size_push]
    rcases List.mem_cons.mp hb with rfl | hb
    · exact Nat.lt_succ_self _
    · rw [List.mem_singleton.mp hb]; exact Nat.lt_succ_of_lt hlt
  · intro C i v s₃ m₃ E' hP hns hmx _ htk
    exact wpAny_pure ⟨rfl, s₃.heap, s₃.toks, rfl, fun _ _ e => e⟩
  · intro C i v s₃ m₃ E' hP _ hns hmx _ htk
    obtain ⟨y, t, rfl, h1, h2⟩ := at_ i v hP
    exact wpAny_mono (g2 C y t s₃ m₃ E' h1 h2 hns hmx) (fun r s₄ h₄ => ⟨by obtain ⟨⟨t', rfl⟩, _⟩ := h₄; exact ⟨_, _, _, rfl, rfl⟩, h₄.2⟩) fun _ _ e => e
  · intro D h' tk ys vs' hnew hlD hplD hlen hP hF hk
    have e' : vs' = Vw ws := by simpa using walked_is hlen hP
    subst e'
    rw [List.filter_eq_self.mpr (fun _ _ => rfl)] at hF
    obtain ⟨vs, e1, e2⟩ := paired_enc hF
    have hu := up h' hk
    obtain ⟨n, ho⟩ := hplD
    have F' := F.keeps hu
    have N' := N.grown hu
    have hD : h₀.get? D = none := by
      cases e : h₀.get? D with
      | none => rfl
      | some o' => rw [Heap.get?_push_of_some _ (F.keep _ _ e)] at hnew; cases hnew
    have hne : ∀ p ∈ news, p.1 ≠ D := fun p hp e => by rw [← e, Heap.get?_push_of_some _ (N p hp).1] at hnew; cases hnew
    have hobj : h'.get? D = some (PySem.W.listOf (Vb vs).toArray n) := by
      rw [← e1, Array.toArray_toList]
      exact ho
    exact h D vs n h' tk e2 F' (News.more F' N' hobj (fun es n q => by cases q) hD) hne
end
end Mine
end

section -- N3
open PySem PySem.W PySem.Calls PyProof.Rows
set_option maxRecDepth 100000
namespace Mine
open PySem.SeqAt PySem.MeetsSeq PySem.MeetsSeq2
section
variable {prog : Program} {w : World} {A : Around} {E : Value → Shared → Prop} {s : Shared} {h₀ : Heap} {L : Addr} {news : List (Addr × Obj)}
theorem eqAt_bytes (b : Array UInt8) (t u : Tok) : EqAt A s (.bytes b t) (.bytes b u) true := fun prog w E Q h => by
  unfold eqBool
  refine wpAny_holding ?_
  refine wpAny_ite_split (fun _ => ?_) (fun _ => ?_)
  · exact wpAny_bind (wpAny_rule (wpAny_pure h))
  · exact wpAny_bind (richCompare_gives (typeIs_bytes s b t) (typeIs_bytes s b u) FB.slot_bytes_eq FB.entry_bytes_eq (FB.args_bytes_eq_2 _ _) (gives_bytes_eq b b t u) (by simp [Made.takes]) (wpAny_truthy_bool (by simpa using h)))
theorem eqAt_vb {vs1 vs2 : List (Array UInt8 × Tok)} (e : vs1.map (·.1) = vs2.map (·.1)) : ∀ j (h1 : j < (Vb vs1).toArray.size) (h2 : j < (Vb vs2).toArray.size), EqAt A s (Vb vs1).toArray[j] (Vb vs2).toArray[j] true := by
  intro j h1 h2
  have k1 : j < vs1.length := by simpa using h1
  have k2 : j < vs2.length := by simpa using h2
  have e1 : (Vb vs1).toArray[j] = .bytes vs1[j].1 vs1[j].2 := by simp [Vb]
  have e2 : (Vb vs2).toArray[j] = .bytes vs2[j].1 vs2[j].2 := by simp [Vb]
  have e3 : vs1[j].1 = vs2[j].1 := by
    have a1 : (vs1.map (·.1))[j]? = some vs1[j].1 := by simp [k1]
    have a2 : (vs2.map (·.1))[j]? = some vs2[j].1 := by simp [k2]
    rw [e, a2] at a1
    exact (Option.some.inj a1).symm
  rw [e1, e2, e3]
  exact eqAt_bytes _ _ _
theorem ne_tuples {a b : Addr} {vs1 vs2 : List (Array UInt8 × Tok)} {o1 o2 : Obj} {Q : Value → Shared → Prop} (N : News h₀ L s.heap news) (ha : (a, o1) ∈ news) (hb : (b, o2) ∈ news)
    (c1 : o1.cls = .type "tuple") (d1 : o1.data = .seq (Vb vs1).toArray) (c2 : o2.cls = .type "tuple") (d2 : o2.data = .seq (Vb vs2).toArray) (e : vs1.map (·.1) = vs2.map (·.1)) (hu : A.units < cLine) (h : Q (.bool false) s) :
    wpAny (model prog w) A (compareOp .NotEq (.ref a) (.ref b)) Q E s := by
  have hl : vs1.length = vs2.length := by simpa using congrArg List.length e
  refine RcNeAt.tuples (e := fun _ => true) (items := (Vb vs1).toArray) (items2 := (Vb vs2).toArray) ⟨o1, (N _ ha).1, c1, _, d1⟩ ⟨o2, (N _ hb).1, c2, _, d2⟩ hu (eqAt_vb e) prog w E Q ?_
  have : (!((List.range (min (Vb vs1).toArray.size (Vb vs2).toArray.size)).all (fun _ => true) && (Vb vs1).toArray.size == (Vb vs2).toArray.size)) = false := by simp [hl]
  rw [this]; exact h
theorem ne_two {v1 v2 w1 w2 : Value} {a b : Addr} {o1 o2 : Obj} {k1 k2 : Nat} {Q : Value → Shared → Prop} (N : News h₀ L s.heap news) (ha : (a, o1) ∈ news) (hb : (b, o2) ∈ news)
    (c1 : o1.cls = .type "list") (d1 : o1.data = .seq #[v1, v2] k1) (c2 : o2.cls = .type "list") (d2 : o2.data = .seq #[w1, w2] k2) (e1 : EqAt A.in1 s v1 w1 true) (e2 : EqAt A.in1 s v2 w2 true) (hu : A.units < cLine) (h : Q (.bool false) s) :
    wpAny (model prog w) A (compareOp .NotEq (.ref a) (.ref b)) Q E s := by
  refine RcNeAt.lists (e := fun _ => true) (items := #[v1, v2]) (items2 := #[w1, w2]) ⟨o1, (N _ ha).1, c1, _, d1⟩ ⟨o2, (N _ hb).1, c2, _, d2⟩ rfl hu (fun j h1 h2 => ?_) prog w E Q h
  match j, h1 with
  | 0, _ => exact e1
  | 1, _ => exact e2
theorem ne_pair {v1 v2 w1 w2 : Value} {a b : Addr} {o1 o2 : Obj} {k1 k2 : Nat} {Q : Value → Shared → Prop} (N : News h₀ L s.heap news) (ha : (a, o1) ∈ news) (hb : (b, o2) ∈ news)
    (c1 : o1.cls = .type "tuple") (d1 : o1.data = .seq #[v1, v2] k1) (c2 : o2.cls = .type "tuple") (d2 : o2.data = .seq #[w1, w2] k2) (e1 : EqAt A.in1 s v1 w1 true) (e2 : EqAt A.in1 s v2 w2 true) (hu : A.units < cLine) (h : Q (.bool false) s) :
    wpAny (model prog w) A (compareOp .NotEq (.ref a) (.ref b)) Q E s := by
  refine RcNeAt.tuples (e := fun _ => true) (items := #[v1, v2]) (items2 := #[w1, w2]) ⟨o1, (N _ ha).1, c1, _, d1⟩ ⟨o2, (N _ hb).1, c2, _, d2⟩ hu (fun j h1 h2 => ?_) prog w E Q h
  match j, h1 with
  | 0, _ => exact e1
  | 1, _ => exact e2
theorem eqAt_str (x : Str) (t u : Tok) : EqAt A s (.str x t) (.str x u) true := by
  have := EqAt.str_str (A := A) (s := s) x t x u
  rwa [beq_self_eq_true] at this
theorem eqAt_int (x : Int) (t u : Tok) : EqAt A s (.int x t) (.int x u) true := by
  have := EqAt.int_int (A := A) (s := s) x t x u
  rwa [beq_self_eq_true] at this
theorem ne_res {r : Res} {a b : Addr} {o1 o2 : Obj} {Q : Value → Shared → Prop} (N : News h₀ L s.heap news) (ha : (a, o1) ∈ news) (hb : (b, o2) ∈ news) (r1 : ResObj r o1) (r2 : ResObj r o2) (hu : A.units < cLine) (h : Q (.bool false) s) :
    wpAny (model prog w) A (compareOp .NotEq (.ref a) (.ref b)) Q E s := by
  cases r with
  | reply =>
    obtain ⟨t, c, rfl⟩ := r1
    obtain ⟨t', c', rfl⟩ := r2
    exact ne_two N ha hb rfl rfl rfl rfl (eqAt_str _ _ _) (EqAt.same _) hu h
  | proto =>
    obtain ⟨t, c, rfl⟩ := r1
    obtain ⟨t', c', rfl⟩ := r2
    exact ne_two N ha hb rfl rfl rfl rfl (eqAt_str _ _ _) (EqAt.same _) hu h
  | badInt =>
    obtain ⟨t, c, rfl⟩ := r1
    obtain ⟨t', c', rfl⟩ := r2
    exact ne_two N ha hb rfl rfl rfl rfl (eqAt_str _ _ _) (EqAt.same _) hu h
  | port n =>
    obtain ⟨t, u, c, rfl⟩ := r1
    obtain ⟨t', u', c', rfl⟩ := r2
    exact ne_pair N ha hb rfl rfl rfl rfl (eqAt_str _ _ _) (eqAt_int _ _ _) hu h
end
end Mine
end

section -- L1
open PySem PySem.W PyProof.Rows
set_option maxRecDepth 100000
namespace Mine
def splitL (c : Nat) : List Nat → List (List Nat)
  | [] => [[]]
  | d :: r => if d = c then [] :: splitL c r else match splitL c r with | [] => [[d]] | p :: ps => (d :: p) :: ps
theorem splitL_free {c : Nat} : ∀ {p : List Nat}, c ∉ p → splitL c p = [p]
  | [], _ => rfl
  | d :: r, h => by
    unfold splitL
    rw [if_neg (fun (e : d = c) => h (e ▸ .head _)), splitL_free (fun m => h (.tail _ m))]
theorem splitL_app {c : Nat} {w : List Nat} : ∀ {p : List Nat}, c ∉ p → splitL c (p ++ c :: w) = p :: splitL c w
  | [], _ => by show splitL c (c :: w) = _; unfold splitL; rw [if_pos rfl]; cases w <;> rfl
  | d :: r, h => by
    show splitL c (d :: (r ++ c :: w)) = _
    rw [splitL, if_neg (fun (e : d = c) => h (e ▸ .head _)), splitL_app (fun m => h (.tail _ m))]
theorem toL_join (c : Nat) : ∀ ps : List Str, ps ≠ [] → (∀ p ∈ ps, c ∉ p.cps.toList) → splitL c (toL (Str.join ⟨#[c]⟩ ps)) = ps.map toL
  | [], h, _ => absurd rfl h
  | [p], _, hf => by
    show splitL c (toL p) = [toL p]
    exact splitL_free (hf p (.head _))
  | p :: q :: r, _, hf => by
    have ih := toL_join c (q :: r) (by simp) (fun x hx => hf x (.tail _ hx))
    have e : toL (Str.join ⟨#[c]⟩ (p :: q :: r)) = toL p ++ c :: toL (Str.join ⟨#[c]⟩ (q :: r)) := by
      show toL (p ++ ⟨#[c]⟩ ++ Str.join ⟨#[c]⟩ (q :: r)) = _
      rw [toL_app, toL_app, List.append_assoc]; rfl
    rw [e, splitL_app (hf p (.head _)), ih]; rfl
theorem split_codes (x : Str) (c : Nat) : (Txt.split x ⟨#[c]⟩).map toL = splitL c (toL x) := by
  have hp := split_pos x ⟨#[c]⟩
  have := toL_join c (Txt.split x ⟨#[c]⟩) (by intro e; rw [e] at hp; simp at hp) (fun p hp => StrLaws.split_free x c p hp)
  rw [StrLaws.join_split] at this
  exact this.symm
theorem splitL_head {c : Nat} : ∀ l : List Nat, (splitL c l)[0]? = some (l.takeWhile (· != c))
  | [] => rfl
  | d :: r => by
    have ih := splitL_head (c := c) r
    unfold splitL
    by_cases h : d = c
    · rw [if_pos h, List.takeWhile_cons, if_neg (by simp [h])]; rfl
    · rw [if_neg h, List.takeWhile_cons, if_pos (by simp [h])]
      cases hs : splitL c r with
      | nil => rw [hs] at ih; simp at ih
      | cons p ps =>
        rw [hs] at ih
        obtain rfl : p = r.takeWhile (· != c) := by simpa using ih
        rfl
theorem splitL_pos {c : Nat} (l : List Nat) : splitL c l ≠ [] := by
  intro e
  have := splitL_head (c := c) l
  rw [e] at this; simp at this
theorem splitL_snoc {c : Nat} : ∀ l : List Nat, splitL c (l ++ [c]) = splitL c l ++ [[]]
  | [] => by show splitL c [c] = _; simp [splitL]
  | d :: r => by
    show splitL c (d :: (r ++ [c])) = _
    unfold splitL
    rw [splitL_snoc r]
    by_cases h : d = c
    · rw [if_pos h, if_pos h]; rfl
    · rw [if_neg h, if_neg h]
      cases hs : splitL c r with
      | nil => exact absurd hs (splitL_pos r)
      | cons p ps => rfl
theorem splitL_len {c : Nat} : ∀ l : List Nat, (splitL c l).length = l.count c + 1
  | [] => rfl
  | d :: r => by
    have ih := splitL_len (c := c) r
    unfold splitL
    by_cases h : d = c
    · rw [if_pos h, List.length_cons, ih, h, List.count_cons_self]
    · rw [if_neg h, List.count_cons_of_ne (by exact h)]
      cases hs : splitL c r with
      | nil => exact absurd hs (splitL_pos r)
      | cons p ps => rw [hs] at ih; simpa using ih
def lastSeg (c : Nat) (l : List Nat) : List Nat := (l.reverse.takeWhile (· != c)).reverse
theorem lastSeg_free {c : Nat} {l : List Nat} (h : c ∉ l) : lastSeg c l = l := by
  unfold lastSeg
  have : ∀ u : List Nat, (∀ x ∈ u, x ≠ c) → u.takeWhile (· != c) = u := by
    intro u
    induction u with
    | nil => intro _; rfl
    | cons d r ih =>
      intro hu
      rw [List.takeWhile_cons, if_pos (by simpa using hu d (.head _)), ih fun x hx => hu x (.tail _ hx)]
  rw [this l.reverse (fun x hx e => h (by rw [← e]; simpa using hx)), List.reverse_reverse]
theorem lastSeg_app {c : Nat} {p w : List Nat} (h : c ∉ w) : lastSeg c (p ++ c :: w) = w := by
  unfold lastSeg
  have e : (p ++ c :: w).reverse = w.reverse ++ c :: p.reverse := by simp
  rw [e]
  have : ∀ u : List Nat, (∀ x ∈ u, x ≠ c) → (u ++ c :: p.reverse).takeWhile (· != c) = u := by
    intro u
    induction u with
    | nil => intro _; simp
    | cons d r ih =>
      intro hu
      rw [List.cons_append, List.takeWhile_cons, if_pos (by simpa using hu d (.head _)), ih fun x hx => hu x (.tail _ hx)]
  rw [this w.reverse (fun x hx e => h (by rw [← e]; simpa using hx)), List.reverse_reverse]
/-- a list either has no c, or is cut at its last one -/
theorem last_cut (c : Nat) : ∀ l : List Nat, c ∉ l ∨ ∃ p w, l = p ++ c :: w ∧ c ∉ w
  | [] => .inl (by simp)
  | d :: r => by
    rcases last_cut c r with h | ⟨p, w, e, hw⟩
    · by_cases hd : d = c
      · exact .inr ⟨[], r, by rw [hd]; rfl, h⟩
      · exact .inl (by intro m; rcases List.mem_cons.mp m with e | m; exact hd e.symm; exact h m)
    · exact .inr ⟨d :: p, w, by rw [e]; rfl, hw⟩
theorem splitL_two {c : Nat} {w : List Nat} (hw : c ∉ w) : ∀ p : List Nat, splitL c (p ++ c :: w) = splitL c p ++ [w]
  | [] => by show splitL c (c :: w) = _; simp [splitL, splitL_free hw]
  | d :: r => by
    show splitL c (d :: (r ++ c :: w)) = _
    unfold splitL
    rw [splitL_two hw r]
    by_cases h : d = c
    · rw [if_pos h, if_pos h]; rfl
    · rw [if_neg h, if_neg h]
      cases hs : splitL c r with
      | nil => exact absurd hs (splitL_pos r)
      | cons p ps => rfl
theorem splitL_last {c : Nat} (l : List Nat) : (splitL c l).getLast? = some (lastSeg c l) := by
  rcases last_cut c l with h | ⟨p, w, rfl, hw⟩
  · rw [splitL_free h, lastSeg_free h]; rfl
  · rw [splitL_two hw, lastSeg_app hw]; simp
theorem seen_codes {q y : Str} {c : Nat} (h : (Txt.split q ⟨#[c]⟩)[0]? = some y) : toL y = (toL q).takeWhile (· != c) := by
  have e := congrArg (fun l => l[0]?) (split_codes q c)
  rw [splitL_head] at e
  simp only [List.getElem?_map, h, Option.map_some, Option.some.injEq] at e
  exact e
end Mine
end

section -- L2
open PySem PySem.W PyProof.Rows
set_option maxRecDepth 100000
namespace Mine
theorem getD_toL (x : Str) (v : Nat) : x.cps.getD v 0 = (toL x).getD v 0 := by
  unfold toL
  by_cases h : v < x.cps.size
  · rw [Array.getD_eq_getD_getElem?, List.getD_eq_getElem?_getD, Array.getElem?_toList]
  · rw [Array.getD_eq_getD_getElem?, List.getD_eq_getElem?_getD, Array.getElem?_toList]
theorem find3_is {x : Str} {c i : Nat} {A B : List Nat} (hx : toL x = A ++ c :: B) (hi : i ≤ A.length) (hA : c ∉ A.drop i) : Txt.find3 x ⟨#[c]⟩ (i : Int) = (A.length : Int) := by
  have hl : x.length = A.length + (B.length + 1) := by rw [len_toL, hx]; simp
  have hf : PySem.fromIndex x.length (i : Int) = i := by rw [from_nat (by omega) (by omega)]; simp
  have hc : x.cps.getD A.length 0 = c := by rw [getD_toL, hx]; simp [List.getD_eq_getElem?_getD]
  rcases StrLaws.find3_spec x c i with ⟨_, hn⟩ | ⟨k, h, h1, h2, h3, h4⟩
  · exact absurd hc (hn A.length (by rw [hf]; exact hi) (by omega))
  · rw [hf] at h1 h4
    rw [h]
    by_cases hk : k < A.length
    · exfalso
      refine hA ?_
      rw [getD_toL, hx, List.getD_eq_getElem?_getD, List.getElem?_append_left hk, List.getElem?_eq_getElem hk] at h3
      have e : A[k] = c := h3
      have : (A.drop i)[k - i]? = some c := by
        rw [List.getElem?_drop, show i + (k - i) = k by omega, List.getElem?_eq_getElem hk, e]
      exact List.mem_of_getElem? this
    · by_cases hk2 : A.length < k
      · exact absurd hc (h4 A.length hi hk2)
      · have : k = A.length := by omega
        rw [this]
theorem find3_none {x : Str} {c i : Nat} (hi : i ≤ x.length) (h : c ∉ (toL x).drop i) : Txt.find3 x ⟨#[c]⟩ (i : Int) = -1 := by
  have hf : PySem.fromIndex x.length (i : Int) = i := by rw [from_nat (by omega) (by omega)]; simp
  rcases StrLaws.find3_spec x c i with ⟨h1, _⟩ | ⟨k, _, h1, h2, h3, _⟩
  · exact h1
  · exfalso
    rw [hf] at h1
    refine h ?_
    have hk : k < (toL x).length := by rw [← len_toL]; exact h2
    rw [getD_toL, List.getD_eq_getElem?_getD, List.getElem?_eq_getElem hk] at h3
    have e : (toL x)[k] = c := h3
    have : ((toL x).drop i)[k - i]? = some c := by
      rw [List.getElem?_drop, show i + (k - i) = k by omega, List.getElem?_eq_getElem hk, e]
    exact List.mem_of_getElem? this
theorem find_eq (x : Str) (c : Nat) : Txt.find x ⟨#[c]⟩ = Txt.find3 x ⟨#[c]⟩ ((0 : Nat) : Int) := by
  unfold Txt.find Txt.find3
  rw [from_nat (by omega) (by omega)]
  rfl
-- what stands at the end goes
def rtrim (p : Nat → Bool) (l : List Nat) : List Nat := (l.reverse.dropWhile p).reverse
theorem rtrim_snoc (p : Nat → Bool) (l : List Nat) (c : Nat) : rtrim p (l ++ [c]) = if p c = true then rtrim p l else l ++ [c] := by
  unfold rtrim
  rw [List.reverse_append, List.reverse_singleton, List.singleton_append, List.dropWhile_cons]
  by_cases h : p c = true
  · rw [if_pos h, if_pos h]
  · rw [if_neg h, if_neg h]; simp
theorem rtrim_take (p : Nat → Bool) (l : List Nat) : l.take (l.length - (l.reverse.takeWhile p).length) = rtrim p l := by
  have h := List.takeWhile_append_dropWhile (p := p) (l := l.reverse)
  have h2 : l = rtrim p l ++ (l.reverse.takeWhile p).reverse := by
    unfold rtrim
    rw [← List.reverse_append, h, List.reverse_reverse]
  have h3 : l.length = (rtrim p l).length + (l.reverse.takeWhile p).length := by
    have := congrArg List.length h2
    rwa [List.length_append, List.length_reverse] at this
  rw [show l.length - (l.reverse.takeWhile p).length = (rtrim p l).length by omega]
  have h4 : (rtrim p l ++ (l.reverse.takeWhile p).reverse).take (rtrim p l).length = rtrim p l := List.take_left
  rw [← h2] at h4
  exact h4
theorem rtrim_pre (p : Nat → Bool) (l : List Nat) : l.take (rtrim p l).length = rtrim p l ∧ (rtrim p l).length ≤ l.length := by
  have h := rtrim_take p l
  have h3 : (rtrim p l).length ≤ l.length := by rw [← h]; simp
  refine ⟨?_, h3⟩
  rw [← h, List.length_take]
  congr 1
  omega
theorem rtrim_mem {p : Nat → Bool} {l : List Nat} {c : Nat} (h : c ∈ rtrim p l) : c ∈ l := by
  rw [← (rtrim_pre p l).1] at h
  exact List.mem_of_mem_take h
theorem rtrim_last (p : Nat → Bool) (l : List Nat) : rtrim p l = [] ∨ ∃ u c, rtrim p l = u ++ [c] ∧ p c = false := by
  unfold rtrim
  cases h : l.reverse.dropWhile p with
  | nil => exact .inl rfl
  | cons c u =>
    refine .inr ⟨u.reverse, c, by simp, ?_⟩
    have := List.head?_dropWhile_not p l.reverse
    rw [h] at this
    simpa using this
theorem rtrim_congr {p q : Nat → Bool} {l : List Nat} (h : ∀ c ∈ l, p c = q c) : rtrim p l = rtrim q l := by
  have : ∀ u : List Nat, (∀ c ∈ u, p c = q c) → u.dropWhile p = u.dropWhile q := by
    intro u
    induction u with
    | nil => intro _; rfl
    | cons d r ih =>
      intro hu
      rw [List.dropWhile_cons, List.dropWhile_cons, hu d (.head _), ih fun x hx => hu x (.tail _ hx)]
  unfold rtrim
  rw [this l.reverse (fun c hc => h c (by simpa using hc))]
theorem rstrip_codes (x : Str) : toL (Txt.rstrip x) = rtrim Unicode.isSpace (toL x) := by
  have e : toL (Txt.rstrip x) = (toL x).take ((toL x).length - ((toL x).reverse.takeWhile Unicode.isSpace).length) := by
    unfold Txt.rstrip Txt.stripBy
    by_cases h : stripSame Unicode.isSpace false true x = true
    · rw [if_pos h]
      unfold stripSame stripHi stripLo at h
      simp only [if_false, if_true, List.drop_zero, Bool.false_eq_true, beq_self_eq_true, Bool.true_and, beq_iff_eq] at h
      rw [List.take_of_length_le]
      have : x.length = (toL x).length := len_toL x
      rw [this] at h
      exact Nat.le_of_eq h.symm
    · rw [if_neg h]
      unfold PySem.stripped stripHi stripLo
      simp only [if_false, if_true, List.drop_zero, Bool.false_eq_true]
      rw [show toL (Builtin.Str.strSub x 0 _) = _ from StrLaws.strSub_toList x 0 _, List.drop_zero, Nat.sub_zero, len_toL]
  rw [e, rtrim_take]
def blankN (c : Nat) : Bool := c == 32 || c == 9
theorem space_all : ∀ c, c < 128 → alph c = true → Unicode.isSpace c = blankN c := by decide +kernel
theorem alph_lt {c : Nat} (h : alph c = true) : c < 121 := by
  unfold alph isDig at h
  simp only [Bool.or_eq_true, beq_iff_eq, Bool.and_eq_true, decide_eq_true_eq] at h
  omega
theorem space_is {c : Nat} (h : alph c = true) : Unicode.isSpace c = blankN c := space_all c (by have := alph_lt h; omega) h
theorem mul_codes {a : Int} (h0 : 0 ≤ a) (h4 : a ≤ 4) : toL (Txt.mul (Str.ofString "# ") a) = (List.replicate a.toNat [35, 32]).flatten := by
  have : a = 0 ∨ a = 1 ∨ a = 2 ∨ a = 3 ∨ a = 4 := by omega
  rcases this with rfl | rfl | rfl | rfl | rfl <;> decide +kernel
theorem comment_codes (x : Str) : toL (commentS x) = if rtrim Unicode.isSpace (toL x) = [] then [35] else 35 :: 32 :: rtrim Unicode.isSpace (toL x) := by
  unfold commentS
  have e := rstrip_codes x
  rw [len_toL, e]
  by_cases h : rtrim Unicode.isSpace (toL x) = []
  · rw [if_pos (by rw [h]; rfl), if_pos h]; decide +kernel
  · rw [if_neg (by intro k; exact h (List.length_eq_zero_iff.mp k)), if_neg h, toL_app, e, show toL (Str.ofString "# ") = [35, 32] from by decide +kernel]
    rfl
theorem bare_fold (x : Str) : ∀ n, n ≤ (toL x).length → List.foldl (fun (σ : Int × Unit) k => if (!!(Builtin.Str.occurrences (Str.ofString " \t") (Txt.item x k) 0 (Str.ofString " \t").length 1).isEmpty) = true then (k + 1, ()) else (σ.fst, ())) (0, ()) (rangeInts 0 1 n) = (((rtrim blankN ((toL x).take n)).length : Int), ())
  | 0, _ => by simp [rangeInts, rtrim]
  | n + 1, h => by
    have ih := bare_fold x n (by omega)
    have e1 : rangeInts 0 1 (n + 1) = rangeInts 0 1 n ++ [(n : Int)] := by simp [rangeInts, List.range_succ]
    rw [e1, List.foldl_append, ih, List.foldl_cons, List.foldl_nil]
    have hn : n < (toL x).length := by omega
    have e2 : Txt.item x (n : Int) = ofL [(toL x)[n]] := item_at x (List.getElem?_eq_getElem hn)
    have e3 : (toL x).take (n + 1) = (toL x).take n ++ [(toL x)[n]] := by rw [List.take_add_one, List.getElem?_eq_getElem hn]; rfl
    have e4 := blank_occ (toL x)[n]
    rw [e2, e3, rtrim_snoc]
    rw [show (ofL [(toL x)[n]] : Str) = ⟨#[(toL x)[n]]⟩ from rfl, e4]
    have e5 : ((toL x)[n] == 32 || (toL x)[n] == 9) = blankN (toL x)[n] := rfl
    rw [e5]
    cases blankN (toL x)[n] with
    | true => simp
    | false =>
      simp only [Bool.not_false, Bool.not_true, if_true, Bool.false_eq_true, if_false]
      rw [List.length_append, List.length_take, List.length_singleton]
      congr 1
      omega
theorem bare_codes (x : Str) : toL (bareS x) = rtrim blankN (toL x) := by
  unfold bareS
  have e : ((x.length : Int) - 0).toNat = (toL x).length := by rw [← len_toL]; omega
  rw [e, bare_fold x _ (Nat.le_refl _), List.take_length]
  dsimp only
  rw [slice_to, toL_ofL]
  exact (rtrim_pre _ _).1
end Mine
end

section -- L3
open PySem PySem.W PyProof.Rows
set_option maxRecDepth 100000
namespace Mine
def rowOf (x : Str) : Nat → Str
  | 0 => x
  | t + 1 => commentS (rowOf x t)
theorem rowOf_succ (x : Str) (t : Nat) : rowOf x (t + 1) = commentS (rowOf x t) := rfl
theorem rowOf_zero (x : Str) : rowOf x 0 = x := rfl
def aheadOf (x : Str) (i : Nat) : Int := if i = 0 then 0 else if (bareS x == Str.ofString "") = true then (i : Int) - 1 else i
def restOf (x : Str) (i : Nat) : Str := if i = 0 then x else if (bareS x == Str.ofString "") = true then Str.ofString "#" else bareS x
def hashL (n : Nat) : List Nat := (List.replicate n [35, 32]).flatten
theorem hashL_succ (n : Nat) : hashL (n + 1) = 35 :: 32 :: hashL n := by unfold hashL; rw [List.replicate_succ]; rfl
theorem hashL_len (n : Nat) : (hashL n).length = 2 * n := by
  induction n with
  | zero => rfl
  | succ n ih => rw [hashL_succ, List.length_cons, List.length_cons, ih]; omega
theorem hashL_mem {n c : Nat} (h : c ∈ hashL n) : c = 35 ∨ c = 32 := by
  induction n with
  | zero => cases h
  | succ n ih =>
    rw [hashL_succ] at h
    rcases List.mem_cons.mp h with h | h
    · exact .inl h
    · rcases List.mem_cons.mp h with h | h
      · exact .inr h
      · exact ih h
/-- a row: its hashes, and what stands behind them -/
structure TurnIs (r : Str) (a : Int) (q : Str) : Prop where
  a0 : 0 ≤ a
  a4 : a ≤ 4
  ql : q.length ≤ 24
  qs : Signs q
  rl : toL r = hashL a.toNat ++ toL q
theorem comment_keep {x : Str} {u : List Nat} {c : Nat} (h : toL x = u ++ [c]) (hc : Unicode.isSpace c = false) : toL (commentS x) = 35 :: 32 :: toL x := by
  have e : rtrim Unicode.isSpace (toL x) = toL x := by rw [h, rtrim_snoc, if_neg (by rw [hc]; exact Bool.false_ne_true)]
  rw [comment_codes, e, if_neg (by rw [h]; simp)]
theorem comment_first {z : Str} (hz : Signs z) : rtrim Unicode.isSpace (toL z) = rtrim blankN (toL z) := rtrim_congr (fun c hc => space_is (hz c hc))
theorem row_empty {z : Str} (hz : Signs z) (hb : rtrim blankN (toL z) = []) : ∀ i, toL (rowOf z (i + 1)) = hashL i ++ [35] := by
  intro i
  induction i with
  | zero =>
    rw [rowOf_succ, rowOf_zero, comment_codes, comment_first hz, if_pos hb]
    rfl
  | succ i ih =>
    rw [rowOf_succ, comment_keep ih (by decide +kernel), ih, hashL_succ]
    rfl
theorem row_full {z : Str} (hz : Signs z) (hb : rtrim blankN (toL z) ≠ []) : ∀ i, toL (rowOf z (i + 1)) = hashL (i + 1) ++ rtrim blankN (toL z) := by
  rcases rtrim_last blankN (toL z) with h | ⟨u, c, h, hc⟩
  · exact absurd h hb
  have hm : c ∈ toL z := rtrim_mem (p := blankN) (by rw [h]; simp)
  have hs : Unicode.isSpace c = false := by rw [space_is (hz c hm), hc]
  intro i
  induction i with
  | zero =>
    rw [rowOf_succ, rowOf_zero, comment_codes, comment_first hz, if_neg hb, hashL_succ]
    rfl
  | succ i ih =>
    have h2 : toL (rowOf z (i + 1)) = (hashL (i + 1) ++ u) ++ [c] := by rw [ih, h, List.append_assoc]
    rw [rowOf_succ, comment_keep h2 hs, ih, hashL_succ (i + 1)]
    rfl
theorem bare_empty (z : Str) : (bareS z == Str.ofString "") = true ↔ rtrim blankN (toL z) = [] := by
  rw [str_eq_iff, bare_codes, show toL (Str.ofString "") = [] from by decide +kernel]
  simp
theorem turn_is {z : Str} (hz1 : z.length ≤ 24) (hz2 : Signs z) : ∀ i, i < 5 → TurnIs (rowOf z i) (aheadOf z i) (restOf z i)
  | 0, _ => ⟨by show (0 : Int) ≤ 0; decide, by show (0 : Int) ≤ 4; decide, hz1, hz2, by show toL z = [] ++ toL z; rfl⟩
  | i + 1, hi => by
    have hne : ¬ (i + 1 = 0) := by omega
    by_cases hb : rtrim blankN (toL z) = []
    · have hb' := (bare_empty z).mpr hb
      have h := row_empty hz2 hb i
      have e1 : aheadOf z (i + 1) = (i : Int) := by unfold aheadOf; rw [if_neg hne, if_pos hb']; omega
      have e2 : restOf z (i + 1) = Str.ofString "#" := by unfold restOf; rw [if_neg hne, if_pos hb']
      rw [e1, e2]
      exact ⟨by omega, by omega, by decide, signs_hash, by rw [h]; rfl⟩
    · have hb' : ¬ (bareS z == Str.ofString "") = true := fun k => hb ((bare_empty z).mp k)
      have h := row_full hz2 hb i
      have e1 : aheadOf z (i + 1) = ((i + 1 : Nat) : Int) := by unfold aheadOf; rw [if_neg hne, if_neg hb']
      have e2 : restOf z (i + 1) = bareS z := by unfold restOf; rw [if_neg hne, if_neg hb']
      rw [e1, e2]
      refine ⟨by omega, by omega, Nat.le_trans (bareS_len z) hz1, fun c hc => ?_, ?_⟩
      · rw [bare_codes] at hc; exact hz2 c (rtrim_mem hc)
      · rw [h, bare_codes]; rfl
theorem TurnIs.row_len {r : Str} {a : Int} {q : Str} (T : TurnIs r a q) : r.length ≤ 32 := by
  have h1 := T.ql
  have h2 := T.a4
  have h3 := T.a0
  rw [len_toL] at h1 ⊢
  rw [T.rl, List.length_append, hashL_len]
  omega
theorem TurnIs.row_signs {r : Str} {a : Int} {q : Str} (T : TurnIs r a q) : Signs r := fun c hc => by
  rw [T.rl] at hc
  rcases List.mem_append.mp hc with hc | hc
  · rcases hashL_mem hc with rfl | rfl <;> decide
  · exact T.qs c hc
theorem TurnIs.row_eq {r : Str} {a : Int} {q : Str} (T : TurnIs r a q) : (r != Txt.mul (Str.ofString "# ") a ++ q) = false := by
  have : r = Txt.mul (Str.ofString "# ") a ++ q := toL_inj (by rw [toL_app, mul_codes T.a0 T.a4, T.rl]; rfl)
  rw [← this]; simp
theorem low_of_signs {x : Str} (h : Signs x) : Low x := fun c hc => by have := alph_lt (h c hc); omega
theorem low_app {x y : Str} (h : Low x) (h2 : Low y) : Low (x ++ y) := fun c hc => by
  rw [toL_app] at hc
  rcases List.mem_append.mp hc with hc | hc
  · exact h c hc
  · exact h2 c hc
theorem TurnIs.opened {r : Str} {a : Int} {q y o : Str} (T : TurnIs r a q) (hy : (Txt.split q (Str.ofString ")"))[0]? = some y) (ho : (Txt.split r (Str.ofString ")"))[0]? = some o) :
    toL o = hashL a.toNat ++ toL y ∧ toL o = (toL r).takeWhile (· != 41) ∧ toL y = (toL q).takeWhile (· != 41) := by
  have e1 := seen_codes (c := 41) hy
  have e2 := seen_codes (c := 41) ho
  refine ⟨?_, e2, e1⟩
  rw [e2, e1, T.rl]
  have : ∀ u : List Nat, (∀ x ∈ u, x ≠ 41) → ∀ v : List Nat, (u ++ v).takeWhile (· != 41) = u ++ v.takeWhile (· != 41) := by
    intro u
    induction u with
    | nil => intro _ v; rfl
    | cons d r ih =>
      intro hu v
      rw [List.cons_append, List.takeWhile_cons, if_pos (by simpa using hu d (.head _)), ih fun x hx => hu x (.tail _ hx)]
      rfl
  exact this _ (fun x hx => by rcases hashL_mem hx with rfl | rfl <;> decide) _
-- words
def wB {α : Type} (p : α → Bool) : List α → (List α × List (List α)) × List (List α)
  | [] => (([], []), [])
  | c :: r => if p c = true then (([], (wB p r).2), (wB p r).2) else ((c :: (wB p r).1.1, (wB p r).1.2), (c :: (wB p r).1.1) :: (wB p r).1.2)
theorem words_fold : ∀ (l : List Nat) (W : List (List Nat)), (l.foldl wordsStep (W, true)).1 = W ++ (wB blankN l).2 ∧ ∀ w, (l.foldl wordsStep (W ++ [w], false)).1 = W ++ (w ++ (wB blankN l).1.1) :: (wB blankN l).1.2
  | [], W => ⟨by simp [wB], fun w => by simp [wB]⟩
  | c :: r, W => by
    have hb : (c = 32 ∨ c = 9) ↔ blankN c = true := by simp [blankN]
    by_cases h : blankN c = true
    · have h' := hb.mpr h
      constructor
      · rw [List.foldl_cons]
        have : wordsStep (W, true) c = (W, true) := by unfold wordsStep; rw [if_pos h']
        rw [this, (words_fold r W).1]
        simp [wB, h]
      · intro w
        rw [List.foldl_cons]
        have : wordsStep (W ++ [w], false) c = (W ++ [w], true) := by unfold wordsStep; rw [if_pos h']
        rw [this, (words_fold r (W ++ [w])).1]
        simp [wB, h]
    · have h' : ¬ (c = 32 ∨ c = 9) := fun k => h (hb.mp k)
      constructor
      · rw [List.foldl_cons]
        have : wordsStep (W, true) c = (W ++ [[c]], false) := by unfold wordsStep; rw [if_neg h', if_pos rfl]
        rw [this, (words_fold r W).2 [c]]
        simp [wB, h]
      · intro w
        rw [List.foldl_cons]
        have : wordsStep (W ++ [w], false) c = (W ++ [w ++ [c]], false) := by
          unfold wordsStep
          rw [if_neg h', if_neg Bool.false_ne_true]
          simp
        rw [this, (words_fold r W).2 (w ++ [c])]
        simp [wB, h]
theorem wordsL_is (l : List Nat) : wordsL l = (wB blankN l).2 := by
  unfold wordsL
  rw [(words_fold l []).1]; rfl
theorem wB_drop {α : Type} (p : α → Bool) : ∀ l : List α, (wB p (l.dropWhile p)).2 = (wB p l).2
  | [] => rfl
  | c :: r => by
    rw [List.dropWhile_cons]
    by_cases h : p c = true
    · rw [if_pos h, wB_drop p r]; simp [wB, h]
    · rw [if_neg h]
theorem wB_take {α : Type} (p : α → Bool) : ∀ l : List α, (wB p l).1.1 = l.takeWhile (fun c => !p c) ∧ (wB p l).1.2 = (wB p (l.dropWhile (fun c => !p c))).2
  | [] => ⟨rfl, rfl⟩
  | c :: r => by
    have ih := wB_take p r
    rw [List.takeWhile_cons, List.dropWhile_cons]
    by_cases h : p c = true
    · simp [wB, h]
    · rw [if_pos (by simpa using h), if_pos (by simpa using h), ← ih.1, ← ih.2]
      simp [wB, h]
open Builtin.Bytes in
theorem words_wB : ∀ (f lim : Nat) (x : List UInt8), x.length < f → x.length < lim → words f lim x = (wB isSpace x).2
  | 0, _, _, h, _ => absurd h (Nat.not_lt_zero _)
  | f + 1, lim, x, h, hl => by
    have hd : (x.dropWhile isSpace).length ≤ x.length := (List.dropWhile_sublist _).length_le
    unfold words
    rw [← wB_drop isSpace x]
    cases hx : x.dropWhile isSpace with
    | nil => rfl
    | cons c r =>
      have hc : isSpace c = false := by
        have := List.head?_dropWhile_not isSpace x
        rw [hx] at this
        simpa using this
      rw [hx, List.length_cons] at hd
      have ht := wB_take isSpace r
      have hdr : (r.dropWhile (fun c => !isSpace c)).length ≤ r.length := (List.dropWhile_sublist _).length_le
      dsimp only
      rw [if_neg (by simp; omega), List.takeWhile_cons, if_pos (by simp [hc]), List.dropWhile_cons, if_pos (by simp [hc]), words_wB f (lim - 1) _ (by omega) (by omega), ← ht.1, ← ht.2]
      simp [wB, hc]
theorem wB_map {α β : Type} {p : α → Bool} {q : β → Bool} {g : α → β} : ∀ l : List α, (∀ c ∈ l, q (g c) = p c) → (wB q (l.map g)).1.1 = (wB p l).1.1.map g ∧ (wB q (l.map g)).1.2 = (wB p l).1.2.map (List.map g) ∧ (wB q (l.map g)).2 = (wB p l).2.map (List.map g)
  | [], _ => ⟨rfl, rfl, rfl⟩
  | c :: r, h => by
    obtain ⟨h1, h2, h3⟩ := wB_map (p := p) (q := q) (g := g) r (fun d hd => h d (.tail _ hd))
    have hc := h c (.head _)
    rw [List.map_cons]
    unfold wB
    rw [hc]
    by_cases hp : p c = true
    · simp [hp, h3]
    · simp [hp, h1, h2]
theorem space_byte : ∀ c, c < 128 → alph c = true → Builtin.Bytes.isSpace c.toUInt8 = blankN c := by decide +kernel
theorem words_bytes {l : List Nat} (h : ∀ c ∈ l, alph c = true) : wordsB (ascL l).toArray = (wordsL l).map fun w => (ascL w).toArray := by
  unfold wordsB
  have e : ((ascL l).toArray.toList : List UInt8) = l.map fun c => c.toUInt8 := rfl
  rw [e, words_wB _ _ _ (by simp [ascL]) (by simp [ascL]), wordsL_is, (wB_map (p := blankN) (q := Builtin.Bytes.isSpace) (g := fun c => c.toUInt8) l (fun c hc => space_byte c (by have := alph_lt (h c hc); omega) (h c hc))).2.2, List.map_map]
  rfl
theorem words_hash (n : Nat) (Y : List Nat) : wordsL (hashL n ++ Y) = List.replicate n [35] ++ wordsL Y := by
  rw [wordsL_is, wordsL_is]
  induction n with
  | zero => rfl
  | succ n ih =>
    rw [hashL_succ, List.replicate_succ]
    show (wB blankN (35 :: 32 :: (hashL n ++ Y))).2 = [35] :: (List.replicate n [35] ++ (wB blankN Y).2)
    rw [← ih]
    simp [wB, blankN]
end Mine
end

section -- L4
open PySem PySem.W PyProof.Rows
set_option maxRecDepth 100000
namespace Mine
def pageS (r : Str) : Str := Str.ofString "* 1 FETCH (FLAGS (\\Seen) FLAGS (" ++ r ++ Str.ofString ")) FLAGS (y"
def opB (o : Str) : Array UInt8 := #[42, 32, 49, 32, 70, 69, 84, 67, 72, 32, 40, 70, 76, 65, 71, 83, 32, 40] ++ ascB o
def preL : List Nat := [35, 32, 42, 32, 49, 32, 70, 69, 84, 67, 72, 32, 40, 70, 76, 65, 71, 83, 32, 40, 92, 83, 101, 101, 110, 41, 32, 70, 76, 65, 71, 83, 32, 40]
def postL : List Nat := [41, 41, 32, 70, 76, 65, 71, 83, 32, 40, 121]
theorem text_asc {l : List Nat} (h : ∀ c ∈ l, c < 128) : textOf (ascL l).toArray = l.toArray := by
  unfold textOf ascL
  rw [List.map_toArray, List.map_map]
  congr 1
  have : ∀ u : List Nat, (∀ c ∈ u, c < 128) → u.map ((fun (x : UInt8) => x.toNat) ∘ fun c => c.toUInt8) = u := by
    intro u
    induction u with
    | nil => intro _; rfl
    | cons d r ih =>
      intro hu
      rw [List.map_cons, ih fun x hx => hu x (.tail _ hx)]
      congr 1
      have := hu d (.head _)
      show d.toUInt8.toNat = d
      simp [Nat.toUInt8]
      omega
  exact this l h
theorem getD_arr (l : List Nat) (i : Nat) : l.toArray.getD i 0 = l.getD i 0 := by
  rw [Array.getD_eq_getD_getElem?, List.getD_eq_getElem?_getD, List.getElem?_toArray]
theorem no_line {l : List Nat} (h : ∀ c ∈ l, c < 128 ∧ c ≠ 10) : ∀ i, i < (textOf (ascL l).toArray).size → (textOf (ascL l).toArray).getD i 0 ≠ 10 := by
  rw [text_asc fun c hc => (h c hc).1]
  intro i hi
  have hi' : i < l.length := by simpa using hi
  rw [getD_arr, List.getD_eq_getElem?_getD, List.getElem?_eq_getElem hi']
  exact (h _ (List.getElem_mem hi')).2
theorem cnt_list {l : List Nat} : ∀ k p, p + k ≤ l.length → cnt notP l.toArray k p = (((l.drop p).take k).takeWhile (· != 41)).length
  | 0, p, _ => by simp [cnt]
  | k + 1, p, h => by
    have hp : p < l.length := by omega
    have ih := cnt_list (l := l) k (p + 1) (by omega)
    unfold cnt
    rw [getD_arr, List.getD_eq_getElem?_getD, List.getElem?_eq_getElem hp, List.drop_eq_getElem_cons hp, List.take_succ_cons, List.takeWhile_cons]
    have e : notP ((some l[p]).getD 0) = (l[p] != 41) := rfl
    rw [e]
    cases hc : (l[p] != 41) with
    | true => rw [if_pos rfl, if_pos rfl, List.length_cons, ih]
    | false => rw [if_neg (by decide), if_neg (by decide)]; rfl
theorem found_at {T : Array Nat} {n p0 : Nat} {r : Nat × Nat} (h : scanAt T n p0 = some r) : ∀ p, p0 ≤ p → (∀ j, p0 < j → j ≤ p → scanAt T n j = none) → found T n p = some r
  | 0, hp, _ => by
    obtain rfl : p0 = 0 := by omega
    exact h
  | p + 1, hp, hn => by
    unfold found
    by_cases e : p0 = p + 1
    · rw [← e, h]
    · rw [hn (p + 1) (by omega) (Nat.le_refl _)]
      exact found_at h p (by omega) fun j h1 h2 => hn j h1 (by omega)
theorem found_no {T : Array Nat} {n : Nat} : ∀ p, (∀ j, j ≤ p → scanAt T n j = none) → found T n p = none
  | 0, h => h 0 (Nat.le_refl _)
  | p + 1, h => by
    unfold found
    rw [h (p + 1) (Nat.le_refl _)]
    exact found_no p fun j hj => h j (by omega)
theorem scan_70 {T : Array Nat} {n j : Nat} (h : ¬ (j < n ∧ T.getD j 0 = 70)) : scanAt T n j = none := by
  unfold scanAt
  exact if_neg fun k => h k.1
theorem scan_41 {T : Array Nat} {n j : Nat} (h : ∀ i, j ≤ i → i < n → T.getD i 0 ≠ 41) : scanAt T n j = none := by
  unfold scanAt
  by_cases hl : Lies T n j lits
  · have hle := lies_le lits j hl (by decide)
    have h7 : j + 7 ≤ n := hle
    rw [if_pos hl, cnt_full (P := notP) (T := T) (n - (j + 7)) (j + 7) (fun i h1 h2 => by
      have := h i (by omega) (by omega)
      unfold notP
      simpa using this), if_neg (by omega)]
  · exact if_neg hl
theorem at_pre {l : List Nat} {k : Nat} (h : k < 34) : (preL ++ l).getD k 0 = preL.getD k 0 := by
  rw [List.getD_eq_getElem?_getD, List.getD_eq_getElem?_getD, List.getElem?_append_left (by exact h)]
theorem at_mid {R l : List Nat} {k : Nat} (h : k < R.length) : (preL ++ (R ++ l)).getD (34 + k) 0 = R.getD k 0 := by
  rw [List.getD_eq_getElem?_getD, List.getD_eq_getElem?_getD, List.getElem?_append_right (by exact Nat.le_add_right _ _)]
  have e : 34 + k - preL.length = k := by show 34 + k - 34 = k; omega
  rw [e, List.getElem?_append_left h]
theorem at_post {R l : List Nat} {k : Nat} : (preL ++ (R ++ l)).getD (34 + R.length + k) 0 = l.getD k 0 := by
  rw [List.getD_eq_getElem?_getD, List.getD_eq_getElem?_getD, List.getElem?_append_right (by show 34 ≤ _; omega)]
  have e : 34 + R.length + k - preL.length = R.length + k := by show 34 + R.length + k - 34 = _; omega
  rw [e, List.getElem?_append_right (by omega), show R.length + k - R.length = k by omega]
theorem pre_no70 : ∀ k, k < 34 → 27 < k → preL.getD k 0 ≠ 70 := by decide
theorem post_no70 : ∀ k, k < 11 → k ≠ 3 → postL.getD k 0 ≠ 70 := by decide
theorem post_no41 : ∀ k, k < 11 → 3 ≤ k → postL.getD k 0 ≠ 41 := by decide
theorem page_match {R : List Nat} (hR : ∀ c ∈ R, alph c = true) : matchOf (preL ++ (R ++ postL)).toArray = some (34, 34 + (R.takeWhile (· != 41)).length) := by
  have hlen : (preL ++ (R ++ postL)).length = 34 + R.length + 11 := by rw [List.length_append, List.length_append]; show 34 + (R.length + 11) = _; omega
  unfold matchOf
  rw [if_neg (by rw [List.size_toArray, hlen]; omega), List.size_toArray, hlen]
  have hO : (R.takeWhile (· != 41)).length ≤ R.length := (List.takeWhile_sublist _).length_le
  have scan0 : scanAt (preL ++ (R ++ postL)).toArray (34 + R.length + 11) 27 = some (34, 34 + (R.takeWhile (· != 41)).length) := by
    unfold scanAt
    have hl : Lies (preL ++ (R ++ postL)).toArray (34 + R.length + 11) 27 lits := by
      simp only [Lies, lits, getD_arr]
      refine ⟨⟨by omega, by rw [at_pre (by decide)]; decide⟩, ⟨by omega, by rw [at_pre (by decide)]; decide⟩, ⟨by omega, by rw [at_pre (by decide)]; decide⟩, ⟨by omega, by rw [at_pre (by decide)]; decide⟩, ⟨by omega, by rw [at_pre (by decide)]; decide⟩, ⟨by omega, by rw [at_pre (by decide)]; decide⟩, ⟨by omega, by rw [at_pre (by decide)]; decide⟩, trivial⟩
    have hc : cnt notP (preL ++ (R ++ postL)).toArray (34 + R.length + 11 - (27 + 7)) (27 + 7) = (R.takeWhile (· != 41)).length := by
      rw [cnt_list _ _ (by rw [hlen]; omega)]
      have e1 : (preL ++ (R ++ postL)).drop (27 + 7) = R ++ postL := List.drop_left' rfl
      rw [e1, List.take_of_length_le (by rw [List.length_append]; show R.length + 11 ≤ _; omega)]
      congr 1
      have : ∀ u : List Nat, (u ++ postL).takeWhile (· != 41) = u.takeWhile (· != 41) := by
        intro u
        induction u with
        | nil => rfl
        | cons d r ih =>
          rw [List.cons_append, List.takeWhile_cons, List.takeWhile_cons, ih]
      exact this R
    rw [if_pos hl, hc, if_pos (by omega)]
  refine found_at scan0 _ (by omega) fun j h1 h2 => ?_
  by_cases ha : j < 34
  · exact scan_70 fun k => pre_no70 j ha h1 (by rw [← at_pre (l := R ++ postL) ha, ← getD_arr]; exact k.2)
  · obtain ⟨k, rfl⟩ : ∃ k, j = 34 + k := ⟨j - 34, by omega⟩
    by_cases hb : k < R.length
    · refine scan_70 fun h => ?_
      rw [getD_arr, at_mid hb, List.getD_eq_getElem?_getD, List.getElem?_eq_getElem hb] at h
      have := hR _ (List.getElem_mem hb)
      rw [show R[k] = 70 from h.2] at this
      exact absurd this (by decide)
    · obtain ⟨m, rfl⟩ : ∃ m, k = R.length + m := ⟨k - R.length, by omega⟩
      by_cases hm : m = 3
      · subst hm
        refine scan_41 fun i h3 h4 => ?_
        obtain ⟨q, rfl⟩ : ∃ q, i = 34 + R.length + q := ⟨i - (34 + R.length), by omega⟩
        rw [getD_arr, at_post]
        exact post_no41 q (by omega) (by omega)
      · refine scan_70 fun h => ?_
        have h5 := h.2
        rw [getD_arr, ← Nat.add_assoc, at_post] at h5
        exact post_no70 m (by have := h.1; omega) hm h5
theorem page_codes (r : Str) : toL (commentS (pageS r)) = preL ++ (toL r ++ postL) := by
  have e1 : toL (pageS r) = [42, 32, 49, 32, 70, 69, 84, 67, 72, 32, 40, 70, 76, 65, 71, 83, 32, 40, 92, 83, 101, 101, 110, 41, 32, 70, 76, 65, 71, 83, 32, 40] ++ (toL r ++ postL) := by
    unfold pageS
    rw [toL_app, toL_app, show toL (Str.ofString "* 1 FETCH (FLAGS (\\Seen) FLAGS (") = [42, 32, 49, 32, 70, 69, 84, 67, 72, 32, 40, 70, 76, 65, 71, 83, 32, 40, 92, 83, 101, 101, 110, 41, 32, 70, 76, 65, 71, 83, 32, 40] from by decide +kernel, show toL (Str.ofString ")) FLAGS (y") = postL from by decide +kernel, List.append_assoc]
  have e2 : toL (pageS r) = ([42, 32, 49, 32, 70, 69, 84, 67, 72, 32, 40, 70, 76, 65, 71, 83, 32, 40, 92, 83, 101, 101, 110, 41, 32, 70, 76, 65, 71, 83, 32, 40] ++ (toL r ++ [41, 41, 32, 70, 76, 65, 71, 83, 32, 40])) ++ [121] := by
    rw [e1, List.append_assoc, List.append_assoc]; rfl
  rw [comment_keep e2 (by decide +kernel), e1]
  rfl
theorem pre_low : ∀ c ∈ preL, c < 128 ∧ c ≠ 10 := by decide
theorem post_low : ∀ c ∈ postL, c < 128 ∧ c ≠ 10 := by decide
theorem page_low {r : Str} (hr : Signs r) : ∀ c ∈ toL (commentS (pageS r)), c < 128 ∧ c ≠ 10 := by
  rw [page_codes]
  intro c hc
  rcases List.mem_append.mp hc with hc | hc
  · exact pre_low c hc
  · rcases List.mem_append.mp hc with hc | hc
    · have h1 := hr c hc
      refine ⟨by have := alph_lt h1; omega, ?_⟩
      rintro rfl
      exact absurd h1 (by decide)
    · exact post_low c hc
theorem page_len {r : Str} (hr : r.length ≤ 32) : (pageS r).length ≤ 200 ∧ (commentS (pageS r)).length ≤ 200 := by
  have h := congrArg List.length (page_codes r)
  rw [← len_toL, List.length_append, List.length_append, ← len_toL] at h
  have h2 : (commentS (pageS r)).length = 34 + (r.length + 11) := h
  refine ⟨?_, by omega⟩
  unfold pageS
  rw [len_toL, toL_app, toL_app, List.length_append, List.length_append, ← len_toL r, show (toL (Str.ofString "* 1 FETCH (FLAGS (\\Seen) FLAGS (")).length = 32 from by decide +kernel, show (toL (Str.ofString ")) FLAGS (y")).length = 11 from by decide +kernel]
  omega
theorem extract_asc {l : List Nat} {a b : Nat} : ((ascL l).toArray).extract a b = (ascL ((l.drop a).take (b - a))).toArray := by
  unfold ascL
  rw [List.extract_toArray, List.extract_eq_take_drop, List.map_take, List.map_drop]
theorem flags_page {r : Str} (hr : Signs r) : flagsOf (ascB (commentS (pageS r))) = (wordsL ((toL r).takeWhile (· != 41))).map fun w => (ascL w).toArray := by
  have hb : ascB (commentS (pageS r)) = (ascL (preL ++ (toL r ++ postL))).toArray := by unfold ascB; rw [page_codes]
  have hlow : ∀ c ∈ preL ++ (toL r ++ postL), c < 128 := fun c hc => (page_low hr c (by rw [page_codes]; exact hc)).1
  unfold flagsOf
  rw [hb, text_asc hlow, page_match hr]
  dsimp only
  rw [extract_asc]
  have e1 : (preL ++ (toL r ++ postL)).drop 34 = toL r ++ postL := List.drop_left' rfl
  rw [e1, show 34 + ((toL r).takeWhile (· != 41)).length - 34 = ((toL r).takeWhile (· != 41)).length by omega]
  have hO : ((toL r).takeWhile (· != 41)).length ≤ (toL r).length := (List.takeWhile_sublist _).length_le
  have e2 : (toL r ++ postL).take ((toL r).takeWhile (· != 41)).length = (toL r).takeWhile (· != 41) := by
    rw [List.take_append_of_le_length hO]
    exact (List.prefix_iff_eq_take.mp (List.takeWhile_prefix _)).symm
  rw [e2, words_bytes fun c hc => hr c ((List.takeWhile_sublist _).subset hc)]
theorem TurnIs.flags {r : Str} {a : Int} {q y : Str} (T : TurnIs r a q) (hy : (Txt.split q (Str.ofString ")"))[0]? = some y) {fs : List (Array UInt8)} (h : FlagsIs (ascB (commentS (pageS r))) fs) {ws : List (Str × Tok)} (hw : ws.map (fun p => toL p.1) = wordsL (toL y)) :
    fs = List.replicate a.toNat #[35] ++ ws.map fun p => ascB p.1 := by
  have e : fs = flagsOf (ascB (commentS (pageS r))) := by cases h; rfl
  have e2 : (toL r).takeWhile (· != 41) = hashL a.toNat ++ toL y := by
    have hp := split_codes r 41
    have := T.opened hy (o := ofL ((toL r).takeWhile (· != 41))) (by
      have h1 := splitL_head (c := 41) (toL r)
      rw [← hp] at h1
      rw [List.getElem?_map] at h1
      obtain ⟨s, hs, e⟩ := Option.map_eq_some_iff.mp h1
      have : s = ofL ((toL r).takeWhile (· != 41)) := by rw [← e, ofL_toL]
      rw [← this]; exact hs)
    rw [toL_ofL] at this
    exact this.1
  rw [e, flags_page T.row_signs, e2, words_hash, List.map_append, List.map_replicate, ← hw, List.map_map]
  rfl
theorem op_codes (o : Str) : opB o = (ascL ([42, 32, 49, 32, 70, 69, 84, 67, 72, 32, 40, 70, 76, 65, 71, 83, 32, 40] ++ toL o)).toArray := by
  unfold opB ascB ascL
  rw [List.map_append]
  apply Array.toList_inj.mp
  simp
theorem op_low : ∀ c ∈ ([42, 32, 49, 32, 70, 69, 84, 67, 72, 32, 40, 70, 76, 65, 71, 83, 32, 40] : List Nat), (c < 128 ∧ c ≠ 10) ∧ c ≠ 41 := by decide
theorem op_flags {o : Str} (ho : Signs o) (h41 : 41 ∉ toL o) : (∀ i, i < (textOf (opB o)).size → (textOf (opB o)).getD i 0 ≠ 10) ∧ ∀ fs, FlagsIs (opB o) fs → fs = [] := by
  have hlow : ∀ c ∈ [42, 32, 49, 32, 70, 69, 84, 67, 72, 32, 40, 70, 76, 65, 71, 83, 32, 40] ++ toL o, (c < 128 ∧ c ≠ 10) ∧ c ≠ 41 := by
    intro c hc
    rcases List.mem_append.mp hc with hc | hc
    · exact op_low c hc
    · have h1 := ho c hc
      refine ⟨⟨by have := alph_lt h1; omega, ?_⟩, fun e => h41 (e ▸ hc)⟩
      rintro rfl
      exact absurd h1 (by decide)
  rw [op_codes]
  refine ⟨no_line fun c hc => (hlow c hc).1, fun fs h => ?_⟩
  have e : fs = flagsOf (ascL ([42, 32, 49, 32, 70, 69, 84, 67, 72, 32, 40, 70, 76, 65, 71, 83, 32, 40] ++ toL o)).toArray := by cases h; rfl
  rw [e]
  unfold flagsOf
  rw [text_asc fun c hc => (hlow c hc).1.1]
  generalize [42, 32, 49, 32, 70, 69, 84, 67, 72, 32, 40, 70, 76, 65, 71, 83, 32, 40] ++ toL o = l at hlow
  have : matchOf l.toArray = none := by
    unfold matchOf
    split
    · rfl
    · refine found_no _ fun j _ => scan_41 fun i _ hi => ?_
      have hi' : i < l.length := by simpa using hi
      rw [getD_arr, List.getD_eq_getElem?_getD, List.getElem?_eq_getElem hi']
      exact (hlow _ (List.getElem_mem hi')).2
  rw [this]
end Mine
end

section -- L5
open PySem PySem.W PyProof.Rows
set_option maxRecDepth 100000
namespace Mine
open NumText
theorem dropWhile_congr {p q : Nat → Bool} : ∀ {l : List Nat}, (∀ c ∈ l, p c = q c) → l.dropWhile p = l.dropWhile q
  | [], _ => rfl
  | d :: r, h => by rw [List.dropWhile_cons, List.dropWhile_cons, h d (.head _), dropWhile_congr fun x hx => h x (.tail _ hx)]
theorem rtrim_cons {p : Nat → Bool} {c : Nat} {l : List Nat} (h : p c = false) : rtrim p (c :: l) = c :: rtrim p l := by
  unfold rtrim
  rw [List.reverse_cons, List.dropWhile_append]
  by_cases he : (l.reverse.dropWhile p).isEmpty = true
  · rw [if_pos he, List.dropWhile_cons, if_neg (by rw [h]; exact Bool.false_ne_true)]
    have : l.reverse.dropWhile p = [] := by simpa using he
    rw [this]; rfl
  · rw [if_neg he, List.reverse_append]; rfl
theorem ltrimL_cons (c : Nat) (r : List Nat) : ltrimL (c :: r) = if blankN c = true then ltrimL r else c :: r := by
  unfold ltrimL
  rw [List.dropWhile_cons]
  rfl
theorem ltrim_rtrim : ∀ l : List Nat, ltrimL (rtrim blankN l) = rtrim blankN (ltrimL l)
  | [] => rfl
  | c :: r => by
    have ih := ltrim_rtrim r
    by_cases h : blankN c = true
    · have e1 : ltrimL (c :: r) = ltrimL r := by rw [ltrimL_cons, if_pos h]
      rw [e1, ← ih]
      have e2 : rtrim blankN (c :: r) = [] ∨ rtrim blankN (c :: r) = c :: rtrim blankN r := by
        unfold rtrim
        rw [List.reverse_cons, List.dropWhile_append]
        by_cases he : (r.reverse.dropWhile blankN).isEmpty = true
        · rw [if_pos he, List.dropWhile_cons, if_pos h]; exact .inl rfl
        · rw [if_neg he, List.reverse_append]; exact .inr rfl
      rcases e2 with e2 | e2
      · have : rtrim blankN r = [] := by
          unfold rtrim at e2 ⊢
          rw [List.reverse_cons, List.dropWhile_append] at e2
          by_cases he : (r.reverse.dropWhile blankN).isEmpty = true
          · have : r.reverse.dropWhile blankN = [] := by simpa using he
            rw [this]; rfl
          · rw [if_neg he] at e2; simp at e2
        rw [e2, this]
      · rw [e2]
        rw [ltrimL_cons, if_pos h]
    · have hf : blankN c = false := by simpa using h
      have e1 : ltrimL (c :: r) = c :: r := by rw [ltrimL_cons, if_neg h]
      rw [e1, rtrim_cons hf, ltrimL_cons, if_neg h]
theorem step_dig {ds : Array Nat} {b : Bool} {c : Nat} (h : isDig c = true) : NumText.step 10 (ds, b) c = some (ds.push (c - 48), true) := by
  unfold isDig at h
  simp only [Bool.and_eq_true, decide_eq_true_eq] at h
  unfold NumText.step digit?
  rw [if_neg (by simp; omega), if_pos (by simp; omega)]
  dsimp only
  rw [if_pos (by omega)]
theorem dig_no : ∀ c, c < 121 → alph c = true → isDig c = false → (∀ ds b, NumText.step 10 (ds, b) c = none) := by
  intro c hc h hd ds b
  have hcase : c = 35 ∨ c = 32 ∨ c = 9 ∨ c = 45 ∨ c = 41 ∨ c = 40 ∨ c = 120 := by
    unfold alph at h
    rw [hd] at h
    simp only [Bool.or_eq_true, beq_iff_eq, Bool.false_eq_true, or_false] at h
    omega
  rcases hcase with rfl | rfl | rfl | rfl | rfl | rfl | rfl <;> rfl
theorem digits_fold : ∀ (l : List Nat) (ds : Array Nat) (b : Bool), (∀ c ∈ l, alph c = true) → l.foldlM (NumText.step 10) (ds, b) = if l.all isDig = true then some ((ds.toList ++ l.map (· - 48)).toArray, b || !l.isEmpty) else none
  | [], ds, b, _ => by simp
  | c :: r, ds, b, h => by
    rw [List.foldlM_cons]
    by_cases hc : isDig c = true
    · rw [step_dig hc]
      show r.foldlM (NumText.step 10) (ds.push (c - 48), true) = _
      rw [digits_fold r _ _ (fun d hd => h d (.tail _ hd)), List.all_cons, hc]
      simp
    · have hf : isDig c = false := by simpa using hc
      have ha := h c (.head _)
      rw [dig_no c (alph_lt ha) ha hf ds b, List.all_cons, hf]
      rfl
theorem digits_is {l : List Nat} (h : ∀ c ∈ l, alph c = true) : digits? 10 l = if l = [] ∨ l.all isDig = false then none else some (l.map (· - 48)).toArray := by
  unfold digits?
  rw [digits_fold l #[] false h]
  by_cases ha : l.all isDig = true
  · rw [if_pos ha]
    by_cases he : l = []
    · rw [if_pos (.inl he), he]; rfl
    · rw [if_neg (by rintro (k | k); exact he k; rw [ha] at k; cases k)]
      have : l.isEmpty = false := by simpa using he
      simp [this]
  · rw [if_neg ha, if_pos (.inr (by simpa using ha))]; rfl
theorem worth_is {l : List Nat} (h : l.all isDig = true) : (((l.map (· - 48)).toArray.foldl (fun acc d => acc * 10 + d) 0 : Nat) : Int) = digL l := by
  have key : ∀ (l : List Nat) (a : Nat) (b : Int), (∀ c ∈ l, 48 ≤ c) → (a : Int) = b → (((l.map (· - 48)).foldl (fun acc d => acc * 10 + d) a : Nat) : Int) = l.foldl (fun (a : Int) (c : Nat) => 10 * a + ((c : Int) - 48)) b := by
    intro l
    induction l with
    | nil => intro a b _ e; exact e
    | cons c r ih =>
      intro a b hc e
      rw [List.map_cons, List.foldl_cons, List.foldl_cons]
      refine ih _ _ (fun d hd => hc d (.tail _ hd)) ?_
      have := hc c (.head _)
      rw [← e]
      omega
  rw [List.foldl_toArray]
  refine key l 0 0 (fun c hc => ?_) rfl
  have := List.all_eq_true.mp h c hc
  unfold isDig at this
  simp only [Bool.and_eq_true, decide_eq_true_eq] at this
  exact this.1
theorem blank_alph : ∀ c, c < 121 → alph c = true → blank c = blankN c := by decide
theorem int_read {w : List Nat} (hw : ∀ c ∈ w, alph c = true) (hl : w.length ≤ 400) : PySem.intText? (ofL w) = numberL (ltrimL (rtrim blankN w)) := by
  have hlow : ∀ c ∈ w, 0 < c ∧ c < 128 := fun c hc => by
    have h1 := hw c hc
    refine ⟨?_, by have := alph_lt h1; omega⟩
    rcases Nat.eq_zero_or_pos c with rfl | h
    · exact absurd h1 (by decide)
    · exact h
  have e1 : numTextOf (ofL w) = w := by
    have : (ofL w).cps.all (· < 128) = true := by
      rw [← Array.all_toList, List.all_eq_true]
      intro c hc
      exact decide_eq_true (hlow c (by simpa [ofL] using hc)).2
    show (if (ofL w).cps.all (· < 128) then (ofL w).cps.toList else _) = w
    rw [if_pos this]
  have e2 : numSeenOf (ofL w) = w := by
    show (numTextOf (ofL w)).takeWhile (· != 0) = w
    rw [e1]
    have : ∀ u : List Nat, (∀ c ∈ u, 0 < c) → u.takeWhile (· != 0) = u := by
      intro u
      induction u with
      | nil => intro _; rfl
      | cons d r ih =>
        intro hu
        rw [List.takeWhile_cons, if_pos (by have := hu d (.head _); simp; omega), ih fun x hx => hu x (.tail _ hx)]
    exact this w fun c hc => (hlow c hc).1
  have eb : ∀ {l : List Nat}, (∀ c ∈ l, c ∈ w) → l.dropWhile blank = l.dropWhile blankN := fun hl => dropWhile_congr fun c hc => blank_alph c (alph_lt (hw c (hl c hc))) (hw c (hl c hc))
  have ed : w.dropWhile blank = ltrimL w := eb fun c hc => hc
  have hD : ∀ c ∈ ltrimL w, c ∈ w := fun c hc => (List.dropWhile_sublist _).subset hc
  have fin : ∀ (K : List Nat) (neg : Bool), (∀ c ∈ K, c ∈ w) → K.length ≤ w.length → (match digits? 10 (K.reverse.dropWhile blank).reverse with | some ds => if ds.size ≤ 4300 then some (worth neg ds) else none | none => none) =
      if rtrim blankN K = [] ∨ (rtrim blankN K).all isDig = false then none else some (if neg = true then - digL (rtrim blankN K) else digL (rtrim blankN K)) := by
    intro K neg hK hKl
    have e3 : (K.reverse.dropWhile blank).reverse = rtrim blankN K := by
      unfold rtrim
      rw [eb fun c hc => hK c (by simpa using hc)]
    rw [e3, digits_is fun c hc => hw c (hK c (rtrim_mem hc))]
    have hlen : (rtrim blankN K).length ≤ K.length := (rtrim_pre _ _).2
    by_cases hc : rtrim blankN K = [] ∨ (rtrim blankN K).all isDig = false
    · rw [if_pos hc, if_pos hc]
    · rw [if_neg hc, if_neg hc]
      dsimp only
      have ha : (rtrim blankN K).all isDig = true := by
        cases h : (rtrim blankN K).all isDig with
        | true => rfl
        | false => exact absurd (.inr h) hc
      rw [if_pos (by rw [List.size_toArray, List.length_map]; omega)]
      unfold worth
      rw [worth_is ha]
  have hDl : (ltrimL w).length ≤ w.length := (List.dropWhile_sublist _).length_le
  have e4 : PySem.intText? (ofL w) = match digits? 10 ((sign (ltrimL w)).2.reverse.dropWhile blank).reverse with | some ds => if ds.size ≤ 4300 then some (worth (sign (ltrimL w)).1 ds) else none | none => none := by
    unfold PySem.intText? core
    rw [e1, e2, if_pos (by simp), ed]
    rfl
  rw [ltrim_rtrim, e4]
  generalize ltrimL w = D at hD hDl
  have plain : (sign D = (false, D)) → figL (rtrim blankN D) = rtrim blankN D → (match digits? 10 ((sign D).2.reverse.dropWhile blank).reverse with | some ds => if ds.size ≤ 4300 then some (worth (sign D).1 ds) else none | none => none) = numberL (rtrim blankN D) := by
    intro hs hf
    rw [hs]
    dsimp only
    rw [fin D false hD hDl]
    unfold numberL
    rw [hf, if_pos rfl]
    rfl
  cases D with
  | nil => exact plain rfl rfl
  | cons c r =>
    have hc := hw c (hD c (.head _))
    by_cases h45 : c = 45
    · subst h45
      have hs : sign (45 :: r) = (true, r) := rfl
      rw [hs]
      dsimp only
      rw [fin r true (fun d hd => hD d (.tail _ hd)) (by simp only [List.length_cons] at hDl; omega), rtrim_cons (by decide)]
      unfold numberL
      have hf : figL (45 :: rtrim blankN r) = rtrim blankN r := rfl
      rw [hf]
      have hne : ¬ (45 :: rtrim blankN r = rtrim blankN r) := fun e => by have := congrArg List.length e; simp at this
      rw [if_neg hne]
      rfl
    · have h43 : c ≠ 43 := by rintro rfl; exact absurd hc (by decide)
      refine plain ?_ ?_
      · unfold sign
        split
        · rename_i e; cases e; exact absurd rfl h45
        · rename_i e; cases e; exact absurd rfl h43
        · rfl
      · have : ∀ u : List Nat, u.head? ≠ some 45 → figL u = u := by
          intro u hu
          unfold figL
          split
          · exact absurd rfl hu
          · rfl
        refine this _ fun e => ?_
        have h2 := (rtrim_pre blankN (c :: r)).1
        cases hr : rtrim blankN (c :: r) with
        | nil => rw [hr] at e; cases e
        | cons d u =>
          rw [hr] at e h2
          have hd : d = 45 := by simpa using e
          have : d = c := by
            rw [List.length_cons, List.take_succ_cons] at h2
            exact (List.cons.inj h2).1.symm
          exact h45 (this.symm.trans hd)
end Mine
end

section -- L6
open PySem PySem.W PyProof.Rows
set_option maxRecDepth 100000
namespace Mine
def replyS (r : Str) : Str := Str.ofString "229 Entering (" ++ r ++ Str.ofString ")"
def headL : List Nat := [50, 50, 57, 32, 69, 110, 116, 101, 114, 105, 110, 103, 32, 40]
def intRes (w : List Nat) : Res := match PySem.intText? (ofL w) with | some n => .port n | none => .badInt
def numR (w : List Nat) : Res := match numberL (ltrimL (rtrim blankN w)) with | none => .badInt | some k => .port k
theorem res_is {w : List Nat} (hw : ∀ c ∈ w, alph c = true) (hl : w.length ≤ 400) : intRes w = numR w := by
  unfold intRes numR
  rw [int_read hw hl]
  cases numberL (ltrimL (rtrim blankN w)) <;> rfl
theorem numR_blank {w : List Nat} : numR (32 :: w) = numR w := by
  unfold numR
  rw [ltrim_rtrim, ltrim_rtrim, ltrimL_cons, if_pos (by decide)]
def askedL : List Nat → Res
  | [] => .proto
  | m :: O => if (m :: O).getLast? ≠ some m then .proto else if (m :: O).count m ≠ 4 then .proto else intRes (lastSeg m (m :: O).dropLast)
theorem askedL_cons (m : Nat) (O : List Nat) : askedL (m :: O) = if (m :: O).getLast? ≠ some m then .proto else if (m :: O).count m ≠ 4 then .proto else intRes (lastSeg m (m :: O).dropLast) := rfl
theorem bne_ofL {a b : List Nat} : ((ofL a : Str) != ofL b) = (a != b) := by
  have : ((ofL a : Str) == ofL b) = (a == b) := by rw [str_eq_iff, toL_ofL, toL_ofL]
  unfold bne
  rw [this]
theorem getLast_at {O : List Nat} {l : Nat} (h : O.getLast? = some l) {Z : List Nat} : (O ++ Z)[O.length - 1]? = some l ∧ 0 < O.length := by
  have hpos : 0 < O.length := by cases O with | nil => cases h | cons => simp
  refine ⟨?_, hpos⟩
  rw [List.getElem?_append_left (by omega), ← List.getLast?_eq_getElem?, h]
theorem asked_is {x : Str} {O Z : List Nat} (hx : toL x = headL ++ (O ++ 41 :: Z)) (h41 : 41 ∉ O) : askedS x = askedL O := by
  have hlen : x.length = 14 + (O.length + (Z.length + 1)) := by rw [len_toL, hx, List.length_append, List.length_append]; rfl
  have e3 : (Txt.slice x none (some 3) != Str.ofString "229") = false := by
    have := slice_to x 3
    rw [show ((3 : Nat) : Int) = 3 from rfl] at this
    rw [this, hx, show (headL ++ (O ++ 41 :: Z)).take 3 = [50, 50, 57] from rfl, show (Str.ofString "229" : Str) = ofL [50, 50, 57] from toL_inj (by rw [toL_ofL]; decide +kernel), bne_ofL]
    rfl
  have eL : leftOf x = 13 := by
    have h1 : leftOf x = Txt.find3 x ⟨#[40]⟩ ((0 : Nat) : Int) := find_eq x 40
    rw [h1, find3_is (A := [50, 50, 57, 32, 69, 110, 116, 101, 114, 105, 110, 103, 32]) (B := O ++ 41 :: Z) (by rw [hx]; rfl) (Nat.zero_le _) (by decide)]
    rfl
  have eR : rightOf x = ((14 + O.length : Nat) : Int) := by
    have h1 : rightOf x = Txt.find3 x ⟨#[41]⟩ ((14 : Nat) : Int) := by
      unfold rightOf
      rw [eL]
      rfl
    rw [h1, find3_is (A := headL ++ O) (B := Z) (by rw [hx, List.append_assoc]) (by simp [headL]) (by rw [List.drop_append_of_le_length (by simp [headL])]; simp [headL]; exact h41)]
    rw [List.length_append]; rfl
  have i14 : ∀ {d : Nat}, (O ++ 41 :: Z)[0]? = some d → Txt.item x (leftOf x + 1) = ofL [d] := by
    intro d h
    rw [eL]
    have := item_at x (i := 14) (c := d) (by rw [hx, List.getElem?_append_right (by simp [headL])]; simpa [headL] using h)
    exact this
  unfold askedS
  rw [if_neg (by rw [e3]; exact Bool.false_ne_true), if_neg (by rw [eL]; decide), if_neg (by rw [eR]; omega)]
  cases O with
  | nil =>
    have h1 := i14 (d := 41) rfl
    have h2 : Txt.item x (rightOf x - 1) = ofL [40] := by
      rw [eR]
      have := item_at x (i := 13) (c := 40) (by rw [hx]; rfl)
      exact this
    rw [h1, h2, bne_ofL, if_pos (by decide)]
    rfl
  | cons m O =>
    have h1 := i14 (d := m) rfl
    obtain ⟨l, hl⟩ : ∃ l, (m :: O).getLast? = some l := by
      cases h : (m :: O).getLast? with
      | none => simp at h
      | some l => exact ⟨l, rfl⟩
    have h2 : Txt.item x (rightOf x - 1) = ofL [l] := by
      rw [eR]
      have hg := (getLast_at hl (Z := 41 :: Z)).1
      have := item_at x (i := 14 + ((m :: O).length - 1)) (c := l) (by
        rw [hx, List.getElem?_append_right (by simp [headL])]
        have : 14 + ((m :: O).length - 1) - headL.length = (m :: O).length - 1 := by show 14 + ((m :: O).length - 1) - 14 = _; omega
        rw [this]; exact hg)
      rw [← this]
      congr 1
      simp only [List.length_cons]
      omega
    rw [h1, h2, bne_ofL]
    have hp : (partsOf x).map toL = splitL m (m :: O) := by
      have e1 : partsOf x = Txt.split (Txt.slice x (some ((14 : Nat) : Int)) (some ((14 + (m :: O).length : Nat) : Int))) ⟨#[m]⟩ := by
        unfold partsOf
        rw [h1, eR, eL]
        rfl
      rw [e1, split_codes, slice_mid x (by omega) (by rw [← len_toL, hlen]; omega), toL_ofL, hx]
      have : (headL ++ (m :: O ++ 41 :: Z)).drop 14 = m :: O ++ 41 :: Z := List.drop_left' rfl
      rw [this, show 14 + (m :: O).length - 14 = (m :: O).length by omega, List.take_left' rfl]
    have hn : (partsOf x).length = (m :: O).count m + 1 := by
      have := congrArg List.length hp
      rwa [List.length_map, splitL_len] at this
    rw [askedL_cons]
    by_cases hlm : l = m
    · subst hlm
      have r1 : ¬ ((l :: O).getLast? ≠ some l) := by rw [hl]; simp
      rw [if_neg (show ¬ (([l] : List Nat) != [l]) = true by simp), if_neg r1]
      by_cases hc : (l :: O).count l = 4
      · rw [if_neg (show ¬ (partsOf x).length ≠ 5 by rw [hn, hc]; decide), if_neg (show ¬ (l :: O).count l ≠ 4 by rw [hc]; decide)]
        have hW : l :: O = (l :: O).dropLast ++ [l] := by
          rw [List.getLast?_eq_some_iff] at hl
          obtain ⟨ys, hys⟩ := hl
          rw [hys, List.dropLast_concat]
        have hs : splitL l (l :: O) = splitL l (l :: O).dropLast ++ [[]] := by
          conv => lhs; rw [hW]
          exact splitL_snoc _
        have hlen4 : (splitL l (l :: O).dropLast).length = 4 := by
          have := congrArg List.length hs
          rw [splitL_len, hc, List.length_append] at this
          simpa using this.symm
        have h3 : ((partsOf x).map toL)[3]? = some (lastSeg l (l :: O).dropLast) := by
          rw [hp, hs, List.getElem?_append_left (by omega), ← splitL_last, List.getLast?_eq_getElem?, hlen4]
        rw [List.getElem?_map] at h3
        obtain ⟨p, hp3, hpe⟩ := Option.map_eq_some_iff.mp h3
        rw [hp3]
        dsimp only
        unfold intRes
        rw [← hpe, ofL_toL]
        try rfl
      · rw [if_pos (show (partsOf x).length ≠ 5 by rw [hn]; omega), if_pos hc]
    · have r1 : (m :: O).getLast? ≠ some m := by rw [hl]; intro e; exact hlm (Option.some.inj e)
      rw [if_pos (show (([m] : List Nat) != [l]) = true by simp; exact fun e => hlm e.symm), if_pos r1]
-- what is told
def idx (m : Nat) (l : List Nat) : List Nat := (List.range l.length).filter fun k => l[k]? == some m
theorem idx_snoc (m : Nat) (l : List Nat) (c : Nat) : idx m (l ++ [c]) = idx m l ++ (if c = m then [l.length] else []) := by
  unfold idx
  rw [List.length_append, List.length_singleton, List.range_succ, List.filter_append]
  congr 1
  · refine List.filter_congr fun k hk => ?_
    have : k < l.length := by simpa using hk
    rw [List.getElem?_append_left this]
  · rw [List.filter_cons, List.filter_nil]
    have : (l ++ [c])[l.length]? = some c := by simp
    rw [this]
    by_cases h : c = m
    · rw [if_pos (by simpa using h), if_pos h]
    · rw [if_neg (by simpa using h), if_neg h]
theorem idx_free {m : Nat} {l : List Nat} (h : m ∉ l) : idx m l = [] := by
  unfold idx
  rw [List.filter_eq_nil_iff]
  intro k _ e
  have : l[k]? = some m := by simpa using e
  exact h (List.mem_of_getElem? this)
theorem idx_cut {m : Nat} {p : List Nat} : ∀ w : List Nat, m ∉ w → idx m (p ++ m :: w) = idx m p ++ [p.length] := by
  intro w
  induction hn : w.length generalizing w with
  | zero =>
    intro _
    obtain rfl : w = [] := List.length_eq_zero_iff.mp hn
    rw [idx_snoc, if_pos rfl]
  | succ n ih =>
    intro h
    obtain ⟨u, c, rfl⟩ : ∃ u c, w = u ++ [c] := ⟨w.dropLast, w.getLast (by intro e; rw [e] at hn; cases hn), (List.dropLast_concat_getLast _).symm⟩
    have hl : u.length = n := by simpa using hn
    have e : p ++ m :: (u ++ [c]) = (p ++ m :: u) ++ [c] := by simp
    rw [e, idx_snoc, ih u hl (fun k => h (List.mem_append_left _ k)), if_neg (fun k => h (List.mem_append_right _ (by rw [k]; exact .head _))), List.append_nil]
theorem idx_len (m : Nat) : ∀ l : List Nat, (idx m l).length = l.count m := by
  intro l
  induction hn : l.length generalizing l with
  | zero =>
    obtain rfl : l = [] := List.length_eq_zero_iff.mp hn
    rfl
  | succ n ih =>
    obtain ⟨u, c, rfl⟩ : ∃ u c, l = u ++ [c] := ⟨l.dropLast, l.getLast (by intro e; rw [e] at hn; cases hn), (List.dropLast_concat_getLast _).symm⟩
    rw [idx_snoc, List.length_append, ih u (by simpa using hn), List.count_append]
    by_cases h : c = m
    · rw [if_pos h, h]; simp
    · rw [if_neg h, List.count_singleton]; simp [h]
theorem places_is (y : Str) (m : Nat) : placesOf y (ofL [m]) = idx m (toL y) := by
  unfold placesOf idx
  rw [len_toL]
  refine List.filter_congr fun k hk => ?_
  have hk' : k < (toL y).length := by simpa using hk
  rw [item_at y (List.getElem?_eq_getElem hk'), List.getElem?_eq_getElem hk', str_eq_iff]
  simp only [toL_ofL]
  rw [Bool.eq_iff_iff]
  simp
def toldL (n : Nat) (m : Nat) (Y : List Nat) : Res := if Y.getLast? ≠ some m then .proto else if n + Y.count m ≠ 4 then .proto else numR (lastSeg m Y.dropLast)
theorem numRes_is (u : List Nat) : numRes (ofL u) = numR u := by
  unfold numRes numR
  rw [bare_codes, toL_ofL]
  try rfl
theorem seg_is {m : Nat} (p Z : List Nat) : (((p ++ Z).drop (beginOf (idx m p).reverse).toNat).take (p.length - (beginOf (idx m p).reverse).toNat)) = lastSeg m p ∧ 0 ≤ beginOf (idx m p).reverse ∧ (beginOf (idx m p).reverse).toNat ≤ p.length := by
  rcases last_cut m p with h | ⟨q, w, rfl, hw⟩
  · rw [idx_free h, lastSeg_free h]
    refine ⟨?_, by decide, Nat.zero_le _⟩
    show ((p ++ Z).drop 0).take (p.length - 0) = p
    rw [List.drop_zero, Nat.sub_zero, List.take_left' rfl]
  · rw [idx_cut w hw, lastSeg_app hw]
    have e : beginOf (idx m q ++ [q.length]).reverse = ((q.length + 1 : Nat) : Int) := by rw [List.reverse_append]; rfl
    rw [e]
    refine ⟨?_, by omega, by simp⟩
    have e2 : q ++ m :: w ++ Z = (q ++ [m]) ++ (w ++ Z) := by simp
    have e3 : (((q.length + 1 : Nat) : Int)).toNat = (q ++ [m]).length := by simp
    rw [e3, e2, List.drop_left' rfl, List.take_left' (by simp; omega)]
theorem told_is {n : Nat} {y : Str} {m : Nat} (hM : toldMark n y = ofL [m]) : toldS n y = toldL n m (toL y) := by
  unfold toldS toldL
  rw [hM, places_is]
  rcases last_cut m (toL y) with h | ⟨p, w, e, hw⟩
  · rw [idx_free h, if_pos]
    · rfl
    · intro k
      exact h (List.mem_of_getLast? k)
  · rw [e, idx_cut w hw, List.reverse_append]
    show toldR n y (p.length :: (idx m p).reverse) = _
    rw [toldR_cons, List.length_reverse, idx_len]
    have hyl : (y.length : Int) = p.length + (w.length + 1) := by rw [len_toL, e]; simp
    have hcount : (p ++ m :: w).count m = p.count m + 1 := by
      rw [List.count_append, List.count_cons_self, List.count_eq_zero_of_not_mem hw]
    rw [hcount]
    cases w with
    | cons c r =>
      have hlast : (p ++ m :: c :: r).getLast? ≠ some m := by
        intro k
        refine hw ?_
        have e5 : p ++ m :: c :: r = (p ++ [m]) ++ (c :: r) := by simp
        rw [e5, List.getLast?_append] at k
        cases hg : (c :: r).getLast? with
        | none => simp at hg
        | some d =>
          rw [hg] at k
          have : d = m := by simpa using k
          rw [← this]; exact List.mem_of_getLast? hg
      rw [if_pos hlast, if_pos]
      right
      rw [hyl]
      simp only [List.length_cons]
      omega
    | nil =>
      have hlast : ¬ ((p ++ [m]).getLast? ≠ some m) := by simp
      rw [if_neg hlast]
      by_cases hc : n + (p.count m + 1) ≠ 4
      · rw [if_pos hc, if_pos (.inl (by omega))]
      · rw [if_neg hc, if_neg (by rintro (k | k); exact k (by omega); rw [hyl] at k; simp at k), List.dropLast_concat, ← numRes_is]
        obtain ⟨s1, s2, s3⟩ := seg_is (m := m) p [m]
        congr 1
        obtain ⟨b, hb⟩ : ∃ b : Nat, beginOf (idx m p).reverse = b := ⟨_, (Int.toNat_of_nonneg s2).symm⟩
        rw [hb] at s1 s3 ⊢
        simp only [Int.toNat_natCast] at s1 s3
        rw [slice_mid y s3 (by rw [e]; simp), e, s1]
theorem hashL_snoc (n : Nat) : hashL (n + 1) = hashL n ++ [35, 32] := by
  induction n with
  | zero => rfl
  | succ n ih =>
    have h : hashL (n + 1 + 1) = 35 :: 32 :: hashL (n + 1) := hashL_succ (n + 1)
    rw [h, ih]
    conv => rhs; rw [← ih, hashL_succ]
    rfl
theorem mem_takeW {p : Nat → Bool} {c : Nat} : ∀ {l : List Nat}, c ∈ l.takeWhile p → p c = true
  | [], h => by cases h
  | d :: r, h => by
    rw [List.takeWhile_cons] at h
    by_cases hd : p d = true
    · rw [if_pos hd] at h
      rcases List.mem_cons.mp h with rfl | h
      · exact hd
      · exact mem_takeW h
    · rw [if_neg hd] at h; cases h
theorem lastSeg_hash {n : Nat} {V : List Nat} : numR (lastSeg 35 (hashL n ++ V)) = numR (lastSeg 35 V) := by
  rcases last_cut 35 V with h | ⟨p, w, rfl, hw⟩
  · cases n with
    | zero => rfl
    | succ n =>
      have e := hashL_snoc n
      have e2 : hashL (n + 1) ++ V = hashL n ++ 35 :: (32 :: V) := by rw [e, List.append_assoc]; rfl
      rw [e2, lastSeg_app (by intro m; rcases List.mem_cons.mp m with m | m; cases m; exact h m), lastSeg_free h, numR_blank]
  · rw [← List.append_assoc, lastSeg_app hw, lastSeg_app hw]
theorem count_hash (n : Nat) : (hashL n).count 35 = n := by
  induction n with
  | zero => rfl
  | succ n ih => rw [hashL_succ, List.count_cons_self, List.count_cons_of_ne (by decide), ih]
theorem getLast_app {A B : List Nat} (h : B ≠ []) : (A ++ B).getLast? = B.getLast? := by
  rw [List.getLast?_append]
  cases hg : B.getLast? with
  | none => exact absurd (List.getLast?_eq_none_iff.mp hg) h
  | some d => rfl
theorem seg_mem {m c : Nat} {l : List Nat} (h : c ∈ lastSeg m l) : c ∈ l := by
  unfold lastSeg at h
  have h1 : c ∈ l.reverse.takeWhile (· != m) := by simpa using h
  have := (List.takeWhile_sublist _).subset h1
  simpa using this
theorem seg_len (m : Nat) (l : List Nat) : (lastSeg m l).length ≤ l.length := by
  unfold lastSeg
  rw [List.length_reverse]
  exact Nat.le_trans (List.takeWhile_sublist _).length_le (by simp)
theorem TurnIs.reply_codes {r : Str} {a : Int} {q y : Str} (T : TurnIs r a q) (hy : (Txt.split q (Str.ofString ")"))[0]? = some y) : ∃ Z, toL (replyS r) = headL ++ ((hashL a.toNat ++ toL y) ++ 41 :: Z) ∧ 41 ∉ hashL a.toNat ++ toL y := by
  have ey := seen_codes (c := 41) hy
  have h41 : 41 ∉ hashL a.toNat ++ toL y := by
    intro h
    rcases List.mem_append.mp h with h | h
    · rcases hashL_mem h with e | e <;> cases e
    · rw [ey] at h
      have := mem_takeW h
      simp at this
  have er : toL (replyS r) = headL ++ ((hashL a.toNat ++ toL q) ++ [41]) := by
    unfold replyS
    rw [toL_app, toL_app, T.rl, show toL (Str.ofString "229 Entering (") = headL from by decide +kernel, show toL (Str.ofString ")") = [41] from by decide +kernel, List.append_assoc]
  have hq : toL q = toL y ++ (toL q).dropWhile (· != 41) := by rw [ey]; exact (List.takeWhile_append_dropWhile).symm
  cases hd : (toL q).dropWhile (· != 41) with
  | nil =>
    rw [hd, List.append_nil] at hq
    exact ⟨[], by rw [er, hq], h41⟩
  | cons c Z =>
    have hc : c = 41 := by
      have := List.head?_dropWhile_not (fun x : Nat => x != 41) (toL q)
      rw [hd] at this
      simpa using this
    subst hc
    rw [hd] at hq
    exact ⟨Z ++ [41], by rw [er, hq]; simp, h41⟩
theorem TurnIs.asked {r : Str} {a : Int} {q y : Str} (T : TurnIs r a q) (hy : (Txt.split q (Str.ofString ")"))[0]? = some y) : askedS (replyS r) = toldS a y := by
  obtain ⟨Z, hr, h41⟩ := T.reply_codes hy
  have ey := seen_codes (c := 41) hy
  have hys : ∀ c ∈ toL y, alph c = true := fun c hc => T.qs c (by rw [ey] at hc; exact (List.takeWhile_sublist _).subset hc)
  have hyl : (toL y).length ≤ 24 := by
    have h1 := T.ql
    rw [len_toL] at h1
    rw [ey]
    exact Nat.le_trans (List.takeWhile_sublist _).length_le h1
  rw [asked_is hr h41]
  have h0 := T.a0
  have h4 := T.a4
  obtain ⟨n, rfl⟩ : ∃ n : Nat, a = n := ⟨a.toNat, by omega⟩
  simp only [Int.toNat_natCast]
  have hall : ∀ c ∈ hashL n ++ toL y, alph c = true := fun c hc => by
    rcases List.mem_append.mp hc with hc | hc
    · rcases hashL_mem hc with rfl | rfl <;> decide
    · exact hys c hc
  have hlen : (hashL n ++ toL y).length ≤ 40 := by rw [List.length_append, hashL_len]; omega
  cases n with
  | zero =>
    show askedL (toL y) = _
    cases hY : toL y with
    | nil =>
      have e1 : y = Str.ofString "" := toL_inj (by rw [hY]; decide +kernel)
      rw [e1]
      rfl
    | cons m O =>
      have hM : toldMark ((0 : Nat) : Int) y = ofL [m] := by
        unfold toldMark
        rw [if_neg (by decide)]
        have := slice_to y 1
        rw [show ((1 : Nat) : Int) = 1 from rfl] at this
        rw [this, hY]; rfl
      rw [told_is (n := 0) hM, hY, askedL_cons]
      unfold toldL
      by_cases c1 : (m :: O).getLast? ≠ some m
      · rw [if_pos c1, if_pos c1]
      · rw [if_neg c1, if_neg c1, Nat.zero_add]
        by_cases c2 : (m :: O).count m ≠ 4
        · rw [if_pos c2, if_pos c2]
        · rw [if_neg c2, if_neg c2]
          refine res_is (fun c hc => hys c ?_) ?_
          · rw [hY]; exact (List.dropLast_sublist _).subset (seg_mem hc)
          · have := seg_len m (m :: O).dropLast
            have h2 := (List.dropLast_sublist (m :: O)).length_le
            rw [hY] at hyl
            omega
  | succ n =>
    have hM : toldMark ((n + 1 : Nat) : Int) y = ofL [35] := by
      unfold toldMark
      rw [if_pos (by omega)]
      exact toL_inj (by rw [toL_ofL]; decide +kernel)
    rw [told_is (n := n + 1) hM]
    have e : hashL (n + 1) ++ toL y = 35 :: (32 :: hashL n ++ toL y) := by rw [hashL_succ]; rfl
    have eA : askedL (hashL (n + 1) ++ toL y) = if (hashL (n + 1) ++ toL y).getLast? ≠ some 35 then .proto else if (hashL (n + 1) ++ toL y).count 35 ≠ 4 then .proto else intRes (lastSeg 35 (hashL (n + 1) ++ toL y).dropLast) := by
      rw [e, askedL_cons]
    rw [eA]
    unfold toldL
    by_cases hY : toL y = []
    · rw [hY, List.append_nil, if_pos (show ([] : List Nat).getLast? ≠ some 35 by decide), if_pos]
      have : ∀ k, (hashL (k + 1)).getLast? = some 32 := by
        intro k
        induction k with
        | zero => rfl
        | succ k ih => rw [hashL_succ, show 35 :: 32 :: hashL (k + 1) = [35, 32] ++ hashL (k + 1) from rfl, getLast_app (by rw [hashL_succ]; simp), ih]
      rw [this]
      decide
    · rw [getLast_app hY, List.count_append, count_hash]
      by_cases c1 : (toL y).getLast? ≠ some 35
      · rw [if_pos c1, if_pos c1]
      · rw [if_neg c1, if_neg c1]
        by_cases c2 : n + 1 + (toL y).count 35 ≠ 4
        · rw [if_pos c2, if_pos c2]
        · rw [if_neg c2, if_neg c2, List.dropLast_append_of_ne_nil hY]
          rw [← lastSeg_hash (n := n + 1)]
          have hsub : ∀ c ∈ hashL (n + 1) ++ (toL y).dropLast, c ∈ hashL (n + 1) ++ toL y := fun c hc => by
            rcases List.mem_append.mp hc with hc | hc
            · exact List.mem_append_left _ hc
            · exact List.mem_append_right _ ((List.dropLast_sublist _).subset hc)
          refine res_is (fun c hc => hall c (hsub c (seg_mem hc))) ?_
          have := seg_len 35 (hashL (n + 1) ++ (toL y).dropLast)
          have h2 := (List.dropLast_sublist (toL y)).length_le
          rw [List.length_append] at this hlen
          omega
end Mine
end

section -- L7
open PySem PySem.W PyProof.Rows
set_option maxRecDepth 100000
namespace Mine
theorem wB_mem {p : Nat → Bool} : ∀ (l : List Nat), (∀ c ∈ (wB p l).1.1, c ∈ l) ∧ (∀ w ∈ (wB p l).1.2, ∀ c ∈ w, c ∈ l) ∧ (∀ w ∈ (wB p l).2, ∀ c ∈ w, c ∈ l)
  | [] => ⟨(fun _ h => nomatch h), (fun _ h => nomatch h), (fun _ h => nomatch h)⟩
  | d :: r => by
    obtain ⟨h1, h2, h3⟩ := wB_mem (p := p) r
    unfold wB
    by_cases hd : p d = true
    · rw [if_pos hd]
      exact ⟨(fun _ h => nomatch h), fun w hw c hc => .tail _ (h3 w hw c hc), fun w hw c hc => .tail _ (h3 w hw c hc)⟩
    · rw [if_neg hd]
      have k : ∀ c ∈ d :: (wB p r).1.1, c ∈ d :: r := fun c hc => by
        rcases List.mem_cons.mp hc with rfl | hc
        · exact .head _
        · exact .tail _ (h1 c hc)
      refine ⟨k, fun w hw c hc => .tail _ (h2 w hw c hc), fun w hw c hc => ?_⟩
      rcases List.mem_cons.mp hw with rfl | hw
      · exact k c hc
      · exact .tail _ (h2 w hw c hc)
theorem TurnIs.seen {r : Str} {a : Int} {q y : Str} (T : TurnIs r a q) (hy : (Txt.split q (Str.ofString ")"))[0]? = some y) : Signs y ∧ y.length ≤ 24 := by
  have ey := seen_codes (c := 41) hy
  refine ⟨fun c hc => T.qs c (by rw [ey] at hc; exact (List.takeWhile_sublist _).subset hc), ?_⟩
  have h1 := T.ql
  rw [len_toL] at h1 ⊢
  rw [ey]
  exact Nat.le_trans (List.takeWhile_sublist _).length_le h1
theorem TurnIs.words {r : Str} {a : Int} {q y : Str} (T : TurnIs r a q) (hy : (Txt.split q (Str.ofString ")"))[0]? = some y) {ws : List (Str × Tok)} (hw : ws.map (fun p => toL p.1) = wordsL (toL y)) (hl : ∀ p ∈ ws, p.1.length ≤ y.length) : ∀ p ∈ ws, Low p.1 ∧ p.1.length ≤ 600 := by
  intro p hp
  obtain ⟨s1, s2⟩ := T.seen hy
  refine ⟨fun c hc => ?_, by have := hl p hp; omega⟩
  have hm : toL p.1 ∈ (wB blankN (toL y)).2 := by rw [← wordsL_is, ← hw]; exact List.mem_map.mpr ⟨p, hp, rfl⟩
  exact low_of_signs s1 c ((wB_mem (toL y)).2.2 _ hm c hc)
theorem splitL_mem {c : Nat} : ∀ (l : List Nat), ∀ w ∈ splitL c l, ∀ d ∈ w, d ∈ l
  | [], w, hw, d, hd => by
    unfold splitL at hw
    rw [List.mem_singleton.mp hw] at hd; exact hd
  | e :: r, w, hw, d, hd => by
    have ih := splitL_mem (c := c) r
    unfold splitL at hw
    by_cases h : e = c
    · rw [if_pos h] at hw
      rcases List.mem_cons.mp hw with rfl | hw
      · cases hd
      · exact .tail _ (ih w hw d hd)
    · rw [if_neg h] at hw
      cases hs : splitL c r with
      | nil => exact absurd hs (splitL_pos r)
      | cons p ps =>
        rw [hs] at hw ih
        rcases List.mem_cons.mp hw with rfl | hw
        · rcases List.mem_cons.mp hd with rfl | hd
          · exact .head _
          · exact .tail _ (ih p (.head _) d hd)
        · exact .tail _ (ih w (.tail _ hw) d hd)
theorem split_mem {x w : Str} {c : Nat} (hw : w ∈ Txt.split x ⟨#[c]⟩) : ∀ d ∈ toL w, d ∈ toL x := by
  have : toL w ∈ splitL c (toL x) := by rw [← split_codes]; exact List.mem_map.mpr ⟨w, hw, rfl⟩
  exact splitL_mem _ _ this
theorem slice_mem (x : Str) (l u : Option Int) : ∀ d ∈ toL (Txt.slice x l u), d ∈ toL x := by
  intro d hd
  unfold Txt.slice at hd
  split at hd
  · exact hd
  · have h1 : d ∈ (Builtin.Str.strSliceIndices l u 1 x.length).filterMap (x.cps[·]?) := by simpa [toL] using hd
    obtain ⟨i, _, hi⟩ := List.mem_filterMap.mp h1
    have := Array.mem_of_getElem? hi
    simpa [toL] using this
theorem parts_low {x : Str} (h : ∀ c ∈ toL x, 0 < c ∧ c < 128) : ∀ w ∈ partsOf x, ∀ c ∈ w.cps.toList, 0 < c ∧ c < 128 := by
  intro w hw c hc
  unfold partsOf at hw
  exact h c (slice_mem x _ _ c (split_mem hw c hc))
theorem alph_pos {c : Nat} (h : alph c = true) : 0 < c ∧ c < 128 := by
  refine ⟨?_, by have := alph_lt h; omega⟩
  rcases Nat.eq_zero_or_pos c with rfl | k
  · exact absurd h (by decide)
  · exact k
theorem head_low : ∀ c ∈ headL, 0 < c ∧ c < 128 := by decide
theorem reply_all {r : Str} (hr : Signs r) : ∀ c ∈ toL (replyS r), 0 < c ∧ c < 128 := by
  intro c hc
  unfold replyS at hc
  rw [toL_app, toL_app, show toL (Str.ofString "229 Entering (") = headL from by decide +kernel, show toL (Str.ofString ")") = [41] from by decide +kernel] at hc
  rcases List.mem_append.mp hc with hc | hc
  · rcases List.mem_append.mp hc with hc | hc
    · exact head_low c hc
    · exact alph_pos (hr c hc)
  · rw [List.mem_singleton.mp hc]; decide
theorem reply_len {r : Str} (hr : r.length ≤ 32) : (replyS r).length ≤ 400 := by
  unfold replyS
  rw [len_toL, toL_app, toL_app, List.length_append, List.length_append, ← len_toL r, show (toL (Str.ofString "229 Entering (")).length = 14 from by decide +kernel, show (toL (Str.ofString ")")).length = 1 from by decide +kernel]
  omega
theorem reply_comment {r : Str} (hr : r.length ≤ 32) : (commentS (replyS r)).length ≤ 400 ∧ askedS (commentS (replyS r)) = .reply := by
  have e1 : toL (replyS r) = (headL ++ toL r) ++ [41] := by
    unfold replyS
    rw [toL_app, toL_app, show toL (Str.ofString "229 Entering (") = headL from by decide +kernel, show toL (Str.ofString ")") = [41] from by decide +kernel]
  have e2 := comment_keep e1 (by decide +kernel)
  constructor
  · have := congrArg List.length e2
    rw [← len_toL, e1] at this
    rw [this]
    simp only [List.length_cons, List.length_append, List.length_nil, ← len_toL]
    show headL.length + r.length + 1 + 1 + 1 ≤ 400
    show 14 + r.length + 1 + 1 + 1 ≤ 400
    omega
  · unfold askedS
    have h3 := slice_to (commentS (replyS r)) 3
    rw [show ((3 : Nat) : Int) = 3 from rfl] at h3
    rw [h3, e2, e1, if_pos]
    rw [show (35 :: 32 :: (headL ++ toL r ++ [41])).take 3 = [35, 32, 50] from rfl, show (Str.ofString "229" : Str) = ofL [50, 50, 57] from toL_inj (by rw [toL_ofL]; decide +kernel), bne_ofL]
    decide
theorem head_no40 : 40 ∉ ([50, 50, 57, 32, 69, 110, 116, 101, 114, 105, 110, 103, 32] : List Nat) := by decide
theorem cuts_proto {r : Str} {o c : Str} (ho : (Txt.split r (Str.ofString ")"))[0]? = some o) (hc : (Txt.split r (Str.ofString "("))[0]? = some c) (h1 : o.length ≤ 48) (h2 : c.length ≤ 48) :
    ((Str.ofString "229 Entering (" ++ o).length ≤ 400 ∧ askedS (Str.ofString "229 Entering (" ++ o) = .proto) ∧ ((Str.ofString "229 Entering " ++ c ++ Str.ofString ")").length ≤ 400 ∧ askedS (Str.ofString "229 Entering " ++ c ++ Str.ofString ")") = .proto) := by
  have eo := seen_codes (c := 41) ho
  have ec := seen_codes (c := 40) hc
  have no41 : 41 ∉ toL o := by
    intro h; rw [eo] at h
    have := mem_takeW h
    simp at this
  have no40 : 40 ∉ toL c := by
    intro h; rw [ec] at h
    have := mem_takeW h
    simp at this
  have k1 : toL (Str.ofString "229 Entering (" ++ o) = headL ++ toL o := by rw [toL_app, show toL (Str.ofString "229 Entering (") = headL from by decide +kernel]
  have k2 : toL (Str.ofString "229 Entering " ++ c ++ Str.ofString ")") = [50, 50, 57, 32, 69, 110, 116, 101, 114, 105, 110, 103, 32] ++ (toL c ++ [41]) := by
    rw [toL_app, toL_app, show toL (Str.ofString "229 Entering ") = [50, 50, 57, 32, 69, 110, 116, 101, 114, 105, 110, 103, 32] from by decide +kernel, show toL (Str.ofString ")") = [41] from by decide +kernel, List.append_assoc]
  have e229 : ∀ (x : Str) (R : List Nat), toL x = 50 :: 50 :: 57 :: R → (Txt.slice x none (some 3) != Str.ofString "229") = false := by
    intro x R hx
    have := slice_to x 3
    rw [show ((3 : Nat) : Int) = 3 from rfl] at this
    rw [this, hx, show (50 :: 50 :: 57 :: R).take 3 = [50, 50, 57] from rfl, show (Str.ofString "229" : Str) = ofL [50, 50, 57] from toL_inj (by rw [toL_ofL]; decide +kernel), bne_ofL]
    rfl
  generalize Str.ofString "229 Entering (" ++ o = x1 at *
  generalize Str.ofString "229 Entering " ++ c ++ Str.ofString ")" = x2 at *
  have l1 : x1.length = 14 + o.length := by rw [len_toL, k1, List.length_append, ← len_toL]; rfl
  have l2 : x2.length = 13 + (c.length + 1) := by rw [len_toL, k2, List.length_append, List.length_append, ← len_toL]; rfl
  refine ⟨⟨by omega, ?_⟩, by omega, ?_⟩
  · have eL : leftOf x1 = 13 := by
      have h : leftOf x1 = Txt.find3 x1 ⟨#[40]⟩ ((0 : Nat) : Int) := find_eq x1 40
      rw [h, find3_is (A := [50, 50, 57, 32, 69, 110, 116, 101, 114, 105, 110, 103, 32]) (B := toL o) (by rw [k1]; rfl) (Nat.zero_le _) (by rw [List.drop_zero]; exact head_no40)]
      rfl
    have eR : rightOf x1 = -1 := by
      have h : rightOf x1 = Txt.find3 x1 ⟨#[41]⟩ ((14 : Nat) : Int) := by
        unfold rightOf
        rw [eL]
        rfl
      rw [h, find3_none (by omega)]
      rw [k1, show (headL ++ toL o).drop 14 = toL o from List.drop_left' rfl]
      exact no41
    unfold askedS
    rw [if_neg (by rw [e229 x1 _ (by rw [k1]; rfl)]; exact Bool.false_ne_true), if_neg (by rw [eL]; decide), if_pos (by rw [eR]; decide)]
  · have eL : leftOf x2 = -1 := by
      have h : leftOf x2 = Txt.find3 x2 ⟨#[40]⟩ ((0 : Nat) : Int) := find_eq x2 40
      rw [h, find3_none (by omega)]
      rw [k2, List.drop_zero]
      intro hm
      rcases List.mem_append.mp hm with hm | hm
      · exact head_no40 hm
      · rcases List.mem_append.mp hm with hm | hm
        · exact no40 hm
        · rcases List.mem_singleton.mp hm with e; cases e
    unfold askedS
    rw [if_neg (by rw [e229 x2 _ (by rw [k2]; rfl)]; exact Bool.false_ne_true), if_pos (by rw [eL]; decide)]
theorem opened_is {r o : Str} (hr : Signs r) (ho : (Txt.split r (Str.ofString ")"))[0]? = some o) : Signs o ∧ 41 ∉ toL o := by
  have eo := seen_codes (c := 41) ho
  refine ⟨fun c hc => hr c (by rw [eo] at hc; exact (List.takeWhile_sublist _).subset hc), fun h => ?_⟩
  rw [eo] at h
  have := mem_takeW h
  simp at this
end Mine
end

section -- W1
open PySem PySem.W PySem.Calls PyProof.Rows
set_option maxRecDepth 100000
namespace Mine
local macro_rules | `(tactic| walk_at "none 0") => `(tactic| skip)
inductive Box (p : Prop) : Prop
  | mk : p → Box p
theorem Box.out {p : Prop} : Box p → p
  | .mk h => h
local macro_rules | `(tactic| k_room) => `(tactic| ktr_room)
local macro_rules | `(tactic| units_room) => `(tactic| ktr_units)
local macro_rules | `(tactic| walk_at "pyIter ref") => `(tactic| ((rename StopMark => hMk8); (refine unstop ?_)))
local macro_rules | `(tactic| walk_at "call ref") => `(tactic| (refine unstop ?_))
local macro_rules | `(tactic| walk_at "getMethod str") => `(tactic| (k_here; (with_reducible show wpAny _ _ (getMethod (Value.str _ _) (Str.ofString "encode") _) _ _ _); k_dflt (refine' gm_encode ?_; k_whole)))
local macro_rules | `(tactic| walk_at "call builtin:str.encode") => `(tactic| (k_here; k_dflt (refine' call_encode ?low ?len ?_; (case low => assumption); (case len => omega); k_whole); intro t9 k9))
local macro_rules | `(tactic| walk_at "binaryOp Add ref ref") => `(tactic| (refine unstop ?_))
local macro_rules | `(tactic| walk_at "compareOp NotEq ref ref") => `(tactic| (refine unstop ?_))
def StopMark2 : Prop := True
local macro_rules | `(tactic| walk_at "binaryOp Add str str") => `(tactic| ((rename StopMark2 => hMk8); (with_reducible show wpAny _ _ (binaryOp _ (Value.str (Str.ofString "229 Entering ") _) (Value.str _ _)) _ _ _); (refine unstop ?_)))
theorem enc_fit {b : Array UInt8} {o : Str} (h : o.length ≤ 600) (hb : b.size ≤ 100) : b.size + (ascB o).size ≤ 16777216 := by rw [asc_size]; omega
local macro_rules | `(tactic| walk_at "binaryOp Add bytes bytes") => `(tactic| (k_here; (with_reducible show wpAny _ _ (binaryOp Operator.Add (Value.bytes _ _) (Value.bytes (ascB _) _)) _ _ _); (refine KBy.add_bytes ?z ?_; (case z => exact enc_fit (by omega) (by decide)); intro _ _)))
abbrev M1 (pa : Addr) (u : Str → Option Value) : Str → Option Value := fun y => if y = Str.ofString "peer" then some (.ref pa) else u y
abbrev M2 (pa : Addr) (z : Str) (tz : Tok) (b : Str) (tb : Tok) (r : Str) (tr : Tok) (u : Str → Option Value) : Str → Option Value := fun y => if y = Str.ofString "peer" then some (.ref pa) else if y = Str.ofString "line" then some (.str z tz) else if y = Str.ofString "bare" then some (.str b tb) else if y = Str.ofString "row" then some (.str r tr) else u y
theorem M1.of {h₀ h : Heap} {L pa : Addr} {m : Str → Option Value} (F : Fr h₀ L h m) (e : m (Str.ofString "peer") = some (.ref pa)) : ∃ u, Fr h₀ L h (M1 pa u) := ⟨m, Fr.known F e⟩
theorem M2.of {h₀ h : Heap} {L pa : Addr} {z b r : Str} {tz tb tr : Tok} {m : Str → Option Value} (F : Fr h₀ L h m) (e1 : m (Str.ofString "peer") = some (.ref pa)) (e2 : m (Str.ofString "line") = some (.str z tz)) (e3 : m (Str.ofString "bare") = some (.str b tb)) (e4 : m (Str.ofString "row") = some (.str r tr)) :
    ∃ u, Fr h₀ L h (M2 pa z tz b tb r tr u) := ⟨m, Fr.known (Fr.known (Fr.known (Fr.known F e4) (by exact e3)) (by exact e2)) (by exact e1)⟩
theorem ahead0 {x : Str} {i : Nat} (h : (i : Int) = 0) : aheadOf x i = (i : Int) ∧ restOf x i = x := by
  have : i = 0 := by omega
  subst this; exact ⟨rfl, rfl⟩
theorem ahead1 {x : Str} {i : Nat} (h : (i : Int) ≠ 0) (hb : (bareS x == Str.ofString "") = true) : aheadOf x i = (i : Int) - 1 ∧ restOf x i = Str.ofString "#" := by
  have : i ≠ 0 := by omega
  exact ⟨by rw [aheadOf, if_neg this, if_pos hb], by rw [restOf, if_neg this, if_pos hb]⟩
theorem ahead2 {x : Str} {i : Nat} (h : (i : Int) ≠ 0) (hb : (bareS x == Str.ofString "") = false) : aheadOf x i = (i : Int) ∧ restOf x i = bareS x := by
  have : i ≠ 0 := by omega
  exact ⟨by rw [aheadOf, if_neg this, if_neg (by rw [hb]; decide)], by rw [restOf, if_neg this, if_neg (by rw [hb]; decide)]⟩
abbrev M3 (pa : Addr) (z : Str) (tz : Tok) (b : Str) (tb : Tok) (r : Str) (tr : Tok) (a : Int) (ta : Tok) (q : Str) (tq : Tok) (u : Str → Option Value) : Str → Option Value := fun y => if y = Str.ofString "peer" then some (.ref pa) else if y = Str.ofString "line" then some (.str z tz) else if y = Str.ofString "bare" then some (.str b tb) else if y = Str.ofString "row" then some (.str r tr) else if y = Str.ofString "ahead" then some (.int a ta) else if y = Str.ofString "rest" then some (.str q tq) else u y
theorem M3.of {h₀ h : Heap} {L pa : Addr} {z b r q : Str} {a : Int} {tz tb tr ta tq : Tok} {m : Str → Option Value} (F : Fr h₀ L h m) (e1 : m (Str.ofString "peer") = some (.ref pa)) (e2 : m (Str.ofString "line") = some (.str z tz)) (e3 : m (Str.ofString "bare") = some (.str b tb)) (e4 : m (Str.ofString "row") = some (.str r tr)) (e5 : m (Str.ofString "ahead") = some (.int a ta)) (e6 : m (Str.ofString "rest") = some (.str q tq)) :
    ∃ u, Fr h₀ L h (M3 pa z tz b tb r tr a ta q tq u) := ⟨m, Fr.known (Fr.known (Fr.known (Fr.known (Fr.known (Fr.known F e6) (by exact e5)) (by exact e4)) (by exact e3)) (by exact e2)) (by exact e1)⟩
abbrev M4 (pa : Addr) (z : Str) (tz : Tok) (b : Str) (tb : Tok) (r : Str) (tr : Tok) (a : Int) (ta : Tok) (q : Str) (tq : Tok) (y : Str) (ty : Tok) (u : Str → Option Value) : Str → Option Value := fun n => if n = Str.ofString "seen" then some (.str y ty) else M3 pa z tz b tb r tr a ta q tq u n
theorem M4.of {h₀ h : Heap} {L pa : Addr} {z b r q y : Str} {a : Int} {tz tb tr ta tq ty : Tok} {m : Str → Option Value} (F : Fr h₀ L h m) (e1 : m (Str.ofString "peer") = some (.ref pa)) (e2 : m (Str.ofString "line") = some (.str z tz)) (e3 : m (Str.ofString "bare") = some (.str b tb)) (e4 : m (Str.ofString "row") = some (.str r tr)) (e5 : m (Str.ofString "ahead") = some (.int a ta)) (e6 : m (Str.ofString "rest") = some (.str q tq)) (e7 : m (Str.ofString "seen") = some (.str y ty)) :
    ∃ u, Fr h₀ L h (M4 pa z tz b tb r tr a ta q tq y ty u) := by
  obtain ⟨u, F'⟩ := M3.of F e1 e2 e3 e4 e5 e6
  refine ⟨m, ?_⟩
  exact Fr.known (Fr.known (Fr.known (Fr.known (Fr.known (Fr.known (Fr.known F e6) (by exact e5)) (by exact e4)) (by exact e3)) (by exact e2)) (by exact e1)) (by exact e7)
theorem seen_at {q y : Str} {c : Str} {l : List (Str × Tok)} (h : List.map (fun x => x.fst) l = Txt.split q c) (e : (List.map (fun x => x.fst) l)[Int.toNat 0]? = some y) : (Txt.split q c)[0]? = some y := by rw [← h]; exact e
theorem seen_len {q y : Str} {l : List (Str × Tok)} (h : ∀ (a : Str), a ∈ List.map (fun x => x.fst) l → a.length ≤ q.length) (e : (List.map (fun x => x.fst) l)[Int.toNat 0]? = some y) : y.length ≤ q.length := h y (List.mem_of_getElem? e)
abbrev M5 (n5 : Str) (v5 : Value) (pa : Addr) (z : Str) (tz : Tok) (b : Str) (tb : Tok) (r : Str) (tr : Tok) (a : Int) (ta : Tok) (q : Str) (tq : Tok) (y : Str) (ty : Tok) (u : Str → Option Value) : Str → Option Value := fun n => if n = n5 then some v5 else M4 pa z tz b tb r tr a ta q tq y ty u n
theorem M5.of {h₀ h : Heap} {L pa : Addr} {n5 : Str} {v5 : Value} {z b r q y : Str} {a : Int} {tz tb tr ta tq ty : Tok} {m : Str → Option Value} (F : Fr h₀ L h m) (e1 : m (Str.ofString "peer") = some (.ref pa)) (e2 : m (Str.ofString "line") = some (.str z tz)) (e3 : m (Str.ofString "bare") = some (.str b tb)) (e4 : m (Str.ofString "row") = some (.str r tr)) (e5 : m (Str.ofString "ahead") = some (.int a ta)) (e6 : m (Str.ofString "rest") = some (.str q tq)) (e7 : m (Str.ofString "seen") = some (.str y ty))
    (e8 : m n5 = some v5) (hn : n5 ∉ [Str.ofString "peer", Str.ofString "line", Str.ofString "bare", Str.ofString "row", Str.ofString "ahead", Str.ofString "rest", Str.ofString "seen"]) :
    ∃ u, Fr h₀ L h (M5 n5 v5 pa z tz b tb r tr a ta q tq y ty u) := by
  have F7 : Fr h₀ L h (M4 pa z tz b tb r tr a ta q tq y ty m) := Fr.known (Fr.known (Fr.known (Fr.known (Fr.known (Fr.known (Fr.known F e6) (by exact e5)) (by exact e4)) (by exact e3)) (by exact e2)) (by exact e1)) (by exact e7)
  refine ⟨m, Fr.known (n := n5) (v := some v5) F7 ?_⟩
  simp only [List.mem_cons, List.not_mem_nil, or_false, not_or] at hn
  obtain ⟨h1, h2, h3, h4, h5, h6, h7⟩ := hn
  dsimp only [M4, M3]
  rw [if_neg h7, if_neg h1, if_neg h2, if_neg h3, if_neg h4, if_neg h5, if_neg h6, e8]
theorem flags_list {a : Int} {tk : Tok} {vs : List (Array UInt8 × Tok)} : (List.foldl (fun x1 x2 => x1 ++ x2) #[] (List.replicate (if #[Value.bytes #[35] tk].isEmpty = true then 0 else a.toNat) #[Value.bytes #[35] tk])).toList ++ Vb vs = Vb (List.replicate a.toNat (#[35], tk) ++ vs) := by
  have e : ∀ (n : Nat) (acc : Array Value), (List.foldl (fun x1 x2 => x1 ++ x2) acc (List.replicate n #[Value.bytes #[35] tk])).toList = acc.toList ++ List.replicate n (Value.bytes #[35] tk) := by
    intro n
    induction n with
    | zero => intro acc; simp
    | succ n ih => intro acc; rw [List.replicate_succ, List.foldl_cons, ih, List.replicate_succ]; simp
  rw [e]
  simp [Vb]
theorem flags_size {a : Int} {tk : Tok} (h : a ≤ 4) : (List.foldl (fun x1 x2 => x1 ++ x2) #[] (List.replicate (if #[Value.bytes #[35] tk].isEmpty = true then 0 else a.toNat) #[Value.bytes #[35] tk])).size ≤ 4 := by
  have := congrArg List.length (flags_list (a := a) (tk := tk) (vs := []))
  simp only [Vb, List.map_nil, List.append_nil, List.length_map, List.length_replicate, Array.length_toList] at this
  rw [this]
  omega
theorem flags_fst {a : Int} {tk : Tok} {vs : List (Array UInt8 × Tok)} {ws : List (Str × Tok)} (h : List.map (fun x => x.1) vs = List.map (fun p => ascB p.1) ws) :
    (List.replicate a.toNat ((#[35] : Array UInt8), tk) ++ vs).map (·.1) = List.replicate a.toNat #[35] ++ (ws.map fun p => ascB p.1) := by
  rw [List.map_append, List.map_replicate, h]
theorem op_size {o : Str} (h : o.length ≤ 100) : (opB o).size ≤ 600 := by
  unfold opB
  rw [Array.size_append, asc_size]
  exact Nat.le_trans (Nat.add_le_add_left h _) (by decide)
/-- _law_asked of a text whose number, if it is asked for, is one -/
theorem asked_ok {w : World} (x : Str) (tx : Tok) (hx : x.length ≤ 400) (hb : askedS x ≠ .badInt) (pa : Addr) (t1 t2 : Tok) (n : Int) (news : List (Addr × Oj)) (hm : (pa, ({ cls := .type "tuple", data := .seq #[.str (Str.ofString "host") t1, .int n t2] } : Oj)) ∈ news) :
    CtrLow w 134 [.str x tx, .ref pa] news (fun v own => ∃ a o, v = .ref a ∧ own = [(a, o)] ∧ ResObj (askedS x) o) := by
  intro mean mg mb dp un gd cn cs a ccd A₀ base h₀ L m s Q E XB TB B F X N T hk hdp hun hret
  have N' : News h₀ L s.heap ((pa, { cls := .type "tuple", data := .seq #[.str (Str.ofString "host") t1, .int n t2] }) :: news) := fun p hp => by
    rcases List.mem_cons.mp hp with rfl | hp
    · exact N _ hm
    · exact N _ hp
  exact asked_ctr x tx (by omega) hb pa t1 t2 n news mean mg mb dp un gd cn cs a ccd A₀ base h₀ L m s Q E XB TB B F X N' T hk hdp hun fun v own h' tk' F' N' r => hret v own h' tk' F' (fun p hp => N' p (by
    rcases List.mem_append.mp hp with hp | hp
    · exact List.mem_append_left _ hp
    · exact List.mem_append_right _ (.tail _ hp))) r
set_option maxHeartbeats 40000000 in
theorem law_ctr {w : World} (l : Addr) (vs : List Value) (ns : List Int) (hi : IntsAre vs ns) (hz : ns.length ≤ 63) (mean : ExcName → Option Value) (mg mb : Str → Option Value) (s : Shared) (Q : Value → Shared → Prop)
    (X : (hd.heap_39 w.params).In s.heap) (T : Top hd.view_39 Lo mean mg mb s.heap) (hl : s.heap.IsList l vs.toArray)
    (hret : ∀ h' tk, (∀ b o, s.heap.get? b = some o → h'.get? b = some o) → Q (.bool true) { s with heap := h', toks := tk }) :
    wpC (model PySem.Challenge.rw_wr0002_01.row.prog w) callerA (call (.ref 139) [.ref l]) Q (fun _ _ => False) s := by
  revert hret hl T X
  k_with_none; w_top off; k_fill
  intro X T hl hret
  refine wpC_call ?_
  k_dflt (refine' enterR ?k3 ?k5 ?kA ?k6 ?k7 ?k8 ?k9 ?kB ?_ ?c2 ?c3 ?c4 ?c5; (case kA => exact rfl); (case k3 => assumption); (case k5 => assumption); (case k6 => k_is); (case k7 => k_is); (case k8 => decide); (case k9 => first | exact binds_K (by k_in) rfl (by k_is) rfl rfl rfl | exact BindsTo.of_eq rfl | fail "no rule for these arguments"); (case kB => exact locs rfl); (case c2 => exact rfl); (case c3 => exact rfl); (case c4 => exact rfl); (case c5 => decide); intro L h₁ B F; (try dsimp only); (try k_fold))
  obtain ⟨u, F'⟩ : ∃ u : Str → Option Value, Fr s.heap L h₁ (fun y => if y = Str.ofString "script" then some (.ref l) else u y) := ⟨_, Fr.known F (by rfl)⟩
  clear F
  have hMk : StopMark := trivial
  have N' := (News.nil : News _ _ _ []).at F'
  have hl0 : h₁.IsList l vs.toArray := by
    obtain ⟨o, e, r⟩ := hl
    exact ⟨o, F'.keep _ _ e, r⟩
  have hvl : vs.length ≤ 63 := by rw [hi.length]; exact hz
  refine wpC_execs_at 1 ?_
  dsimp only [List.take, List.drop]
  refine wpAny_mono (Q := fun f s' => Stop (f = .next ∧ ∃ (pa : Addr) (t1 t2 : Tok) (u : Str → Option Value) (h : Heap) (tk : Nat), s' = { s with heap := h, toks := tk } ∧ Fr s.heap L h (fun y => if y = Str.ofString "peer" then some (.ref pa) else if y = Str.ofString "script" then some (.ref l) else u y) ∧ News s.heap L h [(pa, { cls := .type "tuple", data := .seq #[.str (Str.ofString "host") t1, .int (ns.length : Int) t2] })])) (E := fun _ _ => False) ?_ ?_ (fun _ _ x => x)
  · k_steps
    exact stop ⟨rfl, _, _, _, _, _, _, rfl, (by assumption), (by assumption)⟩
  clear F' N' hl0
  rintro f s' hM
  obtain ⟨rfl, pa, t1, t2, u, h, tk, rfl, F', N'⟩ := unstop hM
  clear hM
  dsimp only
  refine wpC_execs_cons (wpC_For ?_)
  k_steps
  refine stop ?_
  (rename Fr _ _ _ _ => F9); (rename News _ _ _ _ => N9)
  k_here
  k_dflt (refine' lines_ctr _ _ _ hi hz _ _ _ _ _ _ _ _ _ _ _ _ _ _ _ _ _ _ _ _ _ B F9 X hl N9 T ?hk ?hd ?hu ?_; (case hk => exact rfl); (case hd => ktr_room); (case hu => ktr_units))
  rintro v own h tk F8 N8 ⟨la, x1, x2, tx1, tx2, c1, rfl, rfl, p1, p2, p3, p4⟩
  simp only [List.cons_append, List.nil_append] at N8
  dsimp only
  clear F9 N9
  obtain ⟨u0, F9⟩ := M1.of F8 (by rfl)
  refine for_list (by rfl) (by rfl) (by rfl) F9 N8 (.head _) (by rfl) (by rfl) (fun i m' news' => (∃ u, m' = M1 pa u) ∧ news' = _) ⟨⟨_, rfl⟩, rfl⟩ (fun i m' n' j => by rw [j.2]; exact .head _) ?_ ?_
  rotate_left
  · rintro h tk m' news' ⟨⟨u, rfl⟩, rfl⟩ F' N'
    dsimp only
    refine wpC_lift ?_
    k_steps
    exact hret _ _ (Fr.keep (by assumption))
  rintro i v I it h tk m' news' hi hv hit ⟨⟨u, rfl⟩, rfl⟩ (F' : Fr s.heap L h _) (N' : News s.heap L h _) off
  obtain ⟨z, tz, rfl, hz1, hz2⟩ : ∃ z tz, v = .str z tz ∧ z.length ≤ 24 ∧ Signs z := by
    match i, hi, hv with
    | 0, _, hv => exact ⟨_, _, (Option.some.inj hv).symm, p1, p2⟩
    | 1, _, hv => exact ⟨_, _, (Option.some.inj hv).symm, p3, p4⟩
  clear hv p1 p2 p3 p4 F8 F9 N8 hi
  refine wpC_execs_at 2 ?_
  dsimp only [List.take, List.drop]
  refine wpAny_mono (Q := fun f s' => Stop (f = .next ∧ ∃ (tb : Tok) (u : Str → Option Value) (h : Heap) (tk : Nat), s' = { s with heap := h, toks := tk } ∧ Fr s.heap L h (M2 pa z tz (bareS z) tb (rowOf z 0) tz u) ∧ News s.heap L h [(I, it), (la, PySem.W.listOf #[.str x1 tx1, .str x2 tx2] c1), (pa, { cls := .type "tuple", data := .seq #[.str (Str.ofString "host") t1, .int (ns.length : Int) t2] })])) (E := fun _ _ => False) ?_ ?_ (fun _ _ x => x)
  · k_steps
    refine stop ?_
    k_here
    k_dflt (refine' bare_ctr _ _ ?hx _ _ _ _ _ _ _ _ _ _ _ _ _ _ _ _ _ _ _ _ _ B F' X N' T ?hk ?hd ?hu ?_; (case hk => exact rfl); (case hd => ktr_room); (case hu => ktr_units); (case hx => omega))
    rintro v own h9 tk9 F9 N9 ⟨rfl, tb, rfl⟩
    simp only [List.nil_append] at N9
    dsimp only
    clear F' N'
    k_steps
    obtain ⟨u1, F8⟩ := M2.of (m := _) (by assumption) (pa := pa) (z := z) (tz := tz) (b := bareS z) (tb := tb) (r := z) (tr := tz) (by rfl) (by rfl) (by rfl) (by rfl)
    exact stop ⟨rfl, _, _, _, _, rfl, F8, (by assumption)⟩
  clear F' N'
  rintro f s' hM
  obtain ⟨rfl, tb, u, h, tk, rfl, F', N'⟩ := unstop hM
  clear hM
  dsimp only
  refine wpC_execs_cons (wpC_For ?_)
  k_steps
  refine stop ?_
  (rename IsRange _ _ _ _ _ _ _ _ => R9); (rename Fr _ _ _ _ => F9); (rename News _ _ _ _ => N9)
  (try clear F' N')
  refine for_range (n := 5) (by rfl) (by rfl) (by rfl) R9 (by decide) (by decide) F9 N9 (fun i m' news' => (∃ u tr, m' = M2 pa z tz (bareS z) tb (rowOf z i) tr u) ∧ news' = _) ⟨⟨_, _, rfl⟩, rfl⟩ ?_ ?_
  rotate_left
  · rintro h tk m' news' ⟨⟨u, tr, rfl⟩, rfl⟩ F' N'
    dsimp only
    refine wpC_lift ?_
    refine wpAny_execs_nil ?_
    obtain ⟨u2, F7⟩ := M1.of F' (by rfl)
    exact ⟨_, _, _, _, _, rfl, rfl, F7, N', off, ⟨_, rfl⟩, rfl⟩
  clear F9 N9 R9
  rintro i tt I2 it2 h tk m' news' hi hit2 ⟨⟨u, tr, rfl⟩, rfl⟩ (F' : Fr s.heap L h _) (N' : News s.heap L h _) off2
  refine wpC_execs_at 2 ?_
  dsimp only [List.take, List.drop]
  have hpa : (pa, ({ cls := .type "tuple", data := .seq #[.str (Str.ofString "host") t1, .int (ns.length : Int) t2] } : Oj)) ∈ [(I2, it2), (I, it), (la, PySem.W.listOf #[.str x1 tx1, .str x2 tx2] c1), (pa, { cls := .type "tuple", data := .seq #[.str (Str.ofString "host") t1, .int (ns.length : Int) t2] })] := by simp
  generalize hled : (I2, it2) :: (I, it) :: _ = led at N' hpa
  refine wpAny_mono (Q := fun f s' => Stop (f = .next ∧ ∃ (u : Str → Option Value) (h : Heap) (tk : Nat) (ta tq : Tok), s' = { s with heap := h, toks := tk } ∧ Fr s.heap L h (M3 pa z tz (bareS z) tb (rowOf z i) tr (aheadOf z i) ta (restOf z i) tq u) ∧ News s.heap L h led)) (E := fun _ _ => False) ?_ ?_ (fun _ _ x => x)
  · k_steps
    all_goals first
      | (have hA := ahead0 (x := z) (i := i) (by assumption))
      | (have hA := ahead1 (x := z) (i := i) (by assumption) (by assumption))
      | (have hA := ahead2 (x := z) (i := i) (by assumption) (by assumption))
    all_goals rw [hA.1, hA.2]
    all_goals (refine stop ?_)
    all_goals (have F7 := M3.of (by assumption) (pa := pa) (z := z) (tz := tz) (b := bareS z) (tb := tb) (r := rowOf z i) (tr := tr) (by rfl) (by rfl) (by rfl) (by rfl) (by rfl) (by rfl))
    all_goals (obtain ⟨u', F8⟩ := F7)
    all_goals exact ⟨rfl, _, _, _, _, _, rfl, F8, News.perm (by assumption) (by intro p hp; kst_mem)⟩
  (try clear F' N')
  rintro f s' hM
  obtain ⟨rfl, u, h, tk, ta, tq, rfl, F', N'⟩ := unstop hM
  clear hM
  dsimp only
  have hTI := turn_is hz1 hz2 i hi
  generalize aheadOf z i = a at hTI F'
  generalize restOf z i = q at hTI F'
  generalize hrw : rowOf z i = r at hTI F'
  have ha0 := hTI.a0
  have ha4 := hTI.a4
  have hq := hTI.ql
  have hr : r.length ≤ 48 := by have := hTI.row_len; omega
  have hrow := hTI.row_eq
  replace hTI := Box.mk hTI
  refine wpC_execs_at 2 ?_
  dsimp only [List.take, List.drop]
  refine wpAny_mono (Q := fun f s' => Stop (f = .next ∧ ∃ (y : Str) (u : Str → Option Value) (h : Heap) (tk : Nat) (ty : Tok), s' = { s with heap := h, toks := tk } ∧ Fr s.heap L h (M4 pa z tz (bareS z) tb r tr a ta q tq y ty u) ∧ News s.heap L h led ∧ (Txt.split q (Str.ofString ")"))[0]? = some y ∧ y.length ≤ q.length)) (E := fun _ _ => False) ?_ ?_ (fun _ _ x => x)
  · k_steps
    obtain ⟨u', F8⟩ := M4.of (by assumption) (pa := pa) (z := z) (tz := tz) (b := bareS z) (tb := tb) (r := r) (tr := tr) (a := a) (ta := ta) (q := q) (tq := tq) (by rfl) (by rfl) (by rfl) (by rfl) (by rfl) (by rfl) (by rfl)
    exact stop ⟨rfl, _, _, _, _, _, rfl, F8, News.perm (by assumption) (by intro p hp; kst_mem), seen_at (by assumption) (by assumption), seen_len (by assumption) (by assumption)⟩
  (try clear F' N' hrow)
  rintro f s' hM
  obtain ⟨rfl, y, u, h, tk, ty, rfl, F', N', hy, hyl⟩ := unstop hM
  clear hM
  dsimp only
  refine wpC_execs_at 1 ?_
  dsimp only [List.take, List.drop]
  refine wpAny_mono (Q := fun f s' => Stop (f = .next ∧ ∃ (fl : Addr) (fs : List (Array UInt8 × Tok)) (ws : List (Str × Tok)) (u : Str → Option Value) (h : Heap) (tk : Nat), s' = { s with heap := h, toks := tk } ∧ Fr s.heap L h (M5 (Str.ofString "flags") (.ref fl) pa z tz (bareS z) tb r tr a ta q tq y ty u) ∧ News s.heap L h ((fl, PySem.W.listOf (Vb fs).toArray 0) :: led) ∧ fs.map (·.1) = List.replicate a.toNat #[35] ++ (ws.map fun p => ascB p.1) ∧ ws.map (fun p => toL p.1) = wordsL (toL y) ∧ fs.length ≤ 40)) (E := fun _ _ => False) ?_ ?_ (fun _ _ x => x)
  · k_steps
    refine stop ?_
    k_here
    (rename Fr _ _ _ _ => F9); (rename News _ _ _ _ => N9)
    k_dflt (refine' words_ctr _ _ ?hx _ _ _ _ _ _ _ _ _ _ _ _ _ _ _ _ _ _ _ _ _ B F9 X N9 T ?hk ?hd ?hu ?_; (case hk => exact rfl); (case hd => ktr_room); (case hu => ktr_units); (case hx => omega))
    rintro v own h9 tk9 F8 N8 ⟨wl, ws, cw, rfl, rfl, hw1, hw2, hw3⟩
    simp only [List.cons_append, List.nil_append] at N8
    dsimp only
    have hlow : ∀ p ∈ ws, Low p.1 ∧ p.1.length ≤ 600 := hTI.out.words hy hw1 hw3
    k_steps
    refine stop ?_
    k_here
    refine src_encode (by rfl) F8 N8 (.head _) hlow (by omega) ?_ ?_
    · intro C y1 t1 s2 m2 E2 hlow1 hlen1 hns hm2
      k_steps
      exact ⟨_, _, rfl, fun _ _ e => e⟩
    intro D vs n h tk hvs F7 N7 hD
    clear F8 N8 F9 N9
    k_steps
    refine stop ?_
    k_here
    refine add_arrays F7 N7 (News.isList N7 (.tail _ (.tail _ (.head _)))) (News.isList N7 (.head _)) ?_ (hsz := ?_)
    · intro h' F6 N6
      rw [flags_list] at N6
      replace N6 : News s.heap L h' ((_, PySem.W.listOf (Vb (List.replicate a.toNat (#[35], _) ++ vs)).toArray 0) :: _) := N6
      clear F7 N7
      k_steps
      obtain ⟨u', F5⟩ := M5.of (by assumption) (n5 := Str.ofString "flags") (v5 := .ref _) (pa := pa) (z := z) (tz := tz) (b := bareS z) (tb := tb) (r := r) (tr := tr) (a := a) (ta := ta) (q := q) (tq := tq) (y := y) (ty := ty) (by rfl) (by rfl) (by rfl) (by rfl) (by rfl) (by rfl) (by rfl) (by rfl) (by decide)
      refine stop ⟨rfl, _, _, ws, _, _, _, rfl, F5, News.perm (by assumption) (fun p hp => by rcases List.mem_cons.mp hp with rfl | hp; exact .head _; exact .tail _ (.tail _ (.tail _ (.tail _ (.tail _ hp))))), flags_fst hvs, hw1, ?_⟩
      have hv9 := congrArg List.length hvs
      simp only [List.length_map] at hv9
      rw [List.length_append, List.length_replicate]
      omega
    · have hv9 := congrArg List.length hvs
      simp only [List.length_map] at hv9
      rw [sizeLine_eq]
      exact Nat.le_trans (Nat.add_le_add (flags_size ha4) (show (Vb vs).toArray.size ≤ 100 by rw [List.size_toArray, List.length_map]; omega)) (by decide)
  (try clear F' N' hrow)
  rintro f s' hM
  obtain ⟨rfl, fl, fs, ws, u, h, tk, rfl, F', N', hfs, hws, hfn⟩ := unstop hM
  clear hM
  dsimp only
  refine wpC_execs_at 2 ?_
  dsimp only [List.take, List.drop]
  refine wpAny_mono (Q := fun f s' => Stop (f = .next ∧ ∃ (u : Str → Option Value) (h : Heap) (tk : Nat), s' = { s with heap := h, toks := tk } ∧ Fr s.heap L h (M4 pa z tz (bareS z) tb r tr a ta q tq y ty u) ∧ News s.heap L h led)) (E := fun _ _ => False) ?_ ?_ (fun _ _ x => x)
  · have hcl : (pageS r).length ≤ 200 ∧ Low (commentS (pageS r)) ∧ (commentS (pageS r)).length ≤ 200 ∧ ∀ i, i < (textOf (ascB (commentS (pageS r)))).size → (textOf (ascB (commentS (pageS r)))).getD i 0 ≠ 10 := ⟨(page_len hTI.out.row_len).1, fun c hc => (page_low hTI.out.row_signs c hc).1, (page_len hTI.out.row_len).2, no_line (page_low hTI.out.row_signs)⟩
    obtain ⟨hcl0, hcl1, hcl2, hcl3⟩ := hcl
    k_steps
    refine stop ?_
    k_here
    rw [show Str.ofString "* 1 FETCH (FLAGS (\\Seen) FLAGS (" ++ r ++ Str.ofString ")) FLAGS (y" = pageS r from rfl] at *
    (rename Fr _ _ _ _ => F9); (rename News _ _ _ _ => N9)
    k_dflt (refine' comment_ctr _ _ _ ?hx _ _ _ _ _ _ _ _ _ _ _ _ _ _ _ _ _ _ _ _ B F9 X N9 T ?hk ?hd ?hu ?_; (case hk => exact rfl); (case hd => ktr_room); (case hu => ktr_units); (case hx => omega))
    rintro v own h9 tk9 F8 N8 ⟨rfl, tc, rfl⟩
    simp only [List.nil_append] at N8
    dsimp only
    clear F9 N9
    k_steps
    refine stop ?_
    k_here
    (rename Fr _ _ _ _ => F9); (rename News _ _ _ _ => N9)
    k_dflt (refine' flags_ctr _ _ ?hx ?hl _ _ _ _ _ _ _ _ _ _ _ _ _ _ _ _ _ _ _ _ _ B F9 X N9 T ?hk ?hd ?hu ?_; (case hk => exact rfl); (case hd => ktr_room); (case hu => ktr_units); (case hl => exact hcl3); (case hx => rw [asc_size]; omega))
    rintro v own h8 tk8 F7 N7 ⟨D, vs, rfl, rfl, hfi, hvl9⟩
    simp only [List.cons_append, List.nil_append] at N7
    dsimp only
    clear F9 N9
    have hvs : vs.map (·.1) = fs.map (·.1) := by rw [hTI.out.flags hy hfi hws, hfs]
    k_steps
    refine stop ?_
    k_here
    (rename News _ _ _ _ => N9)
    refine ne_tuples (vs1 := vs) (vs2 := fs) N9 (.tail _ (.head _)) (.head _) (by rfl) (by rfl) (by rfl) (by rfl) hvs (by ktr_units) ?_
    k_steps
    obtain ⟨u', F5⟩ := M4.of (by assumption) (pa := pa) (z := z) (tz := tz) (b := bareS z) (tb := tb) (r := r) (tr := tr) (a := a) (ta := ta) (q := q) (tq := tq) (y := y) (ty := ty) (by rfl) (by rfl) (by rfl) (by rfl) (by rfl) (by rfl) (by rfl)
    exact stop ⟨rfl, _, _, _, rfl, F5, News.perm (by assumption) (by intro p hp; kst_mem)⟩
  (try clear F' N')
  rintro f s' hM
  obtain ⟨rfl, u, h, tk, rfl, F', N'⟩ := unstop hM
  clear hM hfs hws hfn
  dsimp only
  refine wpC_execs_at 1 ?_
  dsimp only [List.take, List.drop]
  refine wpAny_mono (Q := fun f s' => Stop (f = .next ∧ ∃ (tp : Tok) (u : Str → Option Value) (h : Heap) (tk : Nat), s' = { s with heap := h, toks := tk } ∧ Fr s.heap L h (M5 (Str.ofString "reply") (.str (replyS r) tp) pa z tz (bareS z) tb r tr a ta q tq y ty u) ∧ News s.heap L h led)) (E := fun _ _ => False) ?_ ?_ (fun _ _ x => x)
  · k_steps
    obtain ⟨u', F5⟩ := M5.of (by assumption) (n5 := Str.ofString "reply") (v5 := .str (replyS r) _) (pa := pa) (z := z) (tz := tz) (b := bareS z) (tb := tb) (r := r) (tr := tr) (a := a) (ta := ta) (q := q) (tq := tq) (y := y) (ty := ty) (by rfl) (by rfl) (by rfl) (by rfl) (by rfl) (by rfl) (by rfl) (by rfl) (by decide)
    exact stop ⟨rfl, _, _, _, _, rfl, F5, News.perm (by assumption) (by intro p hp; kst_mem)⟩
  (try clear F' N')
  rintro f s' hM
  obtain ⟨rfl, tp, u, h, tk, rfl, F', N'⟩ := unstop hM
  clear hM
  dsimp only
  have hrl : (replyS r).length ≤ 400 := reply_len hTI.out.row_len
  have hat : Box ((∀ w ∈ partsOf (replyS r), ∀ c ∈ w.cps.toList, 0 < c ∧ c < 128) ∧ askedS (replyS r) = toldS a y) := Box.mk ⟨parts_low (reply_all hTI.out.row_signs), hTI.out.asked hy⟩
  refine wpC_execs_cons (wpC_mono (Q := fun f s' => Stop (f = .next ∧ ∃ (u : Str → Option Value) (h : Heap) (tk : Nat), s' = { s with heap := h, toks := tk } ∧ Fr s.heap L h (M5 (Str.ofString "reply") (.str (replyS r) tp) pa z tz (bareS z) tb r tr a ta q tq y ty u) ∧ News s.heap L h led)) (E := fun _ _ => False) ?_ ?_ (fun _ _ x => x))
  · refine wpC_If (wpC_isTrue_Compare1 (wpC_Call_Name ?_))
    k_steps
    refine callC_def ?_
    k_steps
    · exact IsDef.of (X.keeps (Fr.keep (by assumption))) (by with_unfolding_all rfl) rfl
    (rename Fr _ _ _ _ => F9); (rename News _ _ _ _ => N9)
    k_dflt (refine' asked_all (replyS r) _ hrl hat.out.1 pa t1 t2 _ _ hpa _ _ _ _ _ _ _ _ _ _ _ _ _ _ _ _ _ _ X T B F9 X N9 T ?hk ?hd ?hu ?_; (case hk => exact rfl); (case hd => ktr_room); (case hu => ktr_units))
    rintro v own h9 tk9 F8 N8 ⟨ra, ro, rfl, rfl, hro⟩
    simp only [List.cons_append, List.nil_append] at N8
    clear F9 N9
    rw [hat.out.2] at hro
    replace hro := Box.mk hro
    refine wpC_lift ?_
    k_steps
    refine stop ?_
    k_here
    (rename Fr _ _ _ _ => F9); (rename News _ _ _ _ => N9)
    k_dflt (refine' told_ctr _ ?h0 ?h4 _ _ _ _ ?hx _ _ _ _ _ _ _ _ _ _ _ _ _ _ _ _ _ _ _ _ _ B F9 X N9 T ?hk ?hd ?hu ?_; (case hk => exact rfl); (case hd => ktr_room); (case hu => ktr_units); (case h0 => exact ha0); (case h4 => exact ha4); (case hx => omega))
    rintro v own h8 tk8 F7 N7 ⟨rb, rq, rfl, rfl, hrq⟩
    simp only [List.cons_append, List.nil_append] at N7
    clear F9 N9
    refine wpC_lift (ne_res N7 (.tail _ (.head _)) (.head _) hro.out hrq (by ktr_units) ?_)
    refine wpC_lift (wpAny_truthy_bool ?_)
    rw [if_neg (by decide)]
    exact wpC_lift (wpAny_execs_nil (stop ⟨rfl, _, _, _, rfl, F7, News.perm N7 (by intro p hp; kst_mem)⟩))
  (try clear F' N')
  rintro f s' hM
  obtain ⟨rfl, u, h, tk, rfl, F', N'⟩ := unstop hM
  clear hM hat
  dsimp only
  refine wpC_execs_at 1 ?_
  dsimp only [List.take, List.drop]
  have hcr : Box ((commentS (replyS r)).length ≤ 400 ∧ askedS (commentS (replyS r)) = .reply) := Box.mk (reply_comment hTI.out.row_len)
  refine wpAny_mono (Q := fun f s' => Stop (f = .next ∧ ∃ (u : Str → Option Value) (h : Heap) (tk : Nat), s' = { s with heap := h, toks := tk } ∧ Fr s.heap L h (M4 pa z tz (bareS z) tb r tr a ta q tq y ty u) ∧ News s.heap L h led)) (E := fun _ _ => False) ?_ ?_ (fun _ _ x => x)
  · k_steps
    refine stop ?_
    k_here
    (rename Fr _ _ _ _ => F9); (rename News _ _ _ _ => N9)
    k_dflt (refine' comment_ctr _ _ _ ?hx _ _ _ _ _ _ _ _ _ _ _ _ _ _ _ _ _ _ _ _ B F9 X N9 T ?hk ?hd ?hu ?_; (case hk => exact rfl); (case hd => ktr_room); (case hu => ktr_units); (case hx => omega))
    rintro v own h9 tk9 F8 N8 ⟨rfl, tc, rfl⟩
    simp only [List.nil_append] at N8
    dsimp only
    clear F9 N9
    k_steps
    refine stop ?_
    k_here
    (rename Fr _ _ _ _ => F9); (rename News _ _ _ _ => N9)
    k_dflt (refine' asked_ok _ _ hcr.out.1 (by rw [hcr.out.2]; intro e; cases e) pa t1 t2 _ _ hpa _ _ _ _ _ _ _ _ _ _ _ _ _ _ _ _ _ _ X T B F9 X N9 T ?hk ?hd ?hu ?_; (case hk => exact rfl); (case hd => ktr_room); (case hu => ktr_units))
    rintro v own h8 tk8 F7 N7 ⟨ra, ro, rfl, rfl, hro⟩
    simp only [List.cons_append, List.nil_append] at N7
    dsimp only
    clear F9 N9
    rw [hcr.out.2] at hro
    replace hro := Box.mk hro
    k_steps
    refine stop ?_
    k_here
    (rename News _ _ _ _ => N9)
    refine ne_res (r := .reply) N9 (.tail _ (.head _)) (.head _) hro.out ⟨_, _, rfl⟩ (by ktr_units) ?_
    k_steps
    obtain ⟨u', F5⟩ := M4.of (by assumption) (pa := pa) (z := z) (tz := tz) (b := bareS z) (tb := tb) (r := r) (tr := tr) (a := a) (ta := ta) (q := q) (tq := tq) (y := y) (ty := ty) (by rfl) (by rfl) (by rfl) (by rfl) (by rfl) (by rfl) (by rfl)
    exact stop ⟨rfl, _, _, _, rfl, F5, News.perm (by assumption) (by intro p hp; kst_mem)⟩
  (try clear F' N' hcr)
  rintro f s' hM
  obtain ⟨rfl, u, h, tk, rfl, F', N'⟩ := unstop hM
  clear hM
  dsimp only
  refine wpC_execs_at 1 ?_
  dsimp only [List.take, List.drop]
  refine wpAny_mono (Q := fun f s' => Stop (f = .next ∧ ∃ (o : Str) (tp : Tok) (u : Str → Option Value) (h : Heap) (tk : Nat), s' = { s with heap := h, toks := tk } ∧ Fr s.heap L h (M5 (Str.ofString "opened") (.str o tp) pa z tz (bareS z) tb r tr a ta q tq y ty u) ∧ News s.heap L h led ∧ (Txt.split r (Str.ofString ")"))[0]? = some o ∧ o.length ≤ r.length)) (E := fun _ _ => False) ?_ ?_ (fun _ _ x => x)
  · k_steps
    obtain ⟨u', F5⟩ := M5.of (by assumption) (n5 := Str.ofString "opened") (v5 := .str _ _) (pa := pa) (z := z) (tz := tz) (b := bareS z) (tb := tb) (r := r) (tr := tr) (a := a) (ta := ta) (q := q) (tq := tq) (y := y) (ty := ty) (by rfl) (by rfl) (by rfl) (by rfl) (by rfl) (by rfl) (by rfl) (by rfl) (by decide)
    exact stop ⟨rfl, _, _, _, _, _, rfl, F5, News.perm (by assumption) (by intro p hp; kst_mem), seen_at (by assumption) (by assumption), seen_len (by assumption) (by assumption)⟩
  (try clear F' N')
  rintro f s' hM
  obtain ⟨rfl, o, tp, u, h, tk, rfl, F', N', ho, hol⟩ := unstop hM
  clear hM
  dsimp only
  refine wpC_execs_at 1 ?_
  dsimp only [List.take, List.drop]
  have hlo : Low o := low_of_signs (opened_is hTI.out.row_signs ho).1
  have hof : Box ((∀ i, i < (textOf (opB o)).size → (textOf (opB o)).getD i 0 ≠ 10) ∧ ∀ fs, FlagsIs (opB o) fs → fs = []) := Box.mk (op_flags (opened_is hTI.out.row_signs ho).1 (opened_is hTI.out.row_signs ho).2)
  refine wpAny_mono (Q := fun f s' => Stop (f = .next ∧ ∃ (u : Str → Option Value) (h : Heap) (tk : Nat), s' = { s with heap := h, toks := tk } ∧ Fr s.heap L h (M5 (Str.ofString "opened") (.str o tp) pa z tz (bareS z) tb r tr a ta q tq y ty u) ∧ News s.heap L h led)) (E := fun _ _ => False) ?_ ?_ (fun _ _ x => x)
  · k_steps
    refine stop ?_
    k_here
    (rename Fr _ _ _ _ => F9); (rename News _ _ _ _ => N9)
    k_dflt (refine' flags_ctr (opB o) _ ?hx ?hl _ _ _ _ _ _ _ _ _ _ _ _ _ _ _ _ _ _ _ _ _ B F9 X N9 T ?hk ?hd ?hu ?_; (case hk => exact rfl); (case hd => ktr_room); (case hu => ktr_units); (case hl => exact hof.out.1); (case hx => exact op_size (by omega)))
    rintro v own h8 tk8 F7 N7 ⟨D, vs, rfl, rfl, hfi, hvl9⟩
    simp only [List.cons_append, List.nil_append] at N7
    dsimp only
    clear F9 N9
    have hvs : vs.map (·.1) = ([] : List (Array UInt8 × Tok)).map (·.1) := hof.out.2 _ hfi
    clear hfi
    k_steps
    refine stop ?_
    k_here
    (rename News _ _ _ _ => N9)
    refine ne_tuples (vs1 := vs) (vs2 := []) N9 (.tail _ (.head _)) (.head _) (by rfl) (by rfl) (by rfl) (by rfl) hvs (by ktr_units) ?_
    k_steps
    obtain ⟨u', F5⟩ := M5.of (by assumption) (n5 := Str.ofString "opened") (v5 := .str o tp) (pa := pa) (z := z) (tz := tz) (b := bareS z) (tb := tb) (r := r) (tr := tr) (a := a) (ta := ta) (q := q) (tq := tq) (y := y) (ty := ty) (by rfl) (by rfl) (by rfl) (by rfl) (by rfl) (by rfl) (by rfl) (by rfl) (by decide)
    exact stop ⟨rfl, _, _, _, rfl, F5, News.perm (by assumption) (by intro p hp; kst_mem)⟩
  (try clear F' N' hof)
  rintro f s' hM
  obtain ⟨rfl, u, h, tk, rfl, F', N'⟩ := unstop hM
  clear hM
  dsimp only
  refine wpC_execs_cons (wpC_mono (Q := fun f s' => Stop (f = .next ∧ ∃ (u : Str → Option Value) (h : Heap) (tk : Nat), s' = { s with heap := h, toks := tk } ∧ Fr s.heap L h (M4 pa z tz (bareS z) tb r tr a ta q tq y ty u) ∧ News s.heap L h led)) (E := fun _ _ => False) ?_ ?_ (fun _ _ x => x))
  · have hMk2 : StopMark2 := trivial
    refine wpC_For ?_
    k_steps
    refine stop ?_
    (rename StopMark2 => hMk7); clear hMk7
    have hc0 := seen_at (q := r) (by assumption) (by assumption)
    have hc1 := seen_len (q := r) (by assumption) (by assumption)
    k_steps
    refine stop ?_
    k_here
    (rename Fr _ _ _ _ => F9); (rename News _ _ _ _ => N9)
    obtain ⟨u9, F8⟩ := M4.of F9 (pa := pa) (z := z) (tz := tz) (b := bareS z) (tb := tb) (r := r) (tr := tr) (a := a) (ta := ta) (q := q) (tq := tq) (y := y) (ty := ty) (by rfl) (by rfl) (by rfl) (by rfl) (by rfl) (by rfl) (by rfl)
    have hcut := Box.mk (cuts_proto ho hc0 (by omega) (by omega))
    refine for_list (by rfl) (by rfl) (by rfl) F8 N9 (.head _) (by rfl) (by rfl) (fun i m' news' => (∃ u, m' = M4 pa z tz (bareS z) tb r tr a ta q tq y ty u) ∧ news' = _) ⟨⟨_, rfl⟩, rfl⟩ (fun i m' n' j => by rw [j.2]; exact .head _) ?_ ?_
    rotate_left
    · rintro h tk m' news' ⟨⟨u, rfl⟩, rfl⟩ F' N'
      exact stop ⟨rfl, _, _, _, rfl, F', News.perm N' (by intro p hp; kst_mem)⟩
    rintro i3 v I3 it3 h3 tk3 m' news' hi3 hv hit3 ⟨⟨u3, rfl⟩, rfl⟩ (F' : Fr s.heap L h3 _) (N' : News s.heap L h3 _) off3
    obtain ⟨wc, tw, rfl, hw1, hw2⟩ : ∃ wc tw, v = .str wc tw ∧ wc.length ≤ 400 ∧ Box (askedS wc = .proto) := by
      match i3, hi3, hv with
      | 0, _, hv => exact ⟨_, _, (Option.some.inj hv).symm, hcut.out.1.1, Box.mk hcut.out.1.2⟩
      | 1, _, hv => exact ⟨_, _, (Option.some.inj hv).symm, hcut.out.2.1, Box.mk hcut.out.2.2⟩
    clear hcut hc0 hc1 hv hi3 N9 F8 F9
    refine wpC_lift ?_
    k_steps
    refine stop ?_
    k_here
    (rename Fr _ _ _ _ => F9); (rename News _ _ _ _ => N9)
    k_dflt (refine' asked_ok _ _ hw1 (by rw [hw2.out]; intro e; cases e) pa t1 t2 (ns.length : Int) _ (.tail _ (.tail _ (.tail _ hpa))) _ _ _ _ _ _ _ _ _ _ _ _ _ _ _ _ _ _ X T B F9 X N9 T ?hk ?hd ?hu ?_; (case hk => exact rfl); (case hd => ktr_room); (case hu => ktr_units))
    rintro v own h8 tk8 F7 N7 ⟨ra, ro, rfl, rfl, hro⟩
    simp only [List.cons_append, List.nil_append] at N7
    dsimp only
    clear F9 N9
    rw [hw2.out] at hro
    replace hro := Box.mk hro
    k_steps
    refine stop ?_
    k_here
    (rename News _ _ _ _ => N9)
    refine ne_res (r := .proto) N9 (.tail _ (.head _)) (.head _) hro.out ⟨_, _, rfl⟩ (by ktr_units) ?_
    k_steps
    dsimp only
    obtain ⟨u', F5⟩ := M4.of (by assumption) (pa := pa) (z := z) (tz := tz) (b := bareS z) (tb := tb) (r := r) (tr := tr) (a := a) (ta := ta) (q := q) (tq := tq) (y := y) (ty := ty) (by rfl) (by rfl) (by rfl) (by rfl) (by rfl) (by rfl) (by rfl)
    exact ⟨it3, _, _, _, _, rfl, rfl, F5, News.perm (by assumption) (fun p hp => .tail _ (.tail _ hp)), off3, ⟨_, rfl⟩, rfl⟩
  (try clear F' N')
  rintro f s' hM
  obtain ⟨rfl, u, h, tk, rfl, F', N'⟩ := unstop hM
  clear hM
  dsimp only
  refine wpC_lift ?_
  k_steps
  refine stop ?_
  k_here
  (rename Fr _ _ _ _ => F9); (rename News _ _ _ _ => N9)
  k_dflt (refine' comment_ctr _ _ _ ?hx _ _ _ _ _ _ _ _ _ _ _ _ _ _ _ _ _ _ _ _ B F9 X N9 T ?hk ?hd ?hu ?_; (case hk => exact rfl); (case hd => ktr_room); (case hu => ktr_units); (case hx => omega))
  rintro v own h9 tk9 F8 N8 ⟨rfl, tc, rfl⟩
  simp only [List.nil_append] at N8
  dsimp only
  clear F9 N9
  k_steps
  dsimp only
  subst hled hrw
  obtain ⟨u', F5⟩ := M2.of (by assumption) (pa := pa) (z := z) (tz := tz) (b := bareS z) (tb := tb) (r := commentS (rowOf z i)) (tr := tc) (by rfl) (by rfl) (by rfl) (by rfl)
  exact ⟨it2, _, _, _, _, rfl, rfl, F5, (by assumption), off2, ⟨_, _, rfl⟩, rfl⟩
end Mine
end

section -- W2
open PySem PySem.W PySem.Calls PyProof.Rows
set_option maxRecDepth 100000
namespace Mine
set_option maxHeartbeats 8000000 in
theorem own_head2 : PySem.Challenge.rw_wr0002_01.Holds := by
  w_on; o_law
  refine own_open (r := PySem.Challenge.rw_wr0002_01.row) (q := hd.view_39) (loose := [Str.ofString "Flags"]) (Xt := fun s => xlAt hd.view_39 [] s && recOk (RowW.records PySem.Challenge.rw_wr0002_01.row.toRowW) s) (XP := XL hd.view_39 []) (LeftO.of_split "special-get-raises" hd._proof_42) (Hook.of _) (Hook.keeps _) (fun s e => xl_of s (Bool.and_eq_true_iff.mp e).1) XL.keeps (by rfl) (by rfl) (by rfl) (fun s e => recFacts_of (Bool.and_eq_true_iff.mp e).2) (by rfl) (by assumption) (by decide +kernel) ⟨rfl, rfl, rfl, rfl, rfl, by decide +kernel⟩ ?hw ?hT ?hc
  case hw => w_witness2
  case hT => exact fun args => ⟨fun _ => rfl, by kernel_rfl⟩
  case hc =>
    k_with_none; w_top off; k_fill
    intro w s₀ s₁ mg mb G Y fa o pm cd doc dV kV ho hd hcd hD hmg hg args vals as hpre hlay hrd hwl hlo
    have KX := kIn_of Y
    refine Ground.open G ?_
    intro T B D TE TW
    have e139 : mg (Str.ofString "law") = some (.ref 139) := mg_of KX (Top.g T) (by k_is)
    have efa : fa = 139 := by
      rw [show mg (Str.ofString "law") = some (.ref fa) from hmg] at e139
      cases e139; rfl
    clear hmg
    wrow_args hpre hlay hrd hwl hlo
    all_goals subst efa
    refine wpC_mono (law_ctr _ _ _ (by assumption) (by omega) _ _ _ _ (fun v s' => GoodWG PySem.Challenge.rw_wr0002_01.row.claim (classAt s₀.heap) (ExcName.means s₀.heap) _ s₁ (.ok (.ret v)) s') KX T (by assumption) ?_) (fun _ _ x => x) (fun _ _ x => x.elim)
    intro h' tk hk
    exact GoodW.toG ⟨.inl ⟨.bool true, .bool true, [], rfl, fun _ => rfl, .bool true, by kernel_rfl, fun _ => ⟨.nil, fun _ h => nomatch h⟩⟩, hk, rfl, hg⟩
end Mine
end

set_option maxRecDepth 100000 in
theorem PySem.Challenge.cw_wr0002_01_holds : PySem.Challenge.rw_wr0002_01.Holds := by
  exact Mine.own_head2
